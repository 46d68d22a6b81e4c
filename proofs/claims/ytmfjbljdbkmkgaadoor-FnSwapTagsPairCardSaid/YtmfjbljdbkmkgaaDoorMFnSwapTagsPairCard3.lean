/- A part of the proof of FnSwapTagsPairCard: Beh, RedX, SibM, ReplX, TreeT, SwapP, SwapY, SwapZ, EDomx1, EDomx3, SameE, Txt, Lett, LawSw, RowSw, RowFnSwapTagsPair, one behind the other. -/
import Derived.Test.YtmfjbljdbkmkgaaDoorMFnSwapTagsPairCard2
import Derived.Laws.EntriesVeiled
import Derived.Deep.QuietTactic
import Derived.BigQuiet
import Derived.Test.YtmfjbljdbkmkgaaDoorMFnSwapTagsPairCard1
import Derived.Lib.Bytes
import Derived.Deep.RegionLaw
import Derived.Test.YtmfjbljdbkmkgaaDoorRows
import Derived.Stop.LaidErr
import Derived.Lib.LaidTab
import Derived.Test.YtmfjbljdbkmkgaaDoorTie
import Derived.Test.YtmfjbljdbkmkgaaDoorCards
import Derived.WalkKit
import Derived.ProofKit
import Derived.OpenShut
import Derived.ShutString
import Derived.ChangeOld
import Derived.Below
import Derived.SizedLaws
import Derived.Handed
import Derived.LaidLaws
import Derived.Deep.DeepLaidRun
import Derived.SevenTiedAt
import Derived.Stop.Joined
import Derived.Lib.LaidU8
/- impl.behind, over a function that changes a tree: what it returns. -/
namespace Go.Proofs.YtmfjbljdbkmkgaaDoor.Dom
open Go.RowKit Go.Proofs.YtmfjbljdbkmkgaaDoorW.PrintWords Go.Proofs.YtmfjbljdbkmkgaaDoorW.PrintLast Go.Proofs.YtmfjbljdbkmkgaaDoorW.PrintMore Go.Proofs.YtmfjbljdbkmkgaaDoor.PDom
set_option linter.unusedVariables false
set_option linter.unusedSimpArgs false

def dumI : Info := ⟨none, [], 0, 0, ⟨#[]⟩, []⟩
/-- What the closure leaves in the box b. -/
def Boxed (w w' : World) (b : Nat) (u : T) : Prop := ∃ A3 c3 A4 c4, w'.heap[b]? = some (.cells #[.int .i64 u.f0, .string u.f1, .string u.f2, .slice A3 u.f3.length c3, .slice A4 u.f4.length c4] 28 (0, 0)) ∧ u.f3.length ≤ c3 ∧ Kd.F k38 w' (fun k => w.heap.size ≤ k) A3 u.f3.length u.f3 ∧ u.f4.length ≤ c4 ∧ Kd.F k28 w' (fun k => w.heap.size ≤ k) A4 u.f4.length u.f4 ∧ Only (put none_ b dumI) w w' ∧
  Kd.R k38 38 w' w.heap.size (fun k => w.heap.size ≤ k) (.slice A3 u.f3.length c3) u.f3 ∧ Kd.N k28 28 w' w.heap.size (fun k => w.heap.size ≤ k ∧ some k ≠ (Value.slice A3 u.f3.length c3).ownBlock) (.slice A4 u.f4.length c4) u.f4
theorem only_box {w w' : World} {b : Nat} (hb : ∀ k, k < w.heap.size → k ≠ b → w'.heap[k]? = w.heap[k]?) (h1 : w'.os = w.os) (h2 : w'.tape = w.tape) (h3 : w'.output = w.output) (h4 : w.heap.size ≤ w'.heap.size) : Only (put none_ b dumI) w w' :=
  ⟨h1, h2, h3, h4, fun k hk hd => hb k hk (fun e => by subst e; rw [put_same] at hd; cases hd)⟩
theorem put_none (b k : Nat) (h : k ≠ b) : put none_ b dumI k = none := put_other _ _ h
theorem sets5_box {w : World} {b : Nat} {x0 x1 x2 x3 x4 : Value} (h : w.heap[b]? = some (.cells #[x0, x1, x2, x3, x4] 28 (0, 0))) (a0 a1 a2 a3 a4 : Value) :
    (((((w.setCell ⟨b, 0, none⟩ a0).setCell ⟨b, 1, none⟩ a1).setCell ⟨b, 2, none⟩ a2).setCell ⟨b, 3, none⟩ a3).setCell ⟨b, 4, none⟩ a4).heap[b]? = some (.cells #[a0, a1, a2, a3, a4] 28 (0, 0)) :=
  blk_set (blk_set (blk_set (blk_set (blk_set h 0 a0) 1 a1) 2 a2) 3 a3) 4 a4
theorem boxed_end {w w4 : World} {b : Nat} {u : T} {x0 x1 x2 x3 x4 : Value} {A5 A6 : Option Addr} {c5 c6 : Nat} (hb : b < w.heap.size) (h : w4.heap[b]? = some (.cells #[x0, x1, x2, x3, x4] 28 (0, 0))) (hB : Below w.heap.size w w4)
    (m5 : u.f3.length ≤ c5) (F5 : Kd.F k38 w4 (fun k => w.heap.size ≤ k) A5 u.f3.length u.f3) (m6 : u.f4.length ≤ c6) (F6 : Kd.F k28 w4 (fun k => w.heap.size ≤ k) A6 u.f4.length u.f4) (R5 : Kd.R k38 38 w4 w.heap.size (fun k => w.heap.size ≤ k) (.slice A5 u.f3.length c5) u.f3) (N6 : Kd.N k28 28 w4 w.heap.size (fun k => w.heap.size ≤ k ∧ some k ≠ (Value.slice A5 u.f3.length c5).ownBlock) (.slice A6 u.f4.length c6) u.f4) :
    Boxed w (((((w4.setCell ⟨b, 0, none⟩ (.int .i64 u.f0)).setCell ⟨b, 1, none⟩ (.string u.f1)).setCell ⟨b, 2, none⟩ (.string u.f2)).setCell ⟨b, 3, none⟩ (.slice A5 u.f3.length c5)).setCell ⟨b, 4, none⟩ (.slice A6 u.f4.length c6)) b u := by
  have hs := fun k (hk : k ≠ b) => sets5 w4 b (.int .i64 u.f0) (.string u.f1) (.string u.f2) (.slice A5 u.f3.length c5) (.slice A6 u.f4.length c6) k hk
  have hbb : Below 0 w4 (((((w4.setCell ⟨b, 0, none⟩ (.int .i64 u.f0)).setCell ⟨b, 1, none⟩ (.string u.f1)).setCell ⟨b, 2, none⟩ (.string u.f2)).setCell ⟨b, 3, none⟩ (.slice A5 u.f3.length c5)).setCell ⟨b, 4, none⟩ (.slice A6 u.f4.length c6)) :=
    Below.setCell (Below.setCell (Below.setCell (Below.setCell (Below.setCell (Below.refl 0 w4) (p := ⟨b, 0, none⟩) (Nat.zero_le _) _) (p := ⟨b, 1, none⟩) (Nat.zero_le _) _) (p := ⟨b, 2, none⟩) (Nat.zero_le _) _) (p := ⟨b, 3, none⟩) (Nat.zero_le _) _) (p := ⟨b, 4, none⟩) (Nat.zero_le _) _
  refine ⟨A5, c5, A6, c6, sets5_box h _ _ _ _ _, m5, Kd.F_step F5 (fun k hk _ => hs k (by omega)), m6, Kd.F_step F6 (fun k hk _ => hs k (by omega)), ?_, Kd.R_step R5 (fun k hk _ => hs k (by omega)), Kd.N_step N6 (fun k hk _ => hs k (by have := hk.1; omega))⟩
  exact only_box (fun k hk hne => (hs k hne).trans (hB.block k hk)) (hbb.os.trans hB.os) (hbb.tape.trans hB.tape) (hbb.output.trans hB.output) (Nat.le_trans hB.size hbb.size)
set_option maxHeartbeats 1000000 in
set_option maxRecDepth 100000 in
theorem beh1_calls (F : Nat) (cap : Array Value) (hF : ∀ (args : Array Value) (w : World), (callFunc F args).run Tryd.prog w = .ok (.enter F args) w) (P : T → Prop) (t : T) (ht : Fit t) (w : World) (b0 b1 b2 : Nat) (A3 : Option Addr) (c3 : Nat) (A4 : Option Addr) (c4 : Nat)
    (hb0 : w.heap[b0]? = some (.cells #[.int .i64 t.f0, .string t.f1, .string t.f2, .slice A3 t.f3.length c3, .slice A4 t.f4.length c4] 28 (0, 0))) (hb1 : w.heap[b1]? = some (.cells #[.func (.func F) #[] cap] 47 (0, 0))) (hb2 : w.heap[b2]? = some (.cells #[.int .i64 0, .string ⟨#[]⟩, .string ⟨#[]⟩, .slice none 0 0, .slice none 0 0] 28 (0, 0)))
    (h3 : Kd.C k38 w A3 t.f3.length t.f3) (l3 : t.f3.length ≤ c3) (h4 : Kd.C k28 w A4 t.f4.length t.f4) (l4 : t.f4.length ≤ c4)
    (hdo : ∀ W D r, Below w.heap.size w W → (∀ k, k < w.heap.size → D k = none) → Dom W D → Is D none r → TellsT t r → Calls Tryd.prog F (#[.pointer (some ⟨r.id, 0, none⟩)] ++ cap) W fun e w' => e = .returned (.tuple #[]) ∧ ∃ u, P u ∧ Turns W w' D r u) :
    Calls Tryd.prog 32 #[.pointer (some ⟨b0, 0, none⟩), .pointer (some ⟨b1, 0, none⟩), .pointer (some ⟨b2, 0, none⟩)] w fun e w' => e = .returned (.tuple #[]) ∧ ∃ u, P u ∧ Boxed w w' b2 u := by
  have HM := Aside0.mk (made_calls _ t (Nat.le_refl _) ht w A3 c3 A4 c4 h3 l3 h4 l4)
  have HDO := Aside0.mk hdo
  have HB1 := Aside0.mk hb1
  have HB2 := Aside0.mk hb2
  have a0 := blk_cell hb0 0
  have a1 := blk_cell hb0 1
  have a2 := blk_cell hb0 2
  have a3 := blk_cell hb0 3
  have a4 := blk_cell hb0 4
  have d0 := blk_cell hb1 0
  clear hdo hb0 hb1 hb2 h3 h4 l3 l4 ht
  go_enter Tryd.func32, Tryd.ntmps32
  go_wp2_with fail
  refine HM.out.mono ?_
  rintro e w1 ⟨b, D, rfl, hm⟩
  obtain ⟨i0, hi0⟩ : ∃ i, D b = some i := by
    obtain ⟨_, _, i, h, _⟩ := hm.tree
    exact ⟨i, h⟩
  obtain ⟨r, rfl, hr, hto⟩ := hm.tree.rt hm.dom.wf i0 hi0
  have hroot := hm.root i0 hi0
  rw [hroot] at hr
  have hnone : ∀ k, k < w.heap.size → D k = none := fun k hk => by
    cases hd : D k with
    | none => rfl
    | some i => have := hm.fresh k (by rw [hd]; simp); omega
  have HF := Aside0.mk (HDO.out w1 D r hm.below hnone hm.dom hr hto)
  have HBL := Aside0.mk hm.below
  have HNO := Aside0.mk hnone
  have d1 := blk_cell ((hm.below.block _ (blk_lt HB1.out)).trans HB1.out) 0
  clear HM HDO hm hi0 hroot hr hto hnone d0 a0 a1 a2 a3 a4
  generalize hri : r.id = ri at *
  have HRI := Aside0.mk hri
  clear hri
  simp only [ptr_some] at HF ⊢
  go_wp2_with fail
  refine HF.out.mono ?_
  rintro e w3 ⟨rfl, u, hu, D', r', hd', hr', hid, hfit, hto, hon, hnn⟩
  have HT := Aside0.mk (told_calls D' r' none hr' hfit w3 hd')
  rw [hid, HRI.out, hto] at HT
  have HB3 := Aside0.mk (HBL.out.trans (hon.below HBL.out.size (fun k hk => HNO.out k hk)))
  have HU := Aside0.mk hu
  clear hd' hr' hid hfit hto hon hnn HF d1 hu
  simp only [ptr_some] at HT
  go_wp2_with fail
  refine HT.out.mono ?_
  rintro e w4 ⟨A5, c5, A6, c6, rfl, m5, F5, m6, F6, hb4, R5, N6⟩
  have HB4 := Aside0.mk (below_step HB3.out hb4)
  have hb64 := (HB4.out.block _ (blk_lt HB2.out)).trans HB2.out
  have HB64 := Aside0.mk hb64
  have HE := Aside0.mk (boxed_end (blk_lt HB2.out) hb64 HB4.out m5 (Kd.F_mono F5 (fun k hk => Nat.le_trans HB3.out.size hk)) m6 (Kd.F_mono F6 (fun k hk => Nat.le_trans HB3.out.size hk)) (Kd.R_lower (Kd.R_mono R5 (fun k hk => Nat.le_trans HB3.out.size hk)) HB3.out.size) (Kd.N_lower (Kd.N_mono N6 (fun k hk => ⟨Nat.le_trans HB3.out.size hk.1, hk.2⟩)) HB3.out.size))
  have r0 := blk_cell hb64 0
  have r1 := blk_cell hb64 1
  have r2 := blk_cell hb64 2
  have r3 := blk_cell hb64 3
  have r4 := blk_cell hb64 4
  have f0 := blk_frozen hb64 0
  have f1 := blk_frozen hb64 1
  have f2 := blk_frozen hb64 2
  have f3 := blk_frozen hb64 3
  have f4 := blk_frozen hb64 4
  clear m5 F5 m6 F6 R5 N6 hb4 hb64 HT
  go_wp2_with fail
  go_end0
  exact ⟨rfl, u, HU.out, HE.out⟩
theorem enters_beh1 : ∀ (args : Array Value) (w : World), (callFunc 32 args).run Tryd.prog w = .ok (.enter 32 args) w := fun _ _ => by kernel_rfl
theorem four_boxes (w : World) (o0 o1 o2 o3 : Obj) : ((((w.alloc o0).alloc o1).alloc o2).alloc o3).heap.size = w.heap.size + 4 ∧ Below w.heap.size w ((((w.alloc o0).alloc o1).alloc o2).alloc o3) ∧ ((((w.alloc o0).alloc o1).alloc o2).alloc o3).heap[w.heap.size]? = some o0 ∧
    ((((w.alloc o0).alloc o1).alloc o2).alloc o3).heap[w.heap.size + 1]? = some o1 ∧ ((((w.alloc o0).alloc o1).alloc o2).alloc o3).heap[w.heap.size + 2]? = some o2 ∧ ((((w.alloc o0).alloc o1).alloc o2).alloc o3).heap[w.heap.size + 3]? = some o3 := by
  have e : ((((w.alloc o0).alloc o1).alloc o2).alloc o3).heap = (((w.heap.push o0).push o1).push o2).push o3 := rfl
  refine ⟨by rw [e]; simp, below_alloc (below_alloc (below_alloc (below_alloc (Below.refl _ _) _) _) _) _, ?_, ?_, ?_, ?_⟩ <;> rw [e] <;> simp only [Array.getElem?_push, Array.size_push] <;> repeat (first | rfl | rw [if_pos trivial] | rw [if_pos (by omega)] | rw [if_neg (by omega)])
set_option maxHeartbeats 1000000 in
set_option maxRecDepth 100000 in
theorem behind_calls (F : Nat) (cap : Array Value) (hF : ∀ (args : Array Value) (w : World), (callFunc F args).run Tryd.prog w = .ok (.enter F args) w) (P : T → Prop) (t : T) (ht : Fit t) (w : World) (A3 : Option Addr) (c3 : Nat) (A4 : Option Addr) (c4 : Nat)
    (h3 : Kd.C k38 w A3 t.f3.length t.f3) (l3 : t.f3.length ≤ c3) (h4 : Kd.C k28 w A4 t.f4.length t.f4) (l4 : t.f4.length ≤ c4)
    (hdo : ∀ W D r, Below w.heap.size w W → (∀ k, k < w.heap.size → D k = none) → Dom W D → Is D none r → TellsT t r → Calls Tryd.prog F (#[.pointer (some ⟨r.id, 0, none⟩)] ++ cap) W fun e w' => e = .returned (.tuple #[]) ∧ ∃ u, P u ∧ Turns W w' D r u) :
    Calls Tryd.prog 16 #[.agg #[.int .i64 t.f0, .string t.f1, .string t.f2, .slice A3 t.f3.length c3, .slice A4 t.f4.length c4], .func (.func F) #[] cap] w fun e w' => ∃ u, P u ∧ Told w w' u e := by
  have hmf : ∀ (fn : Fn) (first cap : Array Value) (w : World), (Instr.makeFunc fn first cap).run Tryd.prog w = .ok (.func fn first cap) w := fun _ _ _ _ => rfl
  obtain ⟨W0, hW0⟩ : ∃ W0, W0 = (((w.alloc (.cells #[.int .i64 t.f0, .string t.f1, .string t.f2, .slice A3 t.f3.length c3, .slice A4 t.f4.length c4] 28)).alloc (.cells #[.func (.func F) #[] cap] 47)).alloc (.cells #[.int .i64 0, .string ⟨#[]⟩, .string ⟨#[]⟩, .slice none 0 0, .slice none 0 0] 28)).alloc (.cells #[.int .i64 0, .string ⟨#[]⟩, .string ⟨#[]⟩, .slice none 0 0, .slice none 0 0] 28) := ⟨_, rfl⟩
  obtain ⟨hsz, hB0, hk0, hk1, hk2, hk3⟩ := four_boxes w (.cells #[.int .i64 t.f0, .string t.f1, .string t.f2, .slice A3 t.f3.length c3, .slice A4 t.f4.length c4] 28) (.cells #[.func (.func F) #[] cap] 47) (.cells #[.int .i64 0, .string ⟨#[]⟩, .string ⟨#[]⟩, .slice none 0 0, .slice none 0 0] 28) (.cells #[.int .i64 0, .string ⟨#[]⟩, .string ⟨#[]⟩, .slice none 0 0, .slice none 0 0] 28)
  rw [← hW0] at hsz hB0 hk0 hk1 hk2 hk3
  have hB1 : Below W0.heap.size W0 (W0.alloc (.cells #[.bool false] 4)) := below_alloc (Below.refl _ _) _
  have hB01 := below_step hB0 hB1
  have HG := Aside0.mk (Guard.guarded_calls 32 #[.pointer (some ⟨w.heap.size, 0, none⟩), .pointer (some ⟨w.heap.size + 1, 0, none⟩), .pointer (some ⟨w.heap.size + 3, 0, none⟩)] W0 (fun w' => ∃ u, P u ∧ Boxed (W0.alloc (.cells #[.bool false] 4)) w' (w.heap.size + 3) u) enters_beh1
    ((beh1_calls F cap hF P t ht _ w.heap.size (w.heap.size + 1) (w.heap.size + 3) A3 c3 A4 c4 ((hB1.block _ (by omega)).trans hk0) ((hB1.block _ (by omega)).trans hk1) ((hB1.block _ (by omega)).trans hk3) (Kd.C_below h3 hB01) l3 (Kd.C_below h4 hB01) l4
      (fun W D r hW hno hd hr hto => hdo W D r (by refine below_step hB0 (Below.trans hB1 ?_); exact hW.mono (by rw [push_size]; omega)) (fun k hk => hno k (by rw [push_size]; omega)) hd hr hto)).mono fun e w' h => by
        obtain ⟨rfl, u, hu, hx⟩ := h
        refine ⟨rfl, ?_, u, hu, hx⟩
        obtain ⟨_, _, _, _, _, _, _, _, _, ho, _, _⟩ := hx
        exact (ho.block _ (by rw [push_size]; omega) (put_none _ _ (by omega))).trans (heap_alloc_new W0 _)))
  have HZ := Aside0.mk hsz
  have HB0 := Aside0.mk hB0
  have K2 := Aside0.mk hk2
  clear hdo ht h3 h4 l3 l4 hB1 hB01 hk0 hk1 hk2 hk3 hsz hB0
  go_enter Tryd.func16, Tryd.ntmps16
  go_wp2_with fail
  rw [← hW0]
  refine HG.out.mono ?_
  rintro e w2 ⟨rfl, w3, ⟨u, hu, A5, c5, A6, c6, hbx, m5, F5, m6, F6, ho, R5, N6⟩, hbad, rfl⟩
  have hz := HZ.out
  have hbx2 : (w3.setCell ⟨W0.heap.size, 0, none⟩ (.bool false)).heap[w.heap.size + 3]? = _ := (Below.heap_setCell w3 ⟨W0.heap.size, 0, none⟩ _ (w.heap.size + 3) (by show _ ≠ W0.heap.size; omega)).trans hbx
  have r0 := blk_cell hbx2 0
  have r1 := blk_cell hbx2 1
  have r2 := blk_cell hbx2 2
  have r3 := blk_cell hbx2 3
  have r4 := blk_cell hbx2 4
  have hk2 : (w3.setCell ⟨W0.heap.size, 0, none⟩ (.bool false)).heap[w.heap.size + 2]? = _ := (Below.heap_setCell w3 ⟨W0.heap.size, 0, none⟩ _ (w.heap.size + 2) (by show _ ≠ W0.heap.size; omega)).trans ((ho.block _ (by rw [push_size]; omega) (put_none _ _ (by omega))).trans ((heap_alloc_old W0 _ (by omega)).trans K2.out))
  have f0 := blk_frozen hk2 0
  have f1 := blk_frozen hk2 1
  have f2 := blk_frozen hk2 2
  have f3 := blk_frozen hk2 3
  have f4 := blk_frozen hk2 4
  have q0 := blk_cell hk2 0
  have q1 := blk_cell hk2 1
  have q2 := blk_cell hk2 2
  have q3 := blk_cell hk2 3
  have q4 := blk_cell hk2 4
  have hon : Below w.heap.size w w3 := HB0.out.trans ⟨ho.os, ho.tape, ho.output, by have := ho.size; rw [push_size] at this; omega, fun k hk => (ho.block k (by rw [push_size]; omega) (put_none _ _ (by omega))).trans (heap_alloc_old W0 _ (by omega))⟩
  have hw4 : ∃ w4, w4 = w3.setCell ⟨W0.heap.size, 0, none⟩ (.bool false) := ⟨_, rfl⟩
  obtain ⟨w4, hw4⟩ := hw4
  have hs4 : ∀ k, k ≠ W0.heap.size → w4.heap[k]? = w3.heap[k]? := fun k hk => by rw [hw4]; exact Below.heap_setCell w3 ⟨W0.heap.size, 0, none⟩ _ k hk
  have hon4 : Below w.heap.size w w4 := by rw [hw4]; exact hon.setCell (p := ⟨W0.heap.size, 0, none⟩) (by show _ ≤ W0.heap.size; omega) _
  rw [← hw4] at r0 r1 r2 r3 r4 f0 f1 f2 f3 f4 q0 q1 q2 q3 q4 ⊢
  clear hw4
  have HTO := Aside0.mk (show Told w (((((w4.setCell ⟨w.heap.size + 2, 0, none⟩ (.int .i64 u.f0)).setCell ⟨w.heap.size + 2, 1, none⟩ (.string u.f1)).setCell ⟨w.heap.size + 2, 2, none⟩ (.string u.f2)).setCell ⟨w.heap.size + 2, 3, none⟩ (.slice A5 u.f3.length c5)).setCell ⟨w.heap.size + 2, 4, none⟩ (.slice A6 u.f4.length c6)) u (.returned (.agg #[.int .i64 u.f0, .string u.f1, .string u.f2, .slice A5 u.f3.length c5, .slice A6 u.f4.length c6])) from
    ⟨A5, c5, A6, c6, rfl, m5, Kd.F_mono (Kd.F_step F5 (fun k hk _ => (sets5 w4 _ _ _ _ _ _ k (by rw [push_size] at hk; omega)).trans (hs4 k (by rw [push_size] at hk; omega)))) (fun k hk => by rw [push_size] at hk; omega), m6, Kd.F_mono (Kd.F_step F6 (fun k hk _ => (sets5 w4 _ _ _ _ _ _ k (by rw [push_size] at hk; omega)).trans (hs4 k (by rw [push_size] at hk; omega)))) (fun k hk => by rw [push_size] at hk; omega),
      ((((hon4.setCell (p := ⟨w.heap.size + 2, 0, none⟩) (by show _ ≤ w.heap.size + 2; omega) _).setCell (p := ⟨w.heap.size + 2, 1, none⟩) (by show _ ≤ w.heap.size + 2; omega) _).setCell (p := ⟨w.heap.size + 2, 2, none⟩) (by show _ ≤ w.heap.size + 2; omega) _).setCell (p := ⟨w.heap.size + 2, 3, none⟩) (by show _ ≤ w.heap.size + 2; omega) _).setCell (p := ⟨w.heap.size + 2, 4, none⟩) (by show _ ≤ w.heap.size + 2; omega) _,
      Kd.R_lower (Kd.R_mono (Kd.R_step R5 (fun k hk _ => (sets5 w4 _ _ _ _ _ _ k (by rw [push_size] at hk; omega)).trans (hs4 k (by rw [push_size] at hk; omega)))) (fun k hk => by rw [push_size] at hk; omega)) (by rw [push_size]; omega), Kd.N_lower (Kd.N_mono (Kd.N_step N6 (fun k hk _ => (sets5 w4 _ _ _ _ _ _ k (by have h1 := hk.1; rw [push_size] at h1; omega)).trans (hs4 k (by have h1 := hk.1; rw [push_size] at h1; omega)))) (fun k hk => ⟨by have h1 := hk.1; rw [push_size] at h1; omega, hk.2⟩)) (by rw [push_size]; omega)⟩)
  have HU := Aside0.mk hu
  clear hbx hbx2 F5 F6 R5 N6 m5 m6 ho hbad hon hon4 hs4 hz HG hu hk2
  go_wp2_with fail
  refine bodyPost_ret (v := .agg #[.int .i64 u.f0, .string u.f1, .string u.f2, .slice A5 u.f3.length c5, .slice A6 u.f4.length c6]) (by simp [results, Tryd.results16, go_sem, q0, q1, q2, q3, q4]) rfl ?_
  exact ⟨u, HU.out, HTO.out⟩
/-- The result, stored in a box of the caller's and read back. -/
theorem told_box {w W0 w2 : World} {u : T} {b : Nat} {A5 A6 : Option Addr} {c5 c6 : Nat} (hb0 : Below w.heap.size w W0) (hb : w.heap.size ≤ b) (hlt : b < W0.heap.size) (m5 : u.f3.length ≤ c5) (F5 : Kd.F k38 w2 (fun k => W0.heap.size ≤ k) A5 u.f3.length u.f3) (m6 : u.f4.length ≤ c6) (F6 : Kd.F k28 w2 (fun k => W0.heap.size ≤ k) A6 u.f4.length u.f4) (hB : Below W0.heap.size W0 w2)
    (R5 : Kd.R k38 38 w2 W0.heap.size (fun k => W0.heap.size ≤ k) (.slice A5 u.f3.length c5) u.f3) (N6 : Kd.N k28 28 w2 W0.heap.size (fun k => W0.heap.size ≤ k ∧ some k ≠ (Value.slice A5 u.f3.length c5).ownBlock) (.slice A6 u.f4.length c6) u.f4) (a0 a1 a2 a3 a4 : Value) :
    Told w (((((w2.setCell ⟨b, 0, none⟩ a0).setCell ⟨b, 1, none⟩ a1).setCell ⟨b, 2, none⟩ a2).setCell ⟨b, 3, none⟩ a3).setCell ⟨b, 4, none⟩ a4) u (.returned (.agg #[.int .i64 u.f0, .string u.f1, .string u.f2, .slice A5 u.f3.length c5, .slice A6 u.f4.length c6])) := by
  have hs := fun k (hk : k ≠ b) => sets5 w2 b a0 a1 a2 a3 a4 k hk
  have hle := hb0.size
  exact ⟨A5, c5, A6, c6, rfl, m5, Kd.F_mono (Kd.F_step F5 (fun k hk _ => hs k (by omega))) (fun k hk => by omega), m6, Kd.F_mono (Kd.F_step F6 (fun k hk _ => hs k (by omega))) (fun k hk => by omega),
    (((((below_step hb0 hB).setCell (p := ⟨b, 0, none⟩) hb _).setCell (p := ⟨b, 1, none⟩) hb _).setCell (p := ⟨b, 2, none⟩) hb _).setCell (p := ⟨b, 3, none⟩) hb _).setCell (p := ⟨b, 4, none⟩) hb _,
    Kd.R_lower (Kd.R_mono (Kd.R_step R5 (fun k hk _ => hs k (by omega))) (fun k hk => by omega)) hle, Kd.N_lower (Kd.N_mono (Kd.N_step N6 (fun k hk _ => hs k (by have := hk.1; omega))) (fun k hk => ⟨by have := hk.1; omega, hk.2⟩)) hle⟩
end Go.Proofs.YtmfjbljdbkmkgaaDoor.Dom

/- domutils.RemoveRedundant over a tree. -/
namespace Go.Proofs.YtmfjbljdbkmkgaaDoor.Dom
open Go.RowKit Go.Proofs.YtmfjbljdbkmkgaaDoorW.PrintWords Go.Proofs.YtmfjbljdbkmkgaaDoorW.PrintLast Go.Proofs.YtmfjbljdbkmkgaaDoorW.PrintMore Go.Proofs.YtmfjbljdbkmkgaaDoor.PDom
set_option linter.unusedVariables false
set_option linter.unusedSimpArgs false

/-- An element of one of some names. -/
def mt (names : List ByteArray) (r : RT) : Bool := r.ty == 3 && names.any fun s => r.data.toList == s.toList
theorem elem_mt {D : Tab} {q : Option Nat} {y : RT} (names : List ByteArray) (h : Is D q y) : elemD D names y.id = mt names y := by
  unfold elemD
  rw [h.root]
  cases y
  rfl
/-! ### Up from a node -/
end Go.Proofs.YtmfjbljdbkmkgaaDoor.Dom

/- impl.Replaced: a tree with another one in a node's place. -/
namespace Go.Proofs.YtmfjbljdbkmkgaaDoor.PDom
open Go.RowKit Go.Proofs.YtmfjbljdbkmkgaaDoorW.PrintWords Go.Proofs.YtmfjbljdbkmkgaaDoorW.PrintLast Go.Proofs.YtmfjbljdbkmkgaaDoorW.PrintMore Go.Proofs.YtmfjbljdbkmkgaaDoor.Dom
set_option linter.unusedVariables false
set_option linter.unusedSimpArgs false

theorem is_into {D D' : Tab} {p : Option Nat} {r : RT} (hs : ∀ b i, D b = some i → D' b = some i) (h : Is D p r) : Is D' p r := by
  induction h with
  | mk p i t a d at_ ks h hk ih => exact Is.mk p i t a d at_ ks (hs _ _ h) ih
theorem is_mem {D : Tab} (r : RT) : ∀ {p : Option Nat}, Is D p r → ∀ b ∈ r.pre, D b ≠ none := by
  induction r using RT.induct with
  | h i t a d at_ ks ih =>
    intro p h b hb
    have hroot : D i = some _ := h.root
    rcases List.mem_cons.1 (show b ∈ i :: RT.preL ks from hb) with rfl | hb
    · rw [hroot]; simp
    · obtain ⟨k, hk, hbk⟩ := RT.mem_preL.1 hb
      exact ih k hk (h.kid hk) b hbk
/-- A tree that has been made beside a table. -/
theorem beside {W W1 : World} {D D2 : Tab} {b : Nat} {t tw : T} {r : RT} (hdom : Dom W D) (hr : Is D none r) (hm : Made W W1 b D2 tw) :
    ∃ y, y.id = b ∧ TellsT tw y ∧ Dom W1 (uni D D2) ∧ Is (uni D D2) none r ∧ Is (uni D D2) none y ∧ y.id ∉ r.pre ∧ (∀ k, k < W.heap.size → D k = none → uni D D2 k = none) := by
  have hge : ∀ y, D2 y ≠ none → W.heap.size ≤ y := hm.fresh
  have hd : ∀ y, D y ≠ none → D2 y = none := by
    intro y hy
    cases hc : D2 y with
    | none => rfl
    | some q =>
      have := hge y (by rw [hc]; simp)
      have := hdom.lt hy
      omega
  have hd' : ∀ y, D2 y ≠ none → D y = none := by
    intro y hy
    cases hc : D y with
    | none => rfl
    | some q => exact absurd (hd y (by rw [hc]; simp)) hy
  obtain ⟨i0, hi0⟩ : ∃ i, D2 b = some i := by
    obtain ⟨_, _, i, h, _⟩ := hm.tree
    exact ⟨i, h⟩
  obtain ⟨y, rfl, hy, hto⟩ := hm.tree.rt hm.dom.wf i0 hi0
  rw [hm.root i0 hi0] at hy
  refine ⟨y, rfl, hto, (hdom.below hm.below).union hm.dom hd, is_into (fun b i h => uni_left h) hr, is_into (fun b i h => by rw [uni_right (hd' b (by rw [h]; simp)), h]) hy, fun hmem => ?_, fun k hk hn => ?_⟩
  · have h1 := hdom.lt (is_mem r hr _ hmem)
    have h2 := hge y.id (by rw [hi0]; simp)
    omega
  · rw [uni_right hn]
    cases hc : D2 k with
    | none => rfl
    | some q => have := hge k (by rw [hc]; simp); omega
end Go.Proofs.YtmfjbljdbkmkgaaDoor.PDom

/- Trees as plain data: their text, which of their nodes stand within one another, whether they are plain (elements, texts, comments); and the same of trees of nodes. Plain facts. -/
namespace Go.Proofs.YtmfjbljdbkmkgaaDoor.Dom
open Go.RowKit Go.Proofs.YtmfjbljdbkmkgaaDoorW.PrintWords Go.Proofs.YtmfjbljdbkmkgaaDoorW.PrintLast Go.Proofs.YtmfjbljdbkmkgaaDoorW.PrintMore Go.Proofs.YtmfjbljdbkmkgaaDoor.PDom
set_option linter.unusedVariables false
set_option linter.unusedSimpArgs false

/-- An element of one of some names. -/
def isT (names : List ByteArray) (t : T) : Bool := t.f0 == 0 && names.any fun s => t.f1.toList == s.toList
theorem is_toT (names : List ByteArray) (r : RT) : isT names r.toT = mt names r := by
  cases r with
  | node i ty a d at_ ks =>
    unfold isT mt RT.toT
    by_cases h3 : ty = 3
    · subst h3
      rfl
    · have e3 : (ty == 3) = false := beq_eq_false_iff_ne.2 h3
      simp only [RT.ty, e3, Bool.false_and]
      rw [if_neg h3]
      split
      · rfl
      · split <;> rfl
/-! ### Taken out, all at once -/
theorem own_nil {m : RT → Bool} (hO : Own m) (i : Nat) (t a : Int) (d : ByteArray) (at_ : List (ByteArray × ByteArray)) (ks : List RT) : m (.node i t a d at_ []) = m (.node i t a d at_ ks) := hO (.node i t a d at_ ks) []
/-! ### Plain trees -/
mutual
def okT : T → Bool
  | ⟨k, n, x, as_, ks⟩ => ((((k == 1 || k == 2) && (n.size == 0 && (as_.isEmpty && ks.isEmpty))) || (k == 0 && x.size == 0)) && (decide (as_.length ≤ 4398046510976) && decide (ks.length ≤ 4398046510976))) && okTL ks
def okTL : List T → Bool
  | [] => true
  | k :: ks => okT k && okTL ks
end
theorem okTL_iff : ∀ {l : List T}, okTL l = true ↔ ∀ k ∈ l, okT k = true
  | [] => by simp [okTL]
  | k :: ks => by
    rw [okTL, Bool.and_eq_true, okTL_iff (l := ks)]
    simp
theorem size_zero {a : ByteArray} (h : a.size = 0) : a = ⟨#[]⟩ := by
  cases a with
  | mk d =>
    have : d = #[] := Array.eq_empty_of_size_eq_zero h
    rw [this]
theorem okT_open {t : T} (h : okT t = true) : NodeOk false t ∧ t.f3.length ≤ 4398046510976 ∧ t.f4.length ≤ 4398046510976 ∧ ∀ k ∈ t.f4, okT k = true := by
  cases t with
  | mk k n x as_ ks =>
    rw [okT] at h
    simp only [Bool.and_eq_true, Bool.or_eq_true, beq_iff_eq, decide_eq_true_eq, List.isEmpty_iff] at h
    obtain ⟨⟨h1, h2, h3⟩, h4⟩ := h
    refine ⟨?_, h2, h3, okTL_iff.1 h4⟩
    rcases h1 with ⟨h5, h6, h7, h8⟩ | ⟨h5, h6⟩
    · exact .inl ⟨h5, size_zero h6, h7, h8⟩
    · exact .inr (.inr ⟨h5, size_zero h6⟩)
theorem T_induct {P : T → Prop} (h : ∀ t : T, (∀ k ∈ t.f4, P k) → P t) : ∀ t, P t := by
  intro t
  generalize hn : SizeOf.sizeOf t = n
  induction n using Nat.strongRecOn generalizing t with
  | _ n ih =>
    refine h t (fun k hk => ih _ ?_ k rfl)
    rw [← hn]
    exact kid_lt hk
theorem ok_norm (t : T) : okT t = true → Norm false t := by
  induction t using T_induct with
  | h t ih =>
    intro h
    obtain ⟨h1, _, _, h4⟩ := okT_open h
    exact ⟨false, t, h1, fun y hy => ih y hy (h4 y hy)⟩
theorem ok_fit (t : T) : okT t = true → Fit t := by
  induction t using T_induct with
  | h t ih =>
    intro h
    obtain ⟨_, h2, h3, h4⟩ := okT_open h
    exact ⟨t, h2, h3, fun y hy => ih y hy (h4 y hy)⟩
theorem Norm.up {t : T} (h : Norm false t) : Norm true t := by
  cases h with
  | mk _ _ h hk =>
    refine ⟨true, t, ?_, hk⟩
    rcases h with h | ⟨_, h, _⟩ | h
    · exact .inl h
    · cases h
    · exact .inr (.inr h)
/-- The nodes of a plain tree. -/
theorem ok_all (r : RT) : ∀ t : T, okT t = true → TellsT t r → RT.All okN r := by
  induction r using RT.induct with
  | h i ty a d at_ ks ih =>
    intro t ht h
    have hn := ok_norm t ht
    obtain ⟨h1, h3, _, h4⟩ := okT_open ht
    obtain ⟨hl, hk⟩ := told_open h hn
    have hty : (ty = 1 ∨ ty = 3 ∨ ty = 4) ∧ at_.length ≤ 4398046510976 := by
      cases h with
      | mk _ _ _ _ ha hl hk =>
        refine ⟨?_, ?_⟩
        · rcases h1 with ⟨(e | e), _⟩ | ⟨_, e, _⟩ | ⟨e, _⟩
          · rw [e]; simp [tyOf]
          · rw [e]; simp [tyOf]
          · cases e
          · rw [e]; simp [tyOf]
        · unfold attrsOf
          split
          · rw [List.length_map]; exact h3
          · simp
    refine ⟨_, ⟨hty.2, hty.1⟩, fun k hk2 => ?_⟩
    obtain ⟨n, hn2, rfl⟩ := List.mem_iff_getElem.1 (show k ∈ ks from hk2)
    exact ih _ hk2 _ (h4 _ (List.getElem_mem (by rw [hl]; exact hn2))) (hk n (by rw [hl]; exact hn2) hn2)
end Go.Proofs.YtmfjbljdbkmkgaaDoor.Dom

/- What domutils.SwapTags makes of a tree. Plain facts. -/
namespace Go.Proofs.YtmfjbljdbkmkgaaDoor.Dom
open Go.RowKit Go.Proofs.YtmfjbljdbkmkgaaDoorW.PrintWords Go.Proofs.YtmfjbljdbkmkgaaDoorW.PrintLast Go.Proofs.YtmfjbljdbkmkgaaDoorW.PrintMore Go.Proofs.YtmfjbljdbkmkgaaDoor.PDom
set_option linter.unusedVariables false
set_option linter.unusedSimpArgs false

/-- Does a node change places with its child? -/
def alone (ni : List ByteArray) : List RT → Bool
  | [k] => mt ni k
  | _ => false
def RT.tagged : RT → RT → RT
  | .node i t _ _ _ ks, .node _ _ a d at_ _ => .node i t a d at_ ks
def swapKid : RT → List RT → RT
  | .node i t a d at_ ks, [k] => .node i t k.atom k.data k.attrs [k.tagged (.node i t a d at_ ks)]
  | r, _ => r
mutual
def RT.sw (no ni : List ByteArray) : RT → RT
  | .node i t a d at_ ks => if (mt no (.node i t a d at_ ks) && alone ni ks) = true then swapKid (.node i t a d at_ ks) ks else .node i t a d at_ (RT.swL no ni ks)
def RT.swL (no ni : List ByteArray) : List RT → List RT
  | [] => []
  | k :: ks => k.sw no ni :: RT.swL no ni ks
end
theorem swL_map (no ni : List ByteArray) : ∀ l : List RT, RT.swL no ni l = l.map (RT.sw no ni)
  | [] => rfl
  | k :: l => by rw [RT.swL, swL_map no ni l]; rfl
theorem alone_one {ni : List ByteArray} {ks : List RT} (h : alone ni ks = true) : ∃ k, ks = [k] ∧ mt ni k = true := by
  match ks, h with
  | [k], h => exact ⟨k, rfl, h⟩
theorem tagged_pre (k r : RT) : (k.tagged r).pre = k.pre := by cases k; cases r; rfl
theorem sw_id (no ni : List ByteArray) (r : RT) : (r.sw no ni).id = r.id := by
  cases r with
  | node i t a d at_ ks =>
    rw [RT.sw]
    split
    · rename_i h
      rw [Bool.and_eq_true] at h
      obtain ⟨k, rfl, _⟩ := alone_one h.2
      rfl
    · rfl
theorem preL_sw (no ni : List ByteArray) : ∀ (ks : List RT), (∀ k ∈ ks, (k.sw no ni).pre = k.pre) → RT.preL (RT.swL no ni ks) = RT.preL ks
  | [], _ => rfl
  | k :: l, ih => by
    rw [RT.swL, RT.preL, RT.preL, ih k List.mem_cons_self, preL_sw no ni l (fun y hy => ih y (List.mem_cons_of_mem _ hy))]
theorem sw_pre (no ni : List ByteArray) (r : RT) : (r.sw no ni).pre = r.pre := by
  induction r using RT.induct with
  | h i t a d at_ ks ih =>
    rw [RT.sw]
    split
    · rename_i h
      rw [Bool.and_eq_true] at h
      obtain ⟨k, rfl, _⟩ := alone_one h.2
      simp [swapKid, RT.pre, RT.preL, tagged_pre]
    · rw [RT.pre, RT.pre]
      congr 1
      exact preL_sw no ni ks ih
theorem mt_three {names : List ByteArray} {r : RT} (h : mt names r = true) : r.ty = 3 := by
  unfold mt at h
  rw [Bool.and_eq_true] at h
  exact eq_of_beq h.1
theorem all_sw {no ni : List ByteArray} (r : RT) : RT.All okN r → RT.All okN (r.sw no ni) := by
  induction r using RT.induct with
  | h i t a d at_ ks ih =>
    intro h
    obtain ⟨_, hp, hk⟩ := h
    rw [RT.sw]
    split
    · rename_i h
      rw [Bool.and_eq_true] at h
      obtain ⟨k, rfl, hm⟩ := alone_one h.2
      have h1 := hk k (by simp [RT.kids])
      obtain ⟨_, hp1, hk1⟩ := h1
      cases k with
      | node ki kt ka kd kat kks =>
        have e1 : t = 3 := mt_three h.1
        have e2 : kt = 3 := mt_three hm
        refine ⟨_, ⟨hp1.1, .inr (.inl e1)⟩, fun y hy => ?_⟩
        have : y = (RT.node ki kt kd.size kd kat kks).tagged (.node i t a d at_ [.node ki kt ka kd kat kks]) := by
          have hy2 : y ∈ [(RT.node ki kt ka kd kat kks).tagged (.node i t a d at_ [.node ki kt ka kd kat kks])] := hy
          simpa [RT.tagged] using hy2
        rw [this]
        exact ⟨_, ⟨hp.1, .inr (.inl e2)⟩, hk1⟩
    · refine ⟨_, hp, fun y hy => ?_⟩
      have hy2 : y ∈ RT.swL no ni ks := hy
      rw [swL_map] at hy2
      obtain ⟨k, hk2, rfl⟩ := List.mem_map.1 hy2
      exact ih k hk2 (hk k hk2)
/-! ### The same of what is told -/
def aloneT (ni : List ByteArray) : List T → Bool
  | [k] => isT ni k
  | _ => false
def swapKidT : T → List T → T
  | ⟨k, n, x, as_, ks⟩, [y] => ⟨k, y.f1, x, y.f3, [⟨y.f0, n, y.f2, as_, y.f4⟩]⟩
  | t, _ => t
mutual
def swT (no ni : List ByteArray) : T → T
  | ⟨k, n, x, as_, ks⟩ => if (isT no ⟨k, n, x, as_, ks⟩ && aloneT ni ks) = true then swapKidT ⟨k, n, x, as_, ks⟩ ks else ⟨k, n, x, as_, swTL no ni ks⟩
def swTL (no ni : List ByteArray) : List T → List T
  | [] => []
  | k :: ks => swT no ni k :: swTL no ni ks
end
theorem swTL_map (no ni : List ByteArray) : ∀ l : List T, swTL no ni l = l.map (swT no ni)
  | [] => rfl
  | k :: l => by rw [swTL, swTL_map no ni l]; rfl
theorem alone_T (ni : List ByteArray) (ks : List RT) : aloneT ni (ks.map RT.toT) = alone ni ks := by
  match ks with
  | [] => rfl
  | [k] => exact is_toT ni k
  | _ :: _ :: _ => rfl
theorem sw_toT (no ni : List ByteArray) (r : RT) : (r.sw no ni).toT = swT no ni r.toT := by
  induction r using RT.induct with
  | h i t a d at_ ks ih =>
    have hL : (RT.swL no ni ks).map RT.toT = swTL no ni (ks.map RT.toT) := by
      rw [swL_map, swTL_map, List.map_map, List.map_map]
      exact List.map_congr_left fun k hk => ih k hk
    by_cases h3 : t = 3
    · subst h3
      have e0 : (RT.node i 3 a d at_ ks).toT = ⟨0, d, ⟨#[]⟩, at_.map (fun a => (⟨a.1, a.2⟩ : At)), ks.map RT.toT⟩ := by rw [RT.toT, if_pos rfl, RT.toTL_map]
      have e1 := is_toT no (.node i 3 a d at_ ks)
      rw [e0] at e1 ⊢
      rw [swT, e1, alone_T, RT.sw]
      split
      · rename_i h
        rw [Bool.and_eq_true] at h
        obtain ⟨k, rfl, hm⟩ := alone_one h.2
        cases k with
        | node ki kt ka kd kat kks =>
          obtain rfl : kt = 3 := mt_three hm
          simp [swapKid, swapKidT, RT.toT, RT.toTL, RT.tagged, RT.atom, RT.data, RT.attrs]
      · rw [← hL, ← RT.toTL_map, RT.toT, if_pos rfl]
    · have hm : mt no (.node i t a d at_ ks) = false := by
        cases e : mt no (.node i t a d at_ ks) with
        | false => rfl
        | true => exact absurd (mt_three e) h3
      rw [RT.sw, hm, Bool.false_and, if_neg Bool.false_ne_true]
      have e1 := is_toT no (.node i t a d at_ ks)
      rw [hm] at e1
      rw [RT.toT, RT.toT, if_neg h3, if_neg h3]
      by_cases h1 : t = 1
      · rw [if_pos h1, if_pos h1, swT]
        simp [isT, swTL]
      · rw [if_neg h1, if_neg h1]
        by_cases h4 : t = 4
        · rw [if_pos h4, if_pos h4, swT]
          simp [isT, swTL]
        · rw [if_neg h4, if_neg h4, swT, RT.toTL_map, RT.toTL_map, hL]
          simp [isT]
/-! ### Texts that are more than white space -/
def solN (r : RT) : Prop := r.ty = 1 → solB r.data = true
mutual
def solT : T → Bool
  | ⟨k, n, x, as_, ks⟩ => (!(k == 1) || solB x) && solTL ks
def solTL : List T → Bool
  | [] => true
  | k :: ks => solT k && solTL ks
end
theorem solTL_mem : ∀ {l : List T} {k : T}, solTL l = true → k ∈ l → solT k = true
  | y :: l, k, h, hk => by
    rw [solTL, Bool.and_eq_true] at h
    rcases List.mem_cons.1 hk with rfl | hk
    · exact h.1
    · exact solTL_mem h.2 hk
theorem sol_all (r : RT) : ∀ t : T, okT t = true → solT t = true → TellsT t r → RT.All solN r := by
  induction r using RT.induct with
  | h i ty a d at_ ks ih =>
    intro t ht hs h
    have hn := ok_norm t ht
    obtain ⟨_, _, _, h4⟩ := okT_open ht
    obtain ⟨hl, hk⟩ := told_open h hn
    have hd : ty = 1 → solB d = true := by
      cases h with
      | mk _ _ _ _ ha hl hk =>
        intro e
        have e0 : t.f0 = 1 := by
          unfold tyOf at e
          split at e
          · cases e
          · split at e
            · assumption
            · split at e <;> cases e
        have : solB t.f2 = true := by
          cases t with
          | mk k n x as_ ks2 =>
            rw [solT, Bool.and_eq_true] at hs
            have h1 := hs.1
            have e0' : k = 1 := e0
            rw [e0'] at h1
            simpa using h1
        unfold dataOf
        rw [if_neg (by omega), if_pos (show flat t from .inl e0)]
        exact this
    have hsk : ∀ k ∈ t.f4, solT k = true := by
      cases t with
      | mk k n x as_ ks2 =>
        rw [solT, Bool.and_eq_true] at hs
        exact fun y hy => solTL_mem hs.2 hy
    refine ⟨_, hd, fun k hk2 => ?_⟩
    obtain ⟨n, hn2, rfl⟩ := List.mem_iff_getElem.1 (show k ∈ ks from hk2)
    exact ih _ hk2 _ (h4 _ (List.getElem_mem (by rw [hl]; exact hn2))) (hsk _ (List.getElem_mem (by rw [hl]; exact hn2))) (hk n (by rw [hl]; exact hn2) hn2)
end Go.Proofs.YtmfjbljdbkmkgaaDoor.Dom

/- The finder of domutils.SwapTags, and SwapTags itself, over a tree's table. -/
namespace Go.Proofs.YtmfjbljdbkmkgaaDoor.Dom
open Go.RowKit Go.Proofs.YtmfjbljdbkmkgaaDoorW.PrintWords Go.Proofs.YtmfjbljdbkmkgaaDoorW.PrintLast Go.Proofs.YtmfjbljdbkmkgaaDoorW.PrintMore Go.Proofs.YtmfjbljdbkmkgaaDoor.PDom
set_option linter.unusedVariables false
set_option linter.unusedSimpArgs false

/-- Where the closures' boxes and the names lie. -/
structure SwAd where
  f : Nat
  bo : Nat
  bi : Nat
  bno : Nat
  bni : Nat
  Ao : Option Addr
  co : Nat
  Ai : Option Addr
  ci : Nat
def fnNamed (b : Nat) : Value := .func (Fn.func 40) #[] #[.pointer (some ⟨b, 0, none⟩)]
def fnSwap (e : SwAd) : Value := .func (Fn.func 35) #[] #[.pointer (some ⟨e.bo, 0, none⟩), .pointer (some ⟨e.bi, 0, none⟩), .pointer (some ⟨e.f, 0, none⟩)]
/-- The boxes stand, apart from the tree. -/
structure SwE (w : World) (D : Tab) (e : SwAd) (no ni : List ByteArray) : Prop where
  f : w.heap[e.f]? = some (.cells #[fnSwap e] 47 (0, 0))
  df : D e.f = none
  o : w.heap[e.bo]? = some (.cells #[fnNamed e.bno] 45 (0, 0))
  d_o : D e.bo = none
  i : w.heap[e.bi]? = some (.cells #[fnNamed e.bni] 45 (0, 0))
  di : D e.bi = none
  nob : w.heap[e.bno]? = some (.cells #[.slice e.Ao no.length e.co] 22 (0, 0))
  dno : D e.bno = none
  nib : w.heap[e.bni]? = some (.cells #[.slice e.Ai ni.length e.ci] 22 (0, 0))
  dni : D e.bni = none
  ro : Kd.F Kd.string w (fun k => D k = none) e.Ao no.length no
  ri : Kd.F Kd.string w (fun k => D k = none) e.Ai ni.length ni
  lo : no.length ≤ 4611686018427387904
  li : ni.length ≤ 4611686018427387904
  cv : CV w
  d0 : D 0 = none
theorem SwE.only {w w' : World} {D D' : Tab} {e : SwAd} {no ni : List ByteArray} (h : SwE w D e no ni) (ho : Only D w w') (hD : ∀ k, D k = none → D' k = none) : SwE w' D' e no ni :=
  ⟨(ho.block _ (blk_lt h.f) h.df).trans h.f, hD _ h.df, (ho.block _ (blk_lt h.o) h.d_o).trans h.o, hD _ h.d_o, (ho.block _ (blk_lt h.i) h.di).trans h.i, hD _ h.di, (ho.block _ (blk_lt h.nob) h.dno).trans h.nob, hD _ h.dno, (ho.block _ (blk_lt h.nib) h.dni).trans h.nib, hD _ h.dni,
    Kd.F_mono (Kd.F_step h.ro (fun k hk hk2 => ho.block k hk2 hk)) hD, Kd.F_mono (Kd.F_step h.ri (fun k hk hk2 => ho.block k hk2 hk)) hD, h.lo, h.li, h.cv.only ho h.d0, hD _ h.d0⟩
theorem only_of {D : Tab} {w w' : World} (h : Below w.heap.size w w') : Only D w w' := ⟨h.os, h.tape, h.output, h.size, fun k hk _ => h.block k hk⟩
theorem SwE.outer {w : World} {D : Tab} {e : SwAd} {no ni : List ByteArray} (h : SwE w D e no ni) (hd : Dom w D) {q : Option Nat} {y : RT} (hy : Is D q y) :
    Calls Tryd.prog 40 #[ptr (some y.id), .pointer (some ⟨e.bno, 0, none⟩)] w fun e w' => e = .returned (.bool (mt no y)) ∧ w' = w := by
  have := named1_calls w D hd e.bno e.Ao e.co no h.nob (Kd.F_now h.ro) h.lo y.id (by rw [hy.root]; simp)
  rw [elem_mt no hy] at this
  exact this
theorem SwE.inner {w : World} {D : Tab} {e : SwAd} {no ni : List ByteArray} (h : SwE w D e no ni) (hd : Dom w D) {q : Option Nat} {y : RT} (hy : Is D q y) :
    Calls Tryd.prog 40 #[ptr (some y.id), .pointer (some ⟨e.bni, 0, none⟩)] w fun e w' => e = .returned (.bool (mt ni y)) ∧ w' = w := by
  have := named1_calls w D hd e.bni e.Ai e.ci ni h.nib (Kd.F_now h.ri) h.li y.id (by rw [hy.root]; simp)
  rw [elem_mt ni hy] at this
  exact this
/-! ### One child after the other -/
theorem pre_kid {A B : List RT} {y : RT} {i : Nat} {t a : Int} {d : ByteArray} {at_ : List (ByteArray × ByteArray)} (h : (RT.node i t a d at_ (A ++ y :: B)).pre.Nodup) : i ∉ y.pre ∧ (∀ k ∈ A, ∀ b ∈ k.pre, b ∉ y.pre) ∧ (∀ k ∈ B, ∀ b ∈ k.pre, b ∉ y.pre) := by
  rw [RT.pre, RT.preL_append, RT.preL, List.nodup_cons, List.nodup_append, List.nodup_append] at h
  obtain ⟨h1, h2, ⟨h3, h4, h5⟩, h6⟩ := h
  refine ⟨fun hi => h1 (by simp [hi]), fun k hk b hb hby => ?_, fun k hk b hb hby => ?_⟩
  · exact h6 b (RT.mem_preL.2 ⟨k, hk, hb⟩) b (by simp [hby]) rfl
  · exact h5 b hby b (RT.mem_preL.2 ⟨k, hk, hb⟩) rfl
theorem Is.step {Dr D2 : Tab} {p : Option Nat} {i : Nat} {t a : Int} {d : ByteArray} {at_ : List (ByteArray × ByteArray)} {A B : List RT} {y y' : RT} (wf : WF Dr) (h : Is Dr p (.node i t a d at_ (A ++ y :: B))) (hid : y'.id = y.id) (hy : Is D2 (some i) y') (hout : ∀ k, k ∉ y.pre → D2 k = Dr k) :
    Is D2 p (.node i t a d at_ (A ++ y' :: B)) := by
  obtain ⟨h1, h2, h3⟩ := pre_kid (Is.nodup wf _ h)
  cases h with
  | mk _ _ _ _ _ _ _ hr hk =>
    refine Is.mk _ _ _ _ _ _ _ ?_ (fun k hk2 => ?_)
    · rw [hout i h1, hr]
      simp [hid]
    · rcases List.mem_append.1 hk2 with hA | hB
      · exact Is.congr k (hk k (by simp [hA])) (fun b hb => hout b (h2 k hA b hb))
      · rcases List.mem_cons.1 hB with rfl | hB
        · exact hy
        · exact Is.congr k (hk k (by simp [hB])) (fun b hb => hout b (h3 k hB b hb))
/-- What the finder leaves of a node. -/
structure SwO (D : Tab) (p : Option Nat) (r r' : RT) (w w' : World) (D' : Tab) : Prop where
  d : Dom w' D'
  is : Is D' p r'
  o : Only D w w'
  s : ∀ k, D k = none ↔ D' k = none
  out : ∀ k, k ∉ r.pre → D' k = D k
def swJ (no ni : List ByteArray) (ks : List RT) (j : Nat) : List RT := (ks.take j).map (RT.sw no ni) ++ ks.drop j
theorem swJ_ids (no ni : List ByteArray) (ks : List RT) (j : Nat) : (swJ no ni ks j).map RT.id = ks.map RT.id := by
  unfold swJ
  rw [List.map_append, List.map_map, show RT.id ∘ RT.sw no ni = RT.id from funext fun k => sw_id no ni k, ← List.map_append, List.take_append_drop]
theorem swJ_now (no ni : List ByteArray) (ks : List RT) {j : Nat} (hj : j < ks.length) : swJ no ni ks j = (ks.take j).map (RT.sw no ni) ++ ks[j] :: ks.drop (j + 1) := by
  unfold swJ
  rw [List.drop_eq_getElem_cons hj]
theorem swJ_next (no ni : List ByteArray) (ks : List RT) {j : Nat} (hj : j < ks.length) : swJ no ni ks (j + 1) = (ks.take j).map (RT.sw no ni) ++ (ks[j].sw no ni) :: ks.drop (j + 1) := by
  unfold swJ
  rw [List.take_succ_eq_append_getElem hj, List.map_append, List.append_assoc]
  rfl
theorem swJ_end (no ni : List ByteArray) (ks : List RT) : swJ no ni ks ks.length = RT.swL no ni ks := by
  unfold swJ
  rw [List.take_length, List.drop_length, List.append_nil, swL_map]
theorem next_of {w : World} {D : Tab} (hd : Dom w D) {p : Option Nat} {i : Nat} {t a : Int} {d : ByteArray} {at_ : List (ByteArray × ByteArray)} {L ks : List RT} (h : Is D p (.node i t a d at_ L)) (hids : L.map RT.id = ks.map RT.id) {j : Nat} (hj : j < ks.length) :
    w.cell? ⟨ks[j].id, 4, none⟩ = some (ptr (ks[j + 1]?.map RT.id)) := by
  have hl : L.length = ks.length := by have := congrArg List.length hids; simpa using this
  have h1 := Is.next hd h (j := j) (show j < L.length by omega)
  have e1 : L[j].id = ks[j].id := by
    have := congrArg (fun l => l[j]?) hids
    simp only [List.getElem?_map, List.getElem?_eq_getElem hj, List.getElem?_eq_getElem (show j < L.length by omega), Option.map_some] at this
    exact Option.some.inj this
  have e2 : L[j + 1]?.map RT.id = ks[j + 1]?.map RT.id := by
    have := congrArg (fun l => l[j + 1]?) hids
    simpa only [List.getElem?_map] using this
  have h2 : w.cell? ⟨L[j].id, 4, none⟩ = some (ptr (L[j + 1]?.map RT.id)) := h1
  rw [e1, e2] at h2
  exact h2
/-- One round of the loop. -/
theorem SwO.round {D : Tab} {p : Option Nat} {i : Nat} {t a : Int} {d : ByteArray} {at_ : List (ByteArray × ByteArray)} {ks : List RT} {no ni : List ByteArray} {w wr w2 : World} {Dr D2 : Tab} {j : Nat} (hj : j < ks.length)
    (h : SwO D p (.node i t a d at_ ks) (.node i t a d at_ (swJ no ni ks j)) w wr Dr) (h2 : SwO Dr (some i) ks[j] (ks[j].sw no ni) wr w2 D2) : SwO D p (.node i t a d at_ ks) (.node i t a d at_ (swJ no ni ks (j + 1))) w w2 D2 := by
  refine ⟨h2.d, ?_, h.o.trans' h2.o h.s, fun k => (h.s k).trans (h2.s k), fun k hk => ?_⟩
  · have h3 := h.is
    rw [swJ_now no ni ks hj] at h3
    rw [swJ_next no ni ks hj]
    exact Is.step h.d.wf h3 (sw_id no ni _) h2.is h2.out
  · rw [h2.out k (fun hm => hk (by rw [RT.pre]; exact List.mem_cons_of_mem _ (RT.mem_preL.2 ⟨_, List.getElem_mem hj, hm⟩))), h.out k hk]
/-- The two change places. -/
theorem SwO.swap {D : Tab} {p : Option Nat} {i : Nat} {t a : Int} {d : ByteArray} {at_ : List (ByteArray × ByteArray)} {k : RT} {w w' : World} (hd : Dom w D) (h : Is D p (.node i t a d at_ [k]))
    (h1 : Dom w' (put (put D i (taged (RT.info p (.node i t a d at_ [k])) (RT.info (some i) k))) k.id (taged (RT.info (some i) k) (RT.info p (.node i t a d at_ [k]))))) (h2 : Only D w w') :
    SwO D p (.node i t a d at_ [k]) (swapKid (.node i t a d at_ [k]) [k]) w w' (put (put D i (taged (RT.info p (.node i t a d at_ [k])) (RT.info (some i) k))) k.id (taged (RT.info (some i) k) (RT.info p (.node i t a d at_ [k])))) := by
  have hn := Is.nodup hd.wf _ h
  obtain ⟨hi, _, _⟩ := pre_kid (A := []) (B := []) hn
  have hik : i ≠ k.id := fun e => hi (by rw [e]; exact RT.id_mem k)
  have hk := h.kid (show k ∈ (RT.node i t a d at_ [k]).kids from List.mem_cons_self)
  have hDi := h.root
  have hDk := hk.root
  refine ⟨h1, ?_, h2, fun x => ?_, fun x hx => ?_⟩
  · cases k with
    | node ki kt ka kd kat kks =>
      refine Is.mk _ _ _ _ _ _ _ ?_ (fun y hy => ?_)
      · rw [put_other _ _ hik, put_same]
        rfl
      · have hy1 : y = (RT.node ki kt ka kd kat kks).tagged (.node i t a d at_ [.node ki kt ka kd kat kks]) := by simpa [swapKid] using hy
        subst hy1
        refine Is.mk _ _ _ _ _ _ _ (put_same _ _ _) (fun z hz => ?_)
        have hz1 := hk.kid (show z ∈ (RT.node ki kt ka kd kat kks).kids from hz)
        refine Is.congr z hz1 (fun b hb => ?_)
        have hb1 : b ∈ RT.preL kks := RT.mem_preL.2 ⟨z, hz, hb⟩
        have hbi : b ≠ i := fun e => hi (by rw [← e, RT.pre]; exact List.mem_cons_of_mem _ hb1)
        have hbk : b ≠ ki := fun e => by
          rw [RT.pre, RT.preL, RT.preL, List.append_nil, RT.pre, List.nodup_cons, List.nodup_cons] at hn
          exact hn.2.1 (by rw [← e]; exact hb1)
        show put (put D i _) ki _ b = D b
        rw [put_other _ _ hbk, put_other _ _ hbi]
  · by_cases e1 : x = k.id
    · rw [e1, put_same, hDk]; simp
    · rw [put_other _ _ e1]
      by_cases e2 : x = i
      · rw [e2, put_same, show D i = some (RT.info p (.node i t a d at_ [k])) from hDi]; simp
      · rw [put_other _ _ e2]
  · have e1 : x ≠ k.id := fun e => hx (by rw [RT.pre, RT.preL, e]; exact List.mem_cons_of_mem _ (List.mem_append_left _ (RT.id_mem k)))
    have e2 : x ≠ i := fun e => hx (by rw [RT.pre, e]; exact List.mem_cons_self)
    rw [put_other _ _ e1, put_other _ _ e2]

set_option maxHeartbeats 4000000 in
set_option maxRecDepth 100000 in
theorem finder_sw (e : SwAd) (no ni : List ByteArray) (r : RT) : ∀ (w : World) (D : Tab) (p : Option Nat) (hd : Dom w D) (hr : Is D p r) (hs : RT.All solN r) (he : SwE w D e no ni) (hl : r.pre.length ≤ 4398046510976),
    Calls Tryd.prog 35 #[ptr (some r.id), .pointer (some ⟨e.bo, 0, none⟩), .pointer (some ⟨e.bi, 0, none⟩), .pointer (some ⟨e.f, 0, none⟩)] w fun en w' => en = .returned (.tuple #[]) ∧ ∃ D', SwO D p r (r.sw no ni) w w' D' := by
  induction r using RT.induct with
  | h i t a d at_ ks ih =>
    intro w D p hd hr hs he hl
    have IH := Aside0.mk ih
    have HD := Aside0.mk hd
    have HR := Aside0.mk hr
    have HE := Aside0.mk he
    obtain ⟨_, hsp, hsk⟩ := hs
    have HSK := Aside0.mk (show ∀ k ∈ ks, RT.All solN k from hsk)
    have hkl : ∀ k ∈ ks, k.pre.length ≤ 4398046510976 := fun k hk => by
      have := RT.kid_pre (r := .node i t a d at_ ks) (k := k) hk
      omega
    have HKL := Aside0.mk hkl
    have hksl : ks.length ≤ 4398046510976 := by
      have := RT.kids_lt (.node i t a d at_ ks)
      have h2 : ks.length < (RT.node i t a d at_ ks).pre.length := this
      omega
    have HSL := Aside0.mk hksl
    have HOUT := Aside0.mk (he.outer hd hr)
    have HST := Aside0.mk (fun (w1 : World) (hb : Below w.heap.size w w1) => (show SwO D p (.node i t a d at_ ks) (.node i t a d at_ (swJ no ni ks 0)) w w1 D from ⟨hd.below hb, by unfold swJ; simpa using hr, only_of hb, fun k => Iff.rfl, fun k _ => rfl⟩))
    have HFIN := Aside0.mk (fun (hm : (mt no (.node i t a d at_ ks) && alone ni ks) = false) => show RT.sw no ni (.node i t a d at_ ks) = .node i t a d at_ (RT.swL no ni ks) by rw [RT.sw, if_neg (by rw [hm]; simp)])
    have HFS := Aside0.mk (fun (hm : (mt no (.node i t a d at_ ks) && alone ni ks) = true) => show RT.sw no ni (.node i t a d at_ ks) = swapKid (.node i t a d at_ ks) ks by rw [RT.sw, if_pos hm])
    have HKR := Aside0.mk (show Calls Tryd.prog 36 #[ptr (some i)] w fun e w' => ∃ v, e = .returned v ∧ kP.R 40 w' w.heap.size (fun _ => True) v (ks.map RT.id) ∧ Below w.heap.size w w' from kidrow_calls w D hd p _ hr hksl)
    have HDEL := Aside0.mk (fun (w1 : World) (hb : Below w.heap.size w w1) (A : Option Addr) (c : Nat) (hC : kP.C w1 A (ks.map RT.id).length (ks.map RT.id)) (hc : (ks.map RT.id).length ≤ c) => delete_calls w1 D (hd.below hb) (he.cv.below hb) A c (ks.map RT.id) hC hc (by rw [List.length_map]; exact hksl) (fun x hx => by
      obtain ⟨k, hk, rfl⟩ := List.mem_map.1 hx
      have hki := hr.kid (show k ∈ (RT.node i t a d at_ ks).kids from hk)
      obtain ⟨_, hsol, _⟩ := hsk k hk
      exact ⟨_, hki.root, fun ht => by cases k; exact hsol ht⟩))
    have HFS1 := Aside0.mk (fun (w1 : World) (hb : Below w.heap.size w w1) => (hd.below hb : Dom w1 D))
    have HF1 := Aside0.mk (fun (w1 : World) (hb : Below w.heap.size w w1) => (Is.first (hd.below hb) hr : w1.cell? ⟨(RT.node i t a d at_ ks).id, 1, none⟩ = some (ptr ((RT.node i t a d at_ ks).kids[0]?.map RT.id))))
    replace HF1 : Aside0 (∀ w1, Below w.heap.size w w1 → w1.cell? ⟨i, 1, none⟩ = some (ptr (ks[0]?.map RT.id))) := HF1
    have HC2 := Aside0.mk (fun (w1 : World) (hb : Below w.heap.size w w1) => blk_cell ((hb.block _ (blk_lt he.i)).trans he.i) 0)
    have cf := HF1.out w (Below.refl _ _)
    have co := blk_cell he.o 0
    have HB0 := Aside0.mk (Below.refl w.heap.size w)
    clear ih hd hr he hsp hsk hkl hksl hl
    show Calls _ _ #[ptr (some i), _, _, _] _ _
    replace HOUT : Aside0 (Calls Tryd.prog 40 #[ptr (some i), .pointer (some ⟨e.bno, 0, none⟩)] w fun e w' => e = .returned (.bool (mt no (.node i t a d at_ ks))) ∧ w' = w) := HOUT
    simp only [ptr_some] at HOUT HKR ⊢
    unfold fnNamed at co
    go_enter Tryd.func35, Tryd.ntmps35
    cases hmo : mt no (.node i t a d at_ ks) with
    | false =>
      rw [hmo] at HOUT
      have HM := Aside0.mk (show (mt no (.node i t a d at_ ks) && alone ni ks) = false by rw [hmo]; rfl)
      clear hmo HKR HDEL HC2
      go_wp2_with (go_at_call 40; go_must (refine HOUT.out.mono ?_; rintro e w1 ⟨rfl, hww⟩; obtain rfl : w = w1 := hww.symm))
      have HST1 := Aside0.mk (HST.out _ HB0.out)
      go_loopg [6] ks.length (fun n vc wr => ∃ (j : Nat) (Dr : Tab), n = ks.length - j ∧ j ≤ ks.length ∧ vc = ptr (ks[j]?.map RT.id) ∧ Aside0 (SwO D p (.node i t a d at_ ks) (.node i t a d at_ (swJ no ni ks j)) w wr Dr))
      case atStart => exact ⟨0, D, rfl, Nat.zero_le _, rfl, HST1⟩
      case round =>
        obtain ⟨j, Dr, rfl, hj, rfl, HI⟩ := hrel
        by_cases hlt : j < ks.length
        · rw [List.getElem?_eq_getElem hlt]
          have hen := HE.out.only HI.out.o (fun k hk => (HI.out.s k).1 hk)
          have cf0 := blk_cell hen.f 0
          have hkj := HI.out.is.kid (show ks[j] ∈ (RT.node i t a d at_ (swJ no ni ks j)).kids from by show ks[j] ∈ swJ no ni ks j; rw [swJ_now no ni ks hlt]; exact List.mem_append_right _ List.mem_cons_self)
          have HC := Aside0.mk (IH.out ks[j] (List.getElem_mem hlt) wr Dr (some i) HI.out.d hkj (HSK.out _ (List.getElem_mem hlt)) hen (HKL.out _ (List.getElem_mem hlt)))
          have HNX := Aside0.mk (fun w2 D2 (h2 : SwO Dr (some i) ks[j] (ks[j].sw no ni) wr w2 D2) => SwO.round hlt HI.out h2)
          have HNN : Aside0 (∀ w2 D2, SwO D p (.node i t a d at_ ks) (.node i t a d at_ (swJ no ni ks (j + 1))) w w2 D2 → w2.cell? ⟨ks[j].id, 4, none⟩ = some (ptr (ks[j + 1]?.map RT.id))) := ⟨fun w2 D2 h => next_of h.d h.is (swJ_ids no ni ks (j + 1)) hlt⟩
          unfold fnSwap at cf0
          clear hen hkj
          simp only [Option.map_some, ptr_some] at HC ⊢
          obtain ⟨x, hx⟩ : ∃ x, x = ks[j].id := ⟨_, rfl⟩
          rw [← hx] at HC HNN ⊢
          clear hx
          go_wp2_with (go_at_call 35; go_must (refine HC.out.mono ?_; rintro e w2 ⟨rfl, D2, h2⟩; have H2 := Aside0.mk (HNX.out w2 D2 h2); have nx := HNN.out w2 D2 H2.out; clear h2))
          go_roundg (ks.length - (j + 1))
          case rel => exact ⟨j + 1, D2, rfl, hlt, rfl, H2⟩
          case measure => omega
        · have hje : j = ks.length := by omega
          subst hje
          rw [List.getElem?_eq_none (Nat.le_refl _)]
          simp only [Option.map_none, ptr_none]
          go_wp2_with fail
          go_end0
          have hI := HI.out
          rw [swJ_end] at hI
          exact ⟨rfl, Dr, by rw [HFIN.out HM.out]; exact hI⟩
    | true =>
      rw [hmo] at HOUT
      by_cases hone : ∃ k, ks = [k]
      · obtain ⟨k, rfl⟩ := hone
        have HIN := Aside0.mk (fun (w1 : World) (hb : Below w.heap.size w w1) => (HE.out.only (only_of hb) (fun k hk => hk)).inner (HD.out.below hb) (HR.out.kid (show k ∈ (RT.node i t a d at_ [k]).kids from List.mem_cons_self)))
        have HSWP := Aside0.mk (fun (w1 : World) (hb : Below w.heap.size w w1) (hmi : mt ni k = true) (hmo : mt no (.node i t a d at_ [k]) = true) => swapn_calls w1 D (HD.out.below hb) i k.id _ _ HR.out.root (HR.out.kid (show k ∈ (RT.node i t a d at_ [k]).kids from List.mem_cons_self)).root (fun e => by
          obtain ⟨hi, _, _⟩ := pre_kid (A := []) (B := []) (Is.nodup HD.out.wf _ HR.out)
          exact hi (by rw [e]; exact RT.id_mem k)) (mt_three hmo) (by have := mt_three hmi; cases k; exact this))
        simp only [ptr_some] at HIN HSWP
        simp only [List.map_cons, List.map_nil, List.length_cons, List.length_nil] at HKR HDEL
        have HMO := Aside0.mk hmo
        clear hmo
        cases hmi : mt ni k with
        | false =>
          have HM := Aside0.mk (show (mt no (.node i t a d at_ [k]) && alone ni [k]) = false by rw [HMO.out]; exact hmi)
          rw [hmi] at HIN
          clear hmi
          obtain ⟨kid, hkid⟩ : ∃ x, x = k.id := ⟨_, rfl⟩
          rw [← hkid] at HIN HKR HDEL
          clear hkid
          go_wp2_with (first
            | (go_at_call 40; go_must (refine HOUT.out.mono ?_; rintro e w1 ⟨rfl, hww⟩; obtain rfl : w = w1 := hww.symm))
            | (go_at_call 36; go_must (refine HKR.out.mono ?_; rintro e w1 ⟨v, rfl, ho, hb⟩; obtain ⟨A1, c1, rfl, hc1, hC1⟩ := Kd.R_reads ho; have HC1 := Aside0.mk hC1; have HL1 := Aside0.mk hc1; have HB1 := Aside0.mk hb; clear ho hb hc1 hC1; simp only [List.length_cons, List.length_nil] at HC1 HL1; unfold fnEmpty at HDEL))
            | (go_at_call 37; go_must (refine (HDEL.out _ HB1.out A1 c1 HC1.out HL1.out).mono ?_; rintro e w2 ⟨rfl, hb⟩; have hb2 := below_step HB1.out hb; have HC3 := Aside0.mk (Kd.C_below HC1.out hb); clear hb; have HB2 := Aside0.mk hb2; have ci := HC2.out _ hb2; unfold fnNamed at ci; have cf2 := HF1.out _ hb2; clear hb2; obtain ⟨adk, hadk, hck0⟩ := ReadsOf.at_ (Kd.reads_of_C (enc := fun b => ptr (some b)) (d := 0) (h1 := fun _ => rfl) HC3.out) (0 : Int) (by decide) (by decide))))
          all_goals subst hadk
          rw [show adk.add (0 : Int).toNat = adk by unfold Addr.add; simp] at hck0
          have hck : w2.cell? adk = some (.pointer (some ⟨kid, 0, none⟩)) := hck0
          clear hck0
          have HBD := Aside0.mk (below_step HB2.out (below_drew (Below.refl w2.heap.size w2)))
          have HST1 := Aside0.mk (HST.out _ HBD.out)
          go_region_law (go_simp; go_at_call 40; refine (HIN.out _ HBD.out).mono ?_; rintro e w3 ⟨rfl, hww⟩; subst hww)
          all_goals
            simp only [Exit.inBlock, Exit.then]
            go_wp2_with fail
            go_loopg [6] [k].length (fun n vc wr => ∃ (j : Nat) (Dr : Tab), n = [k].length - j ∧ j ≤ [k].length ∧ vc = ptr ([k][j]?.map RT.id) ∧ Aside0 (SwO D p (.node i t a d at_ [k]) (.node i t a d at_ (swJ no ni [k] j)) w wr Dr))
            case atStart => exact ⟨0, D, rfl, Nat.zero_le _, rfl, HST1⟩
            case round =>
              obtain ⟨j, Dr, rfl, hj, rfl, HI⟩ := hrel
              by_cases hlt : j < [k].length
              · rw [List.getElem?_eq_getElem hlt]
                have hen := HE.out.only HI.out.o (fun k hk => (HI.out.s k).1 hk)
                have cf0 := blk_cell hen.f 0
                have hkj := HI.out.is.kid (show [k][j] ∈ (RT.node i t a d at_ (swJ no ni [k] j)).kids from by show [k][j] ∈ swJ no ni [k] j; rw [swJ_now no ni [k] hlt]; exact List.mem_append_right _ List.mem_cons_self)
                have HC := Aside0.mk (IH.out [k][j] (List.getElem_mem hlt) wr Dr (some i) HI.out.d hkj (HSK.out _ (List.getElem_mem hlt)) hen (HKL.out _ (List.getElem_mem hlt)))
                have HNX := Aside0.mk (fun w2 D2 (h2 : SwO Dr (some i) [k][j] ([k][j].sw no ni) wr w2 D2) => SwO.round hlt HI.out h2)
                have HNN : Aside0 (∀ w2 D2, SwO D p (.node i t a d at_ [k]) (.node i t a d at_ (swJ no ni [k] (j + 1))) w w2 D2 → w2.cell? ⟨[k][j].id, 4, none⟩ = some (ptr ([k][j + 1]?.map RT.id))) := ⟨fun w2 D2 h => next_of h.d h.is (swJ_ids no ni [k] (j + 1)) hlt⟩
                unfold fnSwap at cf0
                clear hen hkj
                simp only [Option.map_some, ptr_some] at HC ⊢
                obtain ⟨x, hx⟩ : ∃ x, x = [k][j].id := ⟨_, rfl⟩
                rw [← hx] at HC HNN ⊢
                clear hx
                go_wp2_with (go_at_call 35; go_must (refine HC.out.mono ?_; rintro e w2 ⟨rfl, D2, h2⟩; have H2 := Aside0.mk (HNX.out w2 D2 h2); have nx := HNN.out w2 D2 H2.out; clear h2))
                go_roundg ([k].length - (j + 1))
                case rel => exact ⟨j + 1, D2, rfl, hlt, rfl, H2⟩
                case measure => omega
              · have hje : j = [k].length := by omega
                subst hje
                rw [List.getElem?_eq_none (Nat.le_refl _)]
                simp only [Option.map_none, ptr_none]
                go_wp2_with fail
                go_end0
                have hI := HI.out
                rw [swJ_end] at hI
                exact ⟨rfl, Dr, by rw [HFIN.out HM.out]; exact hI⟩
        | true =>
          have HM := Aside0.mk (show (mt no (.node i t a d at_ [k]) && alone ni [k]) = true by rw [HMO.out]; exact hmi)
          have HMI := Aside0.mk hmi
          rw [hmi] at HIN
          clear hmi
          have HEND := Aside0.mk (fun (w1 : World) (hb : Below w.heap.size w w1) (w4 : World) h1 (h2 : Only D w1 w4) => SwO.swap (HD.out) HR.out (w' := w4) h1 ((only_of hb).trans' h2 (fun _ => Iff.rfl)))
          obtain ⟨kid, hkid⟩ : ∃ x, x = k.id := ⟨_, rfl⟩
          rw [← hkid] at HIN HKR HDEL HSWP HEND
          clear hkid
          go_wp2_with (first
            | (go_at_call 40; go_must (refine HOUT.out.mono ?_; rintro e w1 ⟨rfl, hww⟩; obtain rfl : w = w1 := hww.symm))
            | (go_at_call 36; go_must (refine HKR.out.mono ?_; rintro e w1 ⟨v, rfl, ho, hb⟩; obtain ⟨A1, c1, rfl, hc1, hC1⟩ := Kd.R_reads ho; have HC1 := Aside0.mk hC1; have HL1 := Aside0.mk hc1; have HB1 := Aside0.mk hb; clear ho hb hc1 hC1; simp only [List.length_cons, List.length_nil] at HC1 HL1; unfold fnEmpty at HDEL))
            | (go_at_call 37; go_must (refine (HDEL.out _ HB1.out A1 c1 HC1.out HL1.out).mono ?_; rintro e w2 ⟨rfl, hb⟩; have hb2 := below_step HB1.out hb; have HC3 := Aside0.mk (Kd.C_below HC1.out hb); clear hb; have HB2 := Aside0.mk hb2; have ci := HC2.out _ hb2; unfold fnNamed at ci; have cf2 := HF1.out _ hb2; clear hb2; obtain ⟨adk, hadk, hck0⟩ := ReadsOf.at_ (Kd.reads_of_C (enc := fun b => ptr (some b)) (d := 0) (h1 := fun _ => rfl) HC3.out) (0 : Int) (by decide) (by decide))))
          all_goals subst hadk
          rw [show adk.add (0 : Int).toNat = adk by unfold Addr.add; simp] at hck0
          have hck : w2.cell? adk = some (.pointer (some ⟨kid, 0, none⟩)) := hck0
          clear hck0
          have HBD := Aside0.mk (below_step HB2.out (below_drew (Below.refl w2.heap.size w2)))
          have HST1 := Aside0.mk (HST.out _ HBD.out)
          go_region_law (go_simp; go_at_call 40; refine (HIN.out _ HBD.out).mono ?_; rintro e w3 ⟨rfl, hww⟩; subst hww)
          all_goals (simp only [Exit.inBlock, Exit.then])
          all_goals go_wp2_with (go_at_call 39; go_must (refine (HSWP.out _ HBD.out HMI.out HMO.out).mono ?_; rintro e w4 ⟨rfl, hd4, ho4⟩; have HO := Aside0.mk (HEND.out _ HBD.out w4 hd4 ho4); clear hd4 ho4))
          all_goals refine bodyPost_ret (v := .tuple #[]) (by simp [results, Tryd.results35]) rfl ?_
          all_goals exact ⟨rfl, _, by rw [HFS.out HM.out]; exact HO.out⟩
      · have hn1 : ks.length ≠ 1 := fun h => hone (List.length_eq_one_iff.1 h)
        have hb1 : ((ks.length : Int) == 1) = false := beq_eq_false_iff_ne.2 (by omega)
        have HM := Aside0.mk (show (mt no (.node i t a d at_ ks) && alone ni ks) = false by
          cases e : alone ni ks with
          | false => rw [Bool.and_false]
          | true => obtain ⟨k, hk, _⟩ := alone_one e; exact absurd ⟨k, hk⟩ hone)
        clear hone hmo
        simp only [List.length_map] at HDEL HKR
        go_wp2_with (first
            | (go_at_call 40; go_must (refine HOUT.out.mono ?_; rintro e w1 ⟨rfl, hww⟩; obtain rfl : w = w1 := hww.symm))
            | (go_at_call 36; go_must (refine HKR.out.mono ?_; rintro e w1 ⟨v, rfl, ho, hb⟩; obtain ⟨A1, c1, rfl, hc1, hC1⟩ := Kd.R_reads ho; have HC1 := Aside0.mk hC1; have HL1 := Aside0.mk hc1; have HB1 := Aside0.mk hb; clear ho hb hc1 hC1; simp only [List.length_map] at HC1 HL1 ⊢; unfold fnEmpty at HDEL))
            | (go_at_call 37; go_must (refine (HDEL.out _ HB1.out A1 c1 HC1.out HL1.out).mono ?_; rintro e w2 ⟨rfl, hb⟩; have hb2 := below_step HB1.out hb; clear hb; have HB2 := Aside0.mk hb2; have cf2 := HF1.out _ hb2; clear hb2)))
        have HBD := Aside0.mk (below_step HB2.out (below_drew (Below.refl w2.heap.size w2)))
        have HST1 := Aside0.mk (fun n => HST.out _ (pw_below_drewN HB2.out n))
        have hd1 : decide ((ks.length : Int) = 1) = false := decide_eq_false (by omega)
        have hd2 : decide (ks.length = 1) = false := decide_eq_false hn1
        go_quiet (fail)
        all_goals
          simp only [Exit.inBlock, Exit.then]
          go_wp2_with fail
          go_loopg [6] ks.length (fun n vc wr => ∃ (j : Nat) (Dr : Tab), n = ks.length - j ∧ j ≤ ks.length ∧ vc = ptr (ks[j]?.map RT.id) ∧ Aside0 (SwO D p (.node i t a d at_ ks) (.node i t a d at_ (swJ no ni ks j)) w wr Dr))
          case atStart => exact ⟨0, D, rfl, Nat.zero_le _, rfl, ⟨HST1.out _⟩⟩
          case round =>
            obtain ⟨j, Dr, rfl, hj, rfl, HI⟩ := hrel
            by_cases hlt : j < ks.length
            · rw [List.getElem?_eq_getElem hlt]
              have hen := HE.out.only HI.out.o (fun k hk => (HI.out.s k).1 hk)
              have cf0 := blk_cell hen.f 0
              have hkj := HI.out.is.kid (show ks[j] ∈ (RT.node i t a d at_ (swJ no ni ks j)).kids from by show ks[j] ∈ swJ no ni ks j; rw [swJ_now no ni ks hlt]; exact List.mem_append_right _ List.mem_cons_self)
              have HC := Aside0.mk (IH.out ks[j] (List.getElem_mem hlt) wr Dr (some i) HI.out.d hkj (HSK.out _ (List.getElem_mem hlt)) hen (HKL.out _ (List.getElem_mem hlt)))
              have HNX := Aside0.mk (fun w2 D2 (h2 : SwO Dr (some i) ks[j] (ks[j].sw no ni) wr w2 D2) => SwO.round hlt HI.out h2)
              have HNN : Aside0 (∀ w2 D2, SwO D p (.node i t a d at_ ks) (.node i t a d at_ (swJ no ni ks (j + 1))) w w2 D2 → w2.cell? ⟨ks[j].id, 4, none⟩ = some (ptr (ks[j + 1]?.map RT.id))) := ⟨fun w2 D2 h => next_of h.d h.is (swJ_ids no ni ks (j + 1)) hlt⟩
              unfold fnSwap at cf0
              clear hen hkj
              simp only [Option.map_some, ptr_some] at HC ⊢
              obtain ⟨x, hx⟩ : ∃ x, x = ks[j].id := ⟨_, rfl⟩
              rw [← hx] at HC HNN ⊢
              clear hx
              go_wp2_with (go_at_call 35; go_must (refine HC.out.mono ?_; rintro e w2 ⟨rfl, D2, h2⟩; have H2 := Aside0.mk (HNX.out w2 D2 h2); have nx := HNN.out w2 D2 H2.out; clear h2))
              go_roundg (ks.length - (j + 1))
              case rel => exact ⟨j + 1, D2, rfl, hlt, rfl, H2⟩
              case measure => omega
            · have hje : j = ks.length := by omega
              subst hje
              rw [List.getElem?_eq_none (Nat.le_refl _)]
              simp only [Option.map_none, ptr_none]
              go_wp2_with fail
              go_end0
              have hI := HI.out
              rw [swJ_end] at hI
              exact ⟨rfl, Dr, by rw [HFIN.out HM.out]; exact hI⟩
end Go.Proofs.YtmfjbljdbkmkgaaDoor.Dom

/- domutils.SwapTags, impl.SwapTags: their contracts. -/
namespace Go.Proofs.YtmfjbljdbkmkgaaDoor.Dom
open Go.RowKit Go.Proofs.YtmfjbljdbkmkgaaDoorW.PrintWords Go.Proofs.YtmfjbljdbkmkgaaDoorW.PrintLast Go.Proofs.YtmfjbljdbkmkgaaDoorW.PrintMore Go.Proofs.YtmfjbljdbkmkgaaDoor.PDom
set_option linter.unusedVariables false
set_option linter.unusedSimpArgs false

/-- The names' rows stand, apart from the tree. -/
structure SwN (w : World) (D : Tab) (bno bni : Nat) (Ao : Option Addr) (co : Nat) (Ai : Option Addr) (ci : Nat) (no ni : List ByteArray) : Prop where
  nob : w.heap[bno]? = some (.cells #[.slice Ao no.length co] 22 (0, 0))
  dno : D bno = none
  nib : w.heap[bni]? = some (.cells #[.slice Ai ni.length ci] 22 (0, 0))
  dni : D bni = none
  ro : Kd.F Kd.string w (fun k => D k = none) Ao no.length no
  ri : Kd.F Kd.string w (fun k => D k = none) Ai ni.length ni
  lo : no.length ≤ 4611686018427387904
  li : ni.length ≤ 4611686018427387904
  cv : CV w
  d0 : D 0 = none
theorem dom_out {w : World} {D : Tab} (h : Dom w D) {k : Nat} (hk : w.heap.size ≤ k) : D k = none := by
  cases hd : D k with
  | none => rfl
  | some i => have := h.lt (by rw [hd]; simp : D k ≠ none); omega
theorem heap_step {w w' : World} {k : Nat} {o : Obj} (hb : Below w.heap.size w w') (h : w.heap[k]? = some o) : w'.heap[k]? = some o := (hb.block _ (Array.getElem?_eq_some_iff.1 h).1).trans h
set_option maxRecDepth 100000 in
theorem swaptags_calls (v0 : Value) (w : World) (D : Tab) (hd : Dom w D) (r : RT) (hr : Is D none r) (hs : RT.All solN r) (hl : r.pre.length ≤ 4398046510976) (bno bni : Nat) (Ao : Option Addr) (co : Nat) (Ai : Option Addr) (ci : Nat) (no ni : List ByteArray) (h : SwN w D bno bni Ao co Ai ci no ni) :
    Calls Tryd.prog 18 #[v0, ptr (some r.id), fnNamed bno, fnNamed bni] w fun e w' => e = .returned (.tuple #[]) ∧ ∃ D', SwO D none r (r.sw no ni) w w' D' := by
  have hmf : ∀ (fn : Fn) (first cap : Array Value) (w : World), (Instr.makeFunc fn first cap).run Tryd.prog w = .ok (.func fn first cap) w := fun _ _ _ _ => rfl
  obtain ⟨e, he⟩ : ∃ e : SwAd, e = ⟨w.heap.size + 1 + 1, w.heap.size, w.heap.size + 1, bno, bni, Ao, co, Ai, ci⟩ := ⟨_, rfl⟩
  obtain ⟨W3, hW3⟩ : ∃ W3, W3 = ((w.alloc (.cells #[fnNamed bno] 45)).alloc (.cells #[fnNamed bni] 45)).alloc (.cells #[fnSwap e] 47) := ⟨_, rfl⟩
  have hb3 : Below w.heap.size w W3 := by rw [hW3]; exact below_alloc (below_alloc (below_alloc (Below.refl _ _) _) _) _
  have s1 : (w.alloc (.cells #[fnNamed bno] 45)).heap.size = w.heap.size + 1 := Array.size_push _
  have s2 : ((w.alloc (.cells #[fnNamed bno] 45)).alloc (.cells #[fnNamed bni] 45)).heap.size = w.heap.size + 1 + 1 := by rw [← s1]; exact Array.size_push _
  have k2 : W3.heap[w.heap.size + 1 + 1]? = some (.cells #[fnSwap e] 47 (0, 0)) := by rw [hW3, ← s2]; exact heap_alloc_new _ _
  have k1 : W3.heap[w.heap.size + 1]? = some (.cells #[fnNamed bni] 45 (0, 0)) := by
    rw [hW3]
    refine heap_step (below_alloc (Below.refl _ _) _) ?_
    rw [← s1]
    exact heap_alloc_new _ _
  have k0 : W3.heap[w.heap.size]? = some (.cells #[fnNamed bno] 45 (0, 0)) := by
    rw [hW3]
    exact heap_step (below_alloc (Below.refl _ _) _) (heap_step (below_alloc (Below.refl _ _) _) (heap_alloc_new _ _))
  have hE : SwE W3 D e no ni := by
    subst he
    exact ⟨k2, dom_out hd (show w.heap.size ≤ w.heap.size + 1 + 1 by omega), k0, dom_out hd (Nat.le_refl _), k1, dom_out hd (show w.heap.size ≤ w.heap.size + 1 by omega), heap_step hb3 h.nob, h.dno, heap_step hb3 h.nib, h.dni, Kd.F_step h.ro (fun k _ hk => hb3.block k hk), Kd.F_step h.ri (fun k _ hk => hb3.block k hk), h.lo, h.li, h.cv.below hb3, h.d0⟩
  have HF := Aside0.mk (finder_sw e no ni r W3 D none (hd.below hb3) hr hs hE hl)
  have HO := Aside0.mk (fun (w' : World) (D' : Tab) (h : SwO D none r (r.sw no ni) W3 w' D') => (show SwO D none r (r.sw no ni) w w' D' from ⟨h.d, h.is, (only_of hb3 : Only D w W3).trans' h.o (fun _ => Iff.rfl), h.s, h.out⟩))
  clear hE k0 k1 k2 s1 s2 hb3 h hd hr hs hl
  subst he
  simp only [ptr_some, fnSwap] at HF hW3 ⊢
  unfold fnNamed at hW3 ⊢
  generalize r.id = x at *
  go_enter Tryd.func18, Tryd.ntmps18
  go_wp2_with fail
  rw [← hW3]
  refine HF.out.mono ?_
  rintro e w' ⟨rfl, D', h⟩
  have H := Aside0.mk (HO.out w' D' h)
  clear h
  go_wp2_with fail
  go_end0
  exact ⟨rfl, D', H.out⟩
theorem back_calls (w : World) : Calls Tryd.prog 19 #[] w fun e w' => e = .returned (.iface 69 (.agg #[])) ∧ w' = w := by
  go_enter Tryd.func19, Tryd.ntmps19
  go_wp2
  go_ret
  exact ⟨rfl, rfl⟩
theorem two_at (w : World) (o o' : Obj) : ((w.alloc o).alloc o').heap[w.heap.size]? = some o ∧ ((w.alloc o).alloc o').heap[w.heap.size + 1]? = some o' := by
  have s1 : (w.alloc o).heap.size = w.heap.size + 1 := Array.size_push _
  refine ⟨heap_step (below_alloc (Below.refl _ _) _) (heap_alloc_new _ _), ?_⟩
  rw [← s1]
  exact heap_alloc_new _ _
set_option maxRecDepth 100000 in
set_option maxHeartbeats 1000000 in
theorem sw1_calls (w : World) (D : Tab) (hdom : Dom w D) (r : RT) (hr : Is D none r) (t : T) (hto : TellsT t r) (hok : okT t = true) (hsol : solT t = true) (hct : countT t ≤ 1000000) (bx bz : Nat) (Ao : Option Addr) (co : Nat) (Ai : Option Addr) (ci : Nat) (no ni : List ByteArray) (h : SwN w D bx bz Ao co Ai ci no ni) :
    Calls Tryd.prog 17 #[ptr (some r.id), .pointer (some ⟨bx, 0, none⟩), .pointer (some ⟨bz, 0, none⟩)] w fun e w' => e = .returned (.tuple #[]) ∧ ∃ u, u = swT no ni t ∧ Turns w w' D r u := by
  have hall := ok_all r t hok hto
  have hsa := sol_all r t hok hsol hto
  obtain ⟨_, hpl⟩ := told_paths r t false (ok_norm t hok) hto
  have HT := Aside0.mk (fun (v0 : Value) (w4 : World) (x y : Nat) (hb : Below w.heap.size w w4) (hx : w4.heap[x]? = some (.cells #[.slice Ao no.length co] 22 (0, 0))) (hy : w4.heap[y]? = some (.cells #[.slice Ai ni.length ci] 22 (0, 0))) (lx : w.heap.size ≤ x) (ly : w.heap.size ≤ y) =>
    swaptags_calls v0 w4 D (hdom.below hb) r hr hsa (by omega) x y Ao co Ai ci no ni ⟨hx, dom_out hdom lx, hy, dom_out hdom ly, Kd.F_step h.ro (fun k _ hk => hb.block k hk), Kd.F_step h.ri (fun k _ hk => hb.block k hk), h.lo, h.li, h.cv.below hb, h.d0⟩)
  have HE := Aside0.mk (fun (w4 w' : World) (D' : Tab) (hb : Below w.heap.size w w4) (h2 : SwO D none r (r.sw no ni) w4 w' D') => (show Turns w w' D r (swT no ni t) from by
    have e1 := toT_norm r t false (ok_norm t hok) hto
    refine ⟨D', _, h2.d, h2.is, sw_id no ni r, rfit_all _ (all_sw r hall) (by rw [sw_pre]; omega), ?_, (only_of hb : Only D w w4).trans' h2.o (fun _ => Iff.rfl), fun k _ hk => (h2.s k).1 hk⟩
    rw [sw_toT, e1]))
  have HN := Aside0.mk (fun wx A n c => named_calls wx A n c)
  have HK := Aside0.mk back_calls
  have q1 := blk_cell h.nob 0
  have q2 := blk_cell h.nib 0
  have q1a := blk_cell (heap_step (below_alloc (Below.refl _ _) (.cells #[.slice Ai ni.length ci] 22)) h.nob) 0
  have q2a := blk_cell (heap_step (below_alloc (Below.refl _ _) (.cells #[.slice Ao no.length co] 22)) h.nib) 0
  clear hall hsa hpl hto hok hsol hct hr hdom h
  simp only [ptr_some] at HT ⊢
  unfold fnNamed at HT
  generalize r.id = rx at *
  go_enter Tryd.func17, Tryd.ntmps17
  go_region_law (first
    | (go_simp; go_at_call 19; refine (HK.out _).mono ?_; rintro e w1 ⟨rfl, rfl⟩)
    | (go_simp; go_at_call 20; refine (HN.out _ _ _ _).mono ?_; rintro e w1 ⟨rfl, rfl⟩)
    | (go_simp; go_at_call 18; refine (HT.out _ _ _ _ (by first | exact below_drew (below_alloc (below_alloc (Below.refl _ _) _) _) | exact below_alloc (below_alloc (below_drew (Below.refl _ _)) _) _) (by first | exact (two_at w _ _).1 | exact (two_at w _ _).2) (by first | exact (two_at w _ _).1 | exact (two_at w _ _).2) (by first | exact Nat.le_refl _ | exact Nat.le_succ _) (by first | exact Nat.le_refl _ | exact Nat.le_succ _)).mono ?_; rintro e w5 ⟨rfl, D', h5⟩; have H5 := Aside0.mk (HE.out _ _ D' (by first | exact below_drew (below_alloc (below_alloc (Below.refl _ _) _) _) | exact below_alloc (below_alloc (below_drew (Below.refl _ _)) _) _) h5); clear h5))
  all_goals go_end0
  all_goals exact ⟨rfl, _, rfl, H5.out⟩
theorem enters_sw1 : ∀ (args : Array Value) (w : World), (callFunc 17 args).run Tryd.prog w = .ok (.enter 17 args) w := fun _ _ => by kernel_rfl
set_option maxHeartbeats 1000000 in
set_option maxRecDepth 100000 in
theorem swap_calls (t : T) (hok : okT t = true) (hsol : solT t = true) (hct : countT t ≤ 1000000) (no ni : List ByteArray) (hlo : no.length ≤ 4611686018427387904) (hli : ni.length ≤ 4611686018427387904) (w : World) (A3 : Option Addr) (c3 : Nat) (A4 : Option Addr) (c4 : Nat) (A : Option Addr) (c : Nat) (B : Option Addr) (d : Nat)
    (h3 : Kd.C k38 w A3 t.f3.length t.f3) (l3 : t.f3.length ≤ c3) (h4 : Kd.C k28 w A4 t.f4.length t.f4) (l4 : t.f4.length ≤ c4) (hC : Kd.C Kd.string w A no.length no) (hD : Kd.C Kd.string w B ni.length ni) (hcv : CV w) :
    Calls Tryd.prog 9 #[.agg #[.int .i64 t.f0, .string t.f1, .string t.f2, .slice A3 t.f3.length c3, .slice A4 t.f4.length c4], .slice A no.length c, .slice B ni.length d] w fun e w' => Told w w' (swT no ni t) e := by
  have hmf : ∀ (fn : Fn) (first cap : Array Value) (w : World), (Instr.makeFunc fn first cap).run Tryd.prog w = .ok (.func fn first cap) w := fun _ _ _ _ => rfl
  obtain ⟨W0, hW0⟩ : ∃ W0, W0 = (((w.alloc (.cells #[.int .i64 t.f0, .string t.f1, .string t.f2, .slice A3 t.f3.length c3, .slice A4 t.f4.length c4] 28)).alloc (.cells #[.slice A no.length c] 22)).alloc (.cells #[.slice B ni.length d] 22)).alloc (.cells #[.int .i64 0, .string ⟨#[]⟩, .string ⟨#[]⟩, .slice none 0 0, .slice none 0 0] 28) := ⟨_, rfl⟩
  obtain ⟨hsz, hB0, hk0, hk1, hk2, hk3⟩ := four_boxes w (.cells #[.int .i64 t.f0, .string t.f1, .string t.f2, .slice A3 t.f3.length c3, .slice A4 t.f4.length c4] 28) (.cells #[.slice A no.length c] 22) (.cells #[.slice B ni.length d] 22) (.cells #[.int .i64 0, .string ⟨#[]⟩, .string ⟨#[]⟩, .slice none 0 0, .slice none 0 0] 28)
  rw [← hW0] at hsz hB0 hk0 hk1 hk2 hk3
  have hcl := hcv.lt
  have HBH := Aside0.mk (behind_calls 17 #[.pointer (some ⟨w.heap.size + 1, 0, none⟩), .pointer (some ⟨w.heap.size + 1 + 1, 0, none⟩)] enters_sw1 (fun u => u = swT no ni t) t (ok_fit t hok) W0 A3 c3 A4 c4 (Kd.C_below h3 hB0) l3 (Kd.C_below h4 hB0) l4
    (fun W D r hW hno hd hr hto => sw1_calls W D hd r hr t hto hok hsol hct (w.heap.size + 1) (w.heap.size + 1 + 1) A c B d no ni
      ⟨(hW.block _ (by omega)).trans hk1, hno _ (by omega), (hW.block _ (by omega)).trans hk2, hno _ (by omega),
        Kd.F_mono (Kd.F_step (Kd.C_F Kd.heap_string (Kd.C_below hC hB0)) (fun k hk hk2 => hW.block k hk2)) (fun k hk => hno k hk), Kd.F_mono (Kd.F_step (Kd.C_F Kd.heap_string (Kd.C_below hD hB0)) (fun k hk hk2 => hW.block k hk2)) (fun k hk => hno k hk),
        hlo, hli, (hcv.below hB0).below hW, hno _ (by omega)⟩))
  have K3 := Aside0.mk hk3
  have HZ := Aside0.mk hsz
  have HB0 := Aside0.mk hB0
  clear h3 h4 l3 l4 hC hD hok hsol hct hk0 hk1 hk2 hk3 hsz hB0 hlo hli hcv hcl
  go_enter Tryd.func9, Tryd.ntmps9
  go_wp2_with fail
  rw [← hW0]
  refine HBH.out.mono ?_
  rintro e w2 ⟨u, hu, A5, c5, A6, c6, rfl, m5, F5, m6, F6, hB, R5, N6⟩
  have hb2 := (hB.block _ (blk_lt K3.out)).trans K3.out
  have hz := HZ.out
  have HU := Aside0.mk hu
  have HTO := Aside0.mk (fun a0 a1 a2 a3 a4 => told_box (b := w.heap.size + 1 + 1 + 1) HB0.out (by omega) (by omega) m5 F5 m6 F6 hB R5 N6 a0 a1 a2 a3 a4)
  have f0 := blk_frozen hb2 0
  have f1 := blk_frozen hb2 1
  have f2 := blk_frozen hb2 2
  have f3 := blk_frozen hb2 3
  have f4 := blk_frozen hb2 4
  have q0 := blk_cell hb2 0
  have q1 := blk_cell hb2 1
  have q2 := blk_cell hb2 2
  have q3 := blk_cell hb2 3
  have q4 := blk_cell hb2 4
  clear hb2 hz hu m5 F5 m6 F6 hB R5 N6 HBH K3
  go_wp2_with fail
  refine bodyPost_ret (v := .agg #[.int .i64 u.f0, .string u.f1, .string u.f2, .slice A5 u.f3.length c5, .slice A6 u.f4.length c6]) (by simp [results, Tryd.results9, go_sem, q0, q1, q2, q3, q4]) rfl ?_
  rw [← HU.out]
  exact HTO.out _ _ _ _ _
end Go.Proofs.YtmfjbljdbkmkgaaDoor.Dom
namespace Go.Proofs.YtmfjbljdbkmkgaaDoor.PDom
open Go.RowKit Go.Proofs.YtmfjbljdbkmkgaaDoorW.PrintWords Go.Proofs.YtmfjbljdbkmkgaaDoorW.PrintLast Go.Proofs.YtmfjbljdbkmkgaaDoorW.PrintMore Go.Proofs.YtmfjbljdbkmkgaaDoor.Dom
set_option linter.unusedVariables false
set_option linter.unusedSimpArgs false
/-! ### As the printed walks take it (with one fact more on the world: CV) -/
def impl_SwapTags.f (_k : Nat) (a0_0 : Int) (a0_1 : ByteArray) (a0_2 : ByteArray) (l0_3 : List (S38)) (l0_4 : List (S28)) (l1 l2 : List ByteArray) : Option (Int × ByteArray × ByteArray × List S38 × List S28) :=
  if (okT ⟨a0_0, a0_1, a0_2, l0_3, l0_4⟩ && (solT ⟨a0_0, a0_1, a0_2, l0_3, l0_4⟩ && (decide (countT ⟨a0_0, a0_1, a0_2, l0_3, l0_4⟩ ≤ 1000000) && (decide (l1.length ≤ 4611686018427387904) && decide (l2.length ≤ 4611686018427387904))))) = true then some (let u := swT l1 l2 ⟨a0_0, a0_1, a0_2, l0_3, l0_4⟩; (u.f0, u.f1, u.f2, u.f3, u.f4)) else none
theorem impl_SwapTags.mono : ∀ a0 a1 a2 a3 a4 a5 a6 k, LeO (impl_SwapTags.f k a0 a1 a2 a3 a4 a5 a6) (impl_SwapTags.f (k + 1) a0 a1 a2 a3 a4 a5 a6) := fun _ _ _ _ _ _ _ _ => LeO.refl _
theorem impl_SwapTags.calls (k : Nat) (a0_0 : Int) (a0_1 : ByteArray) (a0_2 : ByteArray) (A0_3 : Option Addr) (c0_3 : Nat) (l0_3 : List (S38)) (A0_4 : Option Addr) (c0_4 : Nat) (l0_4 : List (S28)) (A1 : Option Addr) (c1 : Nat) (l1 : List ByteArray) (A2 : Option Addr) (c2 : Nat) (l2 : List ByteArray) (r1 : Int) (r2 r3 : ByteArray) (r4 : List S38) (r5 : List S28) (w : World)
    (hr0_3 : Kd.C k38 w A0_3 l0_3.length l0_3) (hc0_3 : l0_3.length ≤ c0_3) (hr0_4 : Kd.C k28 w A0_4 l0_4.length l0_4) (hc0_4 : l0_4.length ≤ c0_4) (hr1 : Kd.C Kd.string w A1 l1.length l1) (hc1 : l1.length ≤ c1) (hr2 : Kd.C Kd.string w A2 l2.length l2) (hc2 : l2.length ≤ c2) (h : impl_SwapTags.f k a0_0 a0_1 a0_2 l0_3 l0_4 l1 l2 = some (r1, r2, r3, r4, r5)) (hcv : CV w) :
    Calls Tryd.prog 9 #[.agg #[.int .i64 a0_0, .string a0_1, .string a0_2, .slice A0_3 l0_3.length c0_3, .slice A0_4 l0_4.length c0_4], .slice A1 l1.length c1, .slice A2 l2.length c2] w fun e w' => ∃ v3_ v4_ : Value, e = .returned (.agg #[.int .i64 r1, .string r2, .string r3, v3_, v4_]) ∧ Kd.R k38 38 w' w.heap.size (fun k_ => w.heap.size ≤ k_) v3_ r4 ∧ Kd.N k28 28 w' w.heap.size (fun k_ => w.heap.size ≤ k_ ∧ some k_ ≠ (v3_ : Value).ownBlock) v4_ r5 ∧ Below w.heap.size w w' := by
  unfold impl_SwapTags.f at h
  split at h
  · rename_i hg
    simp only [Bool.and_eq_true, decide_eq_true_eq] at hg
    obtain ⟨h1, h2, h3, h4, h5⟩ := hg
    have hh := Option.some.inj h
    simp only [Prod.mk.injEq] at hh
    obtain ⟨rfl, rfl, rfl, rfl, rfl⟩ := hh
    refine (swap_calls ⟨a0_0, a0_1, a0_2, l0_3, l0_4⟩ h1 h2 h3 l1 l2 h4 h5 w A0_3 c0_3 A0_4 c0_4 A1 c1 A2 c2 hr0_3 hc0_3 hr0_4 hc0_4 hr1 hr2 hcv).mono ?_
    rintro e w' ⟨A5, c5, A6, c6, rfl, m5, F5, m6, F6, hB, R5, N6⟩
    exact ⟨_, _, rfl, R5, N6, hB⟩
  · cases h
end Go.Proofs.YtmfjbljdbkmkgaaDoor.PDom

/- Printed by the program extprint.py of this session, out of the kit's print and contracts of this session's own; Lean checks it. -/
namespace Go.Proofs.YtmfjbljdbkmkgaaDoor.PDom
open Go.RowKit Go.Proofs.YtmfjbljdbkmkgaaDoorW.PrintWords Go.Proofs.YtmfjbljdbkmkgaaDoorW.PrintLast Go.Proofs.YtmfjbljdbkmkgaaDoorW.PrintMore
attribute [local go_sem] max2_int min2_int max_two min_two max_three min_three max_four min_four   -- for this text's walks alone
set_option linter.unusedVariables false
set_option linter.unusedSimpArgs false

theorem eqA38 (d : Nat) (w : World) (x0 y0 : ByteArray) (x1 y1 : ByteArray) :
    (Op.equalIn (d + 2) 38 (.agg #[.string x0, .string x1]) (.agg #[.string y0, .string y1])).run Tryd.prog w = .ok (x0.toList == y0.toList && (x1.toList == y1.toList)) w := by
  refine eqA_of Tryd.underlying38 (by kernel_rfl) ?_
  refine eqf_cons (by rfl) (by go_simp; rfl) (by go_simp; rfl) (by go_simp) ?_
  exact eqf_last (by rfl) (by go_simp; rfl) (by go_simp; rfl) (by go_simp)
end Go.Proofs.YtmfjbljdbkmkgaaDoor.PDom

/- Printed by the program extprint.py of this session, out of the kit's print and contracts of this session's own; Lean checks it. -/
namespace Go.Proofs.YtmfjbljdbkmkgaaDoor.PDom
open Go.RowKit Go.Proofs.YtmfjbljdbkmkgaaDoorW.PrintWords Go.Proofs.YtmfjbljdbkmkgaaDoorW.PrintLast Go.Proofs.YtmfjbljdbkmkgaaDoorW.PrintMore
attribute [local go_sem] max2_int min2_int max_two min_two max_three min_three max_four min_four   -- for this text's walks alone
set_option linter.unusedVariables false
set_option linter.unusedSimpArgs false

attribute [local go_sem high] eqA38

/-! ### spec_SameTree: function 8 -/
mutual
def spec_SameTree.j0 : Nat → Bool → Int → ByteArray → ByteArray → List (S38) → List (S28) → Int → ByteArray → ByteArray → List (S38) → List (S28) → Option (Bool)
  | 0, _, _, _, _, _, _, _, _, _, _, _ => none
  | k + 1, x43, x129000, x129001, x129002, x129003, x129004, x130000, x130001, x130002, x130003, x130004 => if x43 = true then (some false) else (spec_SameTree.l0 k (x129003.length : Int) 0 x129000 x129001 x129002 x129003 x129004 x130000 x130001 x130002 x130003 x130004)
def spec_SameTree.l0 : Nat → Int → Int → Int → ByteArray → ByteArray → List (S38) → List (S28) → Int → ByteArray → ByteArray → List (S38) → List (S28) → Option (Bool)
  | 0, _, _, _, _, _, _, _, _, _, _, _, _ => none
  | k + 1, x46, x47, x129000, x129001, x129002, x129003, x129004, x130000, x130001, x130002, x130003, x130004 => if x47 < x46 then (if 0 ≤ x47 then (if x47 < (x129003.length : Int) then (if x47 < (x130003.length : Int) then (if (!((((rd_T38 x129003 x47).f0).toList) == (((rd_T38 x130003 x47).f0).toList)) || (!((((rd_T38 x129003 x47).f1).toList) == (((rd_T38 x130003 x47).f1).toList)))) = true then (some false) else (spec_SameTree.l0 k x46 (wrap64 (x47 + 1)) x129000 x129001 x129002 x129003 x129004 x130000 x130001 x130002 x130003 x130004)) else (none)) else (none)) else (none)) else (spec_SameTree.l1 k (x129004.length : Int) 0 x129000 x129001 x129002 x129003 x129004 x130000 x130001 x130002 x130003 x130004)
def spec_SameTree.l1 : Nat → Int → Int → Int → ByteArray → ByteArray → List (S38) → List (S28) → Int → ByteArray → ByteArray → List (S38) → List (S28) → Option (Bool)
  | 0, _, _, _, _, _, _, _, _, _, _, _, _ => none
  | k + 1, x64, x65, x129000, x129001, x129002, x129003, x129004, x130000, x130001, x130002, x130003, x130004 => if x65 < x64 then (if 0 ≤ x65 then (if x65 < (x129004.length : Int) then (if x65 < (x130004.length : Int) then ((spec_SameTree.f k ((rd_T28 x129004 x65).f0) ((rd_T28 x129004 x65).f1) ((rd_T28 x129004 x65).f2) ((rd_T28 x129004 x65).f3) ((rd_T28 x129004 x65).f4) ((rd_T28 x130004 x65).f0) ((rd_T28 x130004 x65).f1) ((rd_T28 x130004 x65).f2) ((rd_T28 x130004 x65).f3) ((rd_T28 x130004 x65).f4)).bind fun t134 => (if t134 = true then (spec_SameTree.l1 k x64 (wrap64 (x65 + 1)) x129000 x129001 x129002 x129003 x129004 x130000 x130001 x130002 x130003 x130004) else (some false))) else (none)) else (none)) else (none)) else (some true)
def spec_SameTree.f : Nat → Int → ByteArray → ByteArray → List (S38) → List (S28) → Int → ByteArray → ByteArray → List (S38) → List (S28) → Option (Bool)
  | 0, _, _, _, _, _, _, _, _, _, _ => none
  | k + 1, a0_0, a0_1, a0_2, l0_3, l0_4, a1_0, a1_1, a1_2, l1_3, l1_4 => if a0_0 = a1_0 then (if a0_1.toList = a1_1.toList then (if a0_2.toList = a1_2.toList then (if (l0_3.length : Int) = (l1_3.length : Int) then (spec_SameTree.j0 k ((l0_4.length : Int) != (l1_4.length : Int)) a0_0 a0_1 a0_2 l0_3 l0_4 a1_0 a1_1 a1_2 l1_3 l1_4) else (spec_SameTree.j0 k true a0_0 a0_1 a0_2 l0_3 l0_4 a1_0 a1_1 a1_2 l1_3 l1_4)) else (spec_SameTree.j0 k true a0_0 a0_1 a0_2 l0_3 l0_4 a1_0 a1_1 a1_2 l1_3 l1_4)) else (spec_SameTree.j0 k true a0_0 a0_1 a0_2 l0_3 l0_4 a1_0 a1_1 a1_2 l1_3 l1_4)) else (spec_SameTree.j0 k true a0_0 a0_1 a0_2 l0_3 l0_4 a1_0 a1_1 a1_2 l1_3 l1_4)
end
theorem spec_SameTree.mono_l : ∀ k, (∀ y0 y1 y2 y3 y4 y5 y6 y7 y8 y9, LeO (spec_SameTree.f k y0 y1 y2 y3 y4 y5 y6 y7 y8 y9) (spec_SameTree.f (k + 1) y0 y1 y2 y3 y4 y5 y6 y7 y8 y9)) ∧ (∀ y0 y1 y2 y3 y4 y5 y6 y7 y8 y9 y10, LeO (spec_SameTree.j0 k y0 y1 y2 y3 y4 y5 y6 y7 y8 y9 y10) (spec_SameTree.j0 (k + 1) y0 y1 y2 y3 y4 y5 y6 y7 y8 y9 y10)) ∧ (∀ y0 y1 y2 y3 y4 y5 y6 y7 y8 y9 y10 y11, LeO (spec_SameTree.l0 k y0 y1 y2 y3 y4 y5 y6 y7 y8 y9 y10 y11) (spec_SameTree.l0 (k + 1) y0 y1 y2 y3 y4 y5 y6 y7 y8 y9 y10 y11)) ∧ (∀ y0 y1 y2 y3 y4 y5 y6 y7 y8 y9 y10 y11, LeO (spec_SameTree.l1 k y0 y1 y2 y3 y4 y5 y6 y7 y8 y9 y10 y11) (spec_SameTree.l1 (k + 1) y0 y1 y2 y3 y4 y5 y6 y7 y8 y9 y10 y11))
  | 0 => ⟨fun _ _ _ _ _ _ _ _ _ _ r h => by simp [spec_SameTree.f] at h, fun _ _ _ _ _ _ _ _ _ _ _ r h => by simp [spec_SameTree.j0] at h, fun _ _ _ _ _ _ _ _ _ _ _ _ r h => by simp [spec_SameTree.l0] at h, fun _ _ _ _ _ _ _ _ _ _ _ _ r h => by simp [spec_SameTree.l1] at h⟩
  | k + 1 => by
    obtain ⟨ih0, ih1, ih2, ih3⟩ := spec_SameTree.mono_l k
    refine ⟨?_, ?_, ?_, ?_⟩
    · intro y0 y1 y2 y3 y4 y5 y6 y7 y8 y9
      unfold spec_SameTree.f
      repeat' first
      | (with_reducible exact ih0 _ _ _ _ _ _ _ _ _ _)
      | (with_reducible exact ih1 _ _ _ _ _ _ _ _ _ _ _)
      | (with_reducible exact ih2 _ _ _ _ _ _ _ _ _ _ _ _)
      | (with_reducible exact ih3 _ _ _ _ _ _ _ _ _ _ _ _)
      | (with_reducible exact LeO.refl _)
      | (with_reducible exact LeO.none _)
      | (with_reducible refine LeO.ite ?_ ?_)
      | (with_reducible refine LeO.bind ?_ (fun _ => ?_))
      | exact ih0 _ _ _ _ _ _ _ _ _ _
      | exact ih1 _ _ _ _ _ _ _ _ _ _ _
      | exact ih2 _ _ _ _ _ _ _ _ _ _ _ _
      | exact ih3 _ _ _ _ _ _ _ _ _ _ _ _
      | exact LeO.none _
      | refine LeO.ite ?_ ?_
      | refine LeO.bind ?_ (fun _ => ?_)
    · intro y0 y1 y2 y3 y4 y5 y6 y7 y8 y9 y10
      unfold spec_SameTree.j0
      repeat' first
      | (with_reducible exact ih0 _ _ _ _ _ _ _ _ _ _)
      | (with_reducible exact ih1 _ _ _ _ _ _ _ _ _ _ _)
      | (with_reducible exact ih2 _ _ _ _ _ _ _ _ _ _ _ _)
      | (with_reducible exact ih3 _ _ _ _ _ _ _ _ _ _ _ _)
      | (with_reducible exact LeO.refl _)
      | (with_reducible exact LeO.none _)
      | (with_reducible refine LeO.ite ?_ ?_)
      | (with_reducible refine LeO.bind ?_ (fun _ => ?_))
      | exact ih0 _ _ _ _ _ _ _ _ _ _
      | exact ih1 _ _ _ _ _ _ _ _ _ _ _
      | exact ih2 _ _ _ _ _ _ _ _ _ _ _ _
      | exact ih3 _ _ _ _ _ _ _ _ _ _ _ _
      | exact LeO.none _
      | refine LeO.ite ?_ ?_
      | refine LeO.bind ?_ (fun _ => ?_)
    · intro y0 y1 y2 y3 y4 y5 y6 y7 y8 y9 y10 y11
      unfold spec_SameTree.l0
      repeat' first
      | (with_reducible exact ih0 _ _ _ _ _ _ _ _ _ _)
      | (with_reducible exact ih1 _ _ _ _ _ _ _ _ _ _ _)
      | (with_reducible exact ih2 _ _ _ _ _ _ _ _ _ _ _ _)
      | (with_reducible exact ih3 _ _ _ _ _ _ _ _ _ _ _ _)
      | (with_reducible exact LeO.refl _)
      | (with_reducible exact LeO.none _)
      | (with_reducible refine LeO.ite ?_ ?_)
      | (with_reducible refine LeO.bind ?_ (fun _ => ?_))
      | exact ih0 _ _ _ _ _ _ _ _ _ _
      | exact ih1 _ _ _ _ _ _ _ _ _ _ _
      | exact ih2 _ _ _ _ _ _ _ _ _ _ _ _
      | exact ih3 _ _ _ _ _ _ _ _ _ _ _ _
      | exact LeO.none _
      | refine LeO.ite ?_ ?_
      | refine LeO.bind ?_ (fun _ => ?_)
    · intro y0 y1 y2 y3 y4 y5 y6 y7 y8 y9 y10 y11
      unfold spec_SameTree.l1
      repeat' first
      | (with_reducible exact ih0 _ _ _ _ _ _ _ _ _ _)
      | (with_reducible exact ih1 _ _ _ _ _ _ _ _ _ _ _)
      | (with_reducible exact ih2 _ _ _ _ _ _ _ _ _ _ _ _)
      | (with_reducible exact ih3 _ _ _ _ _ _ _ _ _ _ _ _)
      | (with_reducible exact LeO.refl _)
      | (with_reducible exact LeO.none _)
      | (with_reducible refine LeO.ite ?_ ?_)
      | (with_reducible refine LeO.bind ?_ (fun _ => ?_))
      | exact ih0 _ _ _ _ _ _ _ _ _ _
      | exact ih1 _ _ _ _ _ _ _ _ _ _ _
      | exact ih2 _ _ _ _ _ _ _ _ _ _ _ _
      | exact ih3 _ _ _ _ _ _ _ _ _ _ _ _
      | exact LeO.none _
      | refine LeO.ite ?_ ?_
      | refine LeO.bind ?_ (fun _ => ?_)
theorem spec_SameTree.mono : ∀ a0 a1 a2 a3 a4 a5 a6 a7 a8 a9 k, LeO (spec_SameTree.f k a0 a1 a2 a3 a4 a5 a6 a7 a8 a9) (spec_SameTree.f (k + 1) a0 a1 a2 a3 a4 a5 a6 a7 a8 a9) := by
  intro a0 a1 a2 a3 a4 a5 a6 a7 a8 a9 k
  obtain ⟨ih0, ih1, ih2, ih3⟩ := spec_SameTree.mono_l k
  exact ih0 a0 a1 a2 a3 a4 a5 a6 a7 a8 a9
def spec_SameTree.T6 : Bool × List (List Nat × List Nat) := (true, [([], []), ([0], [0]), ([], []), ([1, 2], [1, 2]), ([3], [3]), ([], []), ([5], [5]), ([], []), ([6, 7], [6, 7]), ([8], [8]), ([4, 9], [4, 9])])
def spec_SameTree.B6 : List Nat := [0, 1, 0, 7, 15, 0, 32, 0, 224, 480, 1023]
theorem spec_SameTree.tab6 : rtab .any (opsOf Tryd.f8 6) = spec_SameTree.T6 := by kernel_rfl
theorem spec_SameTree.bits6 : waitsOk spec_SameTree.T6.2 spec_SameTree.B6 = true := by kernel_rfl
def spec_SameTree.T12 : Bool × List (List Nat × List Nat) := (true, [([], []), ([0], [0]), ([], []), ([1, 2], [1, 2]), ([3], [3]), ([], []), ([5], [5]), ([], []), ([6, 7], [6, 7]), ([8], [8]), ([4, 9], [4, 9]), ([10], [10])])
def spec_SameTree.B12 : List Nat := [0, 1, 0, 7, 15, 0, 32, 0, 224, 480, 1023, 2047]
theorem spec_SameTree.tab12 : rtab .any (opsOf Tryd.f8 12) = spec_SameTree.T12 := by kernel_rfl
theorem spec_SameTree.bits12 : waitsOk spec_SameTree.T12.2 spec_SameTree.B12 = true := by kernel_rfl
set_option maxHeartbeats 8000000 in
set_option maxRecDepth 100000 in
theorem spec_SameTree.calls (k : Nat) : ∀ (a0_0 : Int) (a0_1 : ByteArray) (a0_2 : ByteArray) (A0_3 : Option Addr) (c0_3 : Nat) (l0_3 : List (S38)) (A0_4 : Option Addr) (c0_4 : Nat) (l0_4 : List (S28)) (a1_0 : Int) (a1_1 : ByteArray) (a1_2 : ByteArray) (A1_3 : Option Addr) (c1_3 : Nat) (l1_3 : List (S38)) (A1_4 : Option Addr) (c1_4 : Nat) (l1_4 : List (S28)) (r : Bool) (w : World) (hr0_3 : Kd.C k38 w A0_3 l0_3.length l0_3) (hc0_3 : l0_3.length ≤ c0_3) (hr0_4 : Kd.C k28 w A0_4 l0_4.length l0_4) (hc0_4 : l0_4.length ≤ c0_4) (hr1_3 : Kd.C k38 w A1_3 l1_3.length l1_3) (hc1_3 : l1_3.length ≤ c1_3) (hr1_4 : Kd.C k28 w A1_4 l1_4.length l1_4) (hc1_4 : l1_4.length ≤ c1_4) (h : spec_SameTree.f k a0_0 a0_1 a0_2 l0_3 l0_4 a1_0 a1_1 a1_2 l1_3 l1_4 = some r),
    Calls Tryd.prog 8 #[.agg #[.int .i64 a0_0, .string a0_1, .string a0_2, .slice A0_3 l0_3.length c0_3, .slice A0_4 l0_4.length c0_4], .agg #[.int .i64 a1_0, .string a1_1, .string a1_2, .slice A1_3 l1_3.length c1_3, .slice A1_4 l1_4.length c1_4]] w fun e w' => e = .returned (.bool r) ∧ Below w.heap.size w w' := by
  induction k using Nat.strongRecOn with
  | _ k ih =>
  intro a0_0 a0_1 a0_2 A0_3 c0_3 l0_3 A0_4 c0_4 l0_4 a1_0 a1_1 a1_2 A1_3 c1_3 l1_3 A1_4 c1_4 l1_4 r w hr0_3 hc0_3 hr0_4 hc0_4 hr1_3 hc1_3 hr1_4 hc1_4 h
  cases k with
  | zero => exact absurd h (by simp [spec_SameTree.f])
  | succ k =>
  simp only [spec_SameTree.f] at h
  have hu28 := Tryd.underlying28
  have hu38 := Tryd.underlying38
  have HR0_3 := Aside0.mk hr0_3
  have HC0_3 := Aside0.mk hc0_3
  clear hr0_3 hc0_3
  have HR0_4 := Aside0.mk hr0_4
  have HC0_4 := Aside0.mk hc0_4
  clear hr0_4 hc0_4
  have HR1_3 := Aside0.mk hr1_3
  have HC1_3 := Aside0.mk hc1_3
  clear hr1_3 hc1_3
  have HR1_4 := Aside0.mk hr1_4
  have HC1_4 := Aside0.mk hc1_4
  clear hr1_4 hc1_4
  have HB := Aside0.mk (Below.refl w.heap.size w)
  have H : (if a0_0 = a1_0 then (if a0_1.toList = a1_1.toList then (if a0_2.toList = a1_2.toList then (if (l0_3.length : Int) = (l1_3.length : Int) then (spec_SameTree.j0 k ((l0_4.length : Int) != (l1_4.length : Int)) a0_0 a0_1 a0_2 l0_3 l0_4 a1_0 a1_1 a1_2 l1_3 l1_4) else (spec_SameTree.j0 k true a0_0 a0_1 a0_2 l0_3 l0_4 a1_0 a1_1 a1_2 l1_3 l1_4)) else (spec_SameTree.j0 k true a0_0 a0_1 a0_2 l0_3 l0_4 a1_0 a1_1 a1_2 l1_3 l1_4)) else (spec_SameTree.j0 k true a0_0 a0_1 a0_2 l0_3 l0_4 a1_0 a1_1 a1_2 l1_3 l1_4)) else (spec_SameTree.j0 k true a0_0 a0_1 a0_2 l0_3 l0_4 a1_0 a1_1 a1_2 l1_3 l1_4)) = some r := h
  clear h
  have HC3 := Aside0.mk H
  clear H
  go_enter Tryd.func8, Tryd.ntmps8
  go_upto_region 1 with (first | ((with_reducible refine gate_dst (N := 2) rfl ?_); (try (refine gate_guard (by rfl) ?_; dsimp only)); refine box_event ?hg (N := 2) ?hd (cs := #[.int .i64 a0_0, .string a0_1, .string a0_2, .slice A0_3 l0_3.length c0_3, .slice A0_4 l0_4.length c0_4]) (t := 28) ?hr ?_; (case hd => rfl); (case hg => rfl); (case hr => first | (go_simp; done) | (go_simp; rfl)); intro gb128 hg w4 hbox hb; have n0_ := Aside0.mk (below_step (by repeat (first | (with_reducible first | exact HB.out | apply below_alloc | apply pw_below_drewN | apply below_drew1) | exact HB.out)) hb); have n1_ := Aside0.mk (hbox); have n2_ := Aside0.mk ((by rw [hg]; exact (below_size (by repeat (first | (with_reducible first | exact HB.out | apply below_alloc | apply pw_below_drewN | apply below_drew1) | exact HB.out))) : w.heap.size ≤ gb128)); have n3_ := Aside0.mk ((by rw [hg]; exact (below_size (by repeat (first | (with_reducible first | exact HB.out | apply below_alloc | apply pw_below_drewN | apply below_drew1) | exact HB.out))) : w.heap.size ≤ gb128)); clear HB; have HB := n0_; have BK128 := n1_; have GW128 := n2_; have GE128 := n3_; clear n0_ n1_ n2_ n3_; clear hb hbox hg) | ((with_reducible refine gate_dst (N := 3) rfl ?_); (try (refine gate_guard (by rfl) ?_; dsimp only)); refine box_event ?hg (N := 3) ?hd (cs := #[.int .i64 a1_0, .string a1_1, .string a1_2, .slice A1_3 l1_3.length c1_3, .slice A1_4 l1_4.length c1_4]) (t := 28) ?hr ?_; (case hd => rfl); (case hg => rfl); (case hr => first | (go_simp; done) | (go_simp; rfl)); intro gb129 hg w5 hbox hb; have n0_ := Aside0.mk (blk_below (g := gb128) (o := .cells #[.int .i64 a0_0, .string a0_1, .string a0_2, .slice A0_3 l0_3.length c0_3, .slice A0_4 l0_4.length c0_4] 28 (0, 0)) (by (with_reducible repeat (first | refine blk_drewN ?_ _ | refine blk_drew ?_ | refine blk_alloc ?_ _)); exact BK128.out) hb); have n1_ := Aside0.mk (below_step (by repeat (first | (with_reducible first | exact HB.out | apply below_alloc | apply pw_below_drewN | apply below_drew1 | refine below_set ?_ GE128.out) | exact HB.out)) hb); have n2_ := Aside0.mk (hbox); have n3_ := Aside0.mk ((by rw [hg]; exact (below_size (by repeat (first | (with_reducible first | exact HB.out | apply below_alloc | apply pw_below_drewN | apply below_drew1 | refine below_set ?_ GE128.out) | exact HB.out))) : w.heap.size ≤ gb129)); have n4_ := Aside0.mk ((by rw [hg]; exact (below_size (by repeat (first | (with_reducible first | exact HB.out | apply below_alloc | apply pw_below_drewN | apply below_drew1 | refine below_set ?_ GE128.out) | exact HB.out))) : w.heap.size ≤ gb129)); have n5_ := Aside0.mk ((by rw [hg]; exact Nat.ne_of_lt (blk_lt (g := gb128) (o := .cells #[.int .i64 a0_0, .string a0_1, .string a0_2, .slice A0_3 l0_3.length c0_3, .slice A0_4 l0_4.length c0_4] 28 (0, 0)) (by (with_reducible repeat (first | refine blk_drewN ?_ _ | refine blk_drew ?_ | refine blk_alloc ?_ _)); exact BK128.out)) : gb128 ≠ gb129)); have n6_ := Aside0.mk ((by rw [hg]; exact Nat.ne_of_gt (blk_lt (g := gb128) (o := .cells #[.int .i64 a0_0, .string a0_1, .string a0_2, .slice A0_3 l0_3.length c0_3, .slice A0_4 l0_4.length c0_4] 28 (0, 0)) (by (with_reducible repeat (first | refine blk_drewN ?_ _ | refine blk_drew ?_ | refine blk_alloc ?_ _)); exact BK128.out)) : gb129 ≠ gb128)); clear BK128; clear HB; have BK128 := n0_; have HB := n1_; have BK129 := n2_; have GW129 := n3_; have GE129 := n4_; have NB128_129 := n5_; have NB129_128 := n6_; clear n0_ n1_ n2_ n3_ n4_ n5_ n6_; clear hb hbox hg))
  (try simp only [Act.put, List.setIfInBounds_toArray, List.set_cons_zero, List.set_cons_succ])
  go_cut [43] (fun v43 wc => ∃ (kq : Nat) (x43_2 : Bool), v43 = .bool x43_2 ∧ Aside0 (spec_SameTree.j0 kq x43_2 a0_0 a0_1 a0_2 l0_3 l0_4 a1_0 a1_1 a1_2 l1_3 l1_4 = some r) ∧ Aside0 (kq ≤ k) ∧ Aside0 (wc.heap[gb128]? = some (.cells #[.int .i64 a0_0, .string a0_1, .string a0_2, (.slice A0_3 l0_3.length c0_3), (.slice A0_4 l0_4.length c0_4)] 28 (0, 0))) ∧ Aside0 (wc.heap[gb129]? = some (.cells #[.int .i64 a1_0, .string a1_1, .string a1_2, (.slice A1_3 l1_3.length c1_3), (.slice A1_4 l1_4.length c1_4)] 28 (0, 0))) ∧ Aside0 (Below w.heap.size w wc))
  case first =>
    have H := HC3.out
    clear HC3
    by_cases c6 : a0_0 = a1_0
    · rw [if_pos c6] at H
      have c6b0 : (a0_0 == a1_0) = true := beq_iff_eq.mpr c6
      have c6b1 : (a0_0 != a1_0) = false := bne_eq_false_iff_eq.mpr c6
      clear c6
      (first | rw [c6b0] | (simp only [i64_w, i32_w]; rw [c6b0]) | skip)
      by_cases c7 : a0_1.toList = a1_1.toList
      · rw [if_pos c7] at H
        have c7b0 : (a0_1.toList == a1_1.toList) = true := beq_iff_eq.mpr c7
        have c7b1 : (a0_1.toList != a1_1.toList) = false := bne_eq_false_iff_eq.mpr c7
        clear c7
        by_cases c8 : a0_2.toList = a1_2.toList
        · rw [if_pos c8] at H
          have c8b0 : (a0_2.toList == a1_2.toList) = true := beq_iff_eq.mpr c8
          have c8b1 : (a0_2.toList != a1_2.toList) = false := bne_eq_false_iff_eq.mpr c8
          clear c8
          by_cases c9 : (l0_3.length : Int) = (l1_3.length : Int)
          · rw [if_pos c9] at H
            have c9b0 : ((l0_3.length : Int) == (l1_3.length : Int)) = true := beq_iff_eq.mpr c9
            have c9b1 : ((l0_3.length : Int) != (l1_3.length : Int)) = false := bne_eq_false_iff_eq.mpr c9
            have c9b2 : (l0_3.length == l1_3.length) = true := by first | simpa using c9 | (simp at c9 ⊢; omega)
            clear c9
            have H' := Aside0.mk H
            clear H
            have hnb10 := NB128_129.out
            have hnc10 := NB129_128.out
            have hcz11_0 : w5.cell? ⟨gb128, 0, none⟩ = some (.int .i64 a0_0) := (blk_cell BK128.out 0).trans rfl
            have hcz11_1 : w5.cell? ⟨gb128, 1, none⟩ = some (.string a0_1) := (blk_cell BK128.out 1).trans rfl
            have hcz11_2 : w5.cell? ⟨gb128, 2, none⟩ = some (.string a0_2) := (blk_cell BK128.out 2).trans rfl
            have hcz11_3 : w5.cell? ⟨gb128, 3, none⟩ = some (.slice A0_3 l0_3.length c0_3) := (blk_cell BK128.out 3).trans rfl
            have hcz11_4 : w5.cell? ⟨gb128, 4, none⟩ = some (.slice A0_4 l0_4.length c0_4) := (blk_cell BK128.out 4).trans rfl
            have hfz11_0 := blk_frozen BK128.out 0
            have hfz11_1 := blk_frozen BK128.out 1
            have hfz11_2 := blk_frozen BK128.out 2
            have hfz11_3 := blk_frozen BK128.out 3
            have hfz11_4 := blk_frozen BK128.out 4
            have hcz12_0 : w5.cell? ⟨gb129, 0, none⟩ = some (.int .i64 a1_0) := (blk_cell BK129.out 0).trans rfl
            have hcz12_1 : w5.cell? ⟨gb129, 1, none⟩ = some (.string a1_1) := (blk_cell BK129.out 1).trans rfl
            have hcz12_2 : w5.cell? ⟨gb129, 2, none⟩ = some (.string a1_2) := (blk_cell BK129.out 2).trans rfl
            have hcz12_3 : w5.cell? ⟨gb129, 3, none⟩ = some (.slice A1_3 l1_3.length c1_3) := (blk_cell BK129.out 3).trans rfl
            have hcz12_4 : w5.cell? ⟨gb129, 4, none⟩ = some (.slice A1_4 l1_4.length c1_4) := (blk_cell BK129.out 4).trans rfl
            have hfz12_0 := blk_frozen BK129.out 0
            have hfz12_1 := blk_frozen BK129.out 1
            have hfz12_2 := blk_frozen BK129.out 2
            have hfz12_3 := blk_frozen BK129.out 3
            have hfz12_4 := blk_frozen BK129.out 4
            go_wp2
            go_meet
            case rel => exact ⟨_, (((l0_4.length : Int) != (l1_4.length : Int))), (by first | rfl | (simp; done) | (simp [*]; done)), H', ⟨by first | omega | exact Nat.le_refl _⟩, ⟨by (with_reducible repeat (first | refine blk_drewN ?_ _ | refine blk_drew ?_ | refine blk_alloc ?_ _)); exact BK128.out⟩, ⟨by (with_reducible repeat (first | refine blk_drewN ?_ _ | refine blk_drew ?_ | refine blk_alloc ?_ _)); exact BK129.out⟩, ⟨by repeat (first | (with_reducible first | exact HB.out | apply below_alloc | apply pw_below_drewN | apply below_drew1 | refine below_set ?_ GE128.out | refine below_set ?_ GE129.out) | exact HB.out)⟩⟩
          · rw [if_neg c9] at H
            have c9b0 : ((l0_3.length : Int) == (l1_3.length : Int)) = false := beq_eq_false_iff_ne.mpr c9
            have c9b1 : ((l0_3.length : Int) != (l1_3.length : Int)) = true := bne_iff_ne.mpr c9
            have c9b2 : (l0_3.length == l1_3.length) = false := by first | simpa using c9 | (simp at c9 ⊢; omega)
            have H' := Aside0.mk H
            clear H
            have hnb13 := NB128_129.out
            have hnc13 := NB129_128.out
            have hcz14_0 : w5.cell? ⟨gb128, 0, none⟩ = some (.int .i64 a0_0) := (blk_cell BK128.out 0).trans rfl
            have hcz14_1 : w5.cell? ⟨gb128, 1, none⟩ = some (.string a0_1) := (blk_cell BK128.out 1).trans rfl
            have hcz14_2 : w5.cell? ⟨gb128, 2, none⟩ = some (.string a0_2) := (blk_cell BK128.out 2).trans rfl
            have hcz14_3 : w5.cell? ⟨gb128, 3, none⟩ = some (.slice A0_3 l0_3.length c0_3) := (blk_cell BK128.out 3).trans rfl
            have hcz14_4 : w5.cell? ⟨gb128, 4, none⟩ = some (.slice A0_4 l0_4.length c0_4) := (blk_cell BK128.out 4).trans rfl
            have hfz14_0 := blk_frozen BK128.out 0
            have hfz14_1 := blk_frozen BK128.out 1
            have hfz14_2 := blk_frozen BK128.out 2
            have hfz14_3 := blk_frozen BK128.out 3
            have hfz14_4 := blk_frozen BK128.out 4
            have hcz15_0 : w5.cell? ⟨gb129, 0, none⟩ = some (.int .i64 a1_0) := (blk_cell BK129.out 0).trans rfl
            have hcz15_1 : w5.cell? ⟨gb129, 1, none⟩ = some (.string a1_1) := (blk_cell BK129.out 1).trans rfl
            have hcz15_2 : w5.cell? ⟨gb129, 2, none⟩ = some (.string a1_2) := (blk_cell BK129.out 2).trans rfl
            have hcz15_3 : w5.cell? ⟨gb129, 3, none⟩ = some (.slice A1_3 l1_3.length c1_3) := (blk_cell BK129.out 3).trans rfl
            have hcz15_4 : w5.cell? ⟨gb129, 4, none⟩ = some (.slice A1_4 l1_4.length c1_4) := (blk_cell BK129.out 4).trans rfl
            have hfz15_0 := blk_frozen BK129.out 0
            have hfz15_1 := blk_frozen BK129.out 1
            have hfz15_2 := blk_frozen BK129.out 2
            have hfz15_3 := blk_frozen BK129.out 3
            have hfz15_4 := blk_frozen BK129.out 4
            go_wp2
            go_meet
            case rel => exact ⟨_, (true), (by first | rfl | (simp; done) | (simp [*]; done)), H', ⟨by first | omega | exact Nat.le_refl _⟩, ⟨by (with_reducible repeat (first | refine blk_drewN ?_ _ | refine blk_drew ?_ | refine blk_alloc ?_ _)); exact BK128.out⟩, ⟨by (with_reducible repeat (first | refine blk_drewN ?_ _ | refine blk_drew ?_ | refine blk_alloc ?_ _)); exact BK129.out⟩, ⟨by repeat (first | (with_reducible first | exact HB.out | apply below_alloc | apply pw_below_drewN | apply below_drew1 | refine below_set ?_ GE128.out | refine below_set ?_ GE129.out) | exact HB.out)⟩⟩
        · rw [if_neg c8] at H
          have c8b0 : (a0_2.toList == a1_2.toList) = false := beq_eq_false_iff_ne.mpr c8
          have c8b1 : (a0_2.toList != a1_2.toList) = true := bne_iff_ne.mpr c8
          have H' := Aside0.mk H
          clear H
          have hnb16 := NB128_129.out
          have hnc16 := NB129_128.out
          have hcz17_0 : w5.cell? ⟨gb128, 0, none⟩ = some (.int .i64 a0_0) := (blk_cell BK128.out 0).trans rfl
          have hcz17_1 : w5.cell? ⟨gb128, 1, none⟩ = some (.string a0_1) := (blk_cell BK128.out 1).trans rfl
          have hcz17_2 : w5.cell? ⟨gb128, 2, none⟩ = some (.string a0_2) := (blk_cell BK128.out 2).trans rfl
          have hcz17_3 : w5.cell? ⟨gb128, 3, none⟩ = some (.slice A0_3 l0_3.length c0_3) := (blk_cell BK128.out 3).trans rfl
          have hcz17_4 : w5.cell? ⟨gb128, 4, none⟩ = some (.slice A0_4 l0_4.length c0_4) := (blk_cell BK128.out 4).trans rfl
          have hfz17_0 := blk_frozen BK128.out 0
          have hfz17_1 := blk_frozen BK128.out 1
          have hfz17_2 := blk_frozen BK128.out 2
          have hfz17_3 := blk_frozen BK128.out 3
          have hfz17_4 := blk_frozen BK128.out 4
          have hcz18_0 : w5.cell? ⟨gb129, 0, none⟩ = some (.int .i64 a1_0) := (blk_cell BK129.out 0).trans rfl
          have hcz18_1 : w5.cell? ⟨gb129, 1, none⟩ = some (.string a1_1) := (blk_cell BK129.out 1).trans rfl
          have hcz18_2 : w5.cell? ⟨gb129, 2, none⟩ = some (.string a1_2) := (blk_cell BK129.out 2).trans rfl
          have hcz18_3 : w5.cell? ⟨gb129, 3, none⟩ = some (.slice A1_3 l1_3.length c1_3) := (blk_cell BK129.out 3).trans rfl
          have hcz18_4 : w5.cell? ⟨gb129, 4, none⟩ = some (.slice A1_4 l1_4.length c1_4) := (blk_cell BK129.out 4).trans rfl
          have hfz18_0 := blk_frozen BK129.out 0
          have hfz18_1 := blk_frozen BK129.out 1
          have hfz18_2 := blk_frozen BK129.out 2
          have hfz18_3 := blk_frozen BK129.out 3
          have hfz18_4 := blk_frozen BK129.out 4
          go_wp2
          go_meet
          case rel => exact ⟨_, (true), (by first | rfl | (simp; done) | (simp [*]; done)), H', ⟨by first | omega | exact Nat.le_refl _⟩, ⟨by (with_reducible repeat (first | refine blk_drewN ?_ _ | refine blk_drew ?_ | refine blk_alloc ?_ _)); exact BK128.out⟩, ⟨by (with_reducible repeat (first | refine blk_drewN ?_ _ | refine blk_drew ?_ | refine blk_alloc ?_ _)); exact BK129.out⟩, ⟨by repeat (first | (with_reducible first | exact HB.out | apply below_alloc | apply pw_below_drewN | apply below_drew1 | refine below_set ?_ GE128.out | refine below_set ?_ GE129.out) | exact HB.out)⟩⟩
      · rw [if_neg c7] at H
        have c7b0 : (a0_1.toList == a1_1.toList) = false := beq_eq_false_iff_ne.mpr c7
        have c7b1 : (a0_1.toList != a1_1.toList) = true := bne_iff_ne.mpr c7
        have H' := Aside0.mk H
        clear H
        have hnb19 := NB128_129.out
        have hnc19 := NB129_128.out
        have hcz20_0 : w5.cell? ⟨gb128, 0, none⟩ = some (.int .i64 a0_0) := (blk_cell BK128.out 0).trans rfl
        have hcz20_1 : w5.cell? ⟨gb128, 1, none⟩ = some (.string a0_1) := (blk_cell BK128.out 1).trans rfl
        have hcz20_2 : w5.cell? ⟨gb128, 2, none⟩ = some (.string a0_2) := (blk_cell BK128.out 2).trans rfl
        have hcz20_3 : w5.cell? ⟨gb128, 3, none⟩ = some (.slice A0_3 l0_3.length c0_3) := (blk_cell BK128.out 3).trans rfl
        have hcz20_4 : w5.cell? ⟨gb128, 4, none⟩ = some (.slice A0_4 l0_4.length c0_4) := (blk_cell BK128.out 4).trans rfl
        have hfz20_0 := blk_frozen BK128.out 0
        have hfz20_1 := blk_frozen BK128.out 1
        have hfz20_2 := blk_frozen BK128.out 2
        have hfz20_3 := blk_frozen BK128.out 3
        have hfz20_4 := blk_frozen BK128.out 4
        have hcz21_0 : w5.cell? ⟨gb129, 0, none⟩ = some (.int .i64 a1_0) := (blk_cell BK129.out 0).trans rfl
        have hcz21_1 : w5.cell? ⟨gb129, 1, none⟩ = some (.string a1_1) := (blk_cell BK129.out 1).trans rfl
        have hcz21_2 : w5.cell? ⟨gb129, 2, none⟩ = some (.string a1_2) := (blk_cell BK129.out 2).trans rfl
        have hcz21_3 : w5.cell? ⟨gb129, 3, none⟩ = some (.slice A1_3 l1_3.length c1_3) := (blk_cell BK129.out 3).trans rfl
        have hcz21_4 : w5.cell? ⟨gb129, 4, none⟩ = some (.slice A1_4 l1_4.length c1_4) := (blk_cell BK129.out 4).trans rfl
        have hfz21_0 := blk_frozen BK129.out 0
        have hfz21_1 := blk_frozen BK129.out 1
        have hfz21_2 := blk_frozen BK129.out 2
        have hfz21_3 := blk_frozen BK129.out 3
        have hfz21_4 := blk_frozen BK129.out 4
        go_wp2
        go_meet
        case rel => exact ⟨_, (true), (by first | rfl | (simp; done) | (simp [*]; done)), H', ⟨by first | omega | exact Nat.le_refl _⟩, ⟨by (with_reducible repeat (first | refine blk_drewN ?_ _ | refine blk_drew ?_ | refine blk_alloc ?_ _)); exact BK128.out⟩, ⟨by (with_reducible repeat (first | refine blk_drewN ?_ _ | refine blk_drew ?_ | refine blk_alloc ?_ _)); exact BK129.out⟩, ⟨by repeat (first | (with_reducible first | exact HB.out | apply below_alloc | apply pw_below_drewN | apply below_drew1 | refine below_set ?_ GE128.out | refine below_set ?_ GE129.out) | exact HB.out)⟩⟩
    · rw [if_neg c6] at H
      have c6b0 : (a0_0 == a1_0) = false := beq_eq_false_iff_ne.mpr c6
      have c6b1 : (a0_0 != a1_0) = true := bne_iff_ne.mpr c6
      (first | rw [c6b0] | (simp only [i64_w, i32_w]; rw [c6b0]) | skip)
      have H' := Aside0.mk H
      clear H
      have hnb22 := NB128_129.out
      have hnc22 := NB129_128.out
      have hcz23_0 : w5.cell? ⟨gb128, 0, none⟩ = some (.int .i64 a0_0) := (blk_cell BK128.out 0).trans rfl
      have hcz23_1 : w5.cell? ⟨gb128, 1, none⟩ = some (.string a0_1) := (blk_cell BK128.out 1).trans rfl
      have hcz23_2 : w5.cell? ⟨gb128, 2, none⟩ = some (.string a0_2) := (blk_cell BK128.out 2).trans rfl
      have hcz23_3 : w5.cell? ⟨gb128, 3, none⟩ = some (.slice A0_3 l0_3.length c0_3) := (blk_cell BK128.out 3).trans rfl
      have hcz23_4 : w5.cell? ⟨gb128, 4, none⟩ = some (.slice A0_4 l0_4.length c0_4) := (blk_cell BK128.out 4).trans rfl
      have hfz23_0 := blk_frozen BK128.out 0
      have hfz23_1 := blk_frozen BK128.out 1
      have hfz23_2 := blk_frozen BK128.out 2
      have hfz23_3 := blk_frozen BK128.out 3
      have hfz23_4 := blk_frozen BK128.out 4
      have hcz24_0 : w5.cell? ⟨gb129, 0, none⟩ = some (.int .i64 a1_0) := (blk_cell BK129.out 0).trans rfl
      have hcz24_1 : w5.cell? ⟨gb129, 1, none⟩ = some (.string a1_1) := (blk_cell BK129.out 1).trans rfl
      have hcz24_2 : w5.cell? ⟨gb129, 2, none⟩ = some (.string a1_2) := (blk_cell BK129.out 2).trans rfl
      have hcz24_3 : w5.cell? ⟨gb129, 3, none⟩ = some (.slice A1_3 l1_3.length c1_3) := (blk_cell BK129.out 3).trans rfl
      have hcz24_4 : w5.cell? ⟨gb129, 4, none⟩ = some (.slice A1_4 l1_4.length c1_4) := (blk_cell BK129.out 4).trans rfl
      have hfz24_0 := blk_frozen BK129.out 0
      have hfz24_1 := blk_frozen BK129.out 1
      have hfz24_2 := blk_frozen BK129.out 2
      have hfz24_3 := blk_frozen BK129.out 3
      have hfz24_4 := blk_frozen BK129.out 4
      go_wp2
      go_meet
      case rel => exact ⟨_, (true), (by first | rfl | (simp; done) | (simp [*]; done)), H', ⟨by first | omega | exact Nat.le_refl _⟩, ⟨by (with_reducible repeat (first | refine blk_drewN ?_ _ | refine blk_drew ?_ | refine blk_alloc ?_ _)); exact BK128.out⟩, ⟨by (with_reducible repeat (first | refine blk_drewN ?_ _ | refine blk_drew ?_ | refine blk_alloc ?_ _)); exact BK129.out⟩, ⟨by repeat (first | (with_reducible first | exact HB.out | apply below_alloc | apply pw_below_drewN | apply below_drew1 | refine below_set ?_ GE128.out | refine below_set ?_ GE129.out) | exact HB.out)⟩⟩
  case rest =>
    clear HC3
    try clear c1
    try clear c2
    try clear p2
    try clear c6
    try clear c6b0
    try clear c6b1
    try clear c7
    try clear c7b0
    try clear c7b1
    try clear c8
    try clear c8b0
    try clear c8b1
    try clear c9
    try clear c9b0
    try clear c9b1
    try clear c9b2
    try clear c10
    try clear c13
    try clear c16
    try clear c19
    try clear c22
    try clear hcz11_0
    try clear hcz11_1
    try clear hcz11_2
    try clear hcz11_3
    try clear hcz11_4
    try clear hcz12_0
    try clear hcz12_1
    try clear hcz12_2
    try clear hcz12_3
    try clear hcz12_4
    try clear hcz14_0
    try clear hcz14_1
    try clear hcz14_2
    try clear hcz14_3
    try clear hcz14_4
    try clear hcz15_0
    try clear hcz15_1
    try clear hcz15_2
    try clear hcz15_3
    try clear hcz15_4
    try clear hcz17_0
    try clear hcz17_1
    try clear hcz17_2
    try clear hcz17_3
    try clear hcz17_4
    try clear hcz18_0
    try clear hcz18_1
    try clear hcz18_2
    try clear hcz18_3
    try clear hcz18_4
    try clear hcz20_0
    try clear hcz20_1
    try clear hcz20_2
    try clear hcz20_3
    try clear hcz20_4
    try clear hcz21_0
    try clear hcz21_1
    try clear hcz21_2
    try clear hcz21_3
    try clear hcz21_4
    try clear hcz23_0
    try clear hcz23_1
    try clear hcz23_2
    try clear hcz23_3
    try clear hcz23_4
    try clear hcz24_0
    try clear hcz24_1
    try clear hcz24_2
    try clear hcz24_3
    try clear hcz24_4
    try clear hfz11_0
    try clear hfz11_1
    try clear hfz11_2
    try clear hfz11_3
    try clear hfz11_4
    try clear hfz12_0
    try clear hfz12_1
    try clear hfz12_2
    try clear hfz12_3
    try clear hfz12_4
    try clear hfz14_0
    try clear hfz14_1
    try clear hfz14_2
    try clear hfz14_3
    try clear hfz14_4
    try clear hfz15_0
    try clear hfz15_1
    try clear hfz15_2
    try clear hfz15_3
    try clear hfz15_4
    try clear hfz17_0
    try clear hfz17_1
    try clear hfz17_2
    try clear hfz17_3
    try clear hfz17_4
    try clear hfz18_0
    try clear hfz18_1
    try clear hfz18_2
    try clear hfz18_3
    try clear hfz18_4
    try clear hfz20_0
    try clear hfz20_1
    try clear hfz20_2
    try clear hfz20_3
    try clear hfz20_4
    try clear hfz21_0
    try clear hfz21_1
    try clear hfz21_2
    try clear hfz21_3
    try clear hfz21_4
    try clear hfz23_0
    try clear hfz23_1
    try clear hfz23_2
    try clear hfz23_3
    try clear hfz23_4
    try clear hfz24_0
    try clear hfz24_1
    try clear hfz24_2
    try clear hfz24_3
    try clear hfz24_4
    obtain ⟨kq, x43_2, rfl, HA, HJ2, BK128, BK129, HB⟩ := hcut
    cases kq with
    | zero => exact absurd HA.out (by simp [spec_SameTree.j0])
    | succ kj2 =>
      have H := HA.out
      clear HA
      simp only [spec_SameTree.j0] at H
      by_cases c25 : x43_2 = true
      · subst c25
        have H1 : (some false) = some r := by rw [if_pos rfl] at H; exact H
        clear H
        have H := H1
        clear H1
        obtain rfl := Option.some.inj H
        go_wp2
        go_ret
        exact ⟨by first | rfl | (simp [errW_none, errW_some] <;> rfl) | (simp [*, errW_none, errW_some] <;> rfl), by repeat (first | (with_reducible first | exact HB.out | apply below_alloc | apply pw_below_drewN | apply below_drew1 | refine below_set ?_ GE128.out | refine below_set ?_ GE129.out) | exact HB.out)⟩
      · replace c25 := Bool.eq_false_iff.mpr c25
        subst c25
        have H1 : (spec_SameTree.l0 kj2 (l0_3.length : Int) 0 a0_0 a0_1 a0_2 l0_3 l0_4 a1_0 a1_1 a1_2 l1_3 l1_4) = some r := by rw [if_neg (show ¬ (false = true) by decide)] at H; exact H
        clear H
        have H := H1
        clear H1
        have H' := Aside0.mk H
        clear H
        have hnb26 := NB128_129.out
        have hnc26 := NB129_128.out
        have hcz27_0 : wc.cell? ⟨gb128, 0, none⟩ = some (.int .i64 a0_0) := (blk_cell BK128.out 0).trans rfl
        have hcz27_1 : wc.cell? ⟨gb128, 1, none⟩ = some (.string a0_1) := (blk_cell BK128.out 1).trans rfl
        have hcz27_2 : wc.cell? ⟨gb128, 2, none⟩ = some (.string a0_2) := (blk_cell BK128.out 2).trans rfl
        have hcz27_3 : wc.cell? ⟨gb128, 3, none⟩ = some (.slice A0_3 l0_3.length c0_3) := (blk_cell BK128.out 3).trans rfl
        have hcz27_4 : wc.cell? ⟨gb128, 4, none⟩ = some (.slice A0_4 l0_4.length c0_4) := (blk_cell BK128.out 4).trans rfl
        have hfz27_0 := blk_frozen BK128.out 0
        have hfz27_1 := blk_frozen BK128.out 1
        have hfz27_2 := blk_frozen BK128.out 2
        have hfz27_3 := blk_frozen BK128.out 3
        have hfz27_4 := blk_frozen BK128.out 4
        go_wp2
        go_loopg [47] kj2 (fun kq v47 w' => ∃ (x47_2 : Int), v47 = .int .i64 x47_2 ∧ Aside0 (spec_SameTree.l0 kq (l0_3.length : Int) x47_2 a0_0 a0_1 a0_2 l0_3 l0_4 a1_0 a1_1 a1_2 l1_3 l1_4 = some r) ∧ Aside0 (kq ≤ kj2) ∧ Aside0 (w'.heap[gb128]? = some (.cells #[.int .i64 a0_0, .string a0_1, .string a0_2, (.slice A0_3 l0_3.length c0_3), (.slice A0_4 l0_4.length c0_4)] 28 (0, 0))) ∧ Aside0 (w'.heap[gb129]? = some (.cells #[.int .i64 a1_0, .string a1_1, .string a1_2, (.slice A1_3 l1_3.length c1_3), (.slice A1_4 l1_4.length c1_4)] 28 (0, 0))) ∧ Aside0 (Below w.heap.size w w'))
        case atStart => exact ⟨(0), (by first | rfl | (simp; done) | (simp [*]; done)), H', ⟨Nat.le_refl _⟩, ⟨by (with_reducible repeat (first | refine blk_drewN ?_ _ | refine blk_drew ?_ | refine blk_alloc ?_ _)); exact BK128.out⟩, ⟨by (with_reducible repeat (first | refine blk_drewN ?_ _ | refine blk_drew ?_ | refine blk_alloc ?_ _)); exact BK129.out⟩, ⟨by repeat (first | (with_reducible first | exact HB.out | apply below_alloc | apply pw_below_drewN | apply below_drew1 | refine below_set ?_ GE128.out | refine below_set ?_ GE129.out) | exact HB.out)⟩⟩
        case round =>
          clear H'
          try clear c1
          try clear c2
          try clear p2
          try clear c6
          try clear c6b0
          try clear c6b1
          try clear c7
          try clear c7b0
          try clear c7b1
          try clear c8
          try clear c8b0
          try clear c8b1
          try clear c9
          try clear c9b0
          try clear c9b1
          try clear c9b2
          try clear c10
          try clear c13
          try clear c16
          try clear c19
          try clear c22
          try clear c25
          try clear c26
          try clear hcz11_0
          try clear hcz11_1
          try clear hcz11_2
          try clear hcz11_3
          try clear hcz11_4
          try clear hcz12_0
          try clear hcz12_1
          try clear hcz12_2
          try clear hcz12_3
          try clear hcz12_4
          try clear hcz14_0
          try clear hcz14_1
          try clear hcz14_2
          try clear hcz14_3
          try clear hcz14_4
          try clear hcz15_0
          try clear hcz15_1
          try clear hcz15_2
          try clear hcz15_3
          try clear hcz15_4
          try clear hcz17_0
          try clear hcz17_1
          try clear hcz17_2
          try clear hcz17_3
          try clear hcz17_4
          try clear hcz18_0
          try clear hcz18_1
          try clear hcz18_2
          try clear hcz18_3
          try clear hcz18_4
          try clear hcz20_0
          try clear hcz20_1
          try clear hcz20_2
          try clear hcz20_3
          try clear hcz20_4
          try clear hcz21_0
          try clear hcz21_1
          try clear hcz21_2
          try clear hcz21_3
          try clear hcz21_4
          try clear hcz23_0
          try clear hcz23_1
          try clear hcz23_2
          try clear hcz23_3
          try clear hcz23_4
          try clear hcz24_0
          try clear hcz24_1
          try clear hcz24_2
          try clear hcz24_3
          try clear hcz24_4
          try clear hcz27_0
          try clear hcz27_1
          try clear hcz27_2
          try clear hcz27_3
          try clear hcz27_4
          try clear hfz11_0
          try clear hfz11_1
          try clear hfz11_2
          try clear hfz11_3
          try clear hfz11_4
          try clear hfz12_0
          try clear hfz12_1
          try clear hfz12_2
          try clear hfz12_3
          try clear hfz12_4
          try clear hfz14_0
          try clear hfz14_1
          try clear hfz14_2
          try clear hfz14_3
          try clear hfz14_4
          try clear hfz15_0
          try clear hfz15_1
          try clear hfz15_2
          try clear hfz15_3
          try clear hfz15_4
          try clear hfz17_0
          try clear hfz17_1
          try clear hfz17_2
          try clear hfz17_3
          try clear hfz17_4
          try clear hfz18_0
          try clear hfz18_1
          try clear hfz18_2
          try clear hfz18_3
          try clear hfz18_4
          try clear hfz20_0
          try clear hfz20_1
          try clear hfz20_2
          try clear hfz20_3
          try clear hfz20_4
          try clear hfz21_0
          try clear hfz21_1
          try clear hfz21_2
          try clear hfz21_3
          try clear hfz21_4
          try clear hfz23_0
          try clear hfz23_1
          try clear hfz23_2
          try clear hfz23_3
          try clear hfz23_4
          try clear hfz24_0
          try clear hfz24_1
          try clear hfz24_2
          try clear hfz24_3
          try clear hfz24_4
          try clear hfz27_0
          try clear hfz27_1
          try clear hfz27_2
          try clear hfz27_3
          try clear hfz27_4
          try clear p2
          obtain ⟨x47_2, rfl, HA, HK2, BK128, BK129, HB⟩ := hrel
          cases gk with
          | zero => exact absurd HA.out (by simp [spec_SameTree.l0])
          | succ k2 =>
            have H := HA.out
            clear HA
            simp only [spec_SameTree.l0] at H
            by_cases c28 : x47_2 < (l0_3.length : Int)
            · rw [if_pos c28] at H
              have c28b0 : decide (x47_2 < (l0_3.length : Int)) = true := decide_eq_true c28
              clear c28
              by_cases c29 : 0 ≤ x47_2
              · rw [if_pos c29] at H
                have c29b0 : decide (0 ≤ x47_2) = true := decide_eq_true c29
                clear c29
                by_cases c30 : x47_2 < (l0_3.length : Int)
                · rw [if_pos c30] at H
                  have c30b0 : decide (x47_2 < (l0_3.length : Int)) = true := decide_eq_true c30
                  clear c30
                  by_cases c31 : x47_2 < (l1_3.length : Int)
                  · rw [if_pos c31] at H
                    have c31b0 : decide (x47_2 < (l1_3.length : Int)) = true := decide_eq_true c31
                    clear c31
                    by_cases c32 : (!((((rd_T38 l0_3 x47_2).f0).toList) == (((rd_T38 l1_3 x47_2).f0).toList)) || (!((((rd_T38 l0_3 x47_2).f1).toList) == (((rd_T38 l1_3 x47_2).f1).toList)))) = true
                    · rw [if_pos c32] at H
                      have c32b0 : (!((((rd_T38 l0_3 x47_2).f0).toList) == (((rd_T38 l1_3 x47_2).f0).toList)) || (!((((rd_T38 l0_3 x47_2).f1).toList) == (((rd_T38 l1_3 x47_2).f1).toList)))) = true := c32
                      clear c32
                      obtain rfl := Option.some.inj H
                      try go_wp2
                      have n0_ := Aside0.mk (blk_drew BK128.out)
                      have n1_ := Aside0.mk (blk_drew BK129.out)
                      have n2_ := Aside0.mk (below_drew1 HB.out)
                      clear BK128
                      clear BK129
                      clear HB
                      have BK128 := n0_
                      have BK129 := n1_
                      have HB := n2_
                      clear n0_ n1_ n2_
                      have p130 : 0 ≤ (x47_2 : Int) := of_decide_eq_true (by first | (with_reducible assumption) | assumption)
                      have q130 : x47_2 < (l0_3.length : Int) := of_decide_eq_true (by first | (with_reducible assumption) | assumption)
                      obtain ⟨ad130, e130, hx130_0, hx130_1⟩ := at_T38 HR0_3.out x47_2 p130 q130
                      have hw130_1 := hx130_1
                      have hw130_0 := hx130_0
                      cases e130
                      replace hx130_0 := (HB.out.cell (World.block_lt_of_cell? w _ hx130_0)).trans hx130_0
                      replace hx130_1 := (HB.out.cell (World.block_lt_of_cell? w _ hx130_1)).trans hx130_1
                      replace p130 := eq_true p130
                      replace q130 := eq_true q130
                      have p131 : 0 ≤ (x47_2 : Int) := of_decide_eq_true (by first | (with_reducible assumption) | assumption)
                      have q131 : x47_2 < (l1_3.length : Int) := of_decide_eq_true (by first | (with_reducible assumption) | assumption)
                      obtain ⟨ad131, e131, hx131_0, hx131_1⟩ := at_T38 HR1_3.out x47_2 p131 q131
                      have hw131_1 := hx131_1
                      have hw131_0 := hx131_0
                      cases e131
                      replace hx131_0 := (HB.out.cell (World.block_lt_of_cell? w _ hx131_0)).trans hx131_0
                      replace hx131_1 := (HB.out.cell (World.block_lt_of_cell? w _ hx131_1)).trans hx131_1
                      replace p131 := eq_true p131
                      replace q131 := eq_true q131
                      refine start_ (n := 11) (S := fun w' => w'.cell? ⟨gb128, 0, none⟩ = some (.int .i64 a0_0) ∧ w'.cell? ⟨gb128, 1, none⟩ = some (.string a0_1) ∧ w'.cell? ⟨gb128, 2, none⟩ = some (.string a0_2) ∧ w'.cell? ⟨gb128, 3, none⟩ = some (.slice (some ad130) l0_3.length c0_3) ∧ w'.cell? ⟨gb128, 4, none⟩ = some (.slice A0_4 l0_4.length c0_4) ∧ w'.cell? ⟨gb129, 0, none⟩ = some (.int .i64 a1_0) ∧ w'.cell? ⟨gb129, 1, none⟩ = some (.string a1_1) ∧ w'.cell? ⟨gb129, 2, none⟩ = some (.string a1_2) ∧ w'.cell? ⟨gb129, 3, none⟩ = some (.slice (some ad131) l1_3.length c1_3) ∧ w'.cell? ⟨gb129, 4, none⟩ = some (.slice A1_4 l1_4.length c1_4) ∧ w'.cell? (ad130.add ((x47_2).toNat * 2)) = some (.string ((rd_T38 l0_3 x47_2).f0)) ∧ w'.cell? ⟨(ad130.add ((x47_2).toNat * 2)).block, (ad130.add ((x47_2).toNat * 2)).off + 1, none⟩ = some (.string ((rd_T38 l0_3 x47_2).f1)) ∧ w'.cell? (ad131.add ((x47_2).toNat * 2)) = some (.string ((rd_T38 l1_3 x47_2).f0)) ∧ w'.cell? ⟨(ad131.add ((x47_2).toNat * 2)).block, (ad131.add ((x47_2).toNat * 2)).off + 1, none⟩ = some (.string ((rd_T38 l1_3 x47_2).f1))) (ds := []) #[false, false, false, false, false, false, false, false, false, false, false] (by kernel_rfl) rfl rfl ⟨(blk_cell BK128.out 0).trans rfl, (blk_cell BK128.out 1).trans rfl, (blk_cell BK128.out 2).trans rfl, (blk_cell BK128.out 3).trans rfl, (blk_cell BK128.out 4).trans rfl, (blk_cell BK129.out 0).trans rfl, (blk_cell BK129.out 1).trans rfl, (blk_cell BK129.out 2).trans rfl, (blk_cell BK129.out 3).trans rfl, (blk_cell BK129.out 4).trans rfl, ((HB.out.cell (World.block_lt_of_cell? w _ hw130_0)).trans hw130_0), ((HB.out.cell (World.block_lt_of_cell? w _ hw130_1)).trans hw130_1), ((HB.out.cell (World.block_lt_of_cell? w _ hw131_0)).trans hw131_0), ((HB.out.cell (World.block_lt_of_cell? w _ hw131_1)).trans hw131_1)⟩ (fun hHeld => ?_); refine with_tabW spec_SameTree.tab6 spec_SameTree.bits6 (fun HT_ HW_ => ?_)
                      generalize wr.drew = w33 at BK128 BK129 HB hx130_0 hx130_1 hx131_0 hx131_1 hHeld ⊢
                      refine pure_ (i := 0) (N := some 50) (v := ?_) (a' := ?_) #[true, false, false, false, false, false, false, false, false, false, false] rfl rfl (any_of HT_.out (by kernel_rfl)) (fun _ _ _ h => h) (Or.inl ⟨by rfl, ?_⟩) ?_ ?_
                      rotate_left
                      · intro w'
                        go_simp
                        with_reducible rfl
                      rotate_left
                      · simp only [Act.put, List.setIfInBounds_toArray, List.set_cons_zero, List.set_cons_succ, i64_w, i32_w]
                        rfl
                      refine pure_ (i := 2) (N := some 52) (v := ?_) (a' := ?_) #[true, false, true, false, false, false, false, false, false, false, false] rfl rfl (any_of HT_.out (by kernel_rfl)) (fun _ _ _ h => h) (Or.inl ⟨by rfl, ?_⟩) ?_ ?_
                      rotate_left
                      · intro w'
                        go_simp
                        with_reducible rfl
                      rotate_left
                      · simp only [Act.put, List.setIfInBounds_toArray, List.set_cons_zero, List.set_cons_succ, i64_w, i32_w]
                        rfl
                      refine pure_ (i := 5) (N := some 55) (v := ?_) (a' := ?_) #[true, false, true, false, false, true, false, false, false, false, false] rfl rfl (any_of HT_.out (by kernel_rfl)) (fun _ _ _ h => h) (Or.inl ⟨by rfl, ?_⟩) ?_ ?_
                      rotate_left
                      · intro w'
                        go_simp
                        with_reducible rfl
                      rotate_left
                      · simp only [Act.put, List.setIfInBounds_toArray, List.set_cons_zero, List.set_cons_succ, i64_w, i32_w]
                        rfl
                      refine pure_ (i := 7) (N := some 57) (v := ?_) (a' := ?_) #[true, false, true, false, false, true, false, true, false, false, false] rfl rfl (any_of HT_.out (by kernel_rfl)) (fun _ _ _ h => h) (Or.inl ⟨by rfl, ?_⟩) ?_ ?_
                      rotate_left
                      · intro w'
                        go_simp
                        with_reducible rfl
                      rotate_left
                      · simp only [Act.put, List.setIfInBounds_toArray, List.set_cons_zero, List.set_cons_succ, i64_w, i32_w]
                        rfl
                      refine take_ (i := 1) (N := some 51) (v := ?_) (a' := ?_) #[true, true, true, false, false, true, false, true, false, false, false] rfl rfl (take_ofW HT_.out HW_.out (by kernel_rfl)) (fun _ _ _ h => h) (Or.inl ⟨by rfl, ?_⟩) hHeld ?_ ?_
                      rotate_left
                      · rintro w' ⟨s0, s1, s2, s3, s4, s5, s6, s7, s8, s9, s10, s11, s12, s13⟩
                        go_simp
                        with_reducible rfl
                      rotate_left
                      · simp only [Act.put, List.setIfInBounds_toArray, List.set_cons_zero, List.set_cons_succ, i64_w, i32_w]
                        rfl
                      refine pure_ (i := 3) (N := some 53) (v := ?_) (a' := ?_) #[true, true, true, true, false, true, false, true, false, false, false] rfl rfl (any_of HT_.out (by kernel_rfl)) (fun _ _ _ h => h) (Or.inl ⟨by rfl, ?_⟩) ?_ ?_
                      rotate_left
                      · intro w'
                        go_simp
                        with_reducible rfl
                      rotate_left
                      · simp only [Act.put, List.setIfInBounds_toArray, List.set_cons_zero, List.set_cons_succ, i64_w, i32_w]
                        rfl
                      refine take_ (i := 4) (N := some 54) (v := ?_) (a' := ?_) #[true, true, true, true, true, true, false, true, false, false, false] rfl rfl (take_ofW HT_.out HW_.out (by kernel_rfl)) (fun _ _ _ h => h) (Or.inl ⟨by rfl, ?_⟩) hHeld ?_ ?_
                      rotate_left
                      · rintro w' ⟨s0, s1, s2, s3, s4, s5, s6, s7, s8, s9, s10, s11, s12, s13⟩
                        go_simp
                        with_reducible rfl
                      rotate_left
                      · simp only [Act.put, List.setIfInBounds_toArray, List.set_cons_zero, List.set_cons_succ, i64_w, i32_w]
                        rfl
                      refine take_ (i := 6) (N := some 56) (v := ?_) (a' := ?_) #[true, true, true, true, true, true, true, true, false, false, false] rfl rfl (take_ofW HT_.out HW_.out (by kernel_rfl)) (fun _ _ _ h => h) (Or.inl ⟨by rfl, ?_⟩) hHeld ?_ ?_
                      rotate_left
                      · rintro w' ⟨s0, s1, s2, s3, s4, s5, s6, s7, s8, s9, s10, s11, s12, s13⟩
                        go_simp
                        with_reducible rfl
                      rotate_left
                      · simp only [Act.put, List.setIfInBounds_toArray, List.set_cons_zero, List.set_cons_succ, i64_w, i32_w]
                        rfl
                      refine pure_ (i := 8) (N := some 58) (v := ?_) (a' := ?_) #[true, true, true, true, true, true, true, true, true, false, false] rfl rfl (any_of HT_.out (by kernel_rfl)) (fun _ _ _ h => h) (Or.inl ⟨by rfl, ?_⟩) ?_ ?_
                      rotate_left
                      · intro w'
                        go_simp
                        with_reducible rfl
                      rotate_left
                      · simp only [Act.put, List.setIfInBounds_toArray, List.set_cons_zero, List.set_cons_succ, i64_w, i32_w]
                        rfl
                      refine take_ (i := 9) (N := some 59) (v := ?_) (a' := ?_) #[true, true, true, true, true, true, true, true, true, true, false] rfl rfl (take_ofW HT_.out HW_.out (by kernel_rfl)) (fun _ _ _ h => h) (Or.inl ⟨by rfl, ?_⟩) hHeld ?_ ?_
                      rotate_left
                      · rintro w' ⟨s0, s1, s2, s3, s4, s5, s6, s7, s8, s9, s10, s11, s12, s13⟩
                        go_simp
                        with_reducible rfl
                      rotate_left
                      · simp only [Act.put, List.setIfInBounds_toArray, List.set_cons_zero, List.set_cons_succ, i64_w, i32_w]
                        rfl
                      refine pure_ (i := 10) (N := some 60) (v := ?_) (a' := ?_) #[true, true, true, true, true, true, true, true, true, true, true] rfl rfl (any_of HT_.out (by kernel_rfl)) (fun _ _ _ h => h) (Or.inl ⟨by rfl, ?_⟩) ?_ ?_
                      rotate_left
                      · intro w'
                        go_simp
                        with_reducible rfl
                      rotate_left
                      · simp only [Act.put, List.setIfInBounds_toArray, List.set_cons_zero, List.set_cons_succ, i64_w, i32_w]
                        rfl
                      refine done_ (done_of HT_.out (by kernel_rfl)) ?_
                      try go_wp2
                      go_ret
                      exact ⟨by first | rfl | (simp [errW_none, errW_some] <;> rfl) | (simp [*, errW_none, errW_some] <;> rfl), by repeat (first | (with_reducible first | exact HB.out | apply below_alloc | apply pw_below_drewN | apply below_drew1 | refine below_set ?_ GE128.out | refine below_set ?_ GE129.out) | exact HB.out)⟩
                    · rw [if_neg c32] at H
                      have c32b0 : (!((((rd_T38 l0_3 x47_2).f0).toList) == (((rd_T38 l1_3 x47_2).f0).toList)) || (!((((rd_T38 l0_3 x47_2).f1).toList) == (((rd_T38 l1_3 x47_2).f1).toList)))) = false := by simpa using c32
                      clear c32
                      have H' := Aside0.mk H
                      clear H
                      try go_wp2
                      have n0_ := Aside0.mk (blk_drew BK128.out)
                      have n1_ := Aside0.mk (blk_drew BK129.out)
                      have n2_ := Aside0.mk (below_drew1 HB.out)
                      clear BK128
                      clear BK129
                      clear HB
                      have BK128 := n0_
                      have BK129 := n1_
                      have HB := n2_
                      clear n0_ n1_ n2_
                      have p130 : 0 ≤ (x47_2 : Int) := of_decide_eq_true (by first | (with_reducible assumption) | assumption)
                      have q130 : x47_2 < (l0_3.length : Int) := of_decide_eq_true (by first | (with_reducible assumption) | assumption)
                      obtain ⟨ad130, e130, hx130_0, hx130_1⟩ := at_T38 HR0_3.out x47_2 p130 q130
                      have hw130_1 := hx130_1
                      have hw130_0 := hx130_0
                      cases e130
                      replace hx130_0 := (HB.out.cell (World.block_lt_of_cell? w _ hx130_0)).trans hx130_0
                      replace hx130_1 := (HB.out.cell (World.block_lt_of_cell? w _ hx130_1)).trans hx130_1
                      replace p130 := eq_true p130
                      replace q130 := eq_true q130
                      have p131 : 0 ≤ (x47_2 : Int) := of_decide_eq_true (by first | (with_reducible assumption) | assumption)
                      have q131 : x47_2 < (l1_3.length : Int) := of_decide_eq_true (by first | (with_reducible assumption) | assumption)
                      obtain ⟨ad131, e131, hx131_0, hx131_1⟩ := at_T38 HR1_3.out x47_2 p131 q131
                      have hw131_1 := hx131_1
                      have hw131_0 := hx131_0
                      cases e131
                      replace hx131_0 := (HB.out.cell (World.block_lt_of_cell? w _ hx131_0)).trans hx131_0
                      replace hx131_1 := (HB.out.cell (World.block_lt_of_cell? w _ hx131_1)).trans hx131_1
                      replace p131 := eq_true p131
                      replace q131 := eq_true q131
                      refine start_ (n := 11) (S := fun w' => w'.cell? ⟨gb128, 0, none⟩ = some (.int .i64 a0_0) ∧ w'.cell? ⟨gb128, 1, none⟩ = some (.string a0_1) ∧ w'.cell? ⟨gb128, 2, none⟩ = some (.string a0_2) ∧ w'.cell? ⟨gb128, 3, none⟩ = some (.slice (some ad130) l0_3.length c0_3) ∧ w'.cell? ⟨gb128, 4, none⟩ = some (.slice A0_4 l0_4.length c0_4) ∧ w'.cell? ⟨gb129, 0, none⟩ = some (.int .i64 a1_0) ∧ w'.cell? ⟨gb129, 1, none⟩ = some (.string a1_1) ∧ w'.cell? ⟨gb129, 2, none⟩ = some (.string a1_2) ∧ w'.cell? ⟨gb129, 3, none⟩ = some (.slice (some ad131) l1_3.length c1_3) ∧ w'.cell? ⟨gb129, 4, none⟩ = some (.slice A1_4 l1_4.length c1_4) ∧ w'.cell? (ad130.add ((x47_2).toNat * 2)) = some (.string ((rd_T38 l0_3 x47_2).f0)) ∧ w'.cell? ⟨(ad130.add ((x47_2).toNat * 2)).block, (ad130.add ((x47_2).toNat * 2)).off + 1, none⟩ = some (.string ((rd_T38 l0_3 x47_2).f1)) ∧ w'.cell? (ad131.add ((x47_2).toNat * 2)) = some (.string ((rd_T38 l1_3 x47_2).f0)) ∧ w'.cell? ⟨(ad131.add ((x47_2).toNat * 2)).block, (ad131.add ((x47_2).toNat * 2)).off + 1, none⟩ = some (.string ((rd_T38 l1_3 x47_2).f1))) (ds := []) #[false, false, false, false, false, false, false, false, false, false, false] (by kernel_rfl) rfl rfl ⟨(blk_cell BK128.out 0).trans rfl, (blk_cell BK128.out 1).trans rfl, (blk_cell BK128.out 2).trans rfl, (blk_cell BK128.out 3).trans rfl, (blk_cell BK128.out 4).trans rfl, (blk_cell BK129.out 0).trans rfl, (blk_cell BK129.out 1).trans rfl, (blk_cell BK129.out 2).trans rfl, (blk_cell BK129.out 3).trans rfl, (blk_cell BK129.out 4).trans rfl, ((HB.out.cell (World.block_lt_of_cell? w _ hw130_0)).trans hw130_0), ((HB.out.cell (World.block_lt_of_cell? w _ hw130_1)).trans hw130_1), ((HB.out.cell (World.block_lt_of_cell? w _ hw131_0)).trans hw131_0), ((HB.out.cell (World.block_lt_of_cell? w _ hw131_1)).trans hw131_1)⟩ (fun hHeld => ?_); refine with_tabW spec_SameTree.tab6 spec_SameTree.bits6 (fun HT_ HW_ => ?_)
                      generalize wr.drew = w34 at BK128 BK129 HB hx130_0 hx130_1 hx131_0 hx131_1 hHeld ⊢
                      refine pure_ (i := 0) (N := some 50) (v := ?_) (a' := ?_) #[true, false, false, false, false, false, false, false, false, false, false] rfl rfl (any_of HT_.out (by kernel_rfl)) (fun _ _ _ h => h) (Or.inl ⟨by rfl, ?_⟩) ?_ ?_
                      rotate_left
                      · intro w'
                        go_simp
                        with_reducible rfl
                      rotate_left
                      · simp only [Act.put, List.setIfInBounds_toArray, List.set_cons_zero, List.set_cons_succ, i64_w, i32_w]
                        rfl
                      refine pure_ (i := 2) (N := some 52) (v := ?_) (a' := ?_) #[true, false, true, false, false, false, false, false, false, false, false] rfl rfl (any_of HT_.out (by kernel_rfl)) (fun _ _ _ h => h) (Or.inl ⟨by rfl, ?_⟩) ?_ ?_
                      rotate_left
                      · intro w'
                        go_simp
                        with_reducible rfl
                      rotate_left
                      · simp only [Act.put, List.setIfInBounds_toArray, List.set_cons_zero, List.set_cons_succ, i64_w, i32_w]
                        rfl
                      refine pure_ (i := 5) (N := some 55) (v := ?_) (a' := ?_) #[true, false, true, false, false, true, false, false, false, false, false] rfl rfl (any_of HT_.out (by kernel_rfl)) (fun _ _ _ h => h) (Or.inl ⟨by rfl, ?_⟩) ?_ ?_
                      rotate_left
                      · intro w'
                        go_simp
                        with_reducible rfl
                      rotate_left
                      · simp only [Act.put, List.setIfInBounds_toArray, List.set_cons_zero, List.set_cons_succ, i64_w, i32_w]
                        rfl
                      refine pure_ (i := 7) (N := some 57) (v := ?_) (a' := ?_) #[true, false, true, false, false, true, false, true, false, false, false] rfl rfl (any_of HT_.out (by kernel_rfl)) (fun _ _ _ h => h) (Or.inl ⟨by rfl, ?_⟩) ?_ ?_
                      rotate_left
                      · intro w'
                        go_simp
                        with_reducible rfl
                      rotate_left
                      · simp only [Act.put, List.setIfInBounds_toArray, List.set_cons_zero, List.set_cons_succ, i64_w, i32_w]
                        rfl
                      refine take_ (i := 1) (N := some 51) (v := ?_) (a' := ?_) #[true, true, true, false, false, true, false, true, false, false, false] rfl rfl (take_ofW HT_.out HW_.out (by kernel_rfl)) (fun _ _ _ h => h) (Or.inl ⟨by rfl, ?_⟩) hHeld ?_ ?_
                      rotate_left
                      · rintro w' ⟨s0, s1, s2, s3, s4, s5, s6, s7, s8, s9, s10, s11, s12, s13⟩
                        go_simp
                        with_reducible rfl
                      rotate_left
                      · simp only [Act.put, List.setIfInBounds_toArray, List.set_cons_zero, List.set_cons_succ, i64_w, i32_w]
                        rfl
                      refine pure_ (i := 3) (N := some 53) (v := ?_) (a' := ?_) #[true, true, true, true, false, true, false, true, false, false, false] rfl rfl (any_of HT_.out (by kernel_rfl)) (fun _ _ _ h => h) (Or.inl ⟨by rfl, ?_⟩) ?_ ?_
                      rotate_left
                      · intro w'
                        go_simp
                        with_reducible rfl
                      rotate_left
                      · simp only [Act.put, List.setIfInBounds_toArray, List.set_cons_zero, List.set_cons_succ, i64_w, i32_w]
                        rfl
                      refine take_ (i := 4) (N := some 54) (v := ?_) (a' := ?_) #[true, true, true, true, true, true, false, true, false, false, false] rfl rfl (take_ofW HT_.out HW_.out (by kernel_rfl)) (fun _ _ _ h => h) (Or.inl ⟨by rfl, ?_⟩) hHeld ?_ ?_
                      rotate_left
                      · rintro w' ⟨s0, s1, s2, s3, s4, s5, s6, s7, s8, s9, s10, s11, s12, s13⟩
                        go_simp
                        with_reducible rfl
                      rotate_left
                      · simp only [Act.put, List.setIfInBounds_toArray, List.set_cons_zero, List.set_cons_succ, i64_w, i32_w]
                        rfl
                      refine take_ (i := 6) (N := some 56) (v := ?_) (a' := ?_) #[true, true, true, true, true, true, true, true, false, false, false] rfl rfl (take_ofW HT_.out HW_.out (by kernel_rfl)) (fun _ _ _ h => h) (Or.inl ⟨by rfl, ?_⟩) hHeld ?_ ?_
                      rotate_left
                      · rintro w' ⟨s0, s1, s2, s3, s4, s5, s6, s7, s8, s9, s10, s11, s12, s13⟩
                        go_simp
                        with_reducible rfl
                      rotate_left
                      · simp only [Act.put, List.setIfInBounds_toArray, List.set_cons_zero, List.set_cons_succ, i64_w, i32_w]
                        rfl
                      refine pure_ (i := 8) (N := some 58) (v := ?_) (a' := ?_) #[true, true, true, true, true, true, true, true, true, false, false] rfl rfl (any_of HT_.out (by kernel_rfl)) (fun _ _ _ h => h) (Or.inl ⟨by rfl, ?_⟩) ?_ ?_
                      rotate_left
                      · intro w'
                        go_simp
                        with_reducible rfl
                      rotate_left
                      · simp only [Act.put, List.setIfInBounds_toArray, List.set_cons_zero, List.set_cons_succ, i64_w, i32_w]
                        rfl
                      refine take_ (i := 9) (N := some 59) (v := ?_) (a' := ?_) #[true, true, true, true, true, true, true, true, true, true, false] rfl rfl (take_ofW HT_.out HW_.out (by kernel_rfl)) (fun _ _ _ h => h) (Or.inl ⟨by rfl, ?_⟩) hHeld ?_ ?_
                      rotate_left
                      · rintro w' ⟨s0, s1, s2, s3, s4, s5, s6, s7, s8, s9, s10, s11, s12, s13⟩
                        go_simp
                        with_reducible rfl
                      rotate_left
                      · simp only [Act.put, List.setIfInBounds_toArray, List.set_cons_zero, List.set_cons_succ, i64_w, i32_w]
                        rfl
                      refine pure_ (i := 10) (N := some 60) (v := ?_) (a' := ?_) #[true, true, true, true, true, true, true, true, true, true, true] rfl rfl (any_of HT_.out (by kernel_rfl)) (fun _ _ _ h => h) (Or.inl ⟨by rfl, ?_⟩) ?_ ?_
                      rotate_left
                      · intro w'
                        go_simp
                        with_reducible rfl
                      rotate_left
                      · simp only [Act.put, List.setIfInBounds_toArray, List.set_cons_zero, List.set_cons_succ, i64_w, i32_w]
                        rfl
                      refine done_ (done_of HT_.out (by kernel_rfl)) ?_
                      try go_wp2
                      go_roundg k2
                      case measure => have := HJ2.out; have := HK2.out; omega
                      case rel => exact ⟨(wrap64 (x47_2 + 1)), (by first | rfl | (simp; done) | (simp [*]; done)), H', ⟨by have := HJ2.out; have := HK2.out; omega⟩, ⟨by (with_reducible repeat (first | refine blk_drewN ?_ _ | refine blk_drew ?_ | refine blk_alloc ?_ _)); exact BK128.out⟩, ⟨by (with_reducible repeat (first | refine blk_drewN ?_ _ | refine blk_drew ?_ | refine blk_alloc ?_ _)); exact BK129.out⟩, ⟨by repeat (first | (with_reducible first | exact HB.out | apply below_alloc | apply pw_below_drewN | apply below_drew1 | refine below_set ?_ GE128.out | refine below_set ?_ GE129.out) | exact HB.out)⟩⟩
                  · rw [if_neg c31] at H
                    exact absurd H (by simp)
                · rw [if_neg c30] at H
                  exact absurd H (by simp)
              · rw [if_neg c29] at H
                exact absurd H (by simp)
            · rw [if_neg c28] at H
              have c28b0 : decide (x47_2 < (l0_3.length : Int)) = false := decide_eq_false c28
              clear c28
              have H' := Aside0.mk H
              clear H
              have hnb35 := NB128_129.out
              have hnc35 := NB129_128.out
              have hcz36_0 : wr.cell? ⟨gb128, 0, none⟩ = some (.int .i64 a0_0) := (blk_cell BK128.out 0).trans rfl
              have hcz36_1 : wr.cell? ⟨gb128, 1, none⟩ = some (.string a0_1) := (blk_cell BK128.out 1).trans rfl
              have hcz36_2 : wr.cell? ⟨gb128, 2, none⟩ = some (.string a0_2) := (blk_cell BK128.out 2).trans rfl
              have hcz36_3 : wr.cell? ⟨gb128, 3, none⟩ = some (.slice A0_3 l0_3.length c0_3) := (blk_cell BK128.out 3).trans rfl
              have hcz36_4 : wr.cell? ⟨gb128, 4, none⟩ = some (.slice A0_4 l0_4.length c0_4) := (blk_cell BK128.out 4).trans rfl
              have hfz36_0 := blk_frozen BK128.out 0
              have hfz36_1 := blk_frozen BK128.out 1
              have hfz36_2 := blk_frozen BK128.out 2
              have hfz36_3 := blk_frozen BK128.out 3
              have hfz36_4 := blk_frozen BK128.out 4
              go_wp2
              go_loopg [65] k2 (fun kq v65 w' => ∃ (x65_3 : Int), v65 = .int .i64 x65_3 ∧ Aside0 (spec_SameTree.l1 kq (l0_4.length : Int) x65_3 a0_0 a0_1 a0_2 l0_3 l0_4 a1_0 a1_1 a1_2 l1_3 l1_4 = some r) ∧ Aside0 (kq ≤ k2) ∧ Aside0 (w'.heap[gb128]? = some (.cells #[.int .i64 a0_0, .string a0_1, .string a0_2, (.slice A0_3 l0_3.length c0_3), (.slice A0_4 l0_4.length c0_4)] 28 (0, 0))) ∧ Aside0 (w'.heap[gb129]? = some (.cells #[.int .i64 a1_0, .string a1_1, .string a1_2, (.slice A1_3 l1_3.length c1_3), (.slice A1_4 l1_4.length c1_4)] 28 (0, 0))) ∧ Aside0 (Below w.heap.size w w'))
              case atStart => exact ⟨(0), (by first | rfl | (simp; done) | (simp [*]; done)), H', ⟨Nat.le_refl _⟩, ⟨by (with_reducible repeat (first | refine blk_drewN ?_ _ | refine blk_drew ?_ | refine blk_alloc ?_ _)); exact BK128.out⟩, ⟨by (with_reducible repeat (first | refine blk_drewN ?_ _ | refine blk_drew ?_ | refine blk_alloc ?_ _)); exact BK129.out⟩, ⟨by repeat (first | (with_reducible first | exact HB.out | apply below_alloc | apply pw_below_drewN | apply below_drew1 | refine below_set ?_ GE128.out | refine below_set ?_ GE129.out) | exact HB.out)⟩⟩
              case round =>
                clear H'
                try clear c1
                try clear p1
                try clear q1
                try clear hx1
                try clear c2
                try clear p2
                try clear c3
                try clear c6
                try clear c6b0
                try clear c6b1
                try clear p6
                try clear c7
                try clear c7b0
                try clear c7b1
                try clear c8
                try clear c8b0
                try clear c8b1
                try clear c9
                try clear c9b0
                try clear c9b1
                try clear c9b2
                try clear c10
                try clear c13
                try clear p13
                try clear q13
                try clear hx13
                try clear c16
                try clear c19
                try clear c22
                try clear c25
                try clear c26
                try clear c28
                try clear c28b0
                try clear c29
                try clear c29b0
                try clear c30
                try clear c30b0
                try clear c31
                try clear c31b0
                try clear c32
                try clear c32b0
                try clear c35
                try clear hcz11_0
                try clear hcz11_1
                try clear hcz11_2
                try clear hcz11_3
                try clear hcz11_4
                try clear hcz12_0
                try clear hcz12_1
                try clear hcz12_2
                try clear hcz12_3
                try clear hcz12_4
                try clear hcz14_0
                try clear hcz14_1
                try clear hcz14_2
                try clear hcz14_3
                try clear hcz14_4
                try clear hcz15_0
                try clear hcz15_1
                try clear hcz15_2
                try clear hcz15_3
                try clear hcz15_4
                try clear hcz17_0
                try clear hcz17_1
                try clear hcz17_2
                try clear hcz17_3
                try clear hcz17_4
                try clear hcz18_0
                try clear hcz18_1
                try clear hcz18_2
                try clear hcz18_3
                try clear hcz18_4
                try clear hcz20_0
                try clear hcz20_1
                try clear hcz20_2
                try clear hcz20_3
                try clear hcz20_4
                try clear hcz21_0
                try clear hcz21_1
                try clear hcz21_2
                try clear hcz21_3
                try clear hcz21_4
                try clear hcz23_0
                try clear hcz23_1
                try clear hcz23_2
                try clear hcz23_3
                try clear hcz23_4
                try clear hcz24_0
                try clear hcz24_1
                try clear hcz24_2
                try clear hcz24_3
                try clear hcz24_4
                try clear hcz27_0
                try clear hcz27_1
                try clear hcz27_2
                try clear hcz27_3
                try clear hcz27_4
                try clear hcz36_0
                try clear hcz36_1
                try clear hcz36_2
                try clear hcz36_3
                try clear hcz36_4
                try clear hfz11_0
                try clear hfz11_1
                try clear hfz11_2
                try clear hfz11_3
                try clear hfz11_4
                try clear hfz12_0
                try clear hfz12_1
                try clear hfz12_2
                try clear hfz12_3
                try clear hfz12_4
                try clear hfz14_0
                try clear hfz14_1
                try clear hfz14_2
                try clear hfz14_3
                try clear hfz14_4
                try clear hfz15_0
                try clear hfz15_1
                try clear hfz15_2
                try clear hfz15_3
                try clear hfz15_4
                try clear hfz17_0
                try clear hfz17_1
                try clear hfz17_2
                try clear hfz17_3
                try clear hfz17_4
                try clear hfz18_0
                try clear hfz18_1
                try clear hfz18_2
                try clear hfz18_3
                try clear hfz18_4
                try clear hfz20_0
                try clear hfz20_1
                try clear hfz20_2
                try clear hfz20_3
                try clear hfz20_4
                try clear hfz21_0
                try clear hfz21_1
                try clear hfz21_2
                try clear hfz21_3
                try clear hfz21_4
                try clear hfz23_0
                try clear hfz23_1
                try clear hfz23_2
                try clear hfz23_3
                try clear hfz23_4
                try clear hfz24_0
                try clear hfz24_1
                try clear hfz24_2
                try clear hfz24_3
                try clear hfz24_4
                try clear hfz27_0
                try clear hfz27_1
                try clear hfz27_2
                try clear hfz27_3
                try clear hfz27_4
                try clear hfz36_0
                try clear hfz36_1
                try clear hfz36_2
                try clear hfz36_3
                try clear hfz36_4
                try clear hx130_0
                try clear hx130_1
                try clear hx131_0
                try clear hx131_1
                try clear p130
                try clear p131
                try clear p2
                try clear q130
                try clear q131
                obtain ⟨x65_3, rfl, HA, HK3, BK128, BK129, HB⟩ := hrel
                cases gk with
                | zero => exact absurd HA.out (by simp [spec_SameTree.l1])
                | succ k3 =>
                  have H := HA.out
                  clear HA
                  simp only [spec_SameTree.l1] at H
                  by_cases c37 : x65_3 < (l0_4.length : Int)
                  · rw [if_pos c37] at H
                    have c37b0 : decide (x65_3 < (l0_4.length : Int)) = true := decide_eq_true c37
                    clear c37
                    by_cases c38 : 0 ≤ x65_3
                    · rw [if_pos c38] at H
                      have c38b0 : decide (0 ≤ x65_3) = true := decide_eq_true c38
                      clear c38
                      by_cases c39 : x65_3 < (l0_4.length : Int)
                      · rw [if_pos c39] at H
                        have c39b0 : decide (x65_3 < (l0_4.length : Int)) = true := decide_eq_true c39
                        clear c39
                        by_cases c40 : x65_3 < (l1_4.length : Int)
                        · rw [if_pos c40] at H
                          have c40b0 : decide (x65_3 < (l1_4.length : Int)) = true := decide_eq_true c40
                          clear c40
                          replace H := Option.bind_eq_some_iff.mp H
                          obtain ⟨t134, A410, H⟩ := H
                          replace H : (if t134 = true then (spec_SameTree.l1 k3 (l0_4.length : Int) (wrap64 (x65_3 + 1)) a0_0 a0_1 a0_2 l0_3 l0_4 a1_0 a1_1 a1_2 l1_3 l1_4) else (some false)) = some r := H
                          have A41 := Aside0.mk A410
                          clear A410
                          by_cases c42 : t134 = true
                          · subst c42
                            have H1 : (spec_SameTree.l1 k3 (l0_4.length : Int) (wrap64 (x65_3 + 1)) a0_0 a0_1 a0_2 l0_3 l0_4 a1_0 a1_1 a1_2 l1_3 l1_4) = some r := by rw [if_pos rfl] at H; exact H
                            clear H
                            have H := H1
                            clear H1
                            have H' := Aside0.mk H
                            clear H
                            try go_wp2
                            have n0_ := Aside0.mk (blk_drew BK128.out)
                            have n1_ := Aside0.mk (blk_drew BK129.out)
                            have n2_ := Aside0.mk (below_drew1 HB.out)
                            clear BK128
                            clear BK129
                            clear HB
                            have BK128 := n0_
                            have BK129 := n1_
                            have HB := n2_
                            clear n0_ n1_ n2_
                            have p132 : 0 ≤ (x65_3 : Int) := of_decide_eq_true (by first | (with_reducible assumption) | assumption)
                            have q132 : x65_3 < (l0_4.length : Int) := of_decide_eq_true (by first | (with_reducible assumption) | assumption)
                            obtain ⟨ad132, A132_3, c132_3, A132_4, c132_4, e132, hx132_0, hx132_1, hx132_2, hx132_3, hx132_4, hl132_3, hi132_3, hl132_4, hi132_4⟩ := at_T28 HR0_4.out x65_3 p132 q132
                            have hw132_4 := hx132_4
                            have hw132_3 := hx132_3
                            have hw132_2 := hx132_2
                            have hw132_1 := hx132_1
                            have hw132_0 := hx132_0
                            cases e132
                            replace hx132_0 := (HB.out.cell (World.block_lt_of_cell? w _ hx132_0)).trans hx132_0
                            replace hx132_1 := (HB.out.cell (World.block_lt_of_cell? w _ hx132_1)).trans hx132_1
                            replace hx132_2 := (HB.out.cell (World.block_lt_of_cell? w _ hx132_2)).trans hx132_2
                            replace hx132_3 := (HB.out.cell (World.block_lt_of_cell? w _ hx132_3)).trans hx132_3
                            replace hx132_4 := (HB.out.cell (World.block_lt_of_cell? w _ hx132_4)).trans hx132_4
                            have HR132_3 := Aside0.mk hi132_3
                            have HC132_3 := Aside0.mk hl132_3
                            clear hi132_3 hl132_3
                            have HR132_4 := Aside0.mk hi132_4
                            have HC132_4 := Aside0.mk hl132_4
                            clear hi132_4 hl132_4
                            replace p132 := eq_true p132
                            replace q132 := eq_true q132
                            have p133 : 0 ≤ (x65_3 : Int) := of_decide_eq_true (by first | (with_reducible assumption) | assumption)
                            have q133 : x65_3 < (l1_4.length : Int) := of_decide_eq_true (by first | (with_reducible assumption) | assumption)
                            obtain ⟨ad133, A133_3, c133_3, A133_4, c133_4, e133, hx133_0, hx133_1, hx133_2, hx133_3, hx133_4, hl133_3, hi133_3, hl133_4, hi133_4⟩ := at_T28 HR1_4.out x65_3 p133 q133
                            have hw133_4 := hx133_4
                            have hw133_3 := hx133_3
                            have hw133_2 := hx133_2
                            have hw133_1 := hx133_1
                            have hw133_0 := hx133_0
                            cases e133
                            replace hx133_0 := (HB.out.cell (World.block_lt_of_cell? w _ hx133_0)).trans hx133_0
                            replace hx133_1 := (HB.out.cell (World.block_lt_of_cell? w _ hx133_1)).trans hx133_1
                            replace hx133_2 := (HB.out.cell (World.block_lt_of_cell? w _ hx133_2)).trans hx133_2
                            replace hx133_3 := (HB.out.cell (World.block_lt_of_cell? w _ hx133_3)).trans hx133_3
                            replace hx133_4 := (HB.out.cell (World.block_lt_of_cell? w _ hx133_4)).trans hx133_4
                            have HR133_3 := Aside0.mk hi133_3
                            have HC133_3 := Aside0.mk hl133_3
                            clear hi133_3 hl133_3
                            have HR133_4 := Aside0.mk hi133_4
                            have HC133_4 := Aside0.mk hl133_4
                            clear hi133_4 hl133_4
                            replace p133 := eq_true p133
                            replace q133 := eq_true q133
                            refine start_ (n := 12) (S := fun w' => w'.cell? ⟨gb128, 0, none⟩ = some (.int .i64 a0_0) ∧ w'.cell? ⟨gb128, 1, none⟩ = some (.string a0_1) ∧ w'.cell? ⟨gb128, 2, none⟩ = some (.string a0_2) ∧ w'.cell? ⟨gb128, 3, none⟩ = some (.slice A0_3 l0_3.length c0_3) ∧ w'.cell? ⟨gb128, 4, none⟩ = some (.slice (some ad132) l0_4.length c0_4) ∧ w'.cell? ⟨gb129, 0, none⟩ = some (.int .i64 a1_0) ∧ w'.cell? ⟨gb129, 1, none⟩ = some (.string a1_1) ∧ w'.cell? ⟨gb129, 2, none⟩ = some (.string a1_2) ∧ w'.cell? ⟨gb129, 3, none⟩ = some (.slice A1_3 l1_3.length c1_3) ∧ w'.cell? ⟨gb129, 4, none⟩ = some (.slice (some ad133) l1_4.length c1_4) ∧ w'.cell? (ad132.add ((x65_3).toNat * 5)) = some (.int .i64 ((rd_T28 l0_4 x65_3).f0)) ∧ w'.cell? ⟨(ad132.add ((x65_3).toNat * 5)).block, (ad132.add ((x65_3).toNat * 5)).off + 1, none⟩ = some (.string ((rd_T28 l0_4 x65_3).f1)) ∧ w'.cell? ⟨(ad132.add ((x65_3).toNat * 5)).block, (ad132.add ((x65_3).toNat * 5)).off + 2, none⟩ = some (.string ((rd_T28 l0_4 x65_3).f2)) ∧ w'.cell? ⟨(ad132.add ((x65_3).toNat * 5)).block, (ad132.add ((x65_3).toNat * 5)).off + 3, none⟩ = some (.slice A132_3 ((rd_T28 l0_4 x65_3).f3).length c132_3) ∧ w'.cell? ⟨(ad132.add ((x65_3).toNat * 5)).block, (ad132.add ((x65_3).toNat * 5)).off + 4, none⟩ = some (.slice A132_4 ((rd_T28 l0_4 x65_3).f4).length c132_4) ∧ w'.cell? (ad133.add ((x65_3).toNat * 5)) = some (.int .i64 ((rd_T28 l1_4 x65_3).f0)) ∧ w'.cell? ⟨(ad133.add ((x65_3).toNat * 5)).block, (ad133.add ((x65_3).toNat * 5)).off + 1, none⟩ = some (.string ((rd_T28 l1_4 x65_3).f1)) ∧ w'.cell? ⟨(ad133.add ((x65_3).toNat * 5)).block, (ad133.add ((x65_3).toNat * 5)).off + 2, none⟩ = some (.string ((rd_T28 l1_4 x65_3).f2)) ∧ w'.cell? ⟨(ad133.add ((x65_3).toNat * 5)).block, (ad133.add ((x65_3).toNat * 5)).off + 3, none⟩ = some (.slice A133_3 ((rd_T28 l1_4 x65_3).f3).length c133_3) ∧ w'.cell? ⟨(ad133.add ((x65_3).toNat * 5)).block, (ad133.add ((x65_3).toNat * 5)).off + 4, none⟩ = some (.slice A133_4 ((rd_T28 l1_4 x65_3).f4).length c133_4)) (ds := []) #[false, false, false, false, false, false, false, false, false, false, false, false] (by kernel_rfl) rfl rfl ⟨(blk_cell BK128.out 0).trans rfl, (blk_cell BK128.out 1).trans rfl, (blk_cell BK128.out 2).trans rfl, (blk_cell BK128.out 3).trans rfl, (blk_cell BK128.out 4).trans rfl, (blk_cell BK129.out 0).trans rfl, (blk_cell BK129.out 1).trans rfl, (blk_cell BK129.out 2).trans rfl, (blk_cell BK129.out 3).trans rfl, (blk_cell BK129.out 4).trans rfl, ((HB.out.cell (World.block_lt_of_cell? w _ hw132_0)).trans hw132_0), ((HB.out.cell (World.block_lt_of_cell? w _ hw132_1)).trans hw132_1), ((HB.out.cell (World.block_lt_of_cell? w _ hw132_2)).trans hw132_2), ((HB.out.cell (World.block_lt_of_cell? w _ hw132_3)).trans hw132_3), ((HB.out.cell (World.block_lt_of_cell? w _ hw132_4)).trans hw132_4), ((HB.out.cell (World.block_lt_of_cell? w _ hw133_0)).trans hw133_0), ((HB.out.cell (World.block_lt_of_cell? w _ hw133_1)).trans hw133_1), ((HB.out.cell (World.block_lt_of_cell? w _ hw133_2)).trans hw133_2), ((HB.out.cell (World.block_lt_of_cell? w _ hw133_3)).trans hw133_3), ((HB.out.cell (World.block_lt_of_cell? w _ hw133_4)).trans hw133_4)⟩ (fun hHeld => ?_); refine with_tabW spec_SameTree.tab12 spec_SameTree.bits12 (fun HT_ HW_ => ?_)
                            generalize wr.drew = w43 at BK128 BK129 HB HR132_3 HR132_4 HR133_3 HR133_4 hx132_0 hx132_1 hx132_2 hx132_3 hx132_4 hx133_0 hx133_1 hx133_2 hx133_3 hx133_4 hHeld ⊢
                            refine pure_ (i := 0) (N := some 68) (v := ?_) (a' := ?_) #[true, false, false, false, false, false, false, false, false, false, false, false] rfl rfl (any_of HT_.out (by kernel_rfl)) (fun _ _ _ h => h) (Or.inl ⟨by rfl, ?_⟩) ?_ ?_
                            rotate_left
                            · intro w'
                              go_simp
                              with_reducible rfl
                            rotate_left
                            · simp only [Act.put, List.setIfInBounds_toArray, List.set_cons_zero, List.set_cons_succ, i64_w, i32_w]
                              rfl
                            refine pure_ (i := 2) (N := some 70) (v := ?_) (a' := ?_) #[true, false, true, false, false, false, false, false, false, false, false, false] rfl rfl (any_of HT_.out (by kernel_rfl)) (fun _ _ _ h => h) (Or.inl ⟨by rfl, ?_⟩) ?_ ?_
                            rotate_left
                            · intro w'
                              go_simp
                              with_reducible rfl
                            rotate_left
                            · simp only [Act.put, List.setIfInBounds_toArray, List.set_cons_zero, List.set_cons_succ, i64_w, i32_w]
                              rfl
                            refine pure_ (i := 5) (N := some 73) (v := ?_) (a' := ?_) #[true, false, true, false, false, true, false, false, false, false, false, false] rfl rfl (any_of HT_.out (by kernel_rfl)) (fun _ _ _ h => h) (Or.inl ⟨by rfl, ?_⟩) ?_ ?_
                            rotate_left
                            · intro w'
                              go_simp
                              with_reducible rfl
                            rotate_left
                            · simp only [Act.put, List.setIfInBounds_toArray, List.set_cons_zero, List.set_cons_succ, i64_w, i32_w]
                              rfl
                            refine pure_ (i := 7) (N := some 75) (v := ?_) (a' := ?_) #[true, false, true, false, false, true, false, true, false, false, false, false] rfl rfl (any_of HT_.out (by kernel_rfl)) (fun _ _ _ h => h) (Or.inl ⟨by rfl, ?_⟩) ?_ ?_
                            rotate_left
                            · intro w'
                              go_simp
                              with_reducible rfl
                            rotate_left
                            · simp only [Act.put, List.setIfInBounds_toArray, List.set_cons_zero, List.set_cons_succ, i64_w, i32_w]
                              rfl
                            refine take_ (i := 1) (N := some 69) (v := ?_) (a' := ?_) #[true, true, true, false, false, true, false, true, false, false, false, false] rfl rfl (take_ofW HT_.out HW_.out (by kernel_rfl)) (fun _ _ _ h => h) (Or.inl ⟨by rfl, ?_⟩) hHeld ?_ ?_
                            rotate_left
                            · rintro w' ⟨s0, s1, s2, s3, s4, s5, s6, s7, s8, s9, s10, s11, s12, s13, s14, s15, s16, s17, s18, s19⟩
                              go_simp
                              with_reducible rfl
                            rotate_left
                            · simp only [Act.put, List.setIfInBounds_toArray, List.set_cons_zero, List.set_cons_succ, i64_w, i32_w]
                              rfl
                            refine pure_ (i := 3) (N := some 71) (v := ?_) (a' := ?_) #[true, true, true, true, false, true, false, true, false, false, false, false] rfl rfl (any_of HT_.out (by kernel_rfl)) (fun _ _ _ h => h) (Or.inl ⟨by rfl, ?_⟩) ?_ ?_
                            rotate_left
                            · intro w'
                              go_simp
                              with_reducible rfl
                            rotate_left
                            · simp only [Act.put, List.setIfInBounds_toArray, List.set_cons_zero, List.set_cons_succ, i64_w, i32_w]
                              rfl
                            refine take_ (i := 4) (N := some 72) (v := ?_) (a' := ?_) #[true, true, true, true, true, true, false, true, false, false, false, false] rfl rfl (take_ofW HT_.out HW_.out (by kernel_rfl)) (fun _ _ _ h => h) (Or.inl ⟨by rfl, ?_⟩) hHeld ?_ ?_
                            rotate_left
                            · rintro w' ⟨s0, s1, s2, s3, s4, s5, s6, s7, s8, s9, s10, s11, s12, s13, s14, s15, s16, s17, s18, s19⟩
                              go_simp
                              with_reducible rfl
                            rotate_left
                            · simp only [Act.put, List.setIfInBounds_toArray, List.set_cons_zero, List.set_cons_succ, i64_w, i32_w]
                              rfl
                            refine take_ (i := 6) (N := some 74) (v := ?_) (a' := ?_) #[true, true, true, true, true, true, true, true, false, false, false, false] rfl rfl (take_ofW HT_.out HW_.out (by kernel_rfl)) (fun _ _ _ h => h) (Or.inl ⟨by rfl, ?_⟩) hHeld ?_ ?_
                            rotate_left
                            · rintro w' ⟨s0, s1, s2, s3, s4, s5, s6, s7, s8, s9, s10, s11, s12, s13, s14, s15, s16, s17, s18, s19⟩
                              go_simp
                              with_reducible rfl
                            rotate_left
                            · simp only [Act.put, List.setIfInBounds_toArray, List.set_cons_zero, List.set_cons_succ, i64_w, i32_w]
                              rfl
                            refine pure_ (i := 8) (N := some 76) (v := ?_) (a' := ?_) #[true, true, true, true, true, true, true, true, true, false, false, false] rfl rfl (any_of HT_.out (by kernel_rfl)) (fun _ _ _ h => h) (Or.inl ⟨by rfl, ?_⟩) ?_ ?_
                            rotate_left
                            · intro w'
                              go_simp
                              with_reducible rfl
                            rotate_left
                            · simp only [Act.put, List.setIfInBounds_toArray, List.set_cons_zero, List.set_cons_succ, i64_w, i32_w]
                              rfl
                            refine take_ (i := 9) (N := some 77) (v := ?_) (a' := ?_) #[true, true, true, true, true, true, true, true, true, true, false, false] rfl rfl (take_ofW HT_.out HW_.out (by kernel_rfl)) (fun _ _ _ h => h) (Or.inl ⟨by rfl, ?_⟩) hHeld ?_ ?_
                            rotate_left
                            · rintro w' ⟨s0, s1, s2, s3, s4, s5, s6, s7, s8, s9, s10, s11, s12, s13, s14, s15, s16, s17, s18, s19⟩
                              go_simp
                              with_reducible rfl
                            rotate_left
                            · simp only [Act.put, List.setIfInBounds_toArray, List.set_cons_zero, List.set_cons_succ, i64_w, i32_w]
                              rfl
                            refine one_ (i := 10) (N := some 78) #[true, true, true, true, true, true, true, true, true, true, true, false] rfl rfl (one_of HT_.out (by kernel_rfl)) (by decide) (fun K hK => ?_)
                            refine goes_ Tryd.func8 (by kernel_rfl) rfl #[.agg #[.int .i64 ((rd_T28 l0_4 x65_3).f0), .string ((rd_T28 l0_4 x65_3).f1), .string ((rd_T28 l0_4 x65_3).f2), .slice A132_3 ((rd_T28 l0_4 x65_3).f3).length c132_3, .slice A132_4 ((rd_T28 l0_4 x65_3).f4).length c132_4], .agg #[.int .i64 ((rd_T28 l1_4 x65_3).f0), .string ((rd_T28 l1_4 x65_3).f1), .string ((rd_T28 l1_4 x65_3).f2), .slice A133_3 ((rd_T28 l1_4 x65_3).f3).length c133_3, .slice A133_4 ((rd_T28 l1_4 x65_3).f4).length c133_4]] (by rfl) rfl rfl (by (try simp only [List.map_toArray, List.map_cons, List.map_nil]); first | done | rfl | (simp only [List.length_drop, List.length_take]; rfl)) ?_
                            with_reducible refine (ih k3 (by have := HJ2.out; have := HK2.out; have := HK3.out; omega) ((rd_T28 l0_4 x65_3).f0) ((rd_T28 l0_4 x65_3).f1) ((rd_T28 l0_4 x65_3).f2) _ _ ((rd_T28 l0_4 x65_3).f3) _ _ ((rd_T28 l0_4 x65_3).f4) ((rd_T28 l1_4 x65_3).f0) ((rd_T28 l1_4 x65_3).f1) ((rd_T28 l1_4 x65_3).f2) _ _ ((rd_T28 l1_4 x65_3).f3) _ _ ((rd_T28 l1_4 x65_3).f4) true _ ?side1 ?side2 ?side3 ?side4 ?side5 ?side6 ?side7 ?side8 A41.out).mono ?_
                            (case side1 => repeat (first | exact (Kd.C_below HR132_3.out HB.out) | (with_reducible refine Kd.C_alloc ?_ _) | (with_reducible refine Kd.C_drewN ?_ _) | (with_reducible refine Kd.C_drew ?_)))
                            (case side2 => exact HC132_3.out)
                            (case side3 => repeat (first | exact (Kd.C_below HR132_4.out HB.out) | (with_reducible refine Kd.C_alloc ?_ _) | (with_reducible refine Kd.C_drewN ?_ _) | (with_reducible refine Kd.C_drew ?_)))
                            (case side4 => exact HC132_4.out)
                            (case side5 => repeat (first | exact (Kd.C_below HR133_3.out HB.out) | (with_reducible refine Kd.C_alloc ?_ _) | (with_reducible refine Kd.C_drewN ?_ _) | (with_reducible refine Kd.C_drew ?_)))
                            (case side6 => exact HC133_3.out)
                            (case side7 => repeat (first | exact (Kd.C_below HR133_4.out HB.out) | (with_reducible refine Kd.C_alloc ?_ _) | (with_reducible refine Kd.C_drewN ?_ _) | (with_reducible refine Kd.C_drew ?_)))
                            (case side8 => exact HC133_4.out)
                            rintro e w44 ⟨rfl, hb⟩
                            refine ⟨_, rfl, ?_⟩
                            have n0_ := Aside0.mk (blk_below (g := gb128) (o := .cells #[.int .i64 a0_0, .string a0_1, .string a0_2, .slice A0_3 l0_3.length c0_3, .slice (some ad132) l0_4.length c0_4] 28 (0, 0)) (by (with_reducible repeat (first | refine blk_drewN ?_ _ | refine blk_drew ?_ | refine blk_alloc ?_ _)); exact BK128.out) hb)
                            have n1_ := Aside0.mk (blk_below (g := gb129) (o := .cells #[.int .i64 a1_0, .string a1_1, .string a1_2, .slice A1_3 l1_3.length c1_3, .slice (some ad133) l1_4.length c1_4] 28 (0, 0)) (by (with_reducible repeat (first | refine blk_drewN ?_ _ | refine blk_drew ?_ | refine blk_alloc ?_ _)); exact BK129.out) hb)
                            have n2_ := Aside0.mk (below_step (by repeat (first | (with_reducible first | exact HB.out | apply below_alloc | apply pw_below_drewN | apply below_drew1 | refine below_set ?_ GE128.out | refine below_set ?_ GE129.out) | exact HB.out)) hb)
                            clear BK128
                            clear BK129
                            clear HB
                            have BK128 := n0_
                            have BK129 := n1_
                            have HB := n2_
                            clear n0_ n1_ n2_
                            (try clear hb)
                            (try clear hb2)
                            (try clear hk)
                            (try clear hi)
                            refine hK.out _ _ ⟨(blk_cell BK128.out 0).trans rfl, (blk_cell BK128.out 1).trans rfl, (blk_cell BK128.out 2).trans rfl, (blk_cell BK128.out 3).trans rfl, (blk_cell BK128.out 4).trans rfl, (blk_cell BK129.out 0).trans rfl, (blk_cell BK129.out 1).trans rfl, (blk_cell BK129.out 2).trans rfl, (blk_cell BK129.out 3).trans rfl, (blk_cell BK129.out 4).trans rfl, ((HB.out.cell (World.block_lt_of_cell? w _ hw132_0)).trans hw132_0), ((HB.out.cell (World.block_lt_of_cell? w _ hw132_1)).trans hw132_1), ((HB.out.cell (World.block_lt_of_cell? w _ hw132_2)).trans hw132_2), ((HB.out.cell (World.block_lt_of_cell? w _ hw132_3)).trans hw132_3), ((HB.out.cell (World.block_lt_of_cell? w _ hw132_4)).trans hw132_4), ((HB.out.cell (World.block_lt_of_cell? w _ hw133_0)).trans hw133_0), ((HB.out.cell (World.block_lt_of_cell? w _ hw133_1)).trans hw133_1), ((HB.out.cell (World.block_lt_of_cell? w _ hw133_2)).trans hw133_2), ((HB.out.cell (World.block_lt_of_cell? w _ hw133_3)).trans hw133_3), ((HB.out.cell (World.block_lt_of_cell? w _ hw133_4)).trans hw133_4)⟩ (fun hHeld => ?_)
                            clear hK K
                            refine norm_ (a' := ?_) ?_ ?_
                            rotate_left
                            · show Act.put _ (some 78) _ = _
                              simp only [Act.put, List.setIfInBounds_toArray, List.set_cons_zero, List.set_cons_succ, i64_w, i32_w]
                              rfl
                            refine pure_ (i := 11) (N := some 79) (v := ?_) (a' := ?_) #[true, true, true, true, true, true, true, true, true, true, true, true] rfl rfl (any_of HT_.out (by kernel_rfl)) (fun _ _ _ h => h) (Or.inl ⟨by rfl, ?_⟩) ?_ ?_
                            rotate_left
                            · intro w'
                              go_simp
                              with_reducible rfl
                            rotate_left
                            · simp only [Act.put, List.setIfInBounds_toArray, List.set_cons_zero, List.set_cons_succ, i64_w, i32_w]
                              rfl
                            refine done_ (done_of HT_.out (by kernel_rfl)) ?_
                            try go_wp2
                            go_roundg k3
                            case measure => have := HJ2.out; have := HK2.out; have := HK3.out; omega
                            case rel => exact ⟨(wrap64 (x65_3 + 1)), (by first | rfl | (simp; done) | (simp [*]; done)), H', ⟨by have := HJ2.out; have := HK2.out; have := HK3.out; omega⟩, ⟨by (with_reducible repeat (first | refine blk_drewN ?_ _ | refine blk_drew ?_ | refine blk_alloc ?_ _)); exact BK128.out⟩, ⟨by (with_reducible repeat (first | refine blk_drewN ?_ _ | refine blk_drew ?_ | refine blk_alloc ?_ _)); exact BK129.out⟩, ⟨by repeat (first | (with_reducible first | exact HB.out | apply below_alloc | apply pw_below_drewN | apply below_drew1 | refine below_set ?_ GE128.out | refine below_set ?_ GE129.out) | exact HB.out)⟩⟩
                          · replace c42 := Bool.eq_false_iff.mpr c42
                            subst c42
                            have H1 : (some false) = some r := by rw [if_neg (show ¬ (false = true) by decide)] at H; exact H
                            clear H
                            have H := H1
                            clear H1
                            obtain rfl := Option.some.inj H
                            try go_wp2
                            have n0_ := Aside0.mk (blk_drew BK128.out)
                            have n1_ := Aside0.mk (blk_drew BK129.out)
                            have n2_ := Aside0.mk (below_drew1 HB.out)
                            clear BK128
                            clear BK129
                            clear HB
                            have BK128 := n0_
                            have BK129 := n1_
                            have HB := n2_
                            clear n0_ n1_ n2_
                            have p132 : 0 ≤ (x65_3 : Int) := of_decide_eq_true (by first | (with_reducible assumption) | assumption)
                            have q132 : x65_3 < (l0_4.length : Int) := of_decide_eq_true (by first | (with_reducible assumption) | assumption)
                            obtain ⟨ad132, A132_3, c132_3, A132_4, c132_4, e132, hx132_0, hx132_1, hx132_2, hx132_3, hx132_4, hl132_3, hi132_3, hl132_4, hi132_4⟩ := at_T28 HR0_4.out x65_3 p132 q132
                            have hw132_4 := hx132_4
                            have hw132_3 := hx132_3
                            have hw132_2 := hx132_2
                            have hw132_1 := hx132_1
                            have hw132_0 := hx132_0
                            cases e132
                            replace hx132_0 := (HB.out.cell (World.block_lt_of_cell? w _ hx132_0)).trans hx132_0
                            replace hx132_1 := (HB.out.cell (World.block_lt_of_cell? w _ hx132_1)).trans hx132_1
                            replace hx132_2 := (HB.out.cell (World.block_lt_of_cell? w _ hx132_2)).trans hx132_2
                            replace hx132_3 := (HB.out.cell (World.block_lt_of_cell? w _ hx132_3)).trans hx132_3
                            replace hx132_4 := (HB.out.cell (World.block_lt_of_cell? w _ hx132_4)).trans hx132_4
                            have HR132_3 := Aside0.mk hi132_3
                            have HC132_3 := Aside0.mk hl132_3
                            clear hi132_3 hl132_3
                            have HR132_4 := Aside0.mk hi132_4
                            have HC132_4 := Aside0.mk hl132_4
                            clear hi132_4 hl132_4
                            replace p132 := eq_true p132
                            replace q132 := eq_true q132
                            have p133 : 0 ≤ (x65_3 : Int) := of_decide_eq_true (by first | (with_reducible assumption) | assumption)
                            have q133 : x65_3 < (l1_4.length : Int) := of_decide_eq_true (by first | (with_reducible assumption) | assumption)
                            obtain ⟨ad133, A133_3, c133_3, A133_4, c133_4, e133, hx133_0, hx133_1, hx133_2, hx133_3, hx133_4, hl133_3, hi133_3, hl133_4, hi133_4⟩ := at_T28 HR1_4.out x65_3 p133 q133
                            have hw133_4 := hx133_4
                            have hw133_3 := hx133_3
                            have hw133_2 := hx133_2
                            have hw133_1 := hx133_1
                            have hw133_0 := hx133_0
                            cases e133
                            replace hx133_0 := (HB.out.cell (World.block_lt_of_cell? w _ hx133_0)).trans hx133_0
                            replace hx133_1 := (HB.out.cell (World.block_lt_of_cell? w _ hx133_1)).trans hx133_1
                            replace hx133_2 := (HB.out.cell (World.block_lt_of_cell? w _ hx133_2)).trans hx133_2
                            replace hx133_3 := (HB.out.cell (World.block_lt_of_cell? w _ hx133_3)).trans hx133_3
                            replace hx133_4 := (HB.out.cell (World.block_lt_of_cell? w _ hx133_4)).trans hx133_4
                            have HR133_3 := Aside0.mk hi133_3
                            have HC133_3 := Aside0.mk hl133_3
                            clear hi133_3 hl133_3
                            have HR133_4 := Aside0.mk hi133_4
                            have HC133_4 := Aside0.mk hl133_4
                            clear hi133_4 hl133_4
                            replace p133 := eq_true p133
                            replace q133 := eq_true q133
                            refine start_ (n := 12) (S := fun w' => w'.cell? ⟨gb128, 0, none⟩ = some (.int .i64 a0_0) ∧ w'.cell? ⟨gb128, 1, none⟩ = some (.string a0_1) ∧ w'.cell? ⟨gb128, 2, none⟩ = some (.string a0_2) ∧ w'.cell? ⟨gb128, 3, none⟩ = some (.slice A0_3 l0_3.length c0_3) ∧ w'.cell? ⟨gb128, 4, none⟩ = some (.slice (some ad132) l0_4.length c0_4) ∧ w'.cell? ⟨gb129, 0, none⟩ = some (.int .i64 a1_0) ∧ w'.cell? ⟨gb129, 1, none⟩ = some (.string a1_1) ∧ w'.cell? ⟨gb129, 2, none⟩ = some (.string a1_2) ∧ w'.cell? ⟨gb129, 3, none⟩ = some (.slice A1_3 l1_3.length c1_3) ∧ w'.cell? ⟨gb129, 4, none⟩ = some (.slice (some ad133) l1_4.length c1_4) ∧ w'.cell? (ad132.add ((x65_3).toNat * 5)) = some (.int .i64 ((rd_T28 l0_4 x65_3).f0)) ∧ w'.cell? ⟨(ad132.add ((x65_3).toNat * 5)).block, (ad132.add ((x65_3).toNat * 5)).off + 1, none⟩ = some (.string ((rd_T28 l0_4 x65_3).f1)) ∧ w'.cell? ⟨(ad132.add ((x65_3).toNat * 5)).block, (ad132.add ((x65_3).toNat * 5)).off + 2, none⟩ = some (.string ((rd_T28 l0_4 x65_3).f2)) ∧ w'.cell? ⟨(ad132.add ((x65_3).toNat * 5)).block, (ad132.add ((x65_3).toNat * 5)).off + 3, none⟩ = some (.slice A132_3 ((rd_T28 l0_4 x65_3).f3).length c132_3) ∧ w'.cell? ⟨(ad132.add ((x65_3).toNat * 5)).block, (ad132.add ((x65_3).toNat * 5)).off + 4, none⟩ = some (.slice A132_4 ((rd_T28 l0_4 x65_3).f4).length c132_4) ∧ w'.cell? (ad133.add ((x65_3).toNat * 5)) = some (.int .i64 ((rd_T28 l1_4 x65_3).f0)) ∧ w'.cell? ⟨(ad133.add ((x65_3).toNat * 5)).block, (ad133.add ((x65_3).toNat * 5)).off + 1, none⟩ = some (.string ((rd_T28 l1_4 x65_3).f1)) ∧ w'.cell? ⟨(ad133.add ((x65_3).toNat * 5)).block, (ad133.add ((x65_3).toNat * 5)).off + 2, none⟩ = some (.string ((rd_T28 l1_4 x65_3).f2)) ∧ w'.cell? ⟨(ad133.add ((x65_3).toNat * 5)).block, (ad133.add ((x65_3).toNat * 5)).off + 3, none⟩ = some (.slice A133_3 ((rd_T28 l1_4 x65_3).f3).length c133_3) ∧ w'.cell? ⟨(ad133.add ((x65_3).toNat * 5)).block, (ad133.add ((x65_3).toNat * 5)).off + 4, none⟩ = some (.slice A133_4 ((rd_T28 l1_4 x65_3).f4).length c133_4)) (ds := []) #[false, false, false, false, false, false, false, false, false, false, false, false] (by kernel_rfl) rfl rfl ⟨(blk_cell BK128.out 0).trans rfl, (blk_cell BK128.out 1).trans rfl, (blk_cell BK128.out 2).trans rfl, (blk_cell BK128.out 3).trans rfl, (blk_cell BK128.out 4).trans rfl, (blk_cell BK129.out 0).trans rfl, (blk_cell BK129.out 1).trans rfl, (blk_cell BK129.out 2).trans rfl, (blk_cell BK129.out 3).trans rfl, (blk_cell BK129.out 4).trans rfl, ((HB.out.cell (World.block_lt_of_cell? w _ hw132_0)).trans hw132_0), ((HB.out.cell (World.block_lt_of_cell? w _ hw132_1)).trans hw132_1), ((HB.out.cell (World.block_lt_of_cell? w _ hw132_2)).trans hw132_2), ((HB.out.cell (World.block_lt_of_cell? w _ hw132_3)).trans hw132_3), ((HB.out.cell (World.block_lt_of_cell? w _ hw132_4)).trans hw132_4), ((HB.out.cell (World.block_lt_of_cell? w _ hw133_0)).trans hw133_0), ((HB.out.cell (World.block_lt_of_cell? w _ hw133_1)).trans hw133_1), ((HB.out.cell (World.block_lt_of_cell? w _ hw133_2)).trans hw133_2), ((HB.out.cell (World.block_lt_of_cell? w _ hw133_3)).trans hw133_3), ((HB.out.cell (World.block_lt_of_cell? w _ hw133_4)).trans hw133_4)⟩ (fun hHeld => ?_); refine with_tabW spec_SameTree.tab12 spec_SameTree.bits12 (fun HT_ HW_ => ?_)
                            generalize wr.drew = w45 at BK128 BK129 HB HR132_3 HR132_4 HR133_3 HR133_4 hx132_0 hx132_1 hx132_2 hx132_3 hx132_4 hx133_0 hx133_1 hx133_2 hx133_3 hx133_4 hHeld ⊢
                            refine pure_ (i := 0) (N := some 68) (v := ?_) (a' := ?_) #[true, false, false, false, false, false, false, false, false, false, false, false] rfl rfl (any_of HT_.out (by kernel_rfl)) (fun _ _ _ h => h) (Or.inl ⟨by rfl, ?_⟩) ?_ ?_
                            rotate_left
                            · intro w'
                              go_simp
                              with_reducible rfl
                            rotate_left
                            · simp only [Act.put, List.setIfInBounds_toArray, List.set_cons_zero, List.set_cons_succ, i64_w, i32_w]
                              rfl
                            refine pure_ (i := 2) (N := some 70) (v := ?_) (a' := ?_) #[true, false, true, false, false, false, false, false, false, false, false, false] rfl rfl (any_of HT_.out (by kernel_rfl)) (fun _ _ _ h => h) (Or.inl ⟨by rfl, ?_⟩) ?_ ?_
                            rotate_left
                            · intro w'
                              go_simp
                              with_reducible rfl
                            rotate_left
                            · simp only [Act.put, List.setIfInBounds_toArray, List.set_cons_zero, List.set_cons_succ, i64_w, i32_w]
                              rfl
                            refine pure_ (i := 5) (N := some 73) (v := ?_) (a' := ?_) #[true, false, true, false, false, true, false, false, false, false, false, false] rfl rfl (any_of HT_.out (by kernel_rfl)) (fun _ _ _ h => h) (Or.inl ⟨by rfl, ?_⟩) ?_ ?_
                            rotate_left
                            · intro w'
                              go_simp
                              with_reducible rfl
                            rotate_left
                            · simp only [Act.put, List.setIfInBounds_toArray, List.set_cons_zero, List.set_cons_succ, i64_w, i32_w]
                              rfl
                            refine pure_ (i := 7) (N := some 75) (v := ?_) (a' := ?_) #[true, false, true, false, false, true, false, true, false, false, false, false] rfl rfl (any_of HT_.out (by kernel_rfl)) (fun _ _ _ h => h) (Or.inl ⟨by rfl, ?_⟩) ?_ ?_
                            rotate_left
                            · intro w'
                              go_simp
                              with_reducible rfl
                            rotate_left
                            · simp only [Act.put, List.setIfInBounds_toArray, List.set_cons_zero, List.set_cons_succ, i64_w, i32_w]
                              rfl
                            refine take_ (i := 1) (N := some 69) (v := ?_) (a' := ?_) #[true, true, true, false, false, true, false, true, false, false, false, false] rfl rfl (take_ofW HT_.out HW_.out (by kernel_rfl)) (fun _ _ _ h => h) (Or.inl ⟨by rfl, ?_⟩) hHeld ?_ ?_
                            rotate_left
                            · rintro w' ⟨s0, s1, s2, s3, s4, s5, s6, s7, s8, s9, s10, s11, s12, s13, s14, s15, s16, s17, s18, s19⟩
                              go_simp
                              with_reducible rfl
                            rotate_left
                            · simp only [Act.put, List.setIfInBounds_toArray, List.set_cons_zero, List.set_cons_succ, i64_w, i32_w]
                              rfl
                            refine pure_ (i := 3) (N := some 71) (v := ?_) (a' := ?_) #[true, true, true, true, false, true, false, true, false, false, false, false] rfl rfl (any_of HT_.out (by kernel_rfl)) (fun _ _ _ h => h) (Or.inl ⟨by rfl, ?_⟩) ?_ ?_
                            rotate_left
                            · intro w'
                              go_simp
                              with_reducible rfl
                            rotate_left
                            · simp only [Act.put, List.setIfInBounds_toArray, List.set_cons_zero, List.set_cons_succ, i64_w, i32_w]
                              rfl
                            refine take_ (i := 4) (N := some 72) (v := ?_) (a' := ?_) #[true, true, true, true, true, true, false, true, false, false, false, false] rfl rfl (take_ofW HT_.out HW_.out (by kernel_rfl)) (fun _ _ _ h => h) (Or.inl ⟨by rfl, ?_⟩) hHeld ?_ ?_
                            rotate_left
                            · rintro w' ⟨s0, s1, s2, s3, s4, s5, s6, s7, s8, s9, s10, s11, s12, s13, s14, s15, s16, s17, s18, s19⟩
                              go_simp
                              with_reducible rfl
                            rotate_left
                            · simp only [Act.put, List.setIfInBounds_toArray, List.set_cons_zero, List.set_cons_succ, i64_w, i32_w]
                              rfl
                            refine take_ (i := 6) (N := some 74) (v := ?_) (a' := ?_) #[true, true, true, true, true, true, true, true, false, false, false, false] rfl rfl (take_ofW HT_.out HW_.out (by kernel_rfl)) (fun _ _ _ h => h) (Or.inl ⟨by rfl, ?_⟩) hHeld ?_ ?_
                            rotate_left
                            · rintro w' ⟨s0, s1, s2, s3, s4, s5, s6, s7, s8, s9, s10, s11, s12, s13, s14, s15, s16, s17, s18, s19⟩
                              go_simp
                              with_reducible rfl
                            rotate_left
                            · simp only [Act.put, List.setIfInBounds_toArray, List.set_cons_zero, List.set_cons_succ, i64_w, i32_w]
                              rfl
                            refine pure_ (i := 8) (N := some 76) (v := ?_) (a' := ?_) #[true, true, true, true, true, true, true, true, true, false, false, false] rfl rfl (any_of HT_.out (by kernel_rfl)) (fun _ _ _ h => h) (Or.inl ⟨by rfl, ?_⟩) ?_ ?_
                            rotate_left
                            · intro w'
                              go_simp
                              with_reducible rfl
                            rotate_left
                            · simp only [Act.put, List.setIfInBounds_toArray, List.set_cons_zero, List.set_cons_succ, i64_w, i32_w]
                              rfl
                            refine take_ (i := 9) (N := some 77) (v := ?_) (a' := ?_) #[true, true, true, true, true, true, true, true, true, true, false, false] rfl rfl (take_ofW HT_.out HW_.out (by kernel_rfl)) (fun _ _ _ h => h) (Or.inl ⟨by rfl, ?_⟩) hHeld ?_ ?_
                            rotate_left
                            · rintro w' ⟨s0, s1, s2, s3, s4, s5, s6, s7, s8, s9, s10, s11, s12, s13, s14, s15, s16, s17, s18, s19⟩
                              go_simp
                              with_reducible rfl
                            rotate_left
                            · simp only [Act.put, List.setIfInBounds_toArray, List.set_cons_zero, List.set_cons_succ, i64_w, i32_w]
                              rfl
                            refine one_ (i := 10) (N := some 78) #[true, true, true, true, true, true, true, true, true, true, true, false] rfl rfl (one_of HT_.out (by kernel_rfl)) (by decide) (fun K hK => ?_)
                            refine goes_ Tryd.func8 (by kernel_rfl) rfl #[.agg #[.int .i64 ((rd_T28 l0_4 x65_3).f0), .string ((rd_T28 l0_4 x65_3).f1), .string ((rd_T28 l0_4 x65_3).f2), .slice A132_3 ((rd_T28 l0_4 x65_3).f3).length c132_3, .slice A132_4 ((rd_T28 l0_4 x65_3).f4).length c132_4], .agg #[.int .i64 ((rd_T28 l1_4 x65_3).f0), .string ((rd_T28 l1_4 x65_3).f1), .string ((rd_T28 l1_4 x65_3).f2), .slice A133_3 ((rd_T28 l1_4 x65_3).f3).length c133_3, .slice A133_4 ((rd_T28 l1_4 x65_3).f4).length c133_4]] (by rfl) rfl rfl (by (try simp only [List.map_toArray, List.map_cons, List.map_nil]); first | done | rfl | (simp only [List.length_drop, List.length_take]; rfl)) ?_
                            with_reducible refine (ih k3 (by have := HJ2.out; have := HK2.out; have := HK3.out; omega) ((rd_T28 l0_4 x65_3).f0) ((rd_T28 l0_4 x65_3).f1) ((rd_T28 l0_4 x65_3).f2) _ _ ((rd_T28 l0_4 x65_3).f3) _ _ ((rd_T28 l0_4 x65_3).f4) ((rd_T28 l1_4 x65_3).f0) ((rd_T28 l1_4 x65_3).f1) ((rd_T28 l1_4 x65_3).f2) _ _ ((rd_T28 l1_4 x65_3).f3) _ _ ((rd_T28 l1_4 x65_3).f4) false _ ?side1 ?side2 ?side3 ?side4 ?side5 ?side6 ?side7 ?side8 A41.out).mono ?_
                            (case side1 => repeat (first | exact (Kd.C_below HR132_3.out HB.out) | (with_reducible refine Kd.C_alloc ?_ _) | (with_reducible refine Kd.C_drewN ?_ _) | (with_reducible refine Kd.C_drew ?_)))
                            (case side2 => exact HC132_3.out)
                            (case side3 => repeat (first | exact (Kd.C_below HR132_4.out HB.out) | (with_reducible refine Kd.C_alloc ?_ _) | (with_reducible refine Kd.C_drewN ?_ _) | (with_reducible refine Kd.C_drew ?_)))
                            (case side4 => exact HC132_4.out)
                            (case side5 => repeat (first | exact (Kd.C_below HR133_3.out HB.out) | (with_reducible refine Kd.C_alloc ?_ _) | (with_reducible refine Kd.C_drewN ?_ _) | (with_reducible refine Kd.C_drew ?_)))
                            (case side6 => exact HC133_3.out)
                            (case side7 => repeat (first | exact (Kd.C_below HR133_4.out HB.out) | (with_reducible refine Kd.C_alloc ?_ _) | (with_reducible refine Kd.C_drewN ?_ _) | (with_reducible refine Kd.C_drew ?_)))
                            (case side8 => exact HC133_4.out)
                            rintro e w46 ⟨rfl, hb⟩
                            refine ⟨_, rfl, ?_⟩
                            have n0_ := Aside0.mk (blk_below (g := gb128) (o := .cells #[.int .i64 a0_0, .string a0_1, .string a0_2, .slice A0_3 l0_3.length c0_3, .slice (some ad132) l0_4.length c0_4] 28 (0, 0)) (by (with_reducible repeat (first | refine blk_drewN ?_ _ | refine blk_drew ?_ | refine blk_alloc ?_ _)); exact BK128.out) hb)
                            have n1_ := Aside0.mk (blk_below (g := gb129) (o := .cells #[.int .i64 a1_0, .string a1_1, .string a1_2, .slice A1_3 l1_3.length c1_3, .slice (some ad133) l1_4.length c1_4] 28 (0, 0)) (by (with_reducible repeat (first | refine blk_drewN ?_ _ | refine blk_drew ?_ | refine blk_alloc ?_ _)); exact BK129.out) hb)
                            have n2_ := Aside0.mk (below_step (by repeat (first | (with_reducible first | exact HB.out | apply below_alloc | apply pw_below_drewN | apply below_drew1 | refine below_set ?_ GE128.out | refine below_set ?_ GE129.out) | exact HB.out)) hb)
                            clear BK128
                            clear BK129
                            clear HB
                            have BK128 := n0_
                            have BK129 := n1_
                            have HB := n2_
                            clear n0_ n1_ n2_
                            (try clear hb)
                            (try clear hb2)
                            (try clear hk)
                            (try clear hi)
                            refine hK.out _ _ ⟨(blk_cell BK128.out 0).trans rfl, (blk_cell BK128.out 1).trans rfl, (blk_cell BK128.out 2).trans rfl, (blk_cell BK128.out 3).trans rfl, (blk_cell BK128.out 4).trans rfl, (blk_cell BK129.out 0).trans rfl, (blk_cell BK129.out 1).trans rfl, (blk_cell BK129.out 2).trans rfl, (blk_cell BK129.out 3).trans rfl, (blk_cell BK129.out 4).trans rfl, ((HB.out.cell (World.block_lt_of_cell? w _ hw132_0)).trans hw132_0), ((HB.out.cell (World.block_lt_of_cell? w _ hw132_1)).trans hw132_1), ((HB.out.cell (World.block_lt_of_cell? w _ hw132_2)).trans hw132_2), ((HB.out.cell (World.block_lt_of_cell? w _ hw132_3)).trans hw132_3), ((HB.out.cell (World.block_lt_of_cell? w _ hw132_4)).trans hw132_4), ((HB.out.cell (World.block_lt_of_cell? w _ hw133_0)).trans hw133_0), ((HB.out.cell (World.block_lt_of_cell? w _ hw133_1)).trans hw133_1), ((HB.out.cell (World.block_lt_of_cell? w _ hw133_2)).trans hw133_2), ((HB.out.cell (World.block_lt_of_cell? w _ hw133_3)).trans hw133_3), ((HB.out.cell (World.block_lt_of_cell? w _ hw133_4)).trans hw133_4)⟩ (fun hHeld => ?_)
                            clear hK K
                            refine norm_ (a' := ?_) ?_ ?_
                            rotate_left
                            · show Act.put _ (some 78) _ = _
                              simp only [Act.put, List.setIfInBounds_toArray, List.set_cons_zero, List.set_cons_succ, i64_w, i32_w]
                              rfl
                            refine pure_ (i := 11) (N := some 79) (v := ?_) (a' := ?_) #[true, true, true, true, true, true, true, true, true, true, true, true] rfl rfl (any_of HT_.out (by kernel_rfl)) (fun _ _ _ h => h) (Or.inl ⟨by rfl, ?_⟩) ?_ ?_
                            rotate_left
                            · intro w'
                              go_simp
                              with_reducible rfl
                            rotate_left
                            · simp only [Act.put, List.setIfInBounds_toArray, List.set_cons_zero, List.set_cons_succ, i64_w, i32_w]
                              rfl
                            refine done_ (done_of HT_.out (by kernel_rfl)) ?_
                            try go_wp2
                            go_ret
                            exact ⟨by first | rfl | (simp [errW_none, errW_some] <;> rfl) | (simp [*, errW_none, errW_some] <;> rfl), by repeat (first | (with_reducible first | exact HB.out | apply below_alloc | apply pw_below_drewN | apply below_drew1 | refine below_set ?_ GE128.out | refine below_set ?_ GE129.out) | exact HB.out)⟩
                        · rw [if_neg c40] at H
                          exact absurd H (by simp)
                      · rw [if_neg c39] at H
                        exact absurd H (by simp)
                    · rw [if_neg c38] at H
                      exact absurd H (by simp)
                  · rw [if_neg c37] at H
                    have c37b0 : decide (x65_3 < (l0_4.length : Int)) = false := decide_eq_false c37
                    clear c37
                    obtain rfl := Option.some.inj H
                    go_wp2
                    go_ret
                    exact ⟨by first | rfl | (simp [errW_none, errW_some] <;> rfl) | (simp [*, errW_none, errW_some] <;> rfl), by repeat (first | (with_reducible first | exact HB.out | apply below_alloc | apply pw_below_drewN | apply below_drew1 | refine below_set ?_ GE128.out | refine below_set ?_ GE129.out) | exact HB.out)⟩
end Go.Proofs.YtmfjbljdbkmkgaaDoor.PDom

/- A tree is itself: spec.SameTree. Out of EvT, for seats that have no more of it. -/
namespace Go.Proofs.YtmfjbljdbkmkgaaDoor.PDom
open Go.RowKit Go.Proofs.YtmfjbljdbkmkgaaDoorW.PrintWords Go.Proofs.YtmfjbljdbkmkgaaDoorW.PrintLast Go.Proofs.YtmfjbljdbkmkgaaDoorW.PrintMore Go.Proofs.YtmfjbljdbkmkgaaDoor.Dom
set_option linter.unusedVariables false
set_option linter.unusedSimpArgs false

theorem fit_kid {t y : T} (h : Fit t) (hy : y ∈ t.f4) : Fit y := by
  cases h with
  | mk _ _ _ h => exact h y hy
theorem fit_len {t : T} (h : Fit t) : t.f4.length ≤ 4398046510976 := by
  cases h with
  | mk _ _ h _ => exact h
theorem fit_len3 {t : T} (h : Fit t) : t.f3.length ≤ 4398046510976 := by
  cases h with
  | mk _ h _ _ => exact h
theorem same_l1 (u : T) (hk : u.f4.length ≤ 4398046510976) (ih : ∀ y ∈ u.f4, Ev (fun k => spec_SameTree.f k y.f0 y.f1 y.f2 y.f3 y.f4 y.f0 y.f1 y.f2 y.f3 y.f4) true) : ∀ (n j : Nat), u.f4.length = j + n →
    Ev (fun k => spec_SameTree.l1 k (u.f4.length : Int) (j : Int) u.f0 u.f1 u.f2 u.f3 u.f4 u.f0 u.f1 u.f2 u.f3 u.f4) true := by
  intro n
  induction n with
  | zero =>
    intro j hj
    refine Ev.step (f := fun _ => some true) (fun k => ?_) (Ev.now _)
    simp only [spec_SameTree.l1]
    rw [if_neg (by omega)]
  | succ n ihn =>
    intro j hj
    have hlt : j < u.f4.length := by omega
    refine Ev.step (f := fun k => (spec_SameTree.f k u.f4[j].f0 u.f4[j].f1 u.f4[j].f2 u.f4[j].f3 u.f4[j].f4 u.f4[j].f0 u.f4[j].f1 u.f4[j].f2 u.f4[j].f3 u.f4[j].f4).bind fun b => if b = true then spec_SameTree.l1 k (u.f4.length : Int) ((j + 1 : Nat) : Int) u.f0 u.f1 u.f2 u.f3 u.f4 u.f0 u.f1 u.f2 u.f3 u.f4 else some false) (fun k => ?_) ?_
    · simp only [spec_SameTree.l1]
      rw [if_pos (by omega), if_pos (by omega), if_pos (by omega), if_pos (by omega), rd_at u.f4 hlt, succ_wrap j (by omega)]
    · refine Ev.bind (ih _ (List.getElem_mem hlt)) ?_
      simpa using ihn (j + 1) (by omega)
theorem same_l0 (u : T) (ha : u.f3.length ≤ 4398046510976) (h1 : Ev (fun k => spec_SameTree.l1 k (u.f4.length : Int) ((0 : Nat) : Int) u.f0 u.f1 u.f2 u.f3 u.f4 u.f0 u.f1 u.f2 u.f3 u.f4) true) : ∀ (n j : Nat), u.f3.length = j + n →
    Ev (fun k => spec_SameTree.l0 k (u.f3.length : Int) (j : Int) u.f0 u.f1 u.f2 u.f3 u.f4 u.f0 u.f1 u.f2 u.f3 u.f4) true := by
  intro n
  induction n with
  | zero =>
    intro j hj
    refine Ev.step (f := fun k => spec_SameTree.l1 k (u.f4.length : Int) ((0 : Nat) : Int) u.f0 u.f1 u.f2 u.f3 u.f4 u.f0 u.f1 u.f2 u.f3 u.f4) (fun k => ?_) h1
    simp only [spec_SameTree.l0]
    rw [if_neg (by omega)]
    rfl
  | succ n ihn =>
    intro j hj
    refine Ev.step (f := fun k => spec_SameTree.l0 k (u.f3.length : Int) ((j + 1 : Nat) : Int) u.f0 u.f1 u.f2 u.f3 u.f4 u.f0 u.f1 u.f2 u.f3 u.f4) (fun k => ?_) (ihn (j + 1) (by omega))
    simp only [spec_SameTree.l0]
    rw [if_pos (by omega), if_pos (by omega), if_pos (by omega), if_pos (by omega), succ_wrap j (by omega)]
    simp
theorem same_ev (u : T) : Fit u → Ev (fun k => spec_SameTree.f k u.f0 u.f1 u.f2 u.f3 u.f4 u.f0 u.f1 u.f2 u.f3 u.f4) true := by
  induction u using T_induct with
  | h u ih =>
    intro hf
    have h1 := same_l1 u (fit_len hf) (fun y hy => ih y hy (fit_kid hf hy)) u.f4.length 0 (by omega)
    have h0 := same_l0 u (fit_len3 hf) h1 u.f3.length 0 (by omega)
    refine Ev.step (f := fun k => spec_SameTree.j0 k false u.f0 u.f1 u.f2 u.f3 u.f4 u.f0 u.f1 u.f2 u.f3 u.f4) (fun k => ?_) ?_
    · simp [spec_SameTree.f]
    · refine Ev.step (f := fun k => spec_SameTree.l0 k (u.f3.length : Int) ((0 : Nat) : Int) u.f0 u.f1 u.f2 u.f3 u.f4 u.f0 u.f1 u.f2 u.f3 u.f4) (fun k => ?_) h0
      simp only [spec_SameTree.j0]
      rw [if_neg (by simp)]
      rfl
end Go.Proofs.YtmfjbljdbkmkgaaDoor.PDom

/- Plain facts on texts as lists of numbers: joined, cut, read back. No conditions. -/
namespace Go.Proofs.YtmfjbljdbkmkgaaDoor.Txt
open Go.RowKit Go.Proofs.YtmfjbljdbkmkgaaDoorW.PrintWords Go.Proofs.YtmfjbljdbkmkgaaDoorW.PrintLast Go.Proofs.YtmfjbljdbkmkgaaDoorW.PrintMore

/-- All numbers are bytes. -/
def Byt (l : List Int) : Prop := ∀ x ∈ l, 0 ≤ x ∧ x < 256
theorem Byt.nil : Byt [] := fun _ h => by cases h
theorem Byt.app {a b : List Int} (h : Byt a) (k : Byt b) : Byt (a ++ b) := fun x hx => by
  rcases List.mem_append.1 hx with h1 | h1
  · exact h x h1
  · exact k x h1
theorem Byt.one {x : Int} (h0 : 0 ≤ x) (h1 : x < 256) : Byt [x] := fun y hy => by
  obtain rfl : y = x := by simpa using hy
  exact ⟨h0, h1⟩
theorem Byt.cons {x : Int} {l : List Int} (h0 : 0 ≤ x) (h1 : x < 256) (h : Byt l) : Byt (x :: l) := (Byt.one h0 h1).app h
theorem Byt.take {l : List Int} (h : Byt l) (n : Nat) : Byt (l.take n) := fun x hx => h x (List.mem_of_mem_take hx)
theorem Byt.drop {l : List Int} (h : Byt l) (n : Nat) : Byt (l.drop n) := fun x hx => h x (List.mem_of_mem_drop hx)
theorem Byt.of (s : ByteArray) : Byt (bytesOf s) := fun x hx => by
  obtain ⟨b, _, rfl⟩ := List.mem_map.1 hx
  have := b.toNat_lt
  omega
theorem str_size (l : List Int) : (strOfNums l).size = l.length := by simp [strOfNums, ByteArray.size]
theorem wrap_id {x : Int} (h0 : -9223372036854775808 ≤ x) (h1 : x ≤ 9223372036854775807) : wrap64 x = x := by
  unfold wrap64
  omega
end Go.Proofs.YtmfjbljdbkmkgaaDoor.Txt

/- What laws.inlineWord leaves of a text: a letter and at most 40 letters or digits. -/
namespace Go.Proofs.YtmfjbljdbkmkgaaDoor.PDom
open Go.Proofs.YtmfjbljdbkmkgaaDoor.Txt Go.RowKit Go.Proofs.YtmfjbljdbkmkgaaDoorW.PrintWords Go.Proofs.YtmfjbljdbkmkgaaDoorW.PrintLast Go.Proofs.YtmfjbljdbkmkgaaDoorW.PrintMore Go.Proofs.YtmfjbljdbkmkgaaDoor.Dom

def Alph (l : List Int) : Prop := ∀ x ∈ l, 48 ≤ x ∧ x ≤ 122
theorem Alph.snoc {l : List Int} {x : Int} (h : Alph l) (hx : 48 ≤ x ∧ x ≤ 122) : Alph (l ++ [x]) := fun y hy => by
  rcases List.mem_append.1 hy with h1 | h1
  · exact h y h1
  · obtain rfl : y = x := by simpa using h1
    exact hx
set_option maxHeartbeats 1000000 in
theorem letters_loop (s : ByteArray) (N : Int) (hN : N ≤ s.size) (hN3 : N ≤ 40) (d : Nat) : ∀ (k : Nat) (i : Int) (acc : List Int), 0 ≤ i → i ≤ N → N - i = d → d < k → (acc.length : Int) ≤ i → Alph acc →
    ∃ r, laws_inlineLetters.l0 k s acc N i = some (strOfNums r) ∧ (r.length : Int) ≤ N ∧ Alph r := by
  induction d with
  | zero =>
    intro k i acc h0 h1 hd hk ha hA
    obtain ⟨k, rfl⟩ : ∃ m, k = m + 1 := ⟨k - 1, by omega⟩
    have hx : ¬ i < N := by omega
    exact ⟨acc, by simp only [laws_inlineLetters.l0]; rw [if_neg hx], by omega, hA⟩
  | succ d ih =>
    intro k i acc h0 h1 hd hk ha hA
    obtain ⟨k, rfl⟩ : ∃ m, k = m + 1 := ⟨k - 1, by omega⟩
    have hlt : i < N := by omega
    have hls : i < (s.size : Int) := by omega
    have hacc : acc.length < 140737488355328 := by omega
    have hw : wrap64 (i + 1) = i + 1 := wrap_id (by omega) (by omega)
    simp only [laws_inlineLetters.l0, hw]
    rw [if_pos hlt, if_pos h0, if_pos hls]
    repeat' split
    all_goals first
      | exact ih k (i + 1) acc (by omega) (by omega) (by omega) (by omega) (by omega) hA
      | exact ih k (i + 1) (acc ++ [bt s i]) (by omega) (by omega) (by omega) (by omega) (by simp; omega) (hA.snoc (by omega))
      | (exfalso; omega)
theorem trim_ne {l : List UInt8} {b : UInt8} (hb : b ∈ l) (hs : Lib.isSp b = false) : Lib.trimSpace l ≠ [] := by
  have key : ∀ l : List UInt8, b ∈ l → b ∈ l.dropWhile Lib.isSp := by
    intro l
    induction l with
    | nil => exact fun h => h
    | cons a l ih =>
      intro h
      rw [List.dropWhile_cons]
      split
      · rename_i ha
        rcases List.mem_cons.1 h with rfl | h
        · rw [hs] at ha; cases ha
        · exact ih h
      · exact h
  unfold Lib.trimSpace
  intro e
  have h1 := key _ (List.mem_reverse.2 (key _ hb))
  rw [List.reverse_eq_nil_iff] at e
  rw [e] at h1
  cases h1
theorem word_ev (s : ByteArray) (hs : s.size ≤ 2147483647) : ∃ (r : ByteArray) (K : Nat), laws_inlineWord.f K s = some r ∧ solB r = true := by
  have hN : mn (s.size : Int) 40 ≤ s.size := by unfold mn; omega
  have hN3 : mn (s.size : Int) 40 ≤ 40 := by unfold mn; omega
  have hN0 : 0 ≤ mn (s.size : Int) 40 := by unfold mn; omega
  obtain ⟨r, h, hl, hA⟩ := letters_loop s _ hN hN3 (mn (s.size : Int) 40).toNat 42 0 [] (by omega) (by omega) (by omega) (by omega) (by simp) (fun _ h => by cases h)
  have hz : (strOfNums r).size = r.length := str_size r
  refine ⟨(⟨#[119]⟩ : ByteArray) ++ strOfNums r, 42, ?_, ?_⟩
  · unfold laws_inlineWord.f laws_inlineLetters.f
    rw [h]
    simp only [Option.bind_some]
    rw [if_pos (by omega)]
  · have hd : ((⟨#[119]⟩ : ByteArray) ++ strOfNums r).data.toList = 119 :: (strOfNums r).data.toList := by
      rw [ByteArray.data_append]
      simp
    have hd2 : (strOfNums r).data.toList = r.map fun n => UInt8.ofNat n.toNat := by unfold strOfNums; simp
    unfold solB
    rw [hd, Bool.and_eq_true, Bool.and_eq_true, decide_eq_true_eq]
    refine ⟨by rw [ByteArray.size_append, hz]; show 1 + r.length ≤ _; omega, ?_, ?_⟩
    · rw [List.all_eq_true]
      intro b hb
      rw [decide_eq_true_eq]
      rcases List.mem_cons.1 hb with rfl | hb
      · decide
      · rw [hd2] at hb
        obtain ⟨n, hn, rfl⟩ := List.mem_map.1 hb
        have := hA n hn
        rw [UInt8.toNat_ofNat']
        omega
    · have := trim_ne (l := 119 :: (strOfNums r).data.toList) (b := 119) List.mem_cons_self (by decide)
      cases h : Lib.trimSpace (119 :: (strOfNums r).data.toList) with
      | nil => exact absurd h this
      | cons a l => rfl
end Go.Proofs.YtmfjbljdbkmkgaaDoor.PDom

/- The law FnSwapTagsPair, walked by hand: two trees of three texts and two elements, their tags swapped. No further conditions but strings.asciiSpace. -/
namespace Go.Proofs.YtmfjbljdbkmkgaaDoor.PDom
open Go.Proofs.YtmfjbljdbkmkgaaDoor.Txt Go.RowKit Go.Proofs.YtmfjbljdbkmkgaaDoorW.PrintWords Go.Proofs.YtmfjbljdbkmkgaaDoorW.PrintLast Go.Proofs.YtmfjbljdbkmkgaaDoorW.PrintMore Go.Proofs.YtmfjbljdbkmkgaaDoor.Dom
set_option linter.unusedVariables false
set_option linter.unusedSimpArgs false

def tText (s : ByteArray) : T := ⟨1, ⟨#[]⟩, s, [], []⟩
def tIn (n : ByteArray) (ks : List T) : T := ⟨0, n, ⟨#[]⟩, [], ks⟩
theorem text_calls (s : ByteArray) (w : World) : Calls Tryd.prog 7 #[.string s] w fun e w' => e = .returned (.agg #[.int .i64 1, .string ⟨#[]⟩, .string s, .slice none 0 0, .slice none 0 0]) ∧ Below w.heap.size w w' := by
  go_enter Tryd.func7, Tryd.ntmps7
  go_wp2_with fail
  have h := heap_alloc_new w (.cells #[.int .i64 1, .string ⟨#[]⟩, .string s, .slice none 0 0, .slice none 0 0] 28)
  have q0 := blk_cell h 0
  have q1 := blk_cell h 1
  have q2 := blk_cell h 2
  have q3 := blk_cell h 3
  have q4 := blk_cell h 4
  refine bodyPost_ret (v := .agg #[.int .i64 1, .string ⟨#[]⟩, .string s, .slice none 0 0, .slice none 0 0]) (by simp [results, Tryd.results7, go_sem, q0, q1, q2, q3, q4]) rfl ⟨rfl, below_alloc (Below.refl _ _) _⟩
theorem in_calls (n : ByteArray) (A : Option Addr) (m c : Nat) (w : World) : Calls Tryd.prog 6 #[.string n, .slice A m c] w fun e w' => e = .returned (.agg #[.int .i64 0, .string n, .string ⟨#[]⟩, .slice none 0 0, .slice A m c]) ∧ Below w.heap.size w w' := by
  go_enter Tryd.func6, Tryd.ntmps6
  go_wp2_with fail
  have h := heap_alloc_new w (.cells #[.int .i64 0, .string n, .string ⟨#[]⟩, .slice none 0 0, .slice A m c] 28)
  have q0 := blk_cell h 0
  have q1 := blk_cell h 1
  have q2 := blk_cell h 2
  have q3 := blk_cell h 3
  have q4 := blk_cell h 4
  refine bodyPost_ret (v := .agg #[.int .i64 0, .string n, .string ⟨#[]⟩, .slice none 0 0, .slice A m c]) (by simp [results, Tryd.results6, go_sem, q0, q1, q2, q3, q4]) rfl ⟨rfl, below_alloc (Below.refl _ _) _⟩
theorem C_nil {α : Type} (d : Kd α) (w : World) : d.C w none 0 [] := ⟨rfl, by decide, fun h => absurd h (by decide)⟩
theorem blkC1 {w : World} {g : Nat} {v0 v1 v2 v3 v4 : Value} {t : T} (h : w.heap[g]? = some (.cells #[v0, v1, v2, v3, v4] 28 (0, 0))) (hk : k28.K w t [v0, v1, v2, v3, v4]) : Kd.C k28 w (some ⟨g, 0, none⟩) 1 [t] := by
  refine ⟨rfl, by decide, fun _ => ⟨_, rfl, fun j p hj => ?_⟩⟩
  match j, hj with
  | 0, hj =>
    obtain rfl := Option.some.inj hj
    refine ⟨_, rfl, hk, fun i u hi => ?_⟩
    have hs : Kd.sz k28 = 5 := rfl
    have hi5 : i < 5 := (List.getElem?_eq_some_iff.1 hi).1
    rw [hs, add_plain, blk_cell h, ← hi]
    match i, hi5 with
    | 0, _ => rfl
    | 1, _ => rfl
    | 2, _ => rfl
    | 3, _ => rfl
    | 4, _ => rfl
theorem blkC3 {w : World} {g : Nat} {a0 a1 a2 a3 a4 b0 b1 b2 b3 b4 c0 c1 c2 c3 c4 : Value} {t u v : T} (h : w.heap[g]? = some (.cells #[a0, a1, a2, a3, a4, b0, b1, b2, b3, b4, c0, c1, c2, c3, c4] 28 (0, 0)))
    (ha : k28.K w t [a0, a1, a2, a3, a4]) (hb : k28.K w u [b0, b1, b2, b3, b4]) (hc : k28.K w v [c0, c1, c2, c3, c4]) : Kd.C k28 w (some ⟨g, 0, none⟩) 3 [t, u, v] := by
  have hs : Kd.sz k28 = 5 := rfl
  refine ⟨rfl, by decide, fun _ => ⟨_, rfl, fun j p hj => ?_⟩⟩
  rw [hs]
  match j, hj with
  | 0, hj =>
    obtain rfl := Option.some.inj hj
    refine ⟨_, rfl, ha, fun i u hi => ?_⟩
    have hi5 : i < 5 := (List.getElem?_eq_some_iff.1 hi).1
    rw [add_plain, blk_cell h, ← hi]
    match i, hi5 with
    | 0, _ => rfl
    | 1, _ => rfl
    | 2, _ => rfl
    | 3, _ => rfl
    | 4, _ => rfl
  | 1, hj =>
    obtain rfl := Option.some.inj hj
    refine ⟨_, rfl, hb, fun i u hi => ?_⟩
    have hi5 : i < 5 := (List.getElem?_eq_some_iff.1 hi).1
    rw [add_plain, blk_cell h, ← hi]
    match i, hi5 with
    | 0, _ => rfl
    | 1, _ => rfl
    | 2, _ => rfl
    | 3, _ => rfl
    | 4, _ => rfl
  | 2, hj =>
    obtain rfl := Option.some.inj hj
    refine ⟨_, rfl, hc, fun i u hi => ?_⟩
    have hi5 : i < 5 := (List.getElem?_eq_some_iff.1 hi).1
    rw [add_plain, blk_cell h, ← hi]
    match i, hi5 with
    | 0, _ => rfl
    | 1, _ => rfl
    | 2, _ => rfl
    | 3, _ => rfl
    | 4, _ => rfl
theorem blkS3 {w : World} {g : Nat} {a b c : ByteArray} (h : w.heap[g]? = some (.cells #[.string a, .string b, .string c] 9 (0, 0))) : Kd.C Kd.string w (some ⟨g, 0, none⟩) 3 [a, b, c] := by
  refine Kd.C_of_reads (d := ByteArray.empty) ⟨rfl, by decide, fun _ => ⟨_, rfl, fun j hj => ?_⟩⟩
  rw [add_plain, blk_cell h]
  match j, hj with
  | 0, _ => rfl
  | 1, _ => rfl
  | 2, _ => rfl
theorem blkS2 {w : World} {g : Nat} {a b : ByteArray} (h : w.heap[g]? = some (.cells #[.string a, .string b] 9 (0, 0))) : Kd.C Kd.string w (some ⟨g, 0, none⟩) 2 [a, b] := by
  refine Kd.C_of_reads (d := ByteArray.empty) ⟨rfl, by decide, fun _ => ⟨_, rfl, fun j hj => ?_⟩⟩
  rw [add_plain, blk_cell h]
  match j, hj with
  | 0, _ => rfl
  | 1, _ => rfl
theorem kText (w : World) (s : ByteArray) : k28.K w (tText s) [.int .i64 1, .string ⟨#[]⟩, .string s, .slice none 0 0, .slice none 0 0] := k28_mk w (tText s) (c3 := 0) (c4 := 0) (Nat.le_refl _) (C_nil _ _) (Nat.le_refl _) (C_nil _ _)
theorem kIn (w : World) (n : ByteArray) {A : Option Addr} {m : Nat} {ks : List T} (hm : ks.length = m) (h : Kd.C k28 w A m ks) : k28.K w (tIn n ks) [.int .i64 0, .string n, .string ⟨#[]⟩, .slice none 0 0, .slice A m m] := by
  subst hm
  exact k28_mk w (tIn n ks) (c3 := 0) (Nat.le_refl _) (C_nil _ _) (Nat.le_refl _) h
def outerL : List ByteArray := [⟨#[98]⟩, ⟨#[115, 116, 114, 111, 110, 103]⟩, ⟨#[101, 109]⟩]
def innerL : List ByteArray := [⟨#[97]⟩, ⟨#[99, 111, 100, 101]⟩]
def pairT (x y a b c : ByteArray) : T := tIn ⟨#[112]⟩ [tText a, tIn x [tIn y [tText b]], tText c]
theorem swap_one {x y : ByteArray} (hx : x ∈ outerL) (hy : y ∈ innerL) (a b c : ByteArray) : swT outerL innerL (pairT x y a b c) = pairT y x a b c := by
  simp only [outerL, innerL, List.mem_cons, List.not_mem_nil, or_false] at hx hy
  rcases hx with rfl | rfl | rfl <;> rcases hy with rfl | rfl <;>
    simp [pairT, tIn, tText, swT, swTL, aloneT, isT, swapKidT, outerL, innerL, Lib.toList_data]
theorem swap_two {x y : ByteArray} (hx : x ∈ outerL) (hy : y ∈ innerL) (a b c : ByteArray) : swT outerL innerL (pairT y x a b c) = pairT y x a b c := by
  simp only [outerL, innerL, List.mem_cons, List.not_mem_nil, or_false] at hx hy
  rcases hx with rfl | rfl | rfl <;> rcases hy with rfl | rfl <;>
    simp [pairT, tIn, tText, swT, swTL, aloneT, isT, swapKidT, outerL, innerL, Lib.toList_data]
theorem ok_pair (x y a b c : ByteArray) : okT (pairT x y a b c) = true := by
  simp [pairT, tIn, tText, okT, okTL]
  try decide
theorem sol_pair {x y a b c : ByteArray} (ha : solB a = true) (hb : solB b = true) (hc : solB c = true) : solT (pairT x y a b c) = true := by
  simp [pairT, tIn, tText, solT, solTL, ha, hb, hc]
theorem count_pair (x y a b c : ByteArray) : countT (pairT x y a b c) ≤ 1000000 := by
  simp [pairT, tIn, tText, countT, countTL]

theorem same_calls (u : T) (hf : Fit u) (W : World) (A5 : Option Addr) (c5 : Nat) (A6 : Option Addr) (c6 : Nat) (A7 : Option Addr) (c7 : Nat) (A8 : Option Addr) (c8 : Nat) (h1 : Kd.C k38 W A5 u.f3.length u.f3) (h2 : u.f3.length ≤ c5) (h3 : Kd.C k28 W A6 u.f4.length u.f4) (h4 : u.f4.length ≤ c6) (h5 : Kd.C k38 W A7 u.f3.length u.f3) (h6 : u.f3.length ≤ c7) (h7 : Kd.C k28 W A8 u.f4.length u.f4) (h8 : u.f4.length ≤ c8) :
    Calls Tryd.prog 8 #[.agg #[.int .i64 u.f0, .string u.f1, .string u.f2, .slice A5 u.f3.length c5, .slice A6 u.f4.length c6], .agg #[.int .i64 u.f0, .string u.f1, .string u.f2, .slice A7 u.f3.length c7, .slice A8 u.f4.length c8]] W fun e w' => e = .returned (.bool true) ∧ Below W.heap.size W w' := by
  obtain ⟨ks, hks⟩ := (same_ev u hf).rounds
  exact spec_SameTree.calls ks u.f0 u.f1 u.f2 A5 c5 u.f3 A6 c6 u.f4 u.f0 u.f1 u.f2 A7 c7 u.f3 A8 c8 u.f4 true W h1 h2 h3 h4 h5 h6 h7 h8 hks
theorem same_pair (x y a b c : ByteArray) (W : World) (A5 : Option Addr) (c5 : Nat) (A6 : Option Addr) (c6 : Nat) (g : Nat) (h1 : Kd.C k38 W A5 (pairT x y a b c).f3.length (pairT x y a b c).f3) (h2 : (pairT x y a b c).f3.length ≤ c5) (h3 : Kd.C k28 W A6 (pairT x y a b c).f4.length (pairT x y a b c).f4) (h4 : (pairT x y a b c).f4.length ≤ c6) (h7 : Kd.C k28 W (some ⟨g, 0, none⟩) 3 (pairT x y a b c).f4) :
    Calls Tryd.prog 8 #[.agg #[.int .i64 0, .string ⟨#[112]⟩, .string ⟨#[]⟩, .slice A5 0 c5, .slice A6 3 c6], .agg #[.int .i64 0, .string ⟨#[112]⟩, .string ⟨#[]⟩, .slice none 0 0, .slice (some ⟨g, 0, none⟩) 3 3]] W fun e w' => e = .returned (.bool true) ∧ Below W.heap.size W w' :=
  same_calls (pairT x y a b c) (ok_fit _ (ok_pair _ _ _ _ _)) W A5 c5 A6 c6 none 0 (some ⟨g, 0, none⟩) 3 h1 h2 h3 h4 (C_nil _ _) (Nat.le_refl _) h7 (Nat.le_refl _)
theorem swap_pair (x y x' y' a b c : ByteArray) (he : swT outerL innerL (pairT x y a b c) = pairT x' y' a b c) (sa : solB a = true) (sb : solB b = true) (sc : solB c = true) (W : World) (g go gi : Nat) (h : Kd.C k28 W (some ⟨g, 0, none⟩) 3 (pairT x y a b c).f4) (ho : Kd.C Kd.string W (some ⟨go, 0, none⟩) 3 outerL) (hi : Kd.C Kd.string W (some ⟨gi, 0, none⟩) 2 innerL) (hcv : CV W) :
    Calls Tryd.prog 9 #[.agg #[.int .i64 0, .string ⟨#[112]⟩, .string ⟨#[]⟩, .slice none 0 0, .slice (some ⟨g, 0, none⟩) 3 3], .slice (some ⟨go, 0, none⟩) 3 3, .slice (some ⟨gi, 0, none⟩) 2 2] W fun e w' => ∃ A5 c5 A6 c6, e = .returned (.agg #[.int .i64 0, .string ⟨#[112]⟩, .string ⟨#[]⟩, .slice A5 0 c5, .slice A6 3 c6]) ∧
      Kd.C k38 w' A5 (pairT x' y' a b c).f3.length (pairT x' y' a b c).f3 ∧ (pairT x' y' a b c).f3.length ≤ c5 ∧ Kd.C k28 w' A6 (pairT x' y' a b c).f4.length (pairT x' y' a b c).f4 ∧ (pairT x' y' a b c).f4.length ≤ c6 ∧ Below W.heap.size W w' := by
  have h := swap_calls (pairT x y a b c) (ok_pair _ _ _ _ _) (sol_pair sa sb sc) (count_pair _ _ _ _ _) outerL innerL (by decide) (by decide) W none 0 (some ⟨g, 0, none⟩) 3 (some ⟨go, 0, none⟩) 3 (some ⟨gi, 0, none⟩) 2 (C_nil _ _) (Nat.le_refl _) h (Nat.le_refl _) ho hi hcv
  rw [he] at h
  refine h.mono ?_
  rintro e w' ⟨A5, c5, A6, c6, rfl, m5, F5, m6, F6, hB, _, _⟩
  exact ⟨A5, c5, A6, c6, rfl, Kd.F_now F5, m5, Kd.F_now F6, m6, hB⟩
theorem rem_three (a : Int) : Int.tmod (IntKind.u64.wrap a) 3 = 0 ∨ Int.tmod (IntKind.u64.wrap a) 3 = 1 ∨ Int.tmod (IntKind.u64.wrap a) 3 = 2 := by
  have h : 0 ≤ IntKind.u64.wrap a := by unfold IntKind.wrap; simp [IntKind.signed, IntKind.bits]; omega
  rw [Int.tmod_eq_emod_of_nonneg h]
  omega
theorem rem_two (a : Int) : Int.tmod (IntKind.u64.wrap a) 2 = 0 ∨ Int.tmod (IntKind.u64.wrap a) 2 = 1 := by
  have h : 0 ≤ IntKind.u64.wrap a := by unfold IntKind.wrap; simp [IntKind.signed, IntKind.bits]; omega
  rw [Int.tmod_eq_emod_of_nonneg h]
  omega
set_option maxHeartbeats 8000000 in
set_option maxRecDepth 100000 in
theorem law_walk (o i : Int) (a b c : ByteArray) (w : World) (hcv : CV w) :
    Calls Tryd.prog 3 #[.int .i64 o, .int .i64 i, .string a, .string b, .string c] w fun e w' => e = .returned (.bool true) ∧ Below w.heap.size w w' := by
  have HCV := Aside0.mk hcv
  clear hcv
  go_enter Tryd.func3, Tryd.ntmps3
  by_cases ha : a.size ≤ 2147483647
  · by_cases hb : b.size ≤ 2147483647
    · by_cases hc : c.size ≤ 2147483647
      · have d1 : decide (2147483647 < a.size) = false := decide_eq_false (by omega)
        have d2 : decide (2147483647 < b.size) = false := decide_eq_false (by omega)
        have d3 : decide (2147483647 < c.size) = false := decide_eq_false (by omega)
        have e1 : decide (2147483647 < (a.size : Int)) = false := decide_eq_false (by omega)
        have e2 : decide (2147483647 < (b.size : Int)) = false := decide_eq_false (by omega)
        have e3 : decide (2147483647 < (c.size : Int)) = false := decide_eq_false (by omega)
        obtain ⟨sa, ka, ra, sola⟩ := word_ev a ha
        obtain ⟨sb, kb, rb, solb⟩ := word_ev b hb
        obtain ⟨sc, kc, rc, solc⟩ := word_ev c hc
        have RA := Aside0.mk ra
        have RB := Aside0.mk rb
        have RC := Aside0.mk rc
        have SA := Aside0.mk sola
        have SB := Aside0.mk solb
        have SC := Aside0.mk solc
        clear ra rb rc sola solb solc
        go_upto_region 4 with fail
        go_cut [13, 14] (fun vx vy wc => ∃ x y : ByteArray, vx = .string x ∧ vy = .string y ∧ Aside0 (x ∈ outerL) ∧ Aside0 (y ∈ innerL) ∧ ∃ n, wc = (((w.alloc (.cells #[.string ⟨#[98]⟩, .string ⟨#[115, 116, 114, 111, 110, 103]⟩, .string ⟨#[101, 109]⟩] 9)).alloc (.cells #[.string ⟨#[97]⟩, .string ⟨#[99, 111, 100, 101]⟩] 9))).drewN n)
        case first =>
          clear d1 d2 d3 e1 e2 e3 RA RB RC SA SB SC HCV
          rcases rem_three o with h3 | h3 | h3 <;> rcases rem_two i with h2 | h2
          all_goals go_quiet (fail)
          all_goals go_wp2_with fail
          all_goals go_meet
          all_goals exact ⟨_, _, rfl, rfl, ⟨by simp [outerL]⟩, ⟨by simp [innerL]⟩, _, rfl⟩
        case rest =>
          clear d1 d2 d3 e1 e2 e3
          obtain ⟨x, y, rfl, rfl, HX, HY, n, hwc⟩ := hcut
          have hq := two_at w (.cells #[.string ⟨#[98]⟩, .string ⟨#[115, 116, 114, 111, 110, 103]⟩, .string ⟨#[101, 109]⟩] 9) (.cells #[.string ⟨#[97]⟩, .string ⟨#[99, 111, 100, 101]⟩] 9)
          obtain ⟨wl, hwl⟩ : ∃ wl, wl = (((w.alloc (.cells #[.string ⟨#[98]⟩, .string ⟨#[115, 116, 114, 111, 110, 103]⟩, .string ⟨#[101, 109]⟩] 9)).alloc (.cells #[.string ⟨#[97]⟩, .string ⟨#[99, 111, 100, 101]⟩] 9))).drewN n := ⟨_, rfl⟩
          have HB0 := Aside0.mk (show Below w.heap.size w wl by rw [hwl]; exact pw_below_drewN (below_alloc (below_alloc (Below.refl _ _) _) _) n)
          have CO := Aside0.mk (show Kd.C Kd.string wl (some ⟨w.heap.size, 0, none⟩) 3 outerL from blkS3 (by rw [hwl]; exact hq.1))
          have CI := Aside0.mk (show Kd.C Kd.string wl (some ⟨w.heap.size + 1, 0, none⟩) 2 innerL from blkS2 (by rw [hwl]; exact hq.2))
          rw [← hwl] at hwc
          have hwc2 := hwc.symm
          clear hwc
          subst hwc2
          clear hq hwl
          have HL := Aside0.mk (Below.refl wl.heap.size wl)
          go_wp2_with fail
          refine (laws_inlineWord.calls ka a sa _ RA.out).mono ?_
          rintro e w1 ⟨rfl, hb⟩
          have N_ := Aside0.mk (below_step HL.out hb)
          clear HL hb
          have HL := N_
          clear N_
          go_wp2_with fail
          refine (laws_inlineWord.calls kb b sb _ RB.out).mono ?_
          rintro e w2 ⟨rfl, hb⟩
          have N_ := Aside0.mk (below_step HL.out hb)
          clear HL hb
          have HL := N_
          clear N_
          go_wp2_with fail
          refine (laws_inlineWord.calls kc c sc _ RC.out).mono ?_
          rintro e w3 ⟨rfl, hb⟩
          have N_ := Aside0.mk (below_step HL.out hb)
          clear HL hb
          have HL := N_
          clear N_
          go_wp2_with fail
          refine (text_calls sa _).mono ?_
          rintro e w4 ⟨rfl, hb⟩
          have N_ := Aside0.mk (below_step HL.out hb)
          clear HL hb
          have HL := N_
          clear N_
          go_wp2_with fail
          refine (text_calls sb _).mono ?_
          rintro e w5 ⟨rfl, hb⟩
          have N_ := Aside0.mk (below_step HL.out hb)
          clear HL hb
          have HL := N_
          clear N_
          go_wp2_with fail
          refine (in_calls y _ _ _ _).mono ?_
          rintro e w6 ⟨rfl, hb⟩
          have C1 := Aside0.mk (Kd.C_below (blkC1 (heap_alloc_new w5 _) (kText _ sb)) hb)
          have N_ := Aside0.mk (below_step (below_alloc HL.out _) hb)
          clear HL hb
          have HL := N_
          clear N_
          go_wp2_with fail
          refine (in_calls x _ _ _ _).mono ?_
          rintro e w7 ⟨rfl, hb⟩
          have C2 := Aside0.mk (Kd.C_below (blkC1 (heap_alloc_new w6 _) (kIn _ y rfl (Kd.C_below C1.out (below_alloc (Below.refl _ _) _)))) hb)
          have N_ := Aside0.mk (below_step (below_alloc HL.out _) hb)
          clear HL hb
          have HL := N_
          clear N_
          clear C1
          go_wp2_with fail
          refine (text_calls sc _).mono ?_
          rintro e w8 ⟨rfl, hb⟩
          have N_ := Aside0.mk (Kd.C_below C2.out hb)
          clear C2
          have C2 := N_
          clear N_
          have N_ := Aside0.mk (below_step HL.out hb)
          clear HL hb
          have HL := N_
          clear N_
          go_wp2_with fail
          refine (in_calls ⟨#[112]⟩ _ _ _ _).mono ?_
          rintro e w9 ⟨rfl, hb⟩
          have T1 := Aside0.mk ((show Kd.C k28 w9 (some ⟨w8.heap.size, 0, none⟩) 3 (pairT x y sa sb sc).f4 from Kd.C_below (blkC3 (heap_alloc_new w8 _) (kText _ sa) (kIn _ x rfl (Kd.C_below C2.out (below_alloc (Below.refl _ _) _))) (kText _ sc)) hb))
          have N_ := Aside0.mk (below_step (below_alloc HL.out _) hb)
          clear HL hb
          have HL := N_
          clear N_
          clear C2
          go_wp2_with fail
          refine (text_calls sa _).mono ?_
          rintro e w10 ⟨rfl, hb⟩
          have K1 := Aside0.mk (heap_step hb (heap_alloc_new w9 _))
          have N_ := Aside0.mk (Kd.C_below (Kd.C_below T1.out (below_alloc (Below.refl _ _) _)) hb)
          clear T1
          have T1 := N_
          clear N_
          have N_ := Aside0.mk (below_step (below_alloc HL.out _) hb)
          clear HL hb
          have HL := N_
          clear N_
          go_wp2_with fail
          refine (text_calls sb _).mono ?_
          rintro e w11 ⟨rfl, hb⟩
          have N_ := Aside0.mk (Kd.C_below T1.out hb)
          clear T1
          have T1 := N_
          clear N_
          have N_ := Aside0.mk (heap_step hb K1.out)
          clear K1
          have K1 := N_
          clear N_
          have N_ := Aside0.mk (below_step HL.out hb)
          clear HL hb
          have HL := N_
          clear N_
          go_wp2_with fail
          refine (in_calls x _ _ _ _).mono ?_
          rintro e w12 ⟨rfl, hb⟩
          have N_ := Aside0.mk (Kd.C_below (Kd.C_below T1.out (below_alloc (Below.refl _ _) _)) hb)
          clear T1
          have T1 := N_
          clear N_
          have N_ := Aside0.mk (heap_step hb (heap_step (below_alloc (Below.refl _ _) _) K1.out))
          clear K1
          have K1 := N_
          clear N_
          have C1 := Aside0.mk (Kd.C_below (blkC1 (heap_alloc_new w11 _) (kText _ sb)) hb)
          have N_ := Aside0.mk (below_step (below_alloc HL.out _) hb)
          clear HL hb
          have HL := N_
          clear N_
          go_wp2_with fail
          refine (in_calls y _ _ _ _).mono ?_
          rintro e w13 ⟨rfl, hb⟩
          have N_ := Aside0.mk (Kd.C_below (Kd.C_below T1.out (below_alloc (Below.refl _ _) _)) hb)
          clear T1
          have T1 := N_
          clear N_
          have N_ := Aside0.mk (heap_step hb (heap_step (below_alloc (Below.refl _ _) _) K1.out))
          clear K1
          have K1 := N_
          clear N_
          have C2 := Aside0.mk (Kd.C_below (blkC1 (heap_alloc_new w12 _) (kIn _ x rfl (Kd.C_below C1.out (below_alloc (Below.refl _ _) _)))) hb)
          have N_ := Aside0.mk (below_step (below_alloc HL.out _) hb)
          clear HL hb
          have HL := N_
          clear N_
          clear C1
          go_wp2_with fail
          refine (text_calls sc _).mono ?_
          rintro e w14 ⟨rfl, hb⟩
          have N_ := Aside0.mk (Kd.C_below T1.out hb)
          clear T1
          have T1 := N_
          clear N_
          have N_ := Aside0.mk (heap_step hb K1.out)
          clear K1
          have K1 := N_
          clear N_
          have N_ := Aside0.mk (Kd.C_below C2.out hb)
          clear C2
          have C2 := N_
          clear N_
          have N_ := Aside0.mk (below_step HL.out hb)
          clear HL hb
          have HL := N_
          clear N_
          go_wp2_with fail
          refine (in_calls ⟨#[112]⟩ _ _ _ _).mono ?_
          rintro e w15 ⟨rfl, hb⟩
          have N_ := Aside0.mk (Kd.C_below (Kd.C_below T1.out (below_alloc (Below.refl _ _) _)) hb)
          clear T1
          have T1 := N_
          clear N_
          have N_ := Aside0.mk (heap_step hb (heap_step (below_alloc (Below.refl _ _) _) K1.out))
          clear K1
          have K1 := N_
          clear N_
          have T2 := Aside0.mk ((show Kd.C k28 w15 (some ⟨w14.heap.size, 0, none⟩) 3 (pairT y x sa sb sc).f4 from Kd.C_below (blkC3 (heap_alloc_new w14 _) (kText _ sa) (kIn _ y rfl (Kd.C_below C2.out (below_alloc (Below.refl _ _) _))) (kText _ sc)) hb))
          have N_ := Aside0.mk (below_step (below_alloc HL.out _) hb)
          clear HL hb
          have HL := N_
          clear N_
          clear C2
          clear RA RB RC
          obtain ⟨a1, ha1⟩ : ∃ a1, a1 = w8.heap.size := ⟨_, rfl⟩
          obtain ⟨a2, ha2⟩ : ∃ a2, a2 = w14.heap.size := ⟨_, rfl⟩
          obtain ⟨b1, hb1⟩ : ∃ b1, b1 = w9.heap.size := ⟨_, rfl⟩
          rw [← ha1] at T1 K1 ⊢
          rw [← ha2] at T2 ⊢
          rw [← hb1] at K1 ⊢
          clear ha1 ha2 hb1
          go_upto_region 8 with fail
          obtain ⟨b2, hb2⟩ : ∃ b2, b2 = w15.heap.size := ⟨_, rfl⟩
          obtain ⟨V, hV⟩ : ∃ V, V = w15.alloc (.cells #[.int .i64 0, .string ⟨#[112]⟩, .string ⟨#[]⟩, .slice none 0 0, .slice (some ⟨a2, 0, none⟩) 3 3] 28) := ⟨_, rfl⟩
          have hVb : Below w15.heap.size w15 V := by rw [hV]; exact below_alloc (Below.refl _ _) _
          have K2 := Aside0.mk (show V.heap[b2]? = some (.cells #[.int .i64 0, .string ⟨#[112]⟩, .string ⟨#[]⟩, .slice none 0 0, .slice (some ⟨a2, 0, none⟩) 3 3] 28 (0, 0)) by rw [hV, hb2]; exact heap_alloc_new _ _)
          rw [← hV, ← hb2]
          have HLV := below_step HL.out hVb
          have HW := Aside0.mk (below_step HB0.out HLV)
          have COV := Kd.C_below CO.out HLV
          have CIV := Kd.C_below CI.out HLV
          have T1V := Kd.C_below T1.out hVb
          have T2V := Kd.C_below T2.out hVb
          have K1V := heap_step hVb K1.out
          have CVV := HCV.out.below HW.out
          have HSW1 := Aside0.mk (fun (W : World) (hb : Below V.heap.size V W) => swap_pair x y y x sa sb sc (swap_one HX.out HY.out sa sb sc) SA.out SB.out SC.out W a1 w.heap.size (w.heap.size + 1) (Kd.C_below T1V hb) (Kd.C_below COV hb) (Kd.C_below CIV hb) (CVV.below hb))
          have HSW2 := Aside0.mk (fun (W : World) (hb : Below V.heap.size V W) => swap_pair y x y x sa sb sc (swap_two HX.out HY.out sa sb sc) SA.out SB.out SC.out W a2 w.heap.size (w.heap.size + 1) (Kd.C_below T2V hb) (Kd.C_below COV hb) (Kd.C_below CIV hb) (CVV.below hb))
          have HST := Aside0.mk (fun (W : World) (hb : Below V.heap.size V W) A5 c5 A6 c6 h1 h2 h3 h4 => same_pair y x sa sb sc W A5 c5 A6 c6 a2 h1 h2 h3 h4 (Kd.C_below T2V hb))
          have HK1 := Aside0.mk (fun (W : World) (hb : Below V.heap.size V W) => (show W.cell? ⟨b1, 0, none⟩ = some (.int .i64 0) ∧ W.cell? ⟨b1, 1, none⟩ = some (.string ⟨#[112]⟩) ∧ W.cell? ⟨b1, 2, none⟩ = some (.string ⟨#[]⟩) ∧ W.cell? ⟨b1, 3, none⟩ = some (.slice none 0 0) ∧ W.cell? ⟨b1, 4, none⟩ = some (.slice (some ⟨a1, 0, none⟩) 3 3) from ⟨blk_cell (heap_step hb K1V) 0, blk_cell (heap_step hb K1V) 1, blk_cell (heap_step hb K1V) 2, blk_cell (heap_step hb K1V) 3, blk_cell (heap_step hb K1V) 4⟩))
          have HK2 := Aside0.mk (fun (W : World) (hb : Below V.heap.size V W) => (show W.cell? ⟨b2, 0, none⟩ = some (.int .i64 0) ∧ W.cell? ⟨b2, 1, none⟩ = some (.string ⟨#[112]⟩) ∧ W.cell? ⟨b2, 2, none⟩ = some (.string ⟨#[]⟩) ∧ W.cell? ⟨b2, 3, none⟩ = some (.slice none 0 0) ∧ W.cell? ⟨b2, 4, none⟩ = some (.slice (some ⟨a2, 0, none⟩) 3 3) from ⟨blk_cell (heap_step hb K2.out) 0, blk_cell (heap_step hb K2.out) 1, blk_cell (heap_step hb K2.out) 2, blk_cell (heap_step hb K2.out) 3, blk_cell (heap_step hb K2.out) 4⟩))
          clear hVb HLV COV CIV T1V T2V K1V CVV K1 K2 T1 T2 CO CI HL HB0 HCV SA SB SC HX HY hV hb2
          obtain ⟨p0, p1, p2, p3, p4⟩ := HK1.out V (Below.refl _ _)
          obtain ⟨q0, q1, q2, q3, q4⟩ := HK2.out V (Below.refl _ _)
          have HBV := Aside0.mk (below_drew (Below.refl V.heap.size V))
          go_region_law (first
            | (go_simp; go_at_call 9; (first | refine (HSW1.out _ HBV.out).mono ?_ | refine (HSW2.out _ HBV.out).mono ?_); rintro e w16 ⟨A5, c5, A6, c6, rfl, F5, m5, F6, m6, hB⟩; have HM5 := Aside0.mk m5; have HM6 := Aside0.mk m6; have HC5 := Aside0.mk F5; have HC6 := Aside0.mk F6; have N_ := Aside0.mk (below_step HBV.out hB); clear HBV m5 F5 m6 F6 hB; have HBV := N_; clear N_; obtain ⟨p0, p1, p2, p3, p4⟩ := HK1.out _ HBV.out; obtain ⟨q0, q1, q2, q3, q4⟩ := HK2.out _ HBV.out)
            | (go_simp; go_at_call 8; refine (HST.out _ HBV.out A5 c5 A6 c6 HC5.out HM5.out HC6.out HM6.out).mono ?_; rintro e w17 ⟨rfl, hB⟩; have N_ := Aside0.mk (below_step HBV.out hB); clear HBV hB; have HBV := N_; clear N_; obtain ⟨p0, p1, p2, p3, p4⟩ := HK1.out _ HBV.out; obtain ⟨q0, q1, q2, q3, q4⟩ := HK2.out _ HBV.out))
          all_goals (simp only [Exit.inBlock, Exit.then]; go_wp2_with fail)
          all_goals go_ret
          all_goals exact ⟨rfl, below_step HW.out HBV.out⟩
      · have c3 : decide (2147483647 < c.size) = true := decide_eq_true (by omega)
        have d1 : decide (2147483647 < a.size) = false := decide_eq_false (by omega)
        have d2 : decide (2147483647 < b.size) = false := decide_eq_false (by omega)
        have e1 : decide (2147483647 < (a.size : Int)) = false := decide_eq_false (by omega)
        have e2 : decide (2147483647 < (b.size : Int)) = false := decide_eq_false (by omega)
        have e3 : decide (2147483647 < (c.size : Int)) = true := decide_eq_true (by omega)
        go_wp2_with fail
        go_ret
        exact ⟨rfl, Below.refl _ _⟩
    · have d1 : decide (2147483647 < a.size) = false := decide_eq_false (by omega)
      have d2 : decide (2147483647 < b.size) = true := decide_eq_true (by omega)
      have e1 : decide (2147483647 < (a.size : Int)) = false := decide_eq_false (by omega)
      have e2 : decide (2147483647 < (b.size : Int)) = true := decide_eq_true (by omega)
      go_wp2_with fail
      go_ret
      exact ⟨rfl, Below.refl _ _⟩
  · have d1 : decide (2147483647 < a.size) = true := decide_eq_true (by omega)
    have e1 : decide (2147483647 < (a.size : Int)) = true := decide_eq_true (by omega)
    go_wp2_with fail
    go_ret
    exact ⟨rfl, Below.refl _ _⟩
end Go.Proofs.YtmfjbljdbkmkgaaDoor.PDom

/- FnSwapTagsPair: the walk as the row wants it. -/
namespace Go.Proofs.YtmfjbljdbkmkgaaDoor.PDom
open Go.RowKit Go.Proofs.YtmfjbljdbkmkgaaDoorW.PrintWords Go.Proofs.YtmfjbljdbkmkgaaDoorW.PrintLast Go.Proofs.YtmfjbljdbkmkgaaDoorW.PrintMore Go.Proofs.YtmfjbljdbkmkgaaDoor.Dom
set_option maxRecDepth 100000 in
theorem tab_eq : (Rows.laid_strings_asciiSpace : DataW Unit) = Lib.tabData .u8 Lib.asciiSpaceTab := by kernel_rfl
theorem cv_of (w : World) (h : laidMet Tryd.prog Rows.fnSwapTagsPairRow.laid w) : CV w := by
  have h2 : laidMet Tryd.prog [("strings.asciiSpace", Rows.laid_strings_asciiSpace), ("unicode/utf8.first", Rows.laid_unicode_utf8_first)] w := h.tail.tail
  rw [tab_eq] at h2
  exact Lib.tabIs_of_head (g := 0) (t := 79) (e := 5) (n := 256) (by kernel_rfl) (by kernel_rfl) (by kernel_rfl) (by kernel_rfl) (by kernel_rfl) (by kernel_rfl) h2
theorem sw_row (o i : Int) (a b c : ByteArray) (w : World) (_ : (Lit.int .i64 o).wf = true) (_ : (Lit.int .i64 i).wf = true) (_ : a.size ≤ 140737488351232) (_ : b.size ≤ 140737488351232) (_ : c.size ≤ 140737488351232) (hL : laidMet Tryd.prog Rows.fnSwapTagsPairRow.laid w) :
    Calls Tryd.prog 3 #[.int .i64 o, .int .i64 i, .string a, .string b, .string c] w fun e w' => e = .returned (.bool true) ∧ Below w.heap.size w w' := law_walk o i a b c w (cv_of w hL)
end Go.Proofs.YtmfjbljdbkmkgaaDoor.PDom

/- The row of the law FnSwapTagsPair, out of its walk. No further conditions. -/
namespace Go.Proofs.YtmfjbljdbkmkgaaDoor.fnSwapTagsPair
open Go.ChangeShapes Go.WideShapes Go.ChangeAt Go.RowKit
open Go.ChangeMaps (open_string shut_string)
open Go.Proofs.YtmfjbljdbkmkgaaDoor.PDom
set_option linter.unusedVariables false
theorem own : ownKnob Tryd.prog.godebug = none := by kernel_rfl
/-- A world in which the listed variables hold what the program lays. -/
noncomputable def laidWorld (os : Os) : World :=
  let N := (World.settled Tryd.prog os).heap.size
  let w0 := World.holding Tryd.prog os ⟨#[.cells #[Value.int .u16 9, Value.int .u16 13, Value.int .u16 1, Value.int .u16 32, Value.int .u16 133, Value.int .u16 101, Value.int .u16 160, Value.int .u16 5760, Value.int .u16 5600, Value.int .u16 8192, Value.int .u16 8202, Value.int .u16 1, Value.int .u16 8232, Value.int .u16 8233, Value.int .u16 1, Value.int .u16 8239, Value.int .u16 8287, Value.int .u16 48, Value.int .u16 12288, Value.int .u16 12288, Value.int .u16 1] 91, .cells #[Value.slice (some ⟨N + 0, 0, none⟩) 7 7, Value.slice none 0 0, Value.int .i64 2] 88], #[], []⟩
  let put (h : Array Obj) (g : Nat) (cs : Array Value) : Array Obj := h.modify g fun
    | .cells _ t frozen => .cells cs t frozen
    | o => o
  { w0 with heap := put (put (put (put (w0.heap) 3 #[Value.int .u8 128, Value.int .u8 191, Value.int .u8 160, Value.int .u8 191, Value.int .u8 128, Value.int .u8 159, Value.int .u8 144, Value.int .u8 191, Value.int .u8 128, Value.int .u8 143, Value.int .u8 0, Value.int .u8 0, Value.int .u8 0, Value.int .u8 0, Value.int .u8 0, Value.int .u8 0, Value.int .u8 0, Value.int .u8 0, Value.int .u8 0, Value.int .u8 0, Value.int .u8 0, Value.int .u8 0, Value.int .u8 0, Value.int .u8 0, Value.int .u8 0, Value.int .u8 0, Value.int .u8 0, Value.int .u8 0, Value.int .u8 0, Value.int .u8 0, Value.int .u8 0, Value.int .u8 0]) 1 #[Value.pointer (some ⟨N + 1, 0, none⟩)]) 0 #[Value.int .u8 0, Value.int .u8 0, Value.int .u8 0, Value.int .u8 0, Value.int .u8 0, Value.int .u8 0, Value.int .u8 0, Value.int .u8 0, Value.int .u8 0, Value.int .u8 1, Value.int .u8 1, Value.int .u8 1, Value.int .u8 1, Value.int .u8 1, Value.int .u8 0, Value.int .u8 0, Value.int .u8 0, Value.int .u8 0, Value.int .u8 0, Value.int .u8 0, Value.int .u8 0, Value.int .u8 0, Value.int .u8 0, Value.int .u8 0, Value.int .u8 0, Value.int .u8 0, Value.int .u8 0, Value.int .u8 0, Value.int .u8 0, Value.int .u8 0, Value.int .u8 0, Value.int .u8 0, Value.int .u8 1, Value.int .u8 0, Value.int .u8 0, Value.int .u8 0, Value.int .u8 0, Value.int .u8 0, Value.int .u8 0, Value.int .u8 0, Value.int .u8 0, Value.int .u8 0, Value.int .u8 0, Value.int .u8 0, Value.int .u8 0, Value.int .u8 0, Value.int .u8 0, Value.int .u8 0, Value.int .u8 0, Value.int .u8 0, Value.int .u8 0, Value.int .u8 0, Value.int .u8 0, Value.int .u8 0, Value.int .u8 0, Value.int .u8 0, Value.int .u8 0, Value.int .u8 0, Value.int .u8 0, Value.int .u8 0, Value.int .u8 0, Value.int .u8 0, Value.int .u8 0, Value.int .u8 0, Value.int .u8 0, Value.int .u8 0, Value.int .u8 0, Value.int .u8 0, Value.int .u8 0, Value.int .u8 0, Value.int .u8 0, Value.int .u8 0, Value.int .u8 0, Value.int .u8 0, Value.int .u8 0, Value.int .u8 0, Value.int .u8 0, Value.int .u8 0, Value.int .u8 0, Value.int .u8 0, Value.int .u8 0, Value.int .u8 0, Value.int .u8 0, Value.int .u8 0, Value.int .u8 0, Value.int .u8 0, Value.int .u8 0, Value.int .u8 0, Value.int .u8 0, Value.int .u8 0, Value.int .u8 0, Value.int .u8 0, Value.int .u8 0, Value.int .u8 0, Value.int .u8 0, Value.int .u8 0, Value.int .u8 0, Value.int .u8 0, Value.int .u8 0, Value.int .u8 0, Value.int .u8 0, Value.int .u8 0, Value.int .u8 0, Value.int .u8 0, Value.int .u8 0, Value.int .u8 0, Value.int .u8 0, Value.int .u8 0, Value.int .u8 0, Value.int .u8 0, Value.int .u8 0, Value.int .u8 0, Value.int .u8 0, Value.int .u8 0, Value.int .u8 0, Value.int .u8 0, Value.int .u8 0, Value.int .u8 0, Value.int .u8 0, Value.int .u8 0, Value.int .u8 0, Value.int .u8 0, Value.int .u8 0, Value.int .u8 0, Value.int .u8 0, Value.int .u8 0, Value.int .u8 0, Value.int .u8 0, Value.int .u8 0, Value.int .u8 0, Value.int .u8 0, Value.int .u8 0, Value.int .u8 0, Value.int .u8 0, Value.int .u8 0, Value.int .u8 0, Value.int .u8 0, Value.int .u8 0, Value.int .u8 0, Value.int .u8 0, Value.int .u8 0, Value.int .u8 0, Value.int .u8 0, Value.int .u8 0, Value.int .u8 0, Value.int .u8 0, Value.int .u8 0, Value.int .u8 0, Value.int .u8 0, Value.int .u8 0, Value.int .u8 0, Value.int .u8 0, Value.int .u8 0, Value.int .u8 0, Value.int .u8 0, Value.int .u8 0, Value.int .u8 0, Value.int .u8 0, Value.int .u8 0, Value.int .u8 0, Value.int .u8 0, Value.int .u8 0, Value.int .u8 0, Value.int .u8 0, Value.int .u8 0, Value.int .u8 0, Value.int .u8 0, Value.int .u8 0, Value.int .u8 0, Value.int .u8 0, Value.int .u8 0, Value.int .u8 0, Value.int .u8 0, Value.int .u8 0, Value.int .u8 0, Value.int .u8 0, Value.int .u8 0, Value.int .u8 0, Value.int .u8 0, Value.int .u8 0, Value.int .u8 0, Value.int .u8 0, Value.int .u8 0, Value.int .u8 0, Value.int .u8 0, Value.int .u8 0, Value.int .u8 0, Value.int .u8 0, Value.int .u8 0, Value.int .u8 0, Value.int .u8 0, Value.int .u8 0, Value.int .u8 0, Value.int .u8 0, Value.int .u8 0, Value.int .u8 0, Value.int .u8 0, Value.int .u8 0, Value.int .u8 0, Value.int .u8 0, Value.int .u8 0, Value.int .u8 0, Value.int .u8 0, Value.int .u8 0, Value.int .u8 0, Value.int .u8 0, Value.int .u8 0, Value.int .u8 0, Value.int .u8 0, Value.int .u8 0, Value.int .u8 0, Value.int .u8 0, Value.int .u8 0, Value.int .u8 0, Value.int .u8 0, Value.int .u8 0, Value.int .u8 0, Value.int .u8 0, Value.int .u8 0, Value.int .u8 0, Value.int .u8 0, Value.int .u8 0, Value.int .u8 0, Value.int .u8 0, Value.int .u8 0, Value.int .u8 0, Value.int .u8 0, Value.int .u8 0, Value.int .u8 0, Value.int .u8 0, Value.int .u8 0, Value.int .u8 0, Value.int .u8 0, Value.int .u8 0, Value.int .u8 0, Value.int .u8 0, Value.int .u8 0, Value.int .u8 0, Value.int .u8 0, Value.int .u8 0, Value.int .u8 0, Value.int .u8 0, Value.int .u8 0, Value.int .u8 0, Value.int .u8 0, Value.int .u8 0, Value.int .u8 0, Value.int .u8 0, Value.int .u8 0, Value.int .u8 0, Value.int .u8 0, Value.int .u8 0, Value.int .u8 0, Value.int .u8 0, Value.int .u8 0, Value.int .u8 0]) 2 (Lib.firstTab.map fun z => Value.int .u8 z).toArray }
set_option maxRecDepth 100000 in
theorem laid_met (os : Os) (args : Array Value) : laidMet Tryd.prog Rows.fnSwapTagsPairRow.laid ((laidWorld os).forCall (fun _ _ => 0) ⟨#[], args, []⟩).memory :=
  laidMet_of_run3 10 (by kernel_rfl) (by kernel_rfl) (by kernel_rfl)
set_option maxRecDepth 100000 in
theorem wit (os : Os) {H : Type} (enc : TypeId × Value → H) : ∃ (w : World) (tape : Tape) (i : Input), w.os = os ∧ (w.forCall tape i).Shaped Tryd.checked.prog ∧ i.vars = [] ∧ Input.okWide Tryd.checked.prog (w.forCall tape i) .any w.heap.size 3 i ∧
      ((Rows.fnSwapTagsPairSpec.pre enc Tryd.checked.prog Tryd.f3 Rows.fnSwapTagsPairRow.domain false (w.forCall tape i).memory i.args ∧ laidMet Tryd.prog Rows.fnSwapTagsPairRow.laid (w.forCall tape i).memory) ∧ sizedMet enc Tryd.checked.prog Tryd.f3 (OpenSpec.ofChange Rows.fnSwapTagsPairSpec) false (w.forCall tape i).memory i.args) ∧ ({} : Assume).holds Tryd.checked.prog (lone (Frame.enter Tryd.checked.prog 3 i.args .normal) [] (w.forCall tape i)) :=
  have hok : Input.okWideB Tryd.checked.prog ((laidWorld os).forCall (fun _ _ => 0) ⟨#[], #[.int .i64 0, .int .i64 0, .string ByteArray.empty, .string ByteArray.empty, .string ByteArray.empty], []⟩) 3 ⟨#[], #[.int .i64 0, .int .i64 0, .string ByteArray.empty, .string ByteArray.empty, .string ByteArray.empty], []⟩ = true := by kernel_rfl
  ⟨laidWorld os, fun _ _ => 0, ⟨#[], #[.int .i64 0, .int .i64 0, .string ByteArray.empty, .string ByteArray.empty, .string ByteArray.empty], []⟩, rfl, World.shaped_of_RefB (by kernel_rfl) (by kernel_rfl), (Input.okWide_of_okWideB (base := 0) hok).1, (Input.okWide_of_okWideB hok).2, ⟨⟨ChangeSpec.pre_of_preB (fuel := 8) (by kernel_rfl), laid_met os _⟩, sizedMet_of_sizedB (fuel := 8) (by kernel_rfl)⟩, by
    simp only [Assume.holds]
    exact ⟨by simp, by simp, (fun h => by cases h), by simp, by simp⟩⟩
set_option maxRecDepth 100000 in
theorem lifted (os : Os) (started : os.Started) (H : Type) (enc : TypeId × Value → H) :
    ReturnsInHanded {} Tryd.checked os 3 .any (fun w args => (Rows.fnSwapTagsPairSpec.pre enc Tryd.prog Tryd.f3 Rows.fnSwapTagsPairRow.domain false w args ∧ laidMet Tryd.prog Rows.fnSwapTagsPairRow.laid w) ∧ sizedMet enc Tryd.prog Tryd.f3 (OpenSpec.ofChange Rows.fnSwapTagsPairSpec) false w args) (Rows.fnSwapTagsPairSpec.post enc Tryd.prog Tryd.f3 false true false false) := by
  refine returnsInHanded_of_change_and (C := Tryd.checked) (X := fun w _ => laidMet Tryd.prog Rows.fnSwapTagsPairRow.laid w) (fun _ _ _ hh h => h.of_heap hh) own started (by kernel_rfl) Tryd.func3 (wit os enc) ?_
  intro W base args ds gs before hval0 hW hcnd hsz0 hL _
  have hsz : (DataW.weightsEach Tryd.prog (Tryd.f3.params.toList ++ Rows.fnSwapTagsPairSpec.plain.varTypes Tryd.prog) (ds ++ gs)).all (· ≤ reachBytes) = true := hsz0
  have hval : ∀ (j : Nat) t v, Tryd.f3.params[j]? = some t → args[j]? = some v → Value.okWide Tryd.prog W .any base t v := hval0
  have hW' := hW
  obtain ⟨p, q, hA0, hV, rfl, hfz, hnd⟩ := hW
  have hA : DataW.TrodAll enc Tryd.prog W 0 (fun _ => true) true Tryd.f3.params.toList args.toList ds p := hA0
  rw [Tryd.params3] at hA hval hsz
  obtain ⟨v0, vs0, d0, ds0, p0, q0, hargs, rfl, rfl, h0, r0⟩ := trodAll_cons hA
  obtain ⟨v1, vs1, d1, ds1, p1, q1, rfl, rfl, rfl, h1, r1⟩ := trodAll_cons r0
  obtain ⟨v2, vs2, d2, ds2, p2, q2, rfl, rfl, rfl, h2, r2⟩ := trodAll_cons r1
  obtain ⟨v3, vs3, d3, ds3, p3, q3, rfl, rfl, rfl, h3, r3⟩ := trodAll_cons r2
  obtain ⟨v4, vs4, d4, ds4, p4, q4, rfl, rfl, rfl, h4, r4⟩ := trodAll_cons r3
  obtain ⟨rfl, rfl, rfl⟩ := trodAll_nil r4
  obtain rfl : args = #[v0, v1, v2, v3, v4] := by cases args; simp_all
  obtain ⟨rfl, rfl⟩ := trodVars_none hV
  obtain ⟨a0, rfl, rfl, rfl, w0⟩ := open_int Tryd.underlying3 (hval 0 3 v0 rfl rfl) h0
  obtain ⟨a1, rfl, rfl, rfl, w1⟩ := open_int Tryd.underlying3 (hval 1 3 v1 rfl rfl) h1
  obtain ⟨a2, rfl, rfl, rfl, y2⟩ := open_string Tryd.underlying9 (hval 2 9 v2 rfl rfl) h2
  have w2 : a2.size ≤ 140737488351232 := by
    have z := sized_string hsz (j := 2) (t := 9) rfl rfl
    rw [Array.length_toList] at z
    exact z
  obtain ⟨a3, rfl, rfl, rfl, y3⟩ := open_string Tryd.underlying9 (hval 3 9 v3 rfl rfl) h3
  have w3 : a3.size ≤ 140737488351232 := by
    have z := sized_string hsz (j := 3) (t := 9) rfl rfl
    rw [Array.length_toList] at z
    exact z
  obtain ⟨a4, rfl, rfl, rfl, y4⟩ := open_string Tryd.underlying9 (hval 4 9 v4 rfl rfl) h4
  have w4 : a4.size ≤ 140737488351232 := by
    have z := sized_string hsz (j := 4) (t := 9) rfl rfl
    rw [Array.length_toList] at z
    exact z
  clear hA0 hval0 hsz0
  refine (PDom.sw_row a0 a1 a2 a3 a4 W w0 w1 w2 w3 w4 hL).mono fun e W' ⟨he, bel⟩ => ?_
  subst he
  exact ⟨_, rfl, _, _, _, [], _, [], hW', trodAll_mk1 (shut_bool Tryd.underlying4 _), (trodAll_cons_mk (shut_int Tryd.underlying3 w0) (trodAll_cons_mk (shut_int Tryd.underlying3 w1) (trodAll_cons_mk (shut_string Tryd.underlying9 y2) (trodAll_cons_mk (shut_string Tryd.underlying9 y3) (trodAll_cons_mk (shut_string Tryd.underlying9 y4) trodAll_mk0))))), rfl, bel.frame _, fun h => by cases h⟩
theorem over : Rows.fnSwapTagsPairRow.holds Tryd.pinned (OpenSpec.ofChange Rows.fnSwapTagsPairSpec) :=
  OpenClaim.holds_of_wide 3 Tryd.f3 rfl rfl rfl rfl rfl rfl rfl ⟨rfl, rfl, rfl, rfl, rfl⟩ rfl rfl rfl rfl rfl (by kernel_rfl) Tryd.func3 (by kernel_rfl)
    (of_decide_eq_true (by kernel_rfl)) (by unfold Func.isWrapper; first | (rw [if_pos (by decide +kernel)]; kernel_rfl) | (rw [if_neg (by decide +kernel)]; exact ⟨rfl, rfl⟩))
    (fun os started H enc _ => lifted os started H enc)
theorem proved : Rows.FnSwapTagsPairCardSaid :=
  Claim7.holds_tied_plain_at .later [] [.data, .listed, .data, .pinned] true (true, "1750c264c8a0c2577b45722aacbbcffc5baa53fe9c8844eece901f588ac14e1d") false
    over (fun _ h => by cases h) (by kernel_rfl) (fun _ h => by cases h) fnSwapTagsPair_row_tie rfl ⟨rfl, rfl⟩ (by kernel_rfl) rfl
    (fun f fn hf hfn => by
      obtain rfl : f = 3 := Option.some.inj ((show Tryd.prog.funcNamed "pub-ligature/laws.FnSwapTagsPair" = some 3 by kernel_rfl).symm.trans hf) |>.symm
      obtain rfl : fn = Tryd.f3 := (Option.some.inj (Tryd.func3.symm.trans hfn)).symm
      exact ⟨by kernel_rfl, fun j t ht => by
        rw [Tryd.params3] at ht
        have hm : t ∈ [3, 3, 9, 9, 9] := by
          have := Array.mem_of_getElem? ht
          simpa using this
        simp only [List.mem_cons, List.mem_nil_iff, or_false] at hm
        rcases hm with rfl | rfl | rfl | rfl | rfl
        · exact (show Tryd.prog.wantsStandIn 3 = false by kernel_rfl)
        · exact (show Tryd.prog.wantsStandIn 3 = false by kernel_rfl)
        · exact (show Tryd.prog.wantsStandIn 9 = false by kernel_rfl)
        · exact (show Tryd.prog.wantsStandIn 9 = false by kernel_rfl)
        · exact (show Tryd.prog.wantsStandIn 9 = false by kernel_rfl)⟩)
    (by kernel_rfl)
#print axioms proved
end Go.Proofs.YtmfjbljdbkmkgaaDoor.fnSwapTagsPair
namespace Go.Proofs.YtmfjbljdbkmkgaaDoor
/-- The card, under a short name, for the claim. -/
theorem fnSwapTagsPair_holds : Rows.FnSwapTagsPairCardSaid := fnSwapTagsPair.proved
end Go.Proofs.YtmfjbljdbkmkgaaDoor
