/- A part of the proof of FnCollapse: RefX, CldX, ColL, LawCol, PureCol, Open, OpenX, RowFnCollapse, one behind the other. -/
import Derived.Test.YtmfjbljdbkmkgaaMFnCollapse6
import Derived.Sort.AtCall
import Derived.Deep.RegionWith
import Derived.Deep.RegionLaw
import Derived.Test.YtmfjbljdbkmkgaaMFnCollapse5
import Derived.StillTailTactics
import Derived.Test.YtmfjbljdbkmkgaaMFnCollapse1
import Derived.ChangeArms
import Derived.ChangeSlices
import Derived.DataReads
import Derived.SizedLaws
import Derived.Test.YtmfjbljdbkmkgaaMFnCollapse3
import Derived.Test.YtmfjbljdbkmkgaaRows
import Derived.WalkKit
import Derived.ProofKit
import Derived.OpenShut
import Derived.ShutString
import Derived.ChangeOld
import Derived.Below
/- spec.refilled: its contract. -/
namespace Go.Proofs.Ytmfjbljdbkmkgaa.Dom
open Go.RowKit Go.Proofs.YtmfjbljdbkmkgaaW.PrintWords Go.Proofs.YtmfjbljdbkmkgaaW.PrintLast Go.Proofs.YtmfjbljdbkmkgaaW.PrintMore Go.Proofs.Ytmfjbljdbkmkgaa.PDom Go.Proofs.Ytmfjbljdbkmkgaa.Txt Go.Proofs.Ytmfjbljdbkmkgaa.Blank
set_option linter.unusedVariables false
set_option linter.unusedSimpArgs false

theorem four_new (w : World) (o0 o1 o2 o3 : Obj) : ((((w.alloc o0).alloc o1).alloc o2).alloc o3).heap.size = w.heap.size + 4 ∧ Below w.heap.size w ((((w.alloc o0).alloc o1).alloc o2).alloc o3) ∧ ((((w.alloc o0).alloc o1).alloc o2).alloc o3).heap[w.heap.size]? = some o0 ∧ ((((w.alloc o0).alloc o1).alloc o2).alloc o3).heap[w.heap.size + 1]? = some o1 ∧ ((((w.alloc o0).alloc o1).alloc o2).alloc o3).heap[w.heap.size + 2]? = some o2 ∧ ((((w.alloc o0).alloc o1).alloc o2).alloc o3).heap[w.heap.size + 3]? = some o3 := by
 have e : ((((w.alloc o0).alloc o1).alloc o2).alloc o3).heap = (((w.heap.push o0).push o1).push o2).push o3 := rfl
 refine ⟨by rw [e]; simp, below_alloc (below_alloc (below_alloc (below_alloc (Below.refl _ _) _) _) _) _, ?_, ?_, ?_, ?_⟩ <;> rw [e] <;> simp only [Array.getElem?_push, Array.size_push] <;> repeat (first | rfl | rw [if_pos trivial] | rw [if_pos (by omega)] | rw [if_neg (by omega)])
theorem rf_len (S : Srt) (l : List T) : ∀ tx : List ByteArray, (rfTL S tx l).1.length ≤ l.length := by
 induction l with
 | nil => intro tx; exact Nat.le_refl _
 | cons y l ih =>
  intro tx
  rw [rfTL_cons, List.length_append, List.length_cons]
  have h1 : (rf1 S tx y).1.length ≤ 1 := by
   unfold rf1
   split
   ·split <;> simp
   ·split
    ·simp
    ·split <;> simp
  have := ih (rf1 S tx y).2
  omega
theorem rf_left (S : Srt) (tx : List ByteArray) (l : List T) {j : Nat} (hj : j < l.length) (h : (txsL S l).length ≤ tx.length) : (txs S l[j]).length ≤ (rfTL S tx (l.take j)).2.length := by
 have e := rf_rest S ⟨0, ⟨#[]⟩, ⟨#[]⟩, [], l.take j⟩ tx
 have e' : (rfTL S tx (l.take j)).2 = tx.drop (txsL S (l.take j)).length := e
 rw [e', List.length_drop]
 have e2 : txsL S l = txsL S (l.take (j + 1)) ++ txsL S (l.drop (j + 1)) := by rw [← txsL_append, List.take_append_drop]
 have e3 := congrArg List.length e2
 rw [List.length_append, txsL_take S l hj, List.length_append] at e3
 omega
theorem KR.keep {w wr w1 : World} {P : Nat → Prop} {k : Int} {nm tx : ByteArray} {A3 : Option Addr} {c3 : Nat} {sc : Array Value} {v4 : Value} {l4 : List T} (h : KR w wr P k nm tx A3 c3 sc v4 l4) (hk : ∀ k, k < wr.heap.size → w1.heap[k]? = wr.heap[k]?) (hon : Below w.heap.size w w1) : KR w w1 P k nm tx A3 c3 sc v4 l4 :=
 ⟨(hk _ (blk_lt h.box)).trans h.box, (hk _ (blk_lt h.res)).trans h.res, (hk _ (blk_lt h.srt)).trans h.srt, Kd.N_step h.n4 (fun k _ hlt => hk k hlt), hon, h.out⟩
theorem ref_end {w w3 : World} {P : Nat → Prop} {u : T} {A3 A4 V : Option Addr} {c3 c4 cV : Nat} {sc : Array Value} {r : List ByteArray} (h : KR w w3 P u.f0 u.f1 u.f2 A3 c3 sc (.slice A4 u.f4.length c4) u.f4) (h3 : u.f3 = []) (hV : Kd.F Kd.string w3 P V r.length r) (lV : r.length ≤ cV) (a0 a1 a2 a3 a4 : Value) :
  Refd w (((((w3.setCell ⟨w.heap.size + 2, 0, none⟩ a0).setCell ⟨w.heap.size + 2, 1, none⟩ a1).setCell ⟨w.heap.size + 2, 2, none⟩ a2).setCell ⟨w.heap.size + 2, 3, none⟩ a3).setCell ⟨w.heap.size + 2, 4, none⟩ a4) P A3 c3 u r (.returned (.tuple #[.agg #[.int .i64 u.f0, .string u.f1, .string u.f2, .slice A3 0 c3, .slice A4 u.f4.length c4], .slice V r.length cV])) := by
 have hs := fun k (hk : k ≠ w.heap.size + 2) => sets5 w3 (w.heap.size + 2) a0 a1 a2 a3 a4 k hk
 have hb : Below w.heap.size w3 (((((w3.setCell ⟨w.heap.size + 2, 0, none⟩ a0).setCell ⟨w.heap.size + 2, 1, none⟩ a1).setCell ⟨w.heap.size + 2, 2, none⟩ a2).setCell ⟨w.heap.size + 2, 3, none⟩ a3).setCell ⟨w.heap.size + 2, 4, none⟩ a4) :=
  Below.setCell (Below.setCell (Below.setCell (Below.setCell (Below.setCell (Below.refl _ w3) (p := ⟨w.heap.size + 2, 0, none⟩) (Nat.le_add_right _ 2) _) (p := ⟨w.heap.size + 2, 1, none⟩) (Nat.le_add_right _ 2) _) (p := ⟨w.heap.size + 2, 2, none⟩) (Nat.le_add_right _ 2) _) (p := ⟨w.heap.size + 2, 3, none⟩) (Nat.le_add_right _ 2) _) (p := ⟨w.heap.size + 2, 4, none⟩) (Nat.le_add_right _ 2) _
 refine ⟨A4, c4, V, cV, rfl, h3, (Kd.N_reads' h.n4).2.1, Kd.N_mono (Kd.N_step h.n4 (fun k hk _ => hs k ?_)) (fun k hk => hk.imp_right (fun hk => by omega)), lV, Kd.F_step hV (fun k hk _ => hs k (by have := h.out k hk; omega)), h.on.trans hb⟩
 rcases hk with hk | hk
 ·have := h.out k hk; omega
 ·omega
theorem cell_on {w w' : World} (h : Below w.heap.size w w') {a : Addr} {v : Value} (hc : w.cell? a = some v) : w'.cell? a = some v := by
 rw [h.cell (World.block_lt_of_cell? w a hc)]
 exact hc
theorem leaf_C {W : World} {bk : Nat} {x : ByteArray} (h : W.heap[bk]? = some (.cells #[.int .i64 1, .string ⟨#[]⟩, .string x, .slice none 0 0, .slice none 0 0] 25 (0, 0))) : Kd.C k25 W (some ⟨bk, 0, none⟩) 1 [(⟨1, ⟨#[]⟩, x, [], []⟩ : T)] := by
 refine ⟨rfl, by decide, fun _ => ⟨_, rfl, fun j p hj => ?_⟩⟩
 match j, hj with
 | 0, hj =>
  obtain rfl := Option.some.inj hj
  refine ⟨[.int .i64 1, .string ⟨#[]⟩, .string x, .slice none 0 0, .slice none 0 0], rfl, Kd.FK_now (fk_na (W := W) (ok := fun _ => True) (u := ⟨1, ⟨#[]⟩, x, [], []⟩) (A3 := none) (c3 := 0) (A4 := none) (c4 := 0) rfl (Nat.le_refl _) (Kd.F_nil _ _ _)), fun i u hi => ?_⟩
  have hs : Kd.sz k25 = 5 := rfl
  have hi5 : i < 5 := (List.getElem?_eq_some_iff.1 hi).1
  rw [hs, add_plain, blk_cell h, ← hi]
  match i, hi5 with
  | 0, _ => rfl
  | 1, _ => rfl
  | 2, _ => rfl
  | 3, _ => rfl
  | 4, _ => rfl
 | j + 1, hj => simp at hj
theorem leaf_F {W : World} {bk : Nat} {x : ByteArray} (h : W.heap[bk]? = some (.cells #[.int .i64 1, .string ⟨#[]⟩, .string x, .slice none 0 0, .slice none 0 0] 25 (0, 0))) : Kd.F k25 W (fun k => k = bk) (some ⟨bk, 0, none⟩) 1 [(⟨1, ⟨#[]⟩, x, [], []⟩ : T)] :=
 fun W' hW => leaf_C ((hW bk rfl (blk_lt h)).trans h)
theorem kr_leaf {ops : Array Oper} {o : Oper} {a : Act} {Q : Exit → Act → World → Prop} {K : Act → World → Prop} {E : Prop} {w w8 W : World} {P : Nat → Prop} {k : Int} {nm tx : ByteArray} {A3 : Option Addr} {c3 : Nat} {sc : Array Value} {v4 : Value} {la : List T} (hgd : o.guard = none) (s x : Operand) (x0 : ByteArray) (bk : Nat) (HT : KR w w8 P k nm tx A3 c3 sc v4 la) (hW : Below w8.heap.size w8 W)
  (hb : W.heap[bk]? = some (.cells #[.int .i64 1, .string ⟨#[]⟩, .string x0, .slice none 0 0, .slice none 0 0] 25 (0, 0))) (hbk : w8.heap.size ≤ bk)
  (ho : o.op = .call { callee := .builtin .append, args := #[s, x], argTypes := #[23, 23] }) (hs : a.eval s = v4) (hx : a.eval x = .slice (some ⟨bk, 0, none⟩) 1 1) (hla : la.length ≤ 1000000)
  (h : ∀ v1 w3, w3.cell? ⟨w.heap.size + 3, 4, none⟩ = some v4 → w3.frozen? ⟨w.heap.size + 3, 4, none⟩ = false → KR w (w3.setCell ⟨w.heap.size + 3, 4, none⟩ v1) P k nm tx A3 c3 sc v1 (la ++ [⟨1, ⟨#[]⟩, x0, [], []⟩]) → (∀ b, P b → (w3.setCell ⟨w.heap.size + 3, 4, none⟩ v1).heap[b]? = w8.heap[b]?) → K (a.put o.dst v1) w3) :
  if Region.wanted o (yielded ops a.tmps) = true then Oper.wp Try.prog o a W K Q else E := by
 have hw : Region.wanted o (yielded ops a.tmps) = true := by simp [Region.wanted, hgd]
 have HTW := HT.moved hW
 have := Kd.N_append_rows_step (P := Try.prog) (ops := ops) (o := o) (a := a) (Q := Q) (Kc := K) k25 (w0 := W) w.heap.size hw s x 23 25 _ 88 ho Try.underlying23 infoNd rfl (by decide) (by decide) v4 la [⟨1, ⟨#[]⟩, x0, [], []⟩] _ 1 1 (fun b => P b ∨ w.heap.size + 4 ≤ b) (fun b => b = bk) hs hx HTW.n4 (leaf_F hb)
  (fun b hb => by
   subst hb
   exact ⟨.inr (Nat.le_trans HT.size hbk), fun e => by have := (HT.own _ e.symm).2; omega⟩)
  (fun b hb => .inr (Nat.le_trans HTW.size hb)) (Below.refl _ _) (by have := HTW.size; omega) (by omega) (fun v1 w3 hn hb hg _ => by
   obtain ⟨g1, g2, g3⟩ := HTW.kid hn hb hg
   exact h v1 w3 g1 g2 g3 (fun b hP => (Below.heap_setCell w3 _ _ _ (by have := HT.out b hP; show b ≠ w.heap.size + 3; omega)).trans ((hb.block b (HT.out b hP)).trans (hW.block b (by have := HT.out b hP; have := HT.size; omega)))))
 rw [if_pos hw] at this ⊢
 exact this
section
variable {ops : Array Oper} {o : Oper} {a : Act} {Q : Exit → Act → World → Prop} {rest : List Oper}
theorem kr_app {w W : World} {P okp : Nat → Prop} {k : Int} {nm tx : ByteArray} {A3 : Option Addr} {c3 : Nat} {sc : Array Value} {v4 : Value} {la : List T} (hgd : o.guard = none) (s x : Operand) (p : T) (cs : List Value) (HT : KR w W P k nm tx A3 c3 sc v4 la) (hp : Kd.FK k25 W okp p cs) (hokp : ∀ b, okp b → (P b ∨ w.heap.size + 4 ≤ b) ∧ some b ≠ v4.ownBlock) (hla : la.length ≤ 1000000)
  (ho : o.op = .call { callee := .builtin .append, args := #[s, x], argTypes := #[23, 23] }) (hs : a.eval s = v4) (hx : a.eval x = .slice (some ⟨W.heap.size, 0, none⟩) 1 1)
  (h : ∀ v1 w3, w3.cell? ⟨w.heap.size + 3, 4, none⟩ = some v4 → w3.frozen? ⟨w.heap.size + 3, 4, none⟩ = false → KR w (w3.setCell ⟨w.heap.size + 3, 4, none⟩ v1) P k nm tx A3 c3 sc v1 (la ++ [p]) → (∀ b, P b → (w3.setCell ⟨w.heap.size + 3, 4, none⟩ v1).heap[b]? = W.heap[b]?) → wpList Try.prog ops Q rest (a.put o.dst v1) w3) :
  wpList Try.prog ops Q (o :: rest) a (W.alloc (.cells cs.toArray 25)) := by
 refine Kd.N_append k25 (w0 := W) w.heap.size hgd s x 23 25 _ 88 ho Try.underlying23 infoNd rfl (by decide) (by decide) v4 la p cs (fun b => P b ∨ w.heap.size + 4 ≤ b) okp hs hx hp hokp (fun b hb => .inr (Nat.le_trans HT.size hb)) HT.n4 (Below.refl _ _) (by have := HT.size; omega) (by omega) ?_
 intro v1 w3 hn hb hg _
 obtain ⟨g1, g2, g3⟩ := HT.kid hn hb hg
 refine h v1 w3 g1 g2 g3 (fun b hP => (Below.heap_setCell w3 _ _ _ (by have := HT.out b hP; show b ≠ w.heap.size + 3; omega)).trans (hb.block b (HT.out b hP)))
end
set_option maxHeartbeats 8000000 in
set_option maxRecDepth 100000 in
theorem ref_calls (S : Srt) : ∀ (n : Nat) (t : T), SizeOf.sizeOf t ≤ n → naT t = true → countT t ≤ 1000000 → ∀ (w : World) (P : Nat → Prop) (A3 : Option Addr) (c3 : Nat) (A4 : Option Addr) (c4 : Nat) (B1 B2 B3 : Option Addr) (d1 d2 d3 : Nat) (V : Option Addr) (cV : Nat) (tx : List ByteArray),
  (∀ k, P k → k < w.heap.size) → Kd.F k25 w P A4 t.f4.length t.f4 → t.f4.length ≤ c4 → Kd.F Kd.string w P B3 S.pr.length S.pr → (S.pr.length ≤ d3 ∧ S.pr.length ≤ 4611686018427387904) →
  Kd.F Kd.string w P V tx.length tx → tx.length ≤ cV → (txsL S t.f4).length ≤ tx.length →
  Calls Try.prog 49 #[.agg #[.int .i64 t.f0, .string t.f1, .string t.f2, .slice A3 t.f3.length c3, .slice A4 t.f4.length c4], .agg #[.slice B1 S.bk.length d1, .slice B2 S.vd.length d2, .slice B3 S.pr.length d3], .slice V tx.length cV] w fun e w' => Refd w w' P A3 c3 (rfT S tx t).1 (rfT S tx t).2 e := by
 intro n
 induction n with
 | zero =>
  intro t h
  cases t
  simp at h
 | succ n ih =>
  intro t hsz hna hct w P A3 c3 A4 c4 B1 B2 B3 d1 d2 d3 V cV tx hP h4 l4 hb3 hd3 hV lV htx
  obtain ⟨hn3, hnk⟩ := naT_open hna
  have hks : ∀ y ∈ t.f4, SizeOf.sizeOf y ≤ n := fun y hy => by have h1 := kid_lt (t := t) hy; omega
  have hkl : ∀ y ∈ t.f4, countT y ≤ 1000000 := fun y hy => by
   have := cTL_mem' t.f4 y hy
   have : countT t = 1 + countTL t.f4 := by cases t; rfl
   omega
  have hlen : t.f4.length ≤ 1000000 := by
   have := countTL_ge t.f4
   have : countT t = 1 + countTL t.f4 := by cases t; rfl
   omega
  obtain ⟨f0, f1, f2, f3, f4⟩ := t
  simp only at h4 l4 hn3 hnk hks hkl hlen htx ⊢
  subst hn3
  have HC := Aside0.mk (show rfT S tx ⟨f0, f1, f2, [], f4⟩ = (⟨f0, f1, f2, [], (rfTL S tx f4).1⟩, (rfTL S tx f4).2) from by rw [rfT])
  obtain ⟨W, hW⟩ : ∃ W, W = (((w.alloc (.cells #[.int .i64 f0, .string f1, .string f2, .slice A3 0 c3, .slice A4 f4.length c4] 25)).alloc (.cells #[.slice B1 S.bk.length d1, .slice B2 S.vd.length d2, .slice B3 S.pr.length d3] 37)).alloc (.cells #[.int .i64 0, .string ⟨#[]⟩, .string ⟨#[]⟩, .slice none 0 0, .slice none 0 0] 25)).alloc (.cells #[.int .i64 f0, .string f1, .string f2, .slice A3 0 c3, .slice none 0 0] 25) := ⟨_, rfl⟩
  obtain ⟨z0, z1, z2, z3, z4, z5⟩ := four_new w (.cells #[.int .i64 f0, .string f1, .string f2, .slice A3 0 c3, .slice A4 f4.length c4] 25) (.cells #[.slice B1 S.bk.length d1, .slice B2 S.vd.length d2, .slice B3 S.pr.length d3] 37) (.cells #[.int .i64 0, .string ⟨#[]⟩, .string ⟨#[]⟩, .slice none 0 0, .slice none 0 0] 25) (.cells #[.int .i64 f0, .string f1, .string f2, .slice A3 0 c3, .slice none 0 0] 25)
  rw [← hW] at z0 z1 z2 z3 z4 z5
  have HK0 := Aside0.mk (show KR w W P f0 f1 f2 A3 c3 #[.slice B1 S.bk.length d1, .slice B2 S.vd.length d2, .slice B3 S.pr.length d3] (.slice none 0 0) [] from ⟨z5, z4, z3, Kd.N_nil _ _ _ _ _, z1, hP⟩)
  have HV0 := Aside0.mk (Kd.F_below hV z1)
  have HP := Aside0.mk hP
  have H4 := Aside0.mk h4
  have H3 := Aside0.mk hb3
  have HD3 := Aside0.mk hd3
  have LV := Aside0.mk lV
  have HLN := Aside0.mk hlen
  have HTX := Aside0.mk htx
  have IH := Aside0.mk (fun (q : T) (hq : q ∈ f4) => ih q (hks q hq) (hnk q hq) (hkl q hq))
  have HNK := Aside0.mk hnk
  clear hsz hna hct hP h4 hb3 hd3 hV lV htx ih hnk hkl hks hlen z0 z1 z3 z4 z5
  go_enter Try.func49, Try.ntmps49
  have y4 := blk_cell z2 4
  clear z2
  go_upto_region 2 with fail
  rw [← hW]
  clear hW
  go_wp2_with fail
  go_loopw [2, 24] (fun s2 vi wr => ∃ (j : Nat) (v4 : Value) (V' : Option Addr) (cV' : Nat), vi = .int .i64 j ∧ s2 = .slice V' (rfTL S tx (f4.take j)).2.length cV' ∧ j ≤ f4.length ∧ (rfTL S tx (f4.take j)).2.length ≤ cV' ∧ Aside0 (Kd.F Kd.string wr P V' (rfTL S tx (f4.take j)).2.length (rfTL S tx (f4.take j)).2) ∧ Aside0 (KR w wr P f0 f1 f2 A3 c3 #[.slice B1 S.bk.length d1, .slice B2 S.vd.length d2, .slice B3 S.pr.length d3] v4 (rfTL S tx (f4.take j)).1)) (fun _ vi _ => f4.length - (intOf vi).toNat)
  case atStart => exact ⟨0, _, V, cV, rfl, rfl, Nat.zero_le _, LV.out, HV0, HK0⟩
  case round =>
   clear HK0 HV0 y4
   obtain ⟨j, v4, V', cV', rfl, rfl, hj, hcv, HV, HT⟩ := hrel
   by_cases hlt2 : j < f4.length
   ·have hF := Kd.F_step H4.out (fun k hk hk2 => HT.out.on.block k (HP.out k hk))
    obtain ⟨ad, A5, c5, A6, c6, rfl, y0, y1, y2, y3, y4, m3, g3, m4, g4⟩ := at_F hF (j : Int) (by omega) (by omega)
    have he : f4.getD (j : Int).toNat z25 = f4[j] := by simp [List.getD_eq_getElem?_getD, List.getElem?_eq_getElem hlt2]
    rw [he] at y0 y1 y2 y3 y4 m3 g3 m4 g4
    simp only [Int.toNat_natCast] at y0 y1 y2 y3 y4
    have hq : f4[j] ∈ f4 := List.getElem_mem _
    have hq3 : f4[j].f3 = [] := (naT_open (HNK.out _ hq)).1
    have hsn := rfTL_take S tx f4 hlt2
    have hleft := rf_left S tx f4 hlt2 HTX.out
    have hla : (rfTL S tx (f4.take j)).1.length ≤ 1000000 := by
     have := rf_len S (f4.take j) tx
     rw [List.length_take] at this
     have := HLN.out
     omega
    have hkc := IH.out f4[j] hq
    generalize f4[j] = q at *
    generalize (rfTL S tx (f4.take j)).1 = la at *
    generalize (rfTL S tx (f4.take j)).2 = lr at *
    have HWJ := Aside0.mk (wrap_succ j (by have := HLN.out; omega))
    have HSN := Aside0.mk hsn
    have HLA := Aside0.mk hla
    have HLF := Aside0.mk hleft
    have HCV := Aside0.mk hcv
    have H3W := Aside0.mk (Kd.F_step H3.out (fun k hk hk2 => HT.out.on.block k (HP.out k hk)))
    rw [hq3] at y3 hkc
    have HKC := Aside0.mk (fun (wx : World) (hb : Below wr.heap.size wr wx) => hkc wx P A5 c5 A6 c6 B1 B2 B3 d1 d2 d3 V' cV' lr (fun k hk => by have h1 := HP.out k hk; have h2 := HT.out.size; have h3 := hb.size; omega) (Kd.F_below g4 hb) m4 (Kd.F_below H3W.out hb) HD3.out (Kd.F_below HV.out hb) HCV.out)
    clear hsn hleft hla hkc hcv
    have HFQ := Aside0.mk (show ∀ (wx : World), Below wr.heap.size wr wx → Kd.FK k25 wx P q [.int .i64 q.f0, .string q.f1, .string q.f2, .slice A5 0 c5, .slice A6 q.f4.length c6] from fun wx hb => fk_na hq3 m4 (Kd.F_below g4 hb))
    go_upto_region 5 with fail
    have hcp : (wr.alloc (.cells #[.int .i64 q.f0, .string q.f1, .string q.f2, .slice A5 0 c5, .slice A6 q.f4.length c6] 25)).heap[wr.heap.size]? = some (.cells #[.int .i64 q.f0, .string q.f1, .string q.f2, .slice A5 0 c5, .slice A6 q.f4.length c6] 25 (0, 0)) := heap_alloc_new wr _
    have HB8 := Aside0.mk (below_alloc (Below.refl wr.heap.size wr) (.cells #[.int .i64 q.f0, .string q.f1, .string q.f2, .slice A5 0 c5, .slice A6 q.f4.length c6] 25))
    have HTP := Aside0.mk HT.out
    have HVP := Aside0.mk HV.out
    clear HT HV
    generalize wr.alloc (.cells #[.int .i64 q.f0, .string q.f1, .string q.f2, .slice A5 0 c5, .slice A6 q.f4.length c6] 25) = w8 at hcp HB8 ⊢
    have HT := Aside0.mk (HTP.out.moved HB8.out)
    have HV := Aside0.mk (Kd.F_below HVP.out HB8.out)
    have HCP := Aside0.mk hcp
    clear hcp y0 y1 y2 y3 y4 m3 g3 m4 g4 hF he hq hq3
    have y0 := blk_cell HCP.out 0
    have y1 := blk_cell HCP.out 1
    have y2 := blk_cell HCP.out 2
    have y3 := blk_cell HCP.out 3
    have y4 := blk_cell HCP.out 4
    have x4 : w8.cell? ⟨w.heap.size + 3, 4, none⟩ = some v4 := blk_cell HT.out.box 4
    have s2 : w8.cell? ⟨w.heap.size + 1, 2, none⟩ = some (.slice B3 S.pr.length d3) := blk_cell HT.out.srt 2
    by_cases k1 : q.f0 = 1
    ·have hpos : 0 < lr.length := by
      have := HLF.out
      rw [(stp_text S 0 q k1).2] at this
      simp at this
      omega
     obtain ⟨adv, cv, rfl, hc1, hc2, hc3⟩ := Kd.C_get (Kd.F_now HV.out) (⟨#[]⟩ : ByteArray) 0 (by omega) (by omega)
     have hcv : cv = [.string (lr.getD 0 ⟨#[]⟩)] := hc2
     have t0 := hc3 0 (.string (lr.getD 0 ⟨#[]⟩)) (by rw [hcv]; rfl)
     simp only [Int.toNat_zero, Nat.zero_mul, Nat.add_zero] at t0
     rw [show adv.add 0 = adv from by cases adv; rfl] at t0
     clear hc1 hc2 hc3 hcv
     have HR := Aside0.mk (show rf1 S lr q = ((if (lr.getD 0 ⟨#[]⟩).toList = [] then [] else [⟨1, ⟨#[]⟩, lr.getD 0 ⟨#[]⟩, [], []⟩]), lr.drop 1) from by unfold rf1; rw [if_pos k1])
     have d1_ : decide (q.f0 = 1) = true := decide_eq_true k1
     have b1_ : (q.f0 == 1) = true := beq_iff_eq.2 k1
     have HFD := Aside0.mk (fun (wx : World) (hF : Kd.F Kd.string wx P (some adv) lr.length lr) => F_drop hF (show 1 ≤ lr.length from hpos) HCV.out)
     generalize lr.getD 0 ⟨#[]⟩ = x0 at *
     by_cases hx0 : x0.toList = []
     ·have HX0 := Aside0.mk hx0
      go_upto_region 8 with fail
      have HVD := Aside0.mk (HFD.out w8 HV.out)
      go_wp2_with fail
      go_roundw
      case rel => exact ⟨j + 1, _, _, cV' - 1, by rw [HWJ.out], by rw [HSN.out, HR.out]; show _ = Value.slice _ (lr.drop 1).length _; rw [List.length_drop], hlt2, by rw [HSN.out, HR.out]; show (lr.drop 1).length ≤ _; rw [List.length_drop]; have := HCV.out; omega, by rw [HSN.out, HR.out]; exact HVD, by rw [HSN.out, HR.out, if_pos HX0.out, List.append_nil]; exact HT⟩
      case measure => rw [HWJ.out]; simp [intOf]; omega
     ·have HX0 := Aside0.mk hx0
      have he0 : x0.toList.isEmpty = false := by
       cases h : x0.toList with
       | nil => exact absurd h hx0
       | cons _ _ => rfl
      have HLX := Aside0.mk (fun (wx : World) (hb : Below w8.heap.size w8 wx) => cell_on hb x4)
      have HLA0 := Aside0.mk (fun (wx : World) (hb : Below w8.heap.size w8 wx) => cell_on hb t0)
      go_upto_region 7 with fail
      have xa := HLX.out w8.drew (below_drew (Below.refl _ _))
      have xb := HLX.out (w8.alloc (.cells #[.int .i64 1, .string ⟨#[]⟩, .string x0, .slice none 0 0, .slice none 0 0] 25)) (below_alloc (Below.refl _ _) _)
      have xc := HLX.out (w8.drew.alloc (.cells #[.int .i64 1, .string ⟨#[]⟩, .string x0, .slice none 0 0, .slice none 0 0] 25)) (below_alloc (below_drew (Below.refl _ _)) _)
      have xd := HLX.out (w8.alloc (.cells #[.int .i64 1, .string ⟨#[]⟩, .string x0, .slice none 0 0, .slice none 0 0] 25)).drew (below_drew (below_alloc (Below.refl _ _) _))
      have xe := HLX.out (w8.drew.alloc (.cells #[.int .i64 1, .string ⟨#[]⟩, .string x0, .slice none 0 0, .slice none 0 0] 25)).drew (below_drew (below_alloc (below_drew (Below.refl _ _)) _))
      have ta := HLA0.out w8.drew (below_drew (Below.refl _ _))
      go_region_law (first
       | (refine kr_leaf rfl (.tmp 37) (.tmp 42) x0 w8.heap.size HT.out ?ax ?bx (Nat.le_refl _) rfl ?hs ?hx HLA.out ?_; (case hx => (simp [Act.eval, Act.put]; done)); (case hs => (simp [Act.eval, Act.put]; done)); (case ax => ((repeat (first | with_reducible exact Below.refl _ _ | with_reducible refine below_alloc ?_ _ | with_reducible refine below_drew ?_)); done)); (case bx => ((repeat (first | (with_reducible refine box_new ?_; first | with_reducible rfl | (simp only [alloc_size, drew_size]; done)) | with_reducible refine blk_drew ?_ | with_reducible refine blk_alloc ?_ _)); done)); intro v9 w9 x9 f9 hk9 hp9; obtain ⟨A1, K1, e1_⟩ := Kd.N_slice hk9.n4; obtain ⟨L1, hL1⟩ : ∃ L1, L1 = (la ++ [(⟨1, ⟨#[]⟩, x0, [], []⟩ : T)]).length := ⟨_, rfl⟩; rw [← hL1] at e1_; subst e1_; clear hL1; have HT9 := Aside0.mk hk9; have HV9 := Aside0.mk (HFD.out _ (Kd.F_step HV.out (fun b hb _ => hp9 b hb))); clear hk9 hp9)
       | fail)
      all_goals (simp only [Exit.inBlock, Exit.then]; go_wp2_with fail; go_roundw)
      all_goals first
       | exact ⟨j + 1, _, _, cV' - 1, by rw [HWJ.out], by rw [HSN.out, HR.out]; show _ = Value.slice _ (lr.drop 1).length _; rw [List.length_drop], hlt2, by rw [HSN.out, HR.out]; show (lr.drop 1).length ≤ _; rw [List.length_drop]; have := HCV.out; omega, by rw [HSN.out, HR.out]; exact HV9, by rw [HSN.out, HR.out, if_neg HX0.out]; exact HT9⟩
       | (rw [HWJ.out]; simp [intOf]; omega)
    ·have d1_ : decide (q.f0 = 1) = false := decide_eq_false k1
     have b1_ : (q.f0 == 1) = false := beq_eq_false_iff_ne.2 k1
     by_cases k2 : q.f0 = 2
     ·have d2_ : decide (q.f0 = 2) = true := decide_eq_true k2
      have b2_ : (q.f0 == 2) = true := beq_iff_eq.2 k2
      have HR := Aside0.mk (show rf1 S lr q = ([q], lr) from by unfold rf1; rw [if_neg k1, if_pos (.inl k2)])
      have HF8 := Aside0.mk (HFQ.out w8 HB8.out)
      rw [k2] at HF8
      go_upto_region 10 with fail
      go_wp2_with ((with_reducible refine gate_builtin (b := .append) (xs := #[.tmp 64, .tmp 66]) rfl ?_); at_builtin; go_must (refine kr_app rfl (.tmp 64) (.tmp 66) q _ HT.out HF8.out (fun b hb => HT.out.apart b (.inl hb)) HLA.out rfl rfl rfl ?_; intro v9 w9 x9 f9 hk9 hp9; obtain ⟨A1, K1, e1_⟩ := Kd.N_slice hk9.n4; obtain ⟨L1, hL1⟩ : ∃ L1, L1 = (la ++ [q]).length := ⟨_, rfl⟩; rw [← hL1] at e1_; subst e1_; clear hL1; have HT9 := Aside0.mk hk9; have HV9 := Aside0.mk (Kd.F_step HV.out (fun b hb _ => hp9 b hb)); clear hk9 hp9))
      go_roundw
      case rel => exact ⟨j + 1, _, V', cV', by rw [HWJ.out], by rw [HSN.out, HR.out], hlt2, by rw [HSN.out, HR.out]; exact HCV.out, by rw [HSN.out, HR.out]; exact HV9, by rw [HSN.out, HR.out]; exact HT9⟩
      case measure => rw [HWJ.out]; simp [intOf]; omega
     ·have d2_ : decide (q.f0 = 2) = false := decide_eq_false k2
      have b2_ : (q.f0 == 2) = false := beq_eq_false_iff_ne.2 k2
      by_cases k0 : q.f0 = 0
      ·have d0_ : decide (q.f0 = 0) = true := decide_eq_true k0
       have b0_ : (q.f0 == 0) = true := beq_iff_eq.2 k0
       have HNM := Aside0.mk (names_calls S.pr HD3.out.2 q.f1 B3 d3 HD3.out.1 w8 (Kd.F_now (Kd.F_below H3W.out HB8.out)))
       obtain ⟨r3, hr3⟩ : ∃ r, r = inL S.pr q.f1 := ⟨_, rfl⟩
       have HR3 := Aside0.mk hr3
       clear hr3
       cases r3 with
       | true =>
        have HR := Aside0.mk (show rf1 S lr q = ([q], lr) from by unfold rf1; rw [if_neg k1, if_pos (.inr ⟨k0, HR3.out.symm⟩)])
        go_upto_region 10 with (go_at_call 37; go_must (refine HNM.out.mono ?_; rintro e wn ⟨rfl, hbn⟩; rw [← HR3.out]; have HBN := Aside0.mk hbn; have HTN := Aside0.mk (HT.out.moved hbn); have hcn := (hbn.block _ (blk_lt HCP.out)).trans HCP.out; have y0 := blk_cell hcn 0; have y1 := blk_cell hcn 1; have y2 := blk_cell hcn 2; have y3 := blk_cell hcn 3; have y4 := blk_cell hcn 4; have x4 : wn.cell? ⟨w.heap.size + 3, 4, none⟩ = some v4 := blk_cell HTN.out.box 4; clear hbn hcn))
        have HF8 := Aside0.mk (HFQ.out wn (below_step HB8.out HBN.out))
        rw [k0] at HF8
        go_wp2_with ((with_reducible refine gate_builtin (b := .append) (xs := #[.tmp 64, .tmp 66]) rfl ?_); at_builtin; go_must (refine kr_app rfl (.tmp 64) (.tmp 66) q _ HTN.out HF8.out (fun b hb => HTN.out.apart b (.inl hb)) HLA.out rfl rfl rfl ?_; intro v9 w9 x9 f9 hk9 hp9; obtain ⟨A1, K1, e1_⟩ := Kd.N_slice hk9.n4; obtain ⟨L1, hL1⟩ : ∃ L1, L1 = (la ++ [q]).length := ⟨_, rfl⟩; rw [← hL1] at e1_; subst e1_; clear hL1; have HT9 := Aside0.mk hk9; have HV9 := Aside0.mk (Kd.F_step (Kd.F_below HV.out HBN.out) (fun b hb _ => hp9 b hb)); clear hk9 hp9))
        go_roundw
        case rel => exact ⟨j + 1, _, V', cV', by rw [HWJ.out], by rw [HSN.out, HR.out], hlt2, by rw [HSN.out, HR.out]; exact HCV.out, by rw [HSN.out, HR.out]; exact HV9, by rw [HSN.out, HR.out]; exact HT9⟩
        case measure => rw [HWJ.out]; simp [intOf]; omega
       | false =>
        have HR := Aside0.mk (show rf1 S lr q = ([(rfT S lr q).1], (rfT S lr q).2) from by unfold rf1; rw [if_neg k1, if_neg (fun h => h.elim k2 (fun h => by rw [← HR3.out] at h; exact absurd h.2 (by simp))), if_pos k0])
        have htq : (txsL S q.f4).length ≤ lr.length := by
         have e : txs S q = txsL S q.f4 := by
          have hr := HR3.out
          obtain ⟨qk, qn, qx, qa, qs⟩ := q
          have k0' : qk = 0 := k0
          have hr' : false = inL S.pr qn := hr
          subst k0'
          rw [txs, if_neg (by decide), if_pos rfl, ← hr', if_neg Bool.false_ne_true]
         rw [← e]
         exact HLF.out
        have HTQ := Aside0.mk htq
        clear htq
        rw [k0] at HKC
        go_upto_region 13 with (go_at_call 37; go_must (refine HNM.out.mono ?_; rintro e wn ⟨rfl, hbn⟩; rw [← HR3.out]; have HBN := Aside0.mk hbn; have HTN := Aside0.mk (HT.out.moved hbn); have hcn := (hbn.block _ (blk_lt HCP.out)).trans HCP.out; have y0 := blk_cell hcn 0; have y1 := blk_cell hcn 1; have y2 := blk_cell hcn 2; have y3 := blk_cell hcn 3; have y4 := blk_cell hcn 4; have x4 : wn.cell? ⟨w.heap.size + 3, 4, none⟩ = some v4 := blk_cell HTN.out.box 4; have s0 : wn.cell? ⟨w.heap.size + 1, 0, none⟩ = some (.slice B1 S.bk.length d1) := blk_cell HTN.out.srt 0; clear hbn hcn))
        have hxb : (wn.alloc (.cells #[.int .i64 0, .string ⟨#[]⟩, .string ⟨#[]⟩, .slice none 0 0, .slice none 0 0] 25)).heap[wn.heap.size]? = some (.cells #[.int .i64 0, .string ⟨#[]⟩, .string ⟨#[]⟩, .slice none 0 0, .slice none 0 0] 25 (0, 0)) := heap_alloc_new wn _
        have HBZ := Aside0.mk (below_alloc (Below.refl wn.heap.size wn) (.cells #[.int .i64 0, .string ⟨#[]⟩, .string ⟨#[]⟩, .slice none 0 0, .slice none 0 0] 25))
        generalize wn.alloc (.cells #[.int .i64 0, .string ⟨#[]⟩, .string ⟨#[]⟩, .slice none 0 0, .slice none 0 0] 25) = wz at hxb HBZ ⊢
        have HXB := Aside0.mk hxb
        clear hxb
        have HKW := Aside0.mk (HKC.out wz (below_step (below_step HB8.out HBN.out) HBZ.out) HTQ.out)
        have hcz := (HBZ.out.block _ (Nat.lt_of_lt_of_le (blk_lt HCP.out) HBN.out.size)).trans ((HBN.out.block _ (blk_lt HCP.out)).trans HCP.out)
        have y0 := blk_cell hcz 0
        have y1 := blk_cell hcz 1
        have y2 := blk_cell hcz 2
        have y3 := blk_cell hcz 3
        have y4 := blk_cell hcz 4
        have HTZ := Aside0.mk (HTN.out.moved HBZ.out)
        have s0 : wz.cell? ⟨w.heap.size + 1, 0, none⟩ = some (.slice B1 S.bk.length d1) := blk_cell HTZ.out.srt 0
        have s1 : wz.cell? ⟨w.heap.size + 1, 1, none⟩ = some (.slice B2 S.vd.length d2) := blk_cell HTZ.out.srt 1
        have s2 : wz.cell? ⟨w.heap.size + 1, 2, none⟩ = some (.slice B3 S.pr.length d3) := blk_cell HTZ.out.srt 2
        clear hcz
        generalize (rfT S lr q).1 = u at *
        generalize (rfT S lr q).2 = lr2 at *
        go_upto_region 14 with (go_at_call 49; go_must (refine HKW.out.mono ?_; rintro e w7 ⟨A9, c9, V9, cV9, rfl, hu3, m9, N9, mV9, F9, hb7⟩; have hx7 := (hb7.block _ (blk_lt HXB.out)).trans HXB.out; have g0 := blk_frozen hx7 0; have g1 := blk_frozen hx7 1; have g2 := blk_frozen hx7 2; have g3 := blk_frozen hx7 3; have g4 := blk_frozen hx7 4; have q0 := blk_cell hx7 0; have q1 := blk_cell hx7 1; have q2 := blk_cell hx7 2; have q3 := blk_cell hx7 3; have q4 := blk_cell hx7 4; have HX7 := Aside0.mk hx7; have HU3 := Aside0.mk hu3; have M9 := Aside0.mk m9; have HN9 := Aside0.mk N9; have MV9 := Aside0.mk mV9; have HF9 := Aside0.mk F9; have HB7 := Aside0.mk hb7; clear hx7 hu3 m9 N9 mV9 F9 hb7))
        have hs5 := fun k (hk : k ≠ wn.heap.size) => sets5 w7 wn.heap.size (.int .i64 u.f0) (.string u.f1) (.string u.f2) (.slice A5 0 c5) (.slice A9 u.f4.length c9) k hk
        have hxb5 := sets5_box HX7.out (.int .i64 u.f0) (.string u.f1) (.string u.f2) (.slice A5 0 c5) (.slice A9 u.f4.length c9)
        have hzn : wn.heap.size < wz.heap.size := blk_lt HXB.out
        have hwn : w.heap.size + 4 ≤ wn.heap.size := HTN.out.size
        have hon5 : Below w.heap.size w (((((w7.setCell ⟨wn.heap.size, 0, none⟩ (.int .i64 u.f0)).setCell ⟨wn.heap.size, 1, none⟩ (.string u.f1)).setCell ⟨wn.heap.size, 2, none⟩ (.string u.f2)).setCell ⟨wn.heap.size, 3, none⟩ (.slice A5 0 c5)).setCell ⟨wn.heap.size, 4, none⟩ (.slice A9 u.f4.length c9)) :=
         Below.setCell (Below.setCell (Below.setCell (Below.setCell (Below.setCell (HTZ.out.on.trans (HB7.out.mono (by omega))) (p := ⟨wn.heap.size, 0, none⟩) (by show _ ≤ wn.heap.size; omega) _) (p := ⟨wn.heap.size, 1, none⟩) (by show _ ≤ wn.heap.size; omega) _) (p := ⟨wn.heap.size, 2, none⟩) (by show _ ≤ wn.heap.size; omega) _) (p := ⟨wn.heap.size, 3, none⟩) (by show _ ≤ wn.heap.size; omega) _) (p := ⟨wn.heap.size, 4, none⟩) (by show _ ≤ wn.heap.size; omega) _
        have HT5 := Aside0.mk (HTN.out.keep (fun k hk => (hs5 k (by omega)).trans ((HB7.out.block k (by omega)).trans (HBZ.out.block k hk))) hon5)
        have HV5 := Aside0.mk (Kd.F_step HF9.out (fun k hk _ => hs5 k (by have := HP.out k hk; omega)))
        have HFU := Aside0.mk (fk_na (A3 := A5) (c3 := c5) HU3.out M9.out (Kd.F_step (Kd.N_F HN9.out) (fun k hk _ => hs5 k (by rcases hk with hk | hk; (have := HP.out k hk; omega); omega))))
        have HOK := Aside0.mk (show ∀ b, P b ∨ wz.heap.size ≤ b → (P b ∨ w.heap.size + 4 ≤ b) ∧ some b ≠ v4.ownBlock from fun b hb => HTN.out.apart b (hb.imp_right (fun h => by omega)))
        clear g0 g1 g2 g3 g4 q0 q1 q2 q3 q4 hs5 hzn hwn hon5 y0 y1 y2 y3 y4 x4 s0 s1 s2
        generalize (((((w7.setCell ⟨wn.heap.size, 0, none⟩ (.int .i64 u.f0)).setCell ⟨wn.heap.size, 1, none⟩ (.string u.f1)).setCell ⟨wn.heap.size, 2, none⟩ (.string u.f2)).setCell ⟨wn.heap.size, 3, none⟩ (.slice A5 0 c5)).setCell ⟨wn.heap.size, 4, none⟩ (.slice A9 u.f4.length c9)) = w5 at hxb5 HT5 HV5 HFU ⊢
        have y0 := blk_cell hxb5 0
        have y1 := blk_cell hxb5 1
        have y2 := blk_cell hxb5 2
        have y3 := blk_cell hxb5 3
        have y4 := blk_cell hxb5 4
        have x4 : w5.cell? ⟨w.heap.size + 3, 4, none⟩ = some v4 := blk_cell HT5.out.box 4
        clear hxb5
        go_wp2_with ((with_reducible refine gate_builtin (b := .append) (xs := #[.tmp 81, .tmp 83]) rfl ?_); at_builtin; go_must (refine kr_app rfl (.tmp 81) (.tmp 83) u _ HT5.out HFU.out HOK.out HLA.out rfl rfl rfl ?_; intro v9 w9 x9 f9 hk9 hp9; obtain ⟨A1, K1, e1_⟩ := Kd.N_slice hk9.n4; obtain ⟨L1, hL1⟩ : ∃ L1, L1 = (la ++ [u]).length := ⟨_, rfl⟩; rw [← hL1] at e1_; subst e1_; clear hL1; have HT9 := Aside0.mk hk9; have HV9 := Aside0.mk (Kd.F_step HV5.out (fun b hb _ => hp9 b hb)); clear hk9 hp9))
        go_roundw
        case rel => exact ⟨j + 1, _, V9, cV9, by rw [HWJ.out], by rw [HSN.out, HR.out], hlt2, by rw [HSN.out, HR.out]; exact MV9.out, by rw [HSN.out, HR.out]; exact HV9, by rw [HSN.out, HR.out]; exact HT9⟩
        case measure => rw [HWJ.out]; simp [intOf]; omega
      ·have d0_ : decide (q.f0 = 0) = false := decide_eq_false k0
       have b0_ : (q.f0 == 0) = false := beq_eq_false_iff_ne.2 k0
       have HR := Aside0.mk (show rf1 S lr q = ([], lr) from by unfold rf1; rw [if_neg k1, if_neg (fun h => h.elim k2 (fun h => k0 h.1)), if_neg k0])
       go_wp2_with fail
       go_roundw
       case rel => exact ⟨j + 1, _, V', cV', by rw [HWJ.out], by rw [HSN.out, HR.out], hlt2, by rw [HSN.out, HR.out]; exact HCV.out, by rw [HSN.out, HR.out]; exact HV, by rw [HSN.out, HR.out, List.append_nil]; exact HT⟩
       case measure => rw [HWJ.out]; simp [intOf]; omega
   ·have hje : j = f4.length := by omega
    subst hje
    have hT := HT.out
    have hVV := HV.out
    rw [List.take_of_length_le (Nat.le_refl _)] at hT hVV hcv
    rw [List.take_of_length_le (Nat.le_refl _)]
    have HCV := Aside0.mk hcv
    clear hcv HV HT
    generalize (rfTL S tx f4).1 = la at *
    generalize (rfTL S tx f4).2 = lr at *
    have HVV := Aside0.mk hVV
    clear hVV
    obtain ⟨A7, c7, e4⟩ := Kd.N_slice hT.n4
    obtain ⟨n7, hn7⟩ : ∃ n7, n7 = la.length := ⟨_, rfl⟩
    rw [← hn7] at e4
    subst e4
    have o0 : wr.cell? ⟨w.heap.size + 3, 0, none⟩ = some (.int .i64 f0) := blk_cell hT.box 0
    have o1 : wr.cell? ⟨w.heap.size + 3, 1, none⟩ = some (.string f1) := blk_cell hT.box 1
    have o2 : wr.cell? ⟨w.heap.size + 3, 2, none⟩ = some (.string f2) := blk_cell hT.box 2
    have o3 : wr.cell? ⟨w.heap.size + 3, 3, none⟩ = some (.slice A3 0 c3) := blk_cell hT.box 3
    have o4 : wr.cell? ⟨w.heap.size + 3, 4, none⟩ = some (.slice A7 n7 c7) := blk_cell hT.box 4
    have hr := hT.res
    have g0 := blk_frozen hr 0
    have g1 := blk_frozen hr 1
    have g2 := blk_frozen hr 2
    have g3 := blk_frozen hr 3
    have g4 := blk_frozen hr 4
    have p0 := blk_cell hr 0
    have p1 := blk_cell hr 1
    have p2 := blk_cell hr 2
    have p3 := blk_cell hr 3
    have p4 := blk_cell hr 4
    simp only [zeroN] at p0 p1 p2 p3 p4
    have HE := Aside0.mk (fun a0 a1 a2 a3 a4 => ref_end (w := w) (w3 := wr) (u := ⟨f0, f1, f2, [], la⟩) (A3 := A3) (A4 := A7) (c3 := c3) (c4 := c7) (by rw [hn7] at hT; exact hT) rfl HVV.out HCV.out a0 a1 a2 a3 a4)
    rw [← hn7] at HE
    clear hr hT hn7
    obtain ⟨n8, hn8⟩ : ∃ n8, n8 = lr.length := ⟨_, rfl⟩
    rw [← hn8] at HE ⊢
    clear hn8
    go_wp2_with fail
    refine bodyPost_ret (v := .tuple #[.agg #[.int .i64 f0, .string f1, .string f2, .slice A3 0 c3, .slice A7 n7 c7], .slice V' n8 cV']) (by simp [results, Try.results49, go_sem, p0, p1, p2, p3, p4]) rfl ?_
    rw [HC.out]
    exact HE.out _ _ _ _ _
end Go.Proofs.Ytmfjbljdbkmkgaa.Dom

/- spec.Collapsed: its contract, where the root is not preformatted. -/
namespace Go.Proofs.Ytmfjbljdbkmkgaa.Dom
open Go.RowKit Go.Proofs.YtmfjbljdbkmkgaaW.PrintWords Go.Proofs.YtmfjbljdbkmkgaaW.PrintLast Go.Proofs.YtmfjbljdbkmkgaaW.PrintMore Go.Proofs.Ytmfjbljdbkmkgaa.PDom Go.Proofs.Ytmfjbljdbkmkgaa.Txt Go.Proofs.Ytmfjbljdbkmkgaa.Blank
set_option linter.unusedVariables false
set_option linter.unusedSimpArgs false

theorem three_new' (w : World) (o0 o1 o2 : Obj) : (((w.alloc o0).alloc o1).alloc o2).heap.size = w.heap.size + 3 ∧ Below w.heap.size w (((w.alloc o0).alloc o1).alloc o2) ∧ (((w.alloc o0).alloc o1).alloc o2).heap[w.heap.size]? = some o0 ∧ (((w.alloc o0).alloc o1).alloc o2).heap[w.heap.size + 1]? = some o1 ∧ (((w.alloc o0).alloc o1).alloc o2).heap[w.heap.size + 2]? = some o2 := by
 have e : (((w.alloc o0).alloc o1).alloc o2).heap = ((w.heap.push o0).push o1).push o2 := rfl
 refine ⟨by rw [e]; simp, below_alloc (below_alloc (below_alloc (Below.refl _ _) _) _) _, ?_, ?_, ?_⟩ <;> rw [e] <;> simp only [Array.getElem?_push, Array.size_push] <;> repeat (first | rfl | rw [if_pos trivial] | rw [if_pos (by omega)] | rw [if_neg (by omega)])
/-- The three boxes of spec.Collapsed: the node's, the sort's, the result's. -/
structure CB (w wr : World) (t : T) (A3 : Option Addr) (c3 : Nat) (A4 : Option Addr) (c4 : Nat) (sc : Array Value) : Prop where
 nd : wr.heap[w.heap.size]? = some (.cells #[.int .i64 t.f0, .string t.f1, .string t.f2, .slice A3 t.f3.length c3, .slice A4 t.f4.length c4] 25 (0, 0))
 srt : wr.heap[w.heap.size + 1]? = some (.cells sc 37 (0, 0))
 res : wr.heap[w.heap.size + 2]? = some (.cells zeroN 25 (0, 0))
 on : Below w.heap.size w wr
theorem CB.moved {w wr w1 : World} {t : T} {A3 A4 : Option Addr} {c3 c4 : Nat} {sc : Array Value} (h : CB w wr t A3 c3 A4 c4 sc) (hb : Below wr.heap.size wr w1) : CB w w1 t A3 c3 A4 c4 sc :=
 ⟨(hb.block _ (blk_lt h.nd)).trans h.nd, (hb.block _ (blk_lt h.srt)).trans h.srt, (hb.block _ (blk_lt h.res)).trans h.res, h.on.trans (hb.mono h.on.size)⟩
/-- Behind the refilling: a box with the tree. -/
structure CO (w wc : World) (b : Nat) (u : T) (A3 : Option Addr) (c3 : Nat) (A9 : Option Addr) (c9 : Nat) : Prop where
 box : wc.heap[b]? = some (.cells #[.int .i64 u.f0, .string u.f1, .string u.f2, .slice A3 0 c3, .slice A9 u.f4.length c9] 25 (0, 0))
 res : wc.heap[w.heap.size + 2]? = some (.cells zeroN 25 (0, 0))
 kids : Kd.F k25 wc (fun k => k ≠ b ∧ k ≠ w.heap.size + 2 ∧ k < wc.heap.size) A9 u.f4.length u.f4
 cap : u.f4.length ≤ c9
 on : Below w.heap.size w wc
 far : b ≠ w.heap.size + 2
theorem co_early {w w6 : World} {b : Nat} {u : T} {A3 A9 : Option Addr} {c3 c9 : Nat} (hb : w6.heap[b]? = some (.cells #[.int .i64 0, .string ⟨#[]⟩, .string ⟨#[]⟩, .slice none 0 0, .slice none 0 0] 25 (0, 0))) (hr : w6.heap[w.heap.size + 2]? = some (.cells zeroN 25 (0, 0))) {Q : Nat → Prop} (hk : Kd.F k25 w6 Q A9 u.f4.length u.f4) (hQ : ∀ k, Q k → k < w6.heap.size → k ≠ b ∧ k ≠ w.heap.size + 2) (hc : u.f4.length ≤ c9) (hon : Below w.heap.size w w6) (hf : w.heap.size + 2 < b) :
  CO w (((((w6.setCell ⟨b, 0, none⟩ (.int .i64 u.f0)).setCell ⟨b, 1, none⟩ (.string u.f1)).setCell ⟨b, 2, none⟩ (.string u.f2)).setCell ⟨b, 3, none⟩ (.slice A3 0 c3)).setCell ⟨b, 4, none⟩ (.slice A9 u.f4.length c9)) b u A3 c3 A9 c9 := by
 have hs := fun k (hk : k ≠ b) => sets5 w6 b (.int .i64 u.f0) (.string u.f1) (.string u.f2) (.slice A3 0 c3) (.slice A9 u.f4.length c9) k hk
 have hon5 : Below w.heap.size w (((((w6.setCell ⟨b, 0, none⟩ (.int .i64 u.f0)).setCell ⟨b, 1, none⟩ (.string u.f1)).setCell ⟨b, 2, none⟩ (.string u.f2)).setCell ⟨b, 3, none⟩ (.slice A3 0 c3)).setCell ⟨b, 4, none⟩ (.slice A9 u.f4.length c9)) :=
  Below.setCell (Below.setCell (Below.setCell (Below.setCell (Below.setCell hon (p := ⟨b, 0, none⟩) (by show _ ≤ b; omega) _) (p := ⟨b, 1, none⟩) (by show _ ≤ b; omega) _) (p := ⟨b, 2, none⟩) (by show _ ≤ b; omega) _) (p := ⟨b, 3, none⟩) (by show _ ≤ b; omega) _) (p := ⟨b, 4, none⟩) (by show _ ≤ b; omega) _
 refine ⟨sets5_box hb _ _ _ _ _, (hs _ (by omega)).trans hr, ?_, hc, hon5, by omega⟩
 have := Kd.F_step (Kd.F_bound hk) (fun k hk _ => hs k (hQ k hk.1 hk.2).1)
 refine Kd.F_mono (Kd.F_bound this) (fun k hk => ?_)
 obtain ⟨⟨h1, h2⟩, h3⟩ := hk
 exact ⟨(hQ k h1 h2).1, (hQ k h1 h2).2, h3⟩
theorem co_late {w w6 : World} {u : T} {A3 A9 : Option Addr} {c3 c9 : Nat} (hr : w6.heap[w.heap.size + 2]? = some (.cells zeroN 25 (0, 0))) {Q : Nat → Prop} (hk : Kd.F k25 w6 Q A9 u.f4.length u.f4) (hQ : ∀ k, Q k → k < w6.heap.size → k ≠ w.heap.size + 2) (hc : u.f4.length ≤ c9) (hon : Below w.heap.size w w6) (o : Obj) (ho : o = .cells #[.int .i64 u.f0, .string u.f1, .string u.f2, .slice A3 0 c3, .slice A9 u.f4.length c9] 25) :
  CO w (w6.alloc o) w6.heap.size u A3 c3 A9 c9 := by
 subst ho
 have hlt := blk_lt hr
 refine ⟨heap_alloc_new _ _, (heap_alloc_old w6 _ hlt).trans hr, ?_, hc, below_alloc hon _, by omega⟩
 have := Kd.F_alloc (Kd.F_bound hk) (.cells #[.int .i64 u.f0, .string u.f1, .string u.f2, .slice A3 0 c3, .slice A9 u.f4.length c9] 25)
 refine Kd.F_mono (Kd.F_bound this) (fun k hk => ?_)
 obtain ⟨⟨h1, h2⟩, h3⟩ := hk
 exact ⟨by omega, hQ k h1 h2, h3⟩
set_option maxHeartbeats 8000000 in
set_option maxRecDepth 100000 in
theorem cld_calls (S : Srt) (t : T) (hna : naT t = true) (hct : countT t ≤ 1000000) (hp : inL S.pr t.f1 = false) (kc : Nat) (r : List ByteArray) (hrf : spec_collapsed.f kc (stpL S 0 t.f4) (txsL S t.f4) = some r) (hrl : r.length = (txsL S t.f4).length)
  (w : World) (A3 : Option Addr) (c3 : Nat) (A4 : Option Addr) (c4 : Nat) (B1 B2 B3 : Option Addr) (d1 d2 d3 : Nat) (h4 : Kd.C k25 w A4 t.f4.length t.f4) (l4 : t.f4.length ≤ c4) (hb1 : Kd.C Kd.string w B1 S.bk.length S.bk) (hb2 : Kd.C Kd.string w B2 S.vd.length S.vd) (hb3 : Kd.C Kd.string w B3 S.pr.length S.pr)
  (hd1 : S.bk.length ≤ d1 ∧ S.bk.length ≤ 4611686018427387904) (hd2 : S.vd.length ≤ d2 ∧ S.vd.length ≤ 4611686018427387904) (hd3 : S.pr.length ≤ d3 ∧ S.pr.length ≤ 4611686018427387904) :
  Calls Try.prog 24 #[.agg #[.int .i64 t.f0, .string t.f1, .string t.f2, .slice A3 t.f3.length c3, .slice A4 t.f4.length c4], .agg #[.slice B1 S.bk.length d1, .slice B2 S.vd.length d2, .slice B3 S.pr.length d3]] w fun e w' => ∃ A9 c9, e = .returned (.agg #[.int .i64 (rfT S r t).1.f0, .string (rfT S r t).1.f1, .string (rfT S r t).1.f2, .slice A3 0 c3, .slice A9 (rfT S r t).1.f4.length c9]) ∧ (rfT S r t).1.f3 = [] ∧ (rfT S r t).1.f4.length ≤ c9 ∧ Kd.C k25 w' A9 (rfT S r t).1.f4.length (rfT S r t).1.f4 ∧ Below w.heap.size w w' := by
 have hn3 := (naT_open hna).1
 obtain ⟨f0, f1, f2, f3, f4⟩ := t
 have hn3' : f3 = [] := hn3
 subst hn3'
 simp only at h4 l4 hp hrf hrl ⊢
 have hcl : countT ⟨f0, f1, f2, [], f4⟩ = 1 + countTL f4 := rfl
 obtain ⟨W, hW⟩ : ∃ W, W = ((w.alloc (.cells #[.int .i64 f0, .string f1, .string f2, .slice A3 0 c3, .slice A4 f4.length c4] 25)).alloc (.cells #[.slice B1 S.bk.length d1, .slice B2 S.vd.length d2, .slice B3 S.pr.length d3] 37)).alloc (.cells #[.int .i64 0, .string ⟨#[]⟩, .string ⟨#[]⟩, .slice none 0 0, .slice none 0 0] 25) := ⟨_, rfl⟩
 obtain ⟨z0, z1, z2, z3, z4⟩ := three_new' w (.cells #[.int .i64 f0, .string f1, .string f2, .slice A3 0 c3, .slice A4 f4.length c4] 25) (.cells #[.slice B1 S.bk.length d1, .slice B2 S.vd.length d2, .slice B3 S.pr.length d3] 37) (.cells #[.int .i64 0, .string ⟨#[]⟩, .string ⟨#[]⟩, .slice none 0 0, .slice none 0 0] 25)
 rw [← hW] at z0 z1 z2 z3 z4
 have HB := Aside0.mk (show CB w W ⟨f0, f1, f2, [], f4⟩ A3 c3 A4 c4 #[.slice B1 S.bk.length d1, .slice B2 S.vd.length d2, .slice B3 S.pr.length d3] from ⟨z2, z3, z4, z1⟩)
 have HG := Aside0.mk (fun (wx : World) (hb : Below W.heap.size W wx) => (⟨Kd.C_below (Kd.C_below h4 z1) hb, Kd.C_below (Kd.C_below hb1 z1) hb, Kd.C_below (Kd.C_below hb2 z1) hb, Kd.C_below (Kd.C_below hb3 z1) hb⟩ : Kd.C k25 wx A4 f4.length f4 ∧ Kd.C Kd.string wx B1 S.bk.length S.bk ∧ Kd.C Kd.string wx B2 S.vd.length S.vd ∧ Kd.C Kd.string wx B3 S.pr.length S.pr))
 have HNM := Aside0.mk (fun (wx : World) (hb : Below W.heap.size W wx) => names_calls S.pr hd3.2 f1 B3 d3 hd3.1 wx (HG.out wx hb).2.2.2)
 rw [hp] at HNM
 have hnil2 := fun (wx : World) => Kd.R_nil k100 100 wx wx.heap.size (fun _ => True)
 have hnil3 := fun (wx : World) => Kd.R_nil Kd.string 9 wx wx.heap.size (fun _ => True)
 have HST := Aside0.mk (fun (wx : World) (hb : Below W.heap.size W wx) => stp_calls S _ ⟨f0, f1, f2, [], f4⟩ (Nat.le_refl _) wx (fun k => k < wx.heap.size) A3 c3 A4 c4 B1 B2 B3 d1 d2 d3 wx.heap.size (.slice none 0 0) (.slice none 0 0) [] [] (fun k hk => ⟨hk, by simp [Value.ownBlock], by simp [Value.ownBlock]⟩) (Kd.C_F k25_heap (HG.out wx hb).1) l4 (Kd.C_F Kd.heap_string (HG.out wx hb).2.1) (Kd.C_F Kd.heap_string (HG.out wx hb).2.2.1) (Kd.C_F Kd.heap_string (HG.out wx hb).2.2.2) hd1 hd2 hd3 (hnil2 wx) (hnil3 wx) (Nat.le_refl _) (by simp; omega) (by simp; omega))
 have HCO := Aside0.mk (fun (X2 : Option Addr) (x2 : Nat) (X3 : Option Addr) (x3 : Nat) (wx : World) (g2 : Kd.C k100 wx X2 (stpL S 0 f4).length (stpL S 0 f4)) (m2 : (stpL S 0 f4).length ≤ x2) (g3 : Kd.C Kd.string wx X3 (txsL S f4).length (txsL S f4)) (m3 : (txsL S f4).length ≤ x3) => spec_collapsed.calls kc X2 x2 (stpL S 0 f4) X3 x3 (txsL S f4) r wx g2 m2 g3 m3 hrf)
 have HRE := Aside0.mk (fun (V : Option Addr) (cV : Nat) (wx : World) (P : Nat → Prop) (hP : ∀ k, P k → k < wx.heap.size) (g4 : Kd.F k25 wx P A4 f4.length f4) (g3 : Kd.F Kd.string wx P B3 S.pr.length S.pr) (gV : Kd.F Kd.string wx P V r.length r) (mV : r.length ≤ cV) => ref_calls S _ ⟨f0, f1, f2, [], f4⟩ (Nat.le_refl _) hna hct wx P A3 c3 A4 c4 B1 B2 B3 d1 d2 d3 V cV r hP g4 l4 g3 hd3 gV mV (Nat.le_of_eq hrl.symm))
 have H4 := Aside0.mk h4
 have H3 := Aside0.mk hb3
 clear h4 hb1 hb2 hb3 hd1 hd2 hd3 hnil2 hnil3 hrf z0 z1 z2 z3 z4 hct hcl
 have HRL := Aside0.mk hrl
 clear hrl hna hp
 clear hn3
 have HU3 := Aside0.mk (show (rfT S r ⟨f0, f1, f2, [], f4⟩).1.f3 = [] from by rw [rfT])
 generalize (rfT S r ⟨f0, f1, f2, [], f4⟩).1 = u at *
 generalize (rfT S r ⟨f0, f1, f2, [], f4⟩).2 = u2 at *
 generalize hl2 : stpL S 0 f4 = L2 at *
 generalize hl3 : txsL S f4 = L3 at *
 clear hl2 hl3
 go_enter Try.func24, Try.ntmps24
 go_upto_region 1 with fail
 rw [← hW]
 clear hW
 have s0 := blk_cell HB.out.srt 0
 have s1 := blk_cell HB.out.srt 1
 have s2 := blk_cell HB.out.srt 2
 have y1 := blk_cell HB.out.nd 1
 go_upto_region 3 with (go_at_call 37; go_must (refine (HNM.out _ (Below.refl _ _)).mono ?_; rintro e w1 ⟨rfl, hb1⟩; have HB1 := Aside0.mk hb1; have N_ := Aside0.mk (HB.out.moved hb1); clear HB hb1 s0 s1 s2 y1; have HB := N_; clear N_; have s0 := blk_cell HB.out.srt 0; have s1 := blk_cell HB.out.srt 1; have s2 := blk_cell HB.out.srt 2; have y0 := blk_cell HB.out.nd 0; have y1 := blk_cell HB.out.nd 1; have y2 := blk_cell HB.out.nd 2; have y3 := blk_cell HB.out.nd 3; have y4 := blk_cell HB.out.nd 4))
 go_upto_region 4 with (go_at_call 48; go_must (refine (HST.out _ HB1.out).mono ?_; rintro e w2 ⟨v2, v3, rfl, hs⟩; obtain ⟨X2, x2, rfl⟩ := Kd.R_slice hs.r2; obtain ⟨X3, x3, rfl⟩ := Kd.R_slice hs.r3; rw [List.nil_append, List.nil_append] at hs; have HS := Aside0.mk hs; clear hs))
 clear s0 s1 s2 y0 y1 y2 y3 y4 HNM HST
 have hb2 : Below w1.heap.size w1 w2 := ⟨HS.out.io.1, HS.out.io.2.1, HS.out.io.2.2, HS.out.size, fun k hk => HS.out.keep k hk (by simp [Value.ownBlock]) (by simp [Value.ownBlock])⟩
 have HB2 := Aside0.mk (HB.out.moved hb2)
 have hq2 := Kd.R_reads' HS.out.r2
 have hq3 := Kd.R_reads' HS.out.r3
 simp only [List.nil_append] at hq2 hq3
 have H2L := Aside0.mk (show w.heap.size + 3 ≤ w2.heap.size from blk_lt HB2.out.res)
 have HCO4 := Aside0.mk (show ∀ (wx : World), Below w2.heap.size w2 wx → Calls Try.prog 50 #[.slice X2 L2.length x2, .slice X3 L3.length x3] wx fun e w5 => ∃ V cV, e = .returned (.slice V r.length cV) ∧ Below w2.heap.size w2 w5 ∧ wx.heap.size ≤ w5.heap.size ∧ Below wx.heap.size wx w5 ∧
   ∀ wy, Below w5.heap.size w5 wy → Calls Try.prog 49 #[.agg #[.int .i64 f0, .string f1, .string f2, .slice A3 0 c3, .slice A4 f4.length c4], .agg #[.slice B1 S.bk.length d1, .slice B2 S.vd.length d2, .slice B3 S.pr.length d3], .slice V r.length cV] wy fun e w6 => ∃ A9 c9 V' cV', e = .returned (.tuple #[.agg #[.int .i64 u.f0, .string u.f1, .string u.f2, .slice A3 0 c3, .slice A9 u.f4.length c9], .slice V' u2.length cV']) ∧ u.f4.length ≤ c9 ∧
    Kd.F k25 w6 (fun k => k < w.heap.size ∨ (wx.heap.size ≤ k ∧ k < w5.heap.size) ∨ wy.heap.size ≤ k) A9 u.f4.length u.f4 ∧ Below wy.heap.size wy w6 ∧ CB w w6 ⟨f0, f1, f2, [], f4⟩ A3 c3 A4 c4 #[.slice B1 S.bk.length d1, .slice B2 S.vd.length d2, .slice B3 S.pr.length d3] from by
  intro wx hbx
  refine (HCO.out X2 x2 X3 x3 wx (Kd.C_below hq2.2.2 hbx) hq2.2.1 (Kd.C_below hq3.2.2 hbx) hq3.2.1).mono ?_
  rintro e w5 ⟨v0, rfl, hR, hb5⟩
  obtain ⟨V, cV, rfl⟩ := Kd.R_slice hR
  refine ⟨V, cV, rfl, below_step hbx hb5, hb5.size, hb5, fun wy hby => ?_⟩
  have hwy : Below w.heap.size w wy := HB2.out.on.trans ((below_step (below_step hbx hb5) hby).mono HB2.out.on.size)
  refine (HRE.out V cV wy (fun k => k < w.heap.size ∨ (wx.heap.size ≤ k ∧ k < w5.heap.size)) (fun k hk => ?_) ?_ ?_ ?_ (Kd.R_reads' hR).2.1).mono ?_
  ·have h1 := hwy.size
   have h2 := hby.size
   omega
  ·exact Kd.F_mono (Kd.F_below (Kd.C_F k25_heap H4.out) hwy) (fun k hk => .inl hk)
  ·exact Kd.F_mono (Kd.F_below (Kd.C_F Kd.heap_string H3.out) hwy) (fun k hk => .inl hk)
  ·exact Kd.F_below (Kd.R_F (Kd.R_mono (Kd.R_bound hR) (fun k hk => .inr ⟨hk.2.1, hk.2.2.1⟩))) hby
  ·rintro e w6 ⟨A9, c9, V', cV', rfl, _, m9, N9, _, _, hb6⟩
   exact ⟨A9, c9, V', cV', rfl, m9, Kd.F_mono (Kd.N_F N9) (fun k hk => by rcases hk with (hk | hk) | hk; exact .inl hk; exact .inr (.inl hk); exact .inr (.inr hk)), hb6, HB2.out.moved (below_step (below_step (below_step hbx hb5) hby) hb6)⟩)
 clear HCO HRE hq2 hq3 HS hb2 HB HB1 HG
 go_cut [7] (fun v7 wc => ∃ b A9 c9, v7 = .pointer (some ⟨b, 0, none⟩) ∧ Aside0 (CO w wc b u A3 c3 A9 c9))
 case first =>
  have y0pd := blk_cell (HB2.out.moved (show Below w2.heap.size w2 w2.drew from below_drew (Below.refl _ _))).nd 0
  have y1pd := blk_cell (HB2.out.moved (show Below w2.heap.size w2 w2.drew from below_drew (Below.refl _ _))).nd 1
  have y2pd := blk_cell (HB2.out.moved (show Below w2.heap.size w2 w2.drew from below_drew (Below.refl _ _))).nd 2
  have y3pd := blk_cell (HB2.out.moved (show Below w2.heap.size w2 w2.drew from below_drew (Below.refl _ _))).nd 3
  have y4pd := blk_cell (HB2.out.moved (show Below w2.heap.size w2 w2.drew from below_drew (Below.refl _ _))).nd 4
  have s0pd := blk_cell (HB2.out.moved (show Below w2.heap.size w2 w2.drew from below_drew (Below.refl _ _))).srt 0
  have s1pd := blk_cell (HB2.out.moved (show Below w2.heap.size w2 w2.drew from below_drew (Below.refl _ _))).srt 1
  have s2pd := blk_cell (HB2.out.moved (show Below w2.heap.size w2 w2.drew from below_drew (Below.refl _ _))).srt 2
  have y0pad := blk_cell (HB2.out.moved (show Below w2.heap.size w2 (w2.alloc (.cells #[.int .i64 0, .string ⟨#[]⟩, .string ⟨#[]⟩, .slice none 0 0, .slice none 0 0] 25)).drew from below_drew (below_alloc (Below.refl _ _) _))).nd 0
  have y1pad := blk_cell (HB2.out.moved (show Below w2.heap.size w2 (w2.alloc (.cells #[.int .i64 0, .string ⟨#[]⟩, .string ⟨#[]⟩, .slice none 0 0, .slice none 0 0] 25)).drew from below_drew (below_alloc (Below.refl _ _) _))).nd 1
  have y2pad := blk_cell (HB2.out.moved (show Below w2.heap.size w2 (w2.alloc (.cells #[.int .i64 0, .string ⟨#[]⟩, .string ⟨#[]⟩, .slice none 0 0, .slice none 0 0] 25)).drew from below_drew (below_alloc (Below.refl _ _) _))).nd 2
  have y3pad := blk_cell (HB2.out.moved (show Below w2.heap.size w2 (w2.alloc (.cells #[.int .i64 0, .string ⟨#[]⟩, .string ⟨#[]⟩, .slice none 0 0, .slice none 0 0] 25)).drew from below_drew (below_alloc (Below.refl _ _) _))).nd 3
  have y4pad := blk_cell (HB2.out.moved (show Below w2.heap.size w2 (w2.alloc (.cells #[.int .i64 0, .string ⟨#[]⟩, .string ⟨#[]⟩, .slice none 0 0, .slice none 0 0] 25)).drew from below_drew (below_alloc (Below.refl _ _) _))).nd 4
  have s0pad := blk_cell (HB2.out.moved (show Below w2.heap.size w2 (w2.alloc (.cells #[.int .i64 0, .string ⟨#[]⟩, .string ⟨#[]⟩, .slice none 0 0, .slice none 0 0] 25)).drew from below_drew (below_alloc (Below.refl _ _) _))).srt 0
  have s1pad := blk_cell (HB2.out.moved (show Below w2.heap.size w2 (w2.alloc (.cells #[.int .i64 0, .string ⟨#[]⟩, .string ⟨#[]⟩, .slice none 0 0, .slice none 0 0] 25)).drew from below_drew (below_alloc (Below.refl _ _) _))).srt 1
  have s2pad := blk_cell (HB2.out.moved (show Below w2.heap.size w2 (w2.alloc (.cells #[.int .i64 0, .string ⟨#[]⟩, .string ⟨#[]⟩, .slice none 0 0, .slice none 0 0] 25)).drew from below_drew (below_alloc (Below.refl _ _) _))).srt 2
  go_region_law (first
   | (go_simp; go_at_call 50; refine (HCO4.out _ ?ax).mono ?_; (case ax => ((repeat (first | with_reducible exact Below.refl _ _ | with_reducible refine below_alloc ?_ _ | with_reducible refine below_drew ?_)); done)); rintro e w5 ⟨V, cV, rfl, hb25, hl5, hx5, hre⟩; have HZ5 := Aside0.mk ((hx5.block w2.heap.size ?z1).trans (show _ = some (.cells #[.int .i64 0, .string ⟨#[]⟩, .string ⟨#[]⟩, .slice none 0 0, .slice none 0 0] 25 (0, 0)) from ?z2)); (case z2 => ((repeat (first | (with_reducible refine box_new ?_; first | with_reducible rfl | (simp only [alloc_size, drew_size]; done)) | with_reducible refine blk_drew ?_ | with_reducible refine blk_alloc ?_ _)); done)); (case z1 => (simp only [alloc_size, drew_size]; omega)); have HRE := Aside0.mk hre; have HX5 := Aside0.mk hx5; have HB5 := Aside0.mk (HB2.out.moved hb25); clear hre hb25 hl5 hx5; have y0q := blk_cell (HB5.out.moved (show Below w5.heap.size w5 w5 from (Below.refl _ _))).nd 0; have y1q := blk_cell (HB5.out.moved (show Below w5.heap.size w5 w5 from (Below.refl _ _))).nd 1; have y2q := blk_cell (HB5.out.moved (show Below w5.heap.size w5 w5 from (Below.refl _ _))).nd 2; have y3q := blk_cell (HB5.out.moved (show Below w5.heap.size w5 w5 from (Below.refl _ _))).nd 3; have y4q := blk_cell (HB5.out.moved (show Below w5.heap.size w5 w5 from (Below.refl _ _))).nd 4; have s0q := blk_cell (HB5.out.moved (show Below w5.heap.size w5 w5 from (Below.refl _ _))).srt 0; have s1q := blk_cell (HB5.out.moved (show Below w5.heap.size w5 w5 from (Below.refl _ _))).srt 1; have s2q := blk_cell (HB5.out.moved (show Below w5.heap.size w5 w5 from (Below.refl _ _))).srt 2; have y0qa := blk_cell (HB5.out.moved (show Below w5.heap.size w5 (w5.alloc (.cells #[.int .i64 0, .string ⟨#[]⟩, .string ⟨#[]⟩, .slice none 0 0, .slice none 0 0] 25)) from below_alloc (Below.refl _ _) _)).nd 0; have y1qa := blk_cell (HB5.out.moved (show Below w5.heap.size w5 (w5.alloc (.cells #[.int .i64 0, .string ⟨#[]⟩, .string ⟨#[]⟩, .slice none 0 0, .slice none 0 0] 25)) from below_alloc (Below.refl _ _) _)).nd 1; have y2qa := blk_cell (HB5.out.moved (show Below w5.heap.size w5 (w5.alloc (.cells #[.int .i64 0, .string ⟨#[]⟩, .string ⟨#[]⟩, .slice none 0 0, .slice none 0 0] 25)) from below_alloc (Below.refl _ _) _)).nd 2; have y3qa := blk_cell (HB5.out.moved (show Below w5.heap.size w5 (w5.alloc (.cells #[.int .i64 0, .string ⟨#[]⟩, .string ⟨#[]⟩, .slice none 0 0, .slice none 0 0] 25)) from below_alloc (Below.refl _ _) _)).nd 3; have y4qa := blk_cell (HB5.out.moved (show Below w5.heap.size w5 (w5.alloc (.cells #[.int .i64 0, .string ⟨#[]⟩, .string ⟨#[]⟩, .slice none 0 0, .slice none 0 0] 25)) from below_alloc (Below.refl _ _) _)).nd 4; have s0qa := blk_cell (HB5.out.moved (show Below w5.heap.size w5 (w5.alloc (.cells #[.int .i64 0, .string ⟨#[]⟩, .string ⟨#[]⟩, .slice none 0 0, .slice none 0 0] 25)) from below_alloc (Below.refl _ _) _)).srt 0; have s1qa := blk_cell (HB5.out.moved (show Below w5.heap.size w5 (w5.alloc (.cells #[.int .i64 0, .string ⟨#[]⟩, .string ⟨#[]⟩, .slice none 0 0, .slice none 0 0] 25)) from below_alloc (Below.refl _ _) _)).srt 1; have s2qa := blk_cell (HB5.out.moved (show Below w5.heap.size w5 (w5.alloc (.cells #[.int .i64 0, .string ⟨#[]⟩, .string ⟨#[]⟩, .slice none 0 0, .slice none 0 0] 25)) from below_alloc (Below.refl _ _) _)).srt 2; clear y0pd y1pd y2pd y3pd y4pd s0pd s1pd s2pd y0pad y1pad y2pad y3pad y4pad s0pad s1pad s2pad)
   | (go_simp; go_at_call 50; refine (HCO4.out _ ?ax).mono ?_; (case ax => ((repeat (first | with_reducible exact Below.refl _ _ | with_reducible refine below_alloc ?_ _ | with_reducible refine below_drew ?_)); done)); rintro e w5 ⟨V, cV, rfl, hb25, hl5, hx5, hre⟩; have HRE := Aside0.mk hre; have HX5 := Aside0.mk hx5; have HB5 := Aside0.mk (HB2.out.moved hb25); clear hre hb25 hl5 hx5; have y0q := blk_cell (HB5.out.moved (show Below w5.heap.size w5 w5 from (Below.refl _ _))).nd 0; have y1q := blk_cell (HB5.out.moved (show Below w5.heap.size w5 w5 from (Below.refl _ _))).nd 1; have y2q := blk_cell (HB5.out.moved (show Below w5.heap.size w5 w5 from (Below.refl _ _))).nd 2; have y3q := blk_cell (HB5.out.moved (show Below w5.heap.size w5 w5 from (Below.refl _ _))).nd 3; have y4q := blk_cell (HB5.out.moved (show Below w5.heap.size w5 w5 from (Below.refl _ _))).nd 4; have s0q := blk_cell (HB5.out.moved (show Below w5.heap.size w5 w5 from (Below.refl _ _))).srt 0; have s1q := blk_cell (HB5.out.moved (show Below w5.heap.size w5 w5 from (Below.refl _ _))).srt 1; have s2q := blk_cell (HB5.out.moved (show Below w5.heap.size w5 w5 from (Below.refl _ _))).srt 2; have y0qa := blk_cell (HB5.out.moved (show Below w5.heap.size w5 (w5.alloc (.cells #[.int .i64 0, .string ⟨#[]⟩, .string ⟨#[]⟩, .slice none 0 0, .slice none 0 0] 25)) from below_alloc (Below.refl _ _) _)).nd 0; have y1qa := blk_cell (HB5.out.moved (show Below w5.heap.size w5 (w5.alloc (.cells #[.int .i64 0, .string ⟨#[]⟩, .string ⟨#[]⟩, .slice none 0 0, .slice none 0 0] 25)) from below_alloc (Below.refl _ _) _)).nd 1; have y2qa := blk_cell (HB5.out.moved (show Below w5.heap.size w5 (w5.alloc (.cells #[.int .i64 0, .string ⟨#[]⟩, .string ⟨#[]⟩, .slice none 0 0, .slice none 0 0] 25)) from below_alloc (Below.refl _ _) _)).nd 2; have y3qa := blk_cell (HB5.out.moved (show Below w5.heap.size w5 (w5.alloc (.cells #[.int .i64 0, .string ⟨#[]⟩, .string ⟨#[]⟩, .slice none 0 0, .slice none 0 0] 25)) from below_alloc (Below.refl _ _) _)).nd 3; have y4qa := blk_cell (HB5.out.moved (show Below w5.heap.size w5 (w5.alloc (.cells #[.int .i64 0, .string ⟨#[]⟩, .string ⟨#[]⟩, .slice none 0 0, .slice none 0 0] 25)) from below_alloc (Below.refl _ _) _)).nd 4; have s0qa := blk_cell (HB5.out.moved (show Below w5.heap.size w5 (w5.alloc (.cells #[.int .i64 0, .string ⟨#[]⟩, .string ⟨#[]⟩, .slice none 0 0, .slice none 0 0] 25)) from below_alloc (Below.refl _ _) _)).srt 0; have s1qa := blk_cell (HB5.out.moved (show Below w5.heap.size w5 (w5.alloc (.cells #[.int .i64 0, .string ⟨#[]⟩, .string ⟨#[]⟩, .slice none 0 0, .slice none 0 0] 25)) from below_alloc (Below.refl _ _) _)).srt 1; have s2qa := blk_cell (HB5.out.moved (show Below w5.heap.size w5 (w5.alloc (.cells #[.int .i64 0, .string ⟨#[]⟩, .string ⟨#[]⟩, .slice none 0 0, .slice none 0 0] 25)) from below_alloc (Below.refl _ _) _)).srt 2; clear y0pd y1pd y2pd y3pd y4pd s0pd s1pd s2pd y0pad y1pad y2pad y3pad y4pad s0pad s1pad s2pad)
   | (go_simp; go_at_call 49; refine (HRE.out _ ?bx).mono ?_; (case bx => ((repeat (first | with_reducible exact Below.refl _ _ | with_reducible refine below_alloc ?_ _ | with_reducible refine below_drew ?_)); done)); rintro e w6 ⟨A9, c9, V', cV', rfl, m9, F9, hb6, hc6⟩; have hz6 := (hb6.block w2.heap.size ?z1).trans (show _ = some (.cells #[.int .i64 0, .string ⟨#[]⟩, .string ⟨#[]⟩, .slice none 0 0, .slice none 0 0] 25 (0, 0)) from ?z2); (case z2 => ((repeat with_reducible refine blk_drew ?_); exact HZ5.out)); (case z1 => (have := blk_lt HZ5.out; (try simp only [alloc_size, drew_size]); omega)); have HZ6 := Aside0.mk hz6; have g0z := blk_frozen hz6 0; have q0z := blk_cell hz6 0; have g1z := blk_frozen hz6 1; have q1z := blk_cell hz6 1; have g2z := blk_frozen hz6 2; have q2z := blk_cell hz6 2; have g3z := blk_frozen hz6 3; have q3z := blk_cell hz6 3; have g4z := blk_frozen hz6 4; have q4z := blk_cell hz6 4; clear hz6; have HF9 := Aside0.mk F9; have HM9 := Aside0.mk m9; have HC6 := Aside0.mk hc6; clear F9 m9 hb6 hc6; clear y0q y1q y2q y3q y4q s0q s1q s2q y0qa y1qa y2qa y3qa y4qa s0qa s1qa s2qa)
   | (go_simp; go_at_call 49; refine (HRE.out _ ?bx).mono ?_; (case bx => ((repeat (first | with_reducible exact Below.refl _ _ | with_reducible refine below_alloc ?_ _ | with_reducible refine below_drew ?_)); done)); rintro e w6 ⟨A9, c9, V', cV', rfl, m9, F9, hb6, hc6⟩; have hz6 := (hb6.block w5.heap.size ?z1).trans (show _ = some (.cells #[.int .i64 0, .string ⟨#[]⟩, .string ⟨#[]⟩, .slice none 0 0, .slice none 0 0] 25 (0, 0)) from ?z2); (case z2 => ((repeat (first | (with_reducible refine box_new ?_; first | with_reducible rfl | (simp only [alloc_size, drew_size]; done)) | with_reducible refine blk_drew ?_ | with_reducible refine blk_alloc ?_ _)); done)); (case z1 => (simp only [alloc_size, drew_size]; omega)); have HZ6 := Aside0.mk hz6; have g0z := blk_frozen hz6 0; have q0z := blk_cell hz6 0; have g1z := blk_frozen hz6 1; have q1z := blk_cell hz6 1; have g2z := blk_frozen hz6 2; have q2z := blk_cell hz6 2; have g3z := blk_frozen hz6 3; have q3z := blk_cell hz6 3; have g4z := blk_frozen hz6 4; have q4z := blk_cell hz6 4; clear hz6; have HF9 := Aside0.mk F9; have HM9 := Aside0.mk m9; have HC6 := Aside0.mk hc6; clear F9 m9 hb6 hc6; clear y0q y1q y2q y3q y4q s0q s1q s2q y0qa y1qa y2qa y3qa y4qa s0qa s1qa s2qa)
   | (go_simp; go_at_call 49; refine (HRE.out _ ?bx).mono ?_; (case bx => ((repeat (first | with_reducible exact Below.refl _ _ | with_reducible refine below_alloc ?_ _ | with_reducible refine below_drew ?_)); done)); rintro e w6 ⟨A9, c9, V', cV', rfl, m9, F9, hb6, hc6⟩; have HF9 := Aside0.mk F9; have HM9 := Aside0.mk m9; have HC6 := Aside0.mk hc6; clear F9 m9 hb6 hc6; clear y0q y1q y2q y3q y4q s0q s1q s2q y0qa y1qa y2qa y3qa y4qa s0qa s1qa s2qa)
   | (trace "HERE"; trace_state; fail))
  all_goals (go_wp2_with fail; go_meet)
  all_goals refine ⟨_, A9, c9, rfl, Aside0.mk ?_⟩
  all_goals first
   | (with_reducible refine co_late HC6.out.res HF9.out ?_ HM9.out HC6.out.on _ rfl; intro k hk hlt; have h2 := H2L.out; have h5 := HX5.out.size; (try dsimp only at hk); (try simp only [alloc_size, drew_size] at hk); (try simp only [alloc_size, drew_size] at h5); omega)
   | (with_reducible refine co_early HZ6.out HC6.out.res HF9.out ?_ HM9.out HC6.out.on ?_; (intro k hk hlt; have h2 := H2L.out; have h5 := HX5.out.size; (try dsimp only at hk); (try simp only [alloc_size, drew_size] at hk); (try simp only [alloc_size, drew_size] at h5); omega); have h2 := H2L.out; have h5 := HX5.out.size; (try simp only [alloc_size, drew_size] at h5); omega)
 case rest =>
  obtain ⟨b, A9, c9, rfl, HO⟩ := hcut
  have y0 := blk_cell HO.out.box 0
  have y1 := blk_cell HO.out.box 1
  have y2 := blk_cell HO.out.box 2
  have y3 := blk_cell HO.out.box 3
  have y4 := blk_cell HO.out.box 4
  have g0 := blk_frozen HO.out.res 0
  have g1 := blk_frozen HO.out.res 1
  have g2 := blk_frozen HO.out.res 2
  have g3 := blk_frozen HO.out.res 3
  have g4 := blk_frozen HO.out.res 4
  have p0 := blk_cell HO.out.res 0
  have p1 := blk_cell HO.out.res 1
  have p2 := blk_cell HO.out.res 2
  have p3 := blk_cell HO.out.res 3
  have p4 := blk_cell HO.out.res 4
  simp only [zeroN] at p0 p1 p2 p3 p4
  go_wp2_with fail
  refine bodyPost_ret (v := .agg #[.int .i64 u.f0, .string u.f1, .string u.f2, .slice A3 0 c3, .slice A9 u.f4.length c9]) (by simp [results, Try.results24, go_sem, p0, p1, p2, p3, p4]) rfl ?_
  refine ⟨A9, c9, rfl, HU3.out, HO.out.cap, Kd.F_now (Kd.F_step HO.out.kids (fun k hk _ => sets5 wc (w.heap.size + 2) _ _ _ _ _ k hk.2.1)), ?_⟩
  exact Below.setCell (Below.setCell (Below.setCell (Below.setCell (Below.setCell HO.out.on (p := ⟨w.heap.size + 2, 0, none⟩) (Nat.le_add_right _ 2) _) (p := ⟨w.heap.size + 2, 1, none⟩) (Nat.le_add_right _ 2) _) (p := ⟨w.heap.size + 2, 2, none⟩) (Nat.le_add_right _ 2) _) (p := ⟨w.heap.size + 2, 3, none⟩) (Nat.le_add_right _ 2) _) (p := ⟨w.heap.size + 2, 4, none⟩) (Nat.le_add_right _ 2) _
end Go.Proofs.Ytmfjbljdbkmkgaa.Dom

/- FnCollapse's plain facts: what the collapsed tree is like; the reference's texts. -/
namespace Go.Proofs.Ytmfjbljdbkmkgaa.Dom
open Go.RowKit Go.Proofs.YtmfjbljdbkmkgaaW.PrintWords Go.Proofs.YtmfjbljdbkmkgaaW.PrintLast Go.Proofs.YtmfjbljdbkmkgaaW.PrintMore Go.Proofs.Ytmfjbljdbkmkgaa.PDom Go.Proofs.Ytmfjbljdbkmkgaa.Txt Go.Proofs.Ytmfjbljdbkmkgaa.Blank
set_option linter.unusedVariables false
set_option linter.unusedSimpArgs false

theorem naT_mk (k : Int) (n x : ByteArray) {ks : List T} (h : ∀ y ∈ ks, naT y = true) : naT ⟨k, n, x, [], ks⟩ = true := by
 rw [naT, Bool.and_eq_true]
 exact ⟨rfl, naTL_iff.2 h⟩
theorem cT_mk (k : Int) (n x : ByteArray) (as_ : List At) (ks : List T) : countT ⟨k, n, x, as_, ks⟩ = 1 + countTL ks := rfl
theorem cTL_one (y : T) : countTL [y] = countT y := by
 show countT y + 0 = countT y
 omega
theorem p1_na (S : Srt) (t : T) : naT t = true → ∀ b, (∀ y ∈ (p1 S b t).2, naT y = true) ∧ countTL (p1 S b t).2 ≤ countT t := by
 induction t using T_induct with
 | h t ih =>
  intro hna b
  obtain ⟨h3, h4⟩ := naT_open hna
  obtain ⟨k, n, x, as_, ks⟩ := t
  have h3' : as_ = [] := h3
  subst h3'
  have same : (∀ y ∈ ([⟨k, n, x, [], ks⟩] : List T), naT y = true) ∧ countTL ([⟨k, n, x, [], ks⟩] : List T) ≤ countT ⟨k, n, x, [], ks⟩ := ⟨fun y hy => by rw [List.mem_singleton.1 hy]; exact hna, by rw [cTL_one]; exact Nat.le_refl _⟩
  have hL : ∀ (l : List T), (∀ y ∈ l, y ∈ ks) → ∀ b, (∀ y ∈ (p1L S b l).2, naT y = true) ∧ countTL (p1L S b l).2 ≤ countTL l := by
   intro l
   induction l with
   | nil => intro _ b; exact ⟨fun y hy => (by cases hy), Nat.le_refl _⟩
   | cons y l ih2 =>
    intro hm b
    obtain ⟨a1, a2⟩ := ih y (hm y (by simp)) (h4 y (hm y (by simp))) b
    obtain ⟨b1, b2⟩ := ih2 (fun z hz => hm z (by simp [hz])) (p1 S b y).1
    rw [p1L]
    refine ⟨fun z hz => ?_, ?_⟩
    ·rcases List.mem_append.1 hz with hz | hz
     ·exact a1 z hz
     ·exact b1 z hz
    ·show countTL ((p1 S b y).2 ++ (p1L S (p1 S b y).1 l).2) ≤ countT y + countTL l
     rw [cTL_append]
     omega
  rw [p1]
  split
  ·show (∀ y ∈ (if (b.ct (bytesOf x)).isEmpty = true then [] else [⟨k, n, strOfNums (b.ct (bytesOf x)), [], ks⟩] : List T), naT y = true) ∧ countTL (if (b.ct (bytesOf x)).isEmpty = true then [] else [⟨k, n, strOfNums (b.ct (bytesOf x)), [], ks⟩] : List T) ≤ _
   split
   ·exact ⟨fun y hy => (by cases hy), Nat.zero_le _⟩
   ·exact ⟨fun y hy => by rw [List.mem_singleton.1 hy]; exact naT_mk _ _ _ h4, by rw [cTL_one]; exact Nat.le_refl _⟩
  ·split
   ·split
    ·exact same
    ·obtain ⟨a1, a2⟩ := hL ks (fun y hy => hy) (b.ent (S.kind n))
     exact ⟨fun y hy => by rw [List.mem_singleton.1 hy]; exact naT_mk _ _ _ a1, by rw [cTL_one, cT_mk, cT_mk]; omega⟩
   ·exact same
theorem p2_na (S : Srt) (t : T) : naT t = true → ∀ tr, (∀ y ∈ (p2 S tr t).2, naT y = true) ∧ countTL (p2 S tr t).2 ≤ countT t := by
 induction t using T_induct with
 | h t ih =>
  intro hna tr
  obtain ⟨h3, h4⟩ := naT_open hna
  obtain ⟨k, n, x, as_, ks⟩ := t
  have h3' : as_ = [] := h3
  subst h3'
  have same : (∀ y ∈ ([⟨k, n, x, [], ks⟩] : List T), naT y = true) ∧ countTL ([⟨k, n, x, [], ks⟩] : List T) ≤ countT ⟨k, n, x, [], ks⟩ := ⟨fun y hy => by rw [List.mem_singleton.1 hy]; exact hna, by rw [cTL_one]; exact Nat.le_refl _⟩
  have hL : ∀ (l : List T), (∀ y ∈ l, y ∈ ks) → ∀ tr, (∀ y ∈ (p2L S tr l).2, naT y = true) ∧ countTL (p2L S tr l).2 ≤ countTL l := by
   intro l
   induction l with
   | nil => intro _ b; exact ⟨fun y hy => (by cases hy), Nat.le_refl _⟩
   | cons y l ih2 =>
    intro hm tr
    obtain ⟨b1, b2⟩ := ih2 (fun z hz => hm z (by simp [hz])) tr
    obtain ⟨a1, a2⟩ := ih y (hm y (by simp)) (h4 y (hm y (by simp))) (p2L S tr l).1
    rw [p2L]
    refine ⟨fun z hz => ?_, ?_⟩
    ·rcases List.mem_append.1 hz with hz | hz
     ·exact a1 z hz
     ·exact b1 z hz
    ·show countTL ((p2 S (p2L S tr l).1 y).2 ++ (p2L S tr l).2) ≤ countT y + countTL l
     rw [cTL_append]
     omega
  rw [p2]
  split
  ·show (∀ y ∈ (if tr = 0 then [⟨k, n, x, [], ks⟩] else if tr = 2 ∧ trimB (bytesOf x) = [] then [] else [⟨k, n, strOfNums (trimB (bytesOf x)), [], ks⟩] : List T), naT y = true) ∧ countTL (if tr = 0 then [⟨k, n, x, [], ks⟩] else if tr = 2 ∧ trimB (bytesOf x) = [] then [] else [⟨k, n, strOfNums (trimB (bytesOf x)), [], ks⟩] : List T) ≤ _
   split
   ·exact same
   ·split
    ·exact ⟨fun y hy => (by cases hy), Nat.zero_le _⟩
    ·exact ⟨fun y hy => by rw [List.mem_singleton.1 hy]; exact naT_mk _ _ _ h4, by rw [cTL_one]; exact Nat.le_refl _⟩
  ·split
   ·split
    ·exact same
    ·obtain ⟨a1, a2⟩ := hL ks (fun y hy => hy) (aft (S.kind n) tr)
     exact ⟨fun y hy => by rw [List.mem_singleton.1 hy]; exact naT_mk _ _ _ a1, by rw [cTL_one, cT_mk, cT_mk]; omega⟩
   ·exact same
theorem p1L_na (S : Srt) (l : List T) : (∀ y ∈ l, naT y = true) → ∀ b, (∀ y ∈ (p1L S b l).2, naT y = true) ∧ countTL (p1L S b l).2 ≤ countTL l := by
 induction l with
 | nil => intro _ b; exact ⟨fun y hy => (by cases hy), Nat.le_refl _⟩
 | cons y l ih =>
  intro h b
  obtain ⟨a1, a2⟩ := p1_na S y (h y (by simp)) b
  obtain ⟨b1, b2⟩ := ih (fun z hz => h z (by simp [hz])) (p1 S b y).1
  rw [p1L]
  refine ⟨fun z hz => ?_, ?_⟩
  ·rcases List.mem_append.1 hz with hz | hz
   ·exact a1 z hz
   ·exact b1 z hz
  ·show countTL ((p1 S b y).2 ++ (p1L S (p1 S b y).1 l).2) ≤ countT y + countTL l
   rw [cTL_append]
   omega
theorem p2L_na (S : Srt) (l : List T) : (∀ y ∈ l, naT y = true) → ∀ tr, (∀ y ∈ (p2L S tr l).2, naT y = true) ∧ countTL (p2L S tr l).2 ≤ countTL l := by
 induction l with
 | nil => intro _ b; exact ⟨fun y hy => (by cases hy), Nat.le_refl _⟩
 | cons y l ih =>
  intro h tr
  obtain ⟨b1, b2⟩ := ih (fun z hz => h z (by simp [hz])) tr
  obtain ⟨a1, a2⟩ := p2_na S y (h y (by simp)) (p2L S tr l).1
  rw [p2L]
  refine ⟨fun z hz => ?_, ?_⟩
  ·rcases List.mem_append.1 hz with hz | hz
   ·exact a1 z hz
   ·exact b1 z hz
  ·show countTL ((p2 S (p2L S tr l).1 y).2 ++ (p2L S tr l).2) ≤ countT y + countTL l
   rw [cTL_append]
   omega
theorem col_na (S : Srt) (t : T) (h : naT t = true) : naT (colT S t) = true ∧ countT (colT S t) ≤ countT t := by
 obtain ⟨h3, h4⟩ := naT_open h
 obtain ⟨k, n, x, as_, ks⟩ := t
 have h3' : as_ = [] := h3
 subst h3'
 rw [colT]
 split
 ·exact ⟨h, Nat.le_refl _⟩
 ·obtain ⟨a1, a2⟩ := p1L_na S ks h4 ⟨none, false⟩
  obtain ⟨b1, b2⟩ := p2L_na S _ a1 2
  exact ⟨naT_mk _ _ _ b1, by rw [cT_mk, cT_mk]; omega⟩
/-! ### Without empty texts -/
theorem full_fit (t : T) : okT t = true → Fit (fullT t) := by
 induction t using T_induct with
 | h t ih =>
  intro h
  obtain ⟨h1, h2, h3, h4⟩ := okT_open h
  obtain ⟨k, n, x, as_, ks⟩ := t
  rw [fullT]
  refine Fit.mk _ h2 (Nat.le_trans (fullTL_len ks) h3) ?_
  show ∀ y ∈ fullTL ks, Fit y
  have : ∀ l : List T, (∀ y ∈ l, y ∈ ks) → ∀ y ∈ fullTL l, Fit y := by
   intro l
   induction l with
   | nil => intro _ y hy; cases hy
   | cons z l ih2 =>
    intro hm y hy
    rw [fullTL] at hy
    split at hy
    ·exact ih2 (fun w hw => hm w (by simp [hw])) y hy
    ·rcases List.mem_cons.1 hy with hy | hy
     ·rw [hy]
      exact ih z (hm z (by simp)) (h4 z (hm z (by simp)))
     ·exact ih2 (fun w hw => hm w (by simp [hw])) y hy
  exact this ks (fun y hy => hy)
/-! ### The reference's steps and texts -/
def InS (m n : Nat) (x : Stp) : Prop := (x.f0 = 0 → (m : Int) ≤ x.f1 ∧ x.f1.toNat < m + n) ∧ (x.f0 = 0 ∨ x.f0 = 1 ∨ x.f0 = 2 ∨ x.f0 = 3)
theorem InS.wide {m n m' n' : Nat} {x : Stp} (h : InS m n x) (h1 : m' ≤ m) (h2 : m + n ≤ m' + n') : InS m' n' x :=
 ⟨fun e => by have := h.1 e; omega, h.2⟩
theorem kindS_in (S : Srt) (nm : ByteArray) (m n : Nat) : InS m n ⟨(kindS S nm : Int), 0⟩ := by
 unfold kindS
 split
 ·exact ⟨fun e => absurd (show ((1 : Nat) : Int) = 0 from e) (by decide), .inr (.inl rfl)⟩
 ·split
  ·exact ⟨fun e => absurd (show ((2 : Nat) : Int) = 0 from e) (by decide), .inr (.inr (.inl rfl))⟩
  ·exact ⟨fun e => absurd (show ((3 : Nat) : Int) = 0 from e) (by decide), .inr (.inr (.inr rfl))⟩
theorem stp_in (S : Srt) (t : T) : ∀ m, ∀ x ∈ stp S m t, InS m (txs S t).length x := by
 induction t using T_induct with
 | h t ih =>
  intro m x hx
  obtain ⟨k, n, xt, as_, ks⟩ := t
  have hL : ∀ (l : List T), (∀ y ∈ l, y ∈ ks) → ∀ m, ∀ x ∈ stpL S m l, InS m (txsL S l).length x := by
   intro l
   induction l with
   | nil => intro _ m x hx; cases hx
   | cons y l ih2 =>
    intro hm m x hx
    rw [stpL] at hx
    rw [txsL, List.length_append]
    rcases List.mem_append.1 hx with hx | hx
    ·exact (ih y (hm y (by simp)) m x hx).wide (Nat.le_refl _) (by omega)
    ·exact (ih2 (fun z hz => hm z (by simp [hz])) _ x hx).wide (by omega) (by omega)
  rw [stp] at hx
  rw [txs]
  split at hx
  ·rename_i e
   rw [if_pos e]
   rw [List.mem_singleton.1 hx]
   exact ⟨fun _ => ⟨Int.le_refl _, by show ((m : Int)).toNat < m + 1; omega⟩, .inl rfl⟩
  ·rename_i e
   rw [if_neg e]
   split at hx
   ·rename_i e0
    rw [if_pos e0]
    split at hx
    ·rename_i ep
     rw [List.mem_singleton.1 hx]
     exact kindS_in S n _ _
    ·rename_i ep
     rw [if_neg ep]
     rcases List.mem_cons.1 hx with hx | hx
     ·rw [hx]; exact kindS_in S n _ _
     ·rcases List.mem_append.1 hx with hx | hx
      ·exact hL ks (fun y hy => hy) m x hx
      ·split at hx
       ·cases hx
       ·rw [List.mem_singleton.1 hx]; exact kindS_in S n _ _
   ·cases hx
theorem stpL_in (S : Srt) (l : List T) : ∀ m, ∀ x ∈ stpL S m l, InS m (txsL S l).length x := by
 induction l with
 | nil => intro m x hx; cases hx
 | cons y l ih2 =>
  intro m x hx
  rw [stpL] at hx
  rw [txsL, List.length_append]
  rcases List.mem_append.1 hx with hx | hx
  ·exact (stp_in S y m x hx).wide (Nat.le_refl _) (by omega)
  ·exact (ih2 _ x hx).wide (by omega) (by omega)
theorem mem_txsL {S : Srt} {y : ByteArray} : ∀ {l : List T}, y ∈ txsL S l → ∃ k ∈ l, y ∈ txs S k
 | [], h => by cases h
 | k :: l, h => by
  rw [txsL] at h
  rcases List.mem_append.1 h with h | h
  ·exact ⟨k, by simp, h⟩
  ·obtain ⟨q, h1, h2⟩ := mem_txsL h
   exact ⟨q, by simp [h1], h2⟩
theorem txs_size (S : Srt) {t : T} (h : CutOk t) : ∀ y ∈ txs S t, y.size ≤ 300 := by
 induction h with
 | text k r hk hr hl =>
  intro y hy
  rw [txs] at hy
  split at hy
  ·rw [List.mem_singleton.1 hy, str_size]; exact hl
  ·split at hy
   ·split at hy
    ·cases hy
    ·cases hy
   ·cases hy
 | elem n ks hn hv hk ih =>
  intro y hy
  rw [txs, if_neg (by decide), if_pos rfl] at hy
  split at hy
  ·cases hy
  ·obtain ⟨q, h1, h2⟩ := mem_txsL hy
   exact ih q h1 y h2
/-- The law's plain part. -/
theorem col_law (S : Srt) (hk : ∀ n, kindS S n = S.kind n) (t : T) (hck : CutOk t) (hok : okT t = true) (hcc : countT t ≤ 60) (h0 : t.f0 = 0) (hp : inL S.pr t.f1 = false) :
  ∃ (k : Nat) (r : List ByteArray), spec_collapsed.f k (stpL S 0 t.f4) (txsL S t.f4) = some r ∧ r.length = (txsL S t.f4).length ∧ fullT (rfT S r t).1 = fullT (colT S t) := by
 have hcl := countT_eq t
 obtain ⟨l1, l2⟩ := stpL_len S t.f4 0
 have htx : ∀ y ∈ txsL S t.f4, y.size ≤ 300 := fun y hy => by
  obtain ⟨q, h1, h2⟩ := mem_txsL hy
  cases hck with
  | text k r hk hr hl => cases h1
  | elem n ks hn hv hkk => exact txs_size S (hkk q h1) y h2
 obtain ⟨k, r, e, h1, _, h3⟩ := collapsed_f (stpL S 0 t.f4) (txsL S t.f4) 300 htx (by decide) (by omega) (by omega)
  (fun x hx e => by have := (stpL_in S t.f4 0 x hx).1 e; omega) (fun x hx => (stpL_in S t.f4 0 x hx).2)
 exact ⟨k, r, e, h1, col_refill S hk t hok (cut_na hck) h0 hp r h1 h3⟩
end Go.Proofs.Ytmfjbljdbkmkgaa.Dom

/- FnCollapse: the law's walk. -/
namespace Go.Proofs.Ytmfjbljdbkmkgaa.PDom
open Go.RowKit Go.Proofs.YtmfjbljdbkmkgaaW.PrintWords Go.Proofs.YtmfjbljdbkmkgaaW.PrintLast Go.Proofs.YtmfjbljdbkmkgaaW.PrintMore Go.Proofs.Ytmfjbljdbkmkgaa.Dom Go.Proofs.Ytmfjbljdbkmkgaa.Txt
set_option linter.unusedVariables false
set_option linter.unusedSimpArgs false

def bkL : List ByteArray := [(⟨#[100, 105, 118]⟩ : ByteArray), (⟨#[112]⟩ : ByteArray), (⟨#[117, 108]⟩ : ByteArray), (⟨#[108, 105]⟩ : ByteArray), (⟨#[112, 114, 101]⟩ : ByteArray)]
def vdL : List ByteArray := [(⟨#[105, 109, 103]⟩ : ByteArray), (⟨#[98, 114]⟩ : ByteArray)]
def prL : List ByteArray := [(⟨#[112, 114, 101]⟩ : ByteArray), (⟨#[99, 111, 100, 101]⟩ : ByteArray)]
theorem sort_f : laws_inlineSort.f = some (bkL, vdL, prL) := rfl
/-- The sort's rows, readable. -/
theorem sort_calls (w : World) : Calls Try.prog 21 #[] w fun e w' => ∃ B1 B2 B3 d1 d2 d3, e = .returned (.agg #[.slice B1 bkL.length d1, .slice B2 vdL.length d2, .slice B3 prL.length d3]) ∧
  Kd.F Kd.string w' (fun k => w.heap.size ≤ k) B1 bkL.length bkL ∧ Kd.F Kd.string w' (fun k => w.heap.size ≤ k) B2 vdL.length vdL ∧ Kd.F Kd.string w' (fun k => w.heap.size ≤ k) B3 prL.length prL ∧ bkL.length ≤ d1 ∧ vdL.length ≤ d2 ∧ prL.length ≤ d3 ∧ Below w.heap.size w w' := by
 refine (laws_inlineSort.calls bkL vdL prL w sort_f).mono ?_
 rintro e w' ⟨v0, v1, v2, rfl, h0, h1, h2, hb⟩
 obtain ⟨B1, d1, rfl⟩ := Kd.R_slice h0
 obtain ⟨B2, d2, rfl⟩ := Kd.R_slice h1
 obtain ⟨B3, d3, rfl⟩ := Kd.R_slice h2
 exact ⟨B1, B2, B3, d1, d2, d3, rfl, Kd.R_F (Kd.R_mono (Kd.R_bound h0) (fun k hk => hk.2.1)), Kd.R_F (Kd.R_mono (Kd.R_bound h1) (fun k hk => hk.2.1)), Kd.R_F (Kd.R_mono (Kd.R_bound h2) (fun k hk => hk.2.1)), (Kd.R_reads' h0).2.1, (Kd.R_reads' h1).2.1, (Kd.R_reads' h2).2.1, hb⟩
/-- What stands ahead of the comparison. -/
structure AB (w wr : World) (bs : Nat) (c : T) (A5 : Option Addr) (c5 : Nat) (cs : Array Value) : Prop where
 kn : wr.heap[w.heap.size]? = some (.cells #[.int .i64 0, .string divN, .string ⟨#[]⟩, .slice none 0 0, .slice A5 c.f4.length c5] 25 (0, 0))
 ks : wr.heap[bs]? = some (.cells cs 37 (0, 0))
 f4 : Kd.C k25 wr A5 c.f4.length c.f4
 l4 : c.f4.length ≤ c5
 on : Below w.heap.size w wr
theorem AB.moved {w wr w1 : World} {bs : Nat} {c : T} {A5 : Option Addr} {c5 : Nat} {cs : Array Value} (h : AB w wr bs c A5 c5 cs) (hb : Below wr.heap.size wr w1) : AB w w1 bs c A5 c5 cs :=
 ⟨(hb.block _ (blk_lt h.kn)).trans h.kn, (hb.block _ (blk_lt h.ks)).trans h.ks, Kd.C_below h.f4 hb, h.l4, h.on.trans (hb.mono h.on.size)⟩
theorem told_C {w w' : World} {u : T} {e : Ending} (h : Dom.Told w w' u e) : ∃ A3 c3 A4 c4, e = .returned (.agg #[.int .i64 u.f0, .string u.f1, .string u.f2, .slice A3 u.f3.length c3, .slice A4 u.f4.length c4]) ∧ Kd.C k53 w' A3 u.f3.length u.f3 ∧ u.f3.length ≤ c3 ∧ Kd.C k25 w' A4 u.f4.length u.f4 ∧ u.f4.length ≤ c4 ∧ Below w.heap.size w w' := by
 obtain ⟨A5, c5, A6, c6, rfl, m5, F5, m6, F6, hB, R5, N6⟩ := h
 exact ⟨A5, c5, A6, c6, rfl, Kd.F_now F5, m5, Kd.F_now F6, m6, hB⟩
theorem toldK_C {w w' : World} {u : T} {e : Ending} (h : Dom.ToldK w w' u e) : ∃ A3 c3 A4 c4, e = .returned (.agg #[.int .i64 u.f0, .string u.f1, .string u.f2, .slice A3 u.f3.length c3, .slice A4 u.f4.length c4]) ∧ Kd.C k53 w' A3 u.f3.length u.f3 ∧ u.f3.length ≤ c3 ∧ Kd.C k25 w' A4 u.f4.length u.f4 ∧ u.f4.length ≤ c4 ∧ Below w.heap.size w w' := by
 obtain ⟨A3, c3, A4, c4, rfl, h3, m4, N4, hB⟩ := h
 exact ⟨A3, c3, A4, c4, by rw [h3]; rfl, by rw [h3]; exact ⟨rfl, by simp, fun h => absurd h (Nat.lt_irrefl 0)⟩, by rw [h3]; exact Nat.zero_le _, Kd.F_now (Kd.N_F N4), m4, hB⟩
def SC : Srt := ⟨bkL, vdL, prL⟩
theorem rf_na (S : Srt) (t : T) : naT t = true → ∀ tx, naT (rfT S tx t).1 = true ∧ countT (rfT S tx t).1 ≤ countT t := by
 induction t using T_induct with
 | h t ih =>
  intro hna tx
  obtain ⟨h3, h4⟩ := naT_open hna
  obtain ⟨k, n, x, as_, ks⟩ := t
  have h3' : as_ = [] := h3
  subst h3'
  have hL : ∀ (l : List T), (∀ y ∈ l, y ∈ ks) → ∀ tx, (∀ y ∈ (rfTL S tx l).1, naT y = true) ∧ countTL (rfTL S tx l).1 ≤ countTL l := by
   intro l
   induction l with
   | nil => intro _ tx; exact ⟨fun y hy => (by cases hy), Nat.le_refl _⟩
   | cons y l ih2 =>
    intro hm tx
    rw [rfTL_cons]
    obtain ⟨b1, b2⟩ := ih2 (fun z hz => hm z (by simp [hz])) (rf1 S tx y).2
    have h1 : (∀ z ∈ (rf1 S tx y).1, naT z = true) ∧ countTL (rf1 S tx y).1 ≤ countT y := by
     unfold rf1
     split
     ·show (∀ z ∈ (if (tx.getD 0 ⟨#[]⟩).toList = [] then [] else [⟨1, ⟨#[]⟩, tx.getD 0 ⟨#[]⟩, [], []⟩] : List T), naT z = true) ∧ countTL (if (tx.getD 0 ⟨#[]⟩).toList = [] then [] else [⟨1, ⟨#[]⟩, tx.getD 0 ⟨#[]⟩, [], []⟩] : List T) ≤ countT y
      split
      ·exact ⟨fun z hz => (by cases hz), Nat.zero_le _⟩
      ·refine ⟨fun z hz => by rw [List.mem_singleton.1 hz]; exact naT_mk _ _ _ (fun q hq => (by cases hq)), ?_⟩
       rw [cTL_one]
       have := countT_eq y
       show 1 + 0 ≤ countT y
       omega
     ·split
      ·exact ⟨fun z hz => by rw [List.mem_singleton.1 hz]; exact h4 y (hm y (by simp)), by rw [cTL_one]; exact Nat.le_refl _⟩
      ·split
       ·obtain ⟨a1, a2⟩ := ih y (hm y (by simp)) (h4 y (hm y (by simp))) tx
        exact ⟨fun z hz => by rw [List.mem_singleton.1 hz]; exact a1, by rw [cTL_one]; exact a2⟩
       ·exact ⟨fun z hz => (by cases hz), Nat.zero_le _⟩
    refine ⟨fun z hz => ?_, ?_⟩
    ·rcases List.mem_append.1 hz with hz | hz
     ·exact h1.1 z hz
     ·exact b1 z hz
    ·show countTL ((rf1 S tx y).1 ++ (rfTL S (rf1 S tx y).2 l).1) ≤ countT y + countTL l
     rw [cTL_append]
     omega
  obtain ⟨a1, a2⟩ := hL ks (fun y hy => hy) tx
  rw [rfT]
  exact ⟨naT_mk _ _ _ a1, by rw [cT_mk, cT_mk]; omega⟩
theorem kind_SC (n : ByteArray) : kindS SC n = SC.kind n := by
 have h : (inL prL n || n.toList == codeB.toList) = inL prL n := by
  cases e : n.toList == codeB.toList with
  | false => rw [Bool.or_false]
  | true =>
   rw [Bool.or_true]
   have : inL prL n = true := by
    unfold inL prL
    rw [List.any_cons, List.any_cons]
    rw [show (n.toList == (⟨#[99, 111, 100, 101]⟩ : ByteArray).toList) = true from e]
    simp
   exact this.symm
 unfold kindS Srt.kind
 show (if (inL bkL n || n.toList == brB.toList) = true then 1 else if (inL vdL n || inL prL n) = true then 2 else 3) = (if (inL bkL n || n.toList == brB.toList) = true then 1 else if (inL vdL n || (inL prL n || n.toList == codeB.toList)) = true then 2 else 3)
 rw [h]
theorem div_SC : inL prL divN = false := by
 have h1 : divN.toList = [100, 105, 118] := (ByteArray.toList_eq _).trans rfl
 have h2 : (⟨#[112, 114, 101]⟩ : ByteArray).toList = [112, 114, 101] := (ByteArray.toList_eq _).trans rfl
 have h3 : (⟨#[99, 111, 100, 101]⟩ : ByteArray).toList = [99, 111, 100, 101] := (ByteArray.toList_eq _).trans rfl
 unfold inL prL
 rw [List.any_cons, List.any_cons, h1, h2, h3]
 rfl
set_option maxHeartbeats 8000000 in
set_option maxRecDepth 100000 in
theorem law_col (t : T) (ht : FitX t) (w : World) (A3 : Option Addr) (c3 : Nat) (A4 : Option Addr) (c4 : Nat) (h3 : Kd.C k53 w A3 t.f3.length t.f3) (l3 : t.f3.length ≤ c3) (h4 : Kd.C k25 w A4 t.f4.length t.f4) (l4 : t.f4.length ≤ c4) :
  Calls Try.prog 6 #[.agg #[.int .i64 t.f0, .string t.f1, .string t.f2, .slice A3 t.f3.length c3, .slice A4 t.f4.length c4]] w fun e w' => e = .returned (.bool true) ∧ Below w.heap.size w w' := by
 obtain ⟨b1, e1⟩ := fits2_ev t ht.fit
 obtain ⟨kf, e1⟩ := Ev.rounds e1
 obtain ⟨hck, hcc, hcok, _, _⟩ := cutR_facts t ht
 have hna := cut_na hck
 have htx := cut_tx hck
 obtain ⟨W1, hW1⟩ : ∃ W1, W1 = w.alloc (.cells #[.int .i64 t.f0, .string t.f1, .string t.f2, .slice A3 t.f3.length c3, .slice A4 t.f4.length c4] 25) := ⟨_, rfl⟩
 have hb1 : Below w.heap.size w W1 := by rw [hW1]; exact below_alloc (Below.refl _ _) _
 have k1 : W1.heap[w.heap.size]? = some (.cells #[.int .i64 t.f0, .string t.f1, .string t.f2, .slice A3 t.f3.length c3, .slice A4 t.f4.length c4] 25 (0, 0)) := by rw [hW1]; exact heap_alloc_new _ _
 have HF := Aside0.mk (laws_zzFits2.calls kf t.f0 t.f1 t.f2 A3 c3 t.f3 A4 c4 t.f4 b1 W1 (Kd.C_below h3 hb1) l3 (Kd.C_below h4 hb1) l4 e1)
 have HCUT := Aside0.mk (fun (wx : World) (hb : Below W1.heap.size W1 wx) => cutR_calls t ht wx A3 c3 A4 c4 (Kd.C_below (Kd.C_below h3 hb1) hb) l3 (Kd.C_below (Kd.C_below h4 hb1) hb) l4)
 have K1 := Aside0.mk k1
 have HB1 := Aside0.mk hb1
 have HS := Aside0.mk sort_calls
 have c0 := blk_cell k1 0
 have c1 := blk_cell k1 1
 have c2 := blk_cell k1 2
 have c3' := blk_cell k1 3
 have c4' := blk_cell k1 4
 clear h3 h4 l3 l4 e1 k1 hb1 ht
 go_enter Try.func6, Try.ntmps6
 go_upto_region 1 with fail
 rw [← hW1]
 clear hW1
 cases b1 with
 | false =>
  go_wp2_with (go_at_call 9; go_must (refine HF.out.mono ?_; rintro e w2 ⟨rfl, hb2⟩; have HB2 := Aside0.mk hb2; clear hb2))
  go_ret
  exact ⟨rfl, below_step HB1.out HB2.out⟩
 | true =>
  go_upto_region 3 with (go_at_call 9; go_must (refine HF.out.mono ?_; rintro e w2 ⟨rfl, hb2⟩; have HB2 := Aside0.mk hb2; have k2 := (hb2.block _ (blk_lt K1.out)).trans K1.out; have K2 := Aside0.mk k2; have c0 := blk_cell k2 0; have c1 := blk_cell k2 1; have c2 := blk_cell k2 2; have c3' := blk_cell k2 3; have c4' := blk_cell k2 4; have HC2 := Aside0.mk (HCUT.out w2 hb2); clear hb2 k2))
  go_upto_region 4 with (go_at_call 10; go_must (refine HC2.out.mono ?_; rintro e w3 ⟨A5, c5, rfl, N5, hb3⟩; have k3 := (hb3.block _ (blk_lt K2.out)).trans K2.out; have K3 := Aside0.mk k3; have g0 := blk_frozen k3 0; have g1 := blk_frozen k3 1; have g2 := blk_frozen k3 2; have g3 := blk_frozen k3 3; have g4 := blk_frozen k3 4; have c0 := blk_cell k3 0; have c1 := blk_cell k3 1; have c2 := blk_cell k3 2; have c3' := blk_cell k3 3; have c4' := blk_cell k3 4; have HN5 := Aside0.mk N5; have HB3 := Aside0.mk hb3; clear N5 hb3 k3))
  have hlc : (cutR t).f4.length ≤ c5 := (Kd.N_reads' HN5.out).2.1
  have hlt2 := blk_lt K2.out
  have k4 := sets5_box K3.out (.int .i64 0) (.string divN) (.string ⟨#[]⟩) (.slice none 0 0) (.slice A5 (cutR t).f4.length c5)
  have hs4 := fun k (hk : k ≠ w.heap.size) => sets5 w3 w.heap.size (.int .i64 0) (.string divN) (.string ⟨#[]⟩) (.slice none 0 0) (.slice A5 (cutR t).f4.length c5) k hk
  have F4 := Kd.F_step (Kd.N_F HN5.out) (fun k hk _ => hs4 k (by omega))
  have hb4 : Below w.heap.size w (((((w3.setCell ⟨w.heap.size, 0, none⟩ (.int .i64 0)).setCell ⟨w.heap.size, 1, none⟩ (.string divN)).setCell ⟨w.heap.size, 2, none⟩ (.string ⟨#[]⟩)).setCell ⟨w.heap.size, 3, none⟩ (.slice none 0 0)).setCell ⟨w.heap.size, 4, none⟩ (.slice A5 (cutR t).f4.length c5)) :=
   Below.setCell (Below.setCell (Below.setCell (Below.setCell (Below.setCell (below_step (below_step HB1.out HB2.out) HB3.out) (p := ⟨w.heap.size, 0, none⟩) (Nat.le_refl _) _) (p := ⟨w.heap.size, 1, none⟩) (Nat.le_refl _) _) (p := ⟨w.heap.size, 2, none⟩) (Nat.le_refl _) _) (p := ⟨w.heap.size, 3, none⟩) (Nat.le_refl _) _) (p := ⟨w.heap.size, 4, none⟩) (Nat.le_refl _) _
  clear g0 g1 g2 g3 g4 c0 c1 c2 c3' c4' hs4 HN5 K3 HB3 HC2 HCUT HF
  generalize (((((w3.setCell ⟨w.heap.size, 0, none⟩ (.int .i64 0)).setCell ⟨w.heap.size, 1, none⟩ (.string divN)).setCell ⟨w.heap.size, 2, none⟩ (.string ⟨#[]⟩)).setCell ⟨w.heap.size, 3, none⟩ (.slice none 0 0)).setCell ⟨w.heap.size, 4, none⟩ (.slice A5 (cutR t).f4.length c5)) = w4 at k4 F4 hb4 ⊢
  have K4 := Aside0.mk k4
  have HF4 := Aside0.mk F4
  have HB4 := Aside0.mk hb4
  clear k4 F4 hb4
  go_upto_region 5 with (go_at_call 21; go_must (refine (HS.out _).mono ?_; rintro e w5 ⟨B1, B2, B3, d1, d2, d3, rfl, r1, r2, r3, e1_, e2_, e3_, hb5⟩; have R1 := Aside0.mk r1; have R2 := Aside0.mk r2; have R3 := Aside0.mk r3; have RD1 := Aside0.mk e1_; have RD2 := Aside0.mk e2_; have RD3 := Aside0.mk e3_; have HB5 := Aside0.mk hb5; clear r1 r2 r3 e1_ e2_ e3_ hb5))
  have hk6 := heap_alloc_new w5 (.cells #[.slice B1 bkL.length d1, .slice B2 vdL.length d2, .slice B3 prL.length d3] 37)
  have hb6 := below_alloc (Below.refl w5.heap.size w5) (.cells #[.slice B1 bkL.length d1, .slice B2 vdL.length d2, .slice B3 prL.length d3] 37)
  generalize w5.alloc (.cells #[.slice B1 bkL.length d1, .slice B2 vdL.length d2, .slice B3 prL.length d3] 37) = w6 at hk6 hb6 ⊢
  have K6 := Aside0.mk hk6
  have HB6 := Aside0.mk hb6
  clear hk6 hb6
  have h45 := HB5.out.size
  have h44 := HB4.out.size
  have h4lt := blk_lt K4.out
  have hb456 := below_step HB5.out HB6.out
  have HAB := Aside0.mk (show AB w w6 w5.heap.size (cutR t) A5 c5 #[.slice B1 bkL.length d1, .slice B2 vdL.length d2, .slice B3 prL.length d3] from
   ⟨(hb456.block _ h4lt).trans K4.out, K6.out, Kd.F_now (Kd.F_below HF4.out hb456), hlc, HB4.out.trans (hb456.mono (by omega))⟩)
  have HR1 := Aside0.mk (Kd.C_below (Kd.F_now R1.out) HB6.out)
  have HR2 := Aside0.mk (Kd.C_below (Kd.F_now R2.out) HB6.out)
  have HR3 := Aside0.mk (Kd.C_below (Kd.F_now R3.out) HB6.out)
  clear h45 h44 h4lt hb456 hlc hlt2 K6 HB6 R1 R2 R3 K4 HF4 HB4 HB5 HS K2 HB2 K1 HB1 e1
  generalize w5.heap.size = bs at *
  obtain ⟨c, hc⟩ : ∃ c, c = cutR t := ⟨_, rfl⟩
  rw [← hc] at HAB hck hcc hcok hna htx ⊢
  have hc0 : c.f0 = 0 := by rw [hc]; rfl
  have hc1 : c.f1 = divN := by rw [hc]; rfl
  have hc2 : c.f2 = ⟨#[]⟩ := by rw [hc]; rfl
  have hc3 : c.f3 = [] := by rw [hc]; rfl
  have hp : inL SC.pr c.f1 = false := by rw [hc1]; exact div_SC
  obtain ⟨kc, r, hrf, hrl, hlaw⟩ := col_law SC kind_SC c hck hcok hcc hc0 hp
  have HC1 := Aside0.mk (fun (wx : World) (hb : Below w6.heap.size w6 wx) => col_calls c hcok htx hc0 (by omega) SC (by decide) (by decide) (by decide) wx none 0 A5 c5 B1 B2 B3 d1 d2 d3 (by rw [hc3]; exact Kd.C_nil _ _) (by rw [hc3]; exact Nat.le_refl _) (Kd.C_below HAB.out.f4 hb) HAB.out.l4 (Kd.C_below HR1.out hb) (Kd.C_below HR2.out hb) (Kd.C_below HR3.out hb))
  have HC2 := Aside0.mk (fun (wx : World) (hb : Below w6.heap.size w6 wx) => cld_calls SC c hna (by omega) hp kc r hrf hrl wx none 0 A5 c5 B1 B2 B3 d1 d2 d3 (Kd.C_below HAB.out.f4 hb) HAB.out.l4 (Kd.C_below HR1.out hb) (Kd.C_below HR2.out hb) (Kd.C_below HR3.out hb) ⟨RD1.out, by decide⟩ ⟨RD2.out, by decide⟩ ⟨RD3.out, by decide⟩)
  obtain ⟨una, ucnt⟩ := col_na SC c hna
  obtain ⟨vna, vcnt⟩ := rf_na SC c hna r
  have uok := col_ok SC c hcok
  rw [hc0, hc1, hc2, hc3] at HC1 HC2
  have HF1 := Aside0.mk (fun (wx : World) (X3 : Option Addr) (x3 : Nat) (X4 : Option Addr) (x4 : Nat) (g4 : Kd.C k25 wx X4 (colT SC c).f4.length (colT SC c).f4) (m4 : (colT SC c).f4.length ≤ x4) => full_calls _ (colT SC c) (Nat.le_refl _) una (by omega) wx (fun k => k < wx.heap.size) X3 x3 X4 x4 (fun k hk => hk) (Kd.C_F k25_heap g4) m4)
  have HF2 := Aside0.mk (fun (wx : World) (X3 : Option Addr) (x3 : Nat) (X4 : Option Addr) (x4 : Nat) (g4 : Kd.C k25 wx X4 (rfT SC r c).1.f4.length (rfT SC r c).1.f4) (m4 : (rfT SC r c).1.f4.length ≤ x4) => full_calls _ (rfT SC r c).1 (Nat.le_refl _) vna (by omega) wx (fun k => k < wx.heap.size) X3 x3 X4 x4 (fun k hk => hk) (Kd.C_F k25_heap g4) m4)
  rw [hlaw] at HF2
  have hu3 := (naT_open una).1
  have hv3 := (naT_open vna).1
  rw [hv3] at HF2
  have hfit := full_fit (colT SC c) uok
  generalize fullT (colT SC c) = g at *
  generalize colT SC c = u at *
  generalize (rfT SC r c).1 = v at *
  obtain ⟨ks, hks⟩ := Ev.rounds (same_ev g hfit)
  have HSAME := Aside0.mk (fun (X3 : Option Addr) (x3 : Nat) (X4 : Option Addr) (x4 : Nat) (Y3 : Option Addr) (y3 : Nat) (Y4 : Option Addr) (y4 : Nat) (wx : World) (g3 : Kd.C k53 wx X3 g.f3.length g.f3) (m3 : g.f3.length ≤ x3) (g4 : Kd.C k25 wx X4 g.f4.length g.f4) (m4 : g.f4.length ≤ x4) (i3 : Kd.C k53 wx Y3 g.f3.length g.f3) (n3 : g.f3.length ≤ y3) (i4 : Kd.C k25 wx Y4 g.f4.length g.f4) (n4 : g.f4.length ≤ y4) =>
   spec_SameTree.calls ks g.f0 g.f1 g.f2 X3 x3 g.f3 X4 x4 g.f4 g.f0 g.f1 g.f2 Y3 y3 g.f3 Y4 y4 g.f4 true wx g3 m3 g4 m4 i3 n3 i4 n4 hks)
  clear hck hcc hcok hna htx hc hc0 hc1 hc2 hc3 hp hrf hrl hlaw una ucnt vna vcnt uok hfit hks hu3 hv3 HR1 HR2 HR3
  have n0 := blk_cell HAB.out.kn 0
  have n1 := blk_cell HAB.out.kn 1
  have n2 := blk_cell HAB.out.kn 2
  have n3 := blk_cell HAB.out.kn 3
  have n4 := blk_cell HAB.out.kn 4
  have s0 := blk_cell HAB.out.ks 0
  have s1 := blk_cell HAB.out.ks 1
  have s2 := blk_cell HAB.out.ks 2
  have hd_ := HAB.out.moved (below_drew (Below.refl _ _))
  have nd0 := blk_cell hd_.kn 0
  have nd1 := blk_cell hd_.kn 1
  have nd2 := blk_cell hd_.kn 2
  have nd3 := blk_cell hd_.kn 3
  have nd4 := blk_cell hd_.kn 4
  have sd0 := blk_cell hd_.ks 0
  have sd1 := blk_cell hd_.ks 1
  have sd2 := blk_cell hd_.ks 2
  clear hd_
  go_region_law (first
   | (go_simp; go_at_call 23; refine (HC1.out _ (by first | exact (Below.refl _ _) | exact below_drew (Below.refl _ _) | exact below_drew (below_drew (Below.refl _ _)))).mono ?_; rintro e w8 h8; obtain ⟨X3, x3, X4, x4, rfl, g3, m3, g4, m4, hb8⟩ := told_C h8; have H68 := Aside0.mk (below_step (show Below w6.heap.size w6 _ from (by first | exact (Below.refl _ _) | exact below_drew (Below.refl _ _) | exact below_drew (below_drew (Below.refl _ _)))) hb8); have hab8 := HAB.out.moved H68.out; have n0 := blk_cell hab8.kn 0; have n1 := blk_cell hab8.kn 1; have n2 := blk_cell hab8.kn 2; have n3 := blk_cell hab8.kn 3; have n4 := blk_cell hab8.kn 4; have s0 := blk_cell hab8.ks 0; have s1 := blk_cell hab8.ks 1; have s2 := blk_cell hab8.ks 2; have hd_ := hab8.moved (below_drew (Below.refl _ _)); have nd0 := blk_cell hd_.kn 0; have nd1 := blk_cell hd_.kn 1; have nd2 := blk_cell hd_.kn 2; have nd3 := blk_cell hd_.kn 3; have nd4 := blk_cell hd_.kn 4; have sd0 := blk_cell hd_.ks 0; have sd1 := blk_cell hd_.ks 1; have sd2 := blk_cell hd_.ks 2; clear hd_; have HAB8 := Aside0.mk hab8; have G4 := Aside0.mk g4; have M4 := Aside0.mk m4; clear h8 g3 m3 g4 m4 hb8 hab8)
   | (go_simp; go_at_call_has 22 X4; refine (HF1.out _ X3 x3 X4 x4 (Kd.C_below G4.out (by first | exact (Below.refl _ _) | exact below_drew (Below.refl _ _) | exact below_drew (below_drew (Below.refl _ _)))) M4.out).mono ?_; rintro e w9 h9; obtain ⟨Y3, y3, Y4, y4, rfl, i3, o3, i4, o4, hb9⟩ := toldK_C h9; have H89 := Aside0.mk (below_step (show Below w8.heap.size w8 _ from (by first | exact (Below.refl _ _) | exact below_drew (Below.refl _ _) | exact below_drew (below_drew (Below.refl _ _)))) hb9); have H69 := Aside0.mk (below_step H68.out H89.out); have hab9 := HAB8.out.moved H89.out; have n0 := blk_cell hab9.kn 0; have n1 := blk_cell hab9.kn 1; have n2 := blk_cell hab9.kn 2; have n3 := blk_cell hab9.kn 3; have n4 := blk_cell hab9.kn 4; have s0 := blk_cell hab9.ks 0; have s1 := blk_cell hab9.ks 1; have s2 := blk_cell hab9.ks 2; have hd_ := hab9.moved (below_drew (Below.refl _ _)); have nd0 := blk_cell hd_.kn 0; have nd1 := blk_cell hd_.kn 1; have nd2 := blk_cell hd_.kn 2; have nd3 := blk_cell hd_.kn 3; have nd4 := blk_cell hd_.kn 4; have sd0 := blk_cell hd_.ks 0; have sd1 := blk_cell hd_.ks 1; have sd2 := blk_cell hd_.ks 2; clear hd_; have I3 := Aside0.mk i3; have O3 := Aside0.mk o3; have I4 := Aside0.mk i4; have O4 := Aside0.mk o4; clear h9 i3 o3 i4 o4 hb9 hab9)
   | (go_simp; go_at_call 24; refine (HC2.out _ (by first | exact H69.out | exact below_drew H69.out | exact below_drew (below_drew H69.out))).mono ?_; rintro e w10 ⟨Q4, q4, rfl, _, l4_, f4_, hb10⟩; have H910 := Aside0.mk (below_step (show Below w9.heap.size w9 _ from (by first | exact (Below.refl _ _) | exact below_drew (Below.refl _ _) | exact below_drew (below_drew (Below.refl _ _)))) hb10); have H610 := Aside0.mk (below_step H69.out H910.out); have P4 := Aside0.mk f4_; have N4 := Aside0.mk l4_; clear hb10 f4_ l4_)
   | (go_simp; go_at_call_has 22 Q4; refine (HF2.out _ none 0 Q4 q4 (Kd.C_below P4.out (by first | exact (Below.refl _ _) | exact below_drew (Below.refl _ _) | exact below_drew (below_drew (Below.refl _ _)))) N4.out).mono ?_; rintro e w11 h11; obtain ⟨Z3, z3, Z4, z4, rfl, j3, k3, j4, k4, hb11⟩ := toldK_C h11; have H1011 := Aside0.mk (below_step (show Below w10.heap.size w10 _ from (by first | exact (Below.refl _ _) | exact below_drew (Below.refl _ _) | exact below_drew (below_drew (Below.refl _ _)))) hb11); have H911 := Aside0.mk (below_step H910.out H1011.out); have H611 := Aside0.mk (below_step H610.out H1011.out); have J3 := Aside0.mk j3; have K3 := Aside0.mk k3; have J4 := Aside0.mk j4; have K4 := Aside0.mk k4; clear h11 j3 k3 j4 k4 hb11)
   | (go_simp; go_at_call 14; refine (HSAME.out Y3 y3 Y4 y4 Z3 z3 Z4 z4 _ (Kd.C_below I3.out (by first | exact H911.out | exact below_drew H911.out | exact below_drew (below_drew H911.out))) O3.out (Kd.C_below I4.out (by first | exact H911.out | exact below_drew H911.out | exact below_drew (below_drew H911.out))) O4.out (Kd.C_below J3.out (by first | exact (Below.refl _ _) | exact below_drew (Below.refl _ _) | exact below_drew (below_drew (Below.refl _ _)))) K3.out (Kd.C_below J4.out (by first | exact (Below.refl _ _) | exact below_drew (Below.refl _ _) | exact below_drew (below_drew (Below.refl _ _)))) K4.out).mono ?_; rintro e w12 ⟨rfl, hb12⟩; have H612 := Aside0.mk (below_step (show Below w6.heap.size w6 _ from (by first | exact H611.out | exact below_drew H611.out | exact below_drew (below_drew H611.out))) hb12); clear hb12)
   | (trace "HERE"; trace_state; fail))
  all_goals (simp only [Exit.then]; go_wp2_with fail; go_ret)
  all_goals exact ⟨rfl, HAB.out.on.trans (H612.out.mono HAB.out.on.size)⟩
end Go.Proofs.Ytmfjbljdbkmkgaa.PDom

/- FnCollapse: the law's walk for trees that fit. -/
namespace Go.Proofs.Ytmfjbljdbkmkgaa.PDom
open Go.RowKit Go.Proofs.YtmfjbljdbkmkgaaW.PrintWords Go.Proofs.YtmfjbljdbkmkgaaW.PrintLast Go.Proofs.YtmfjbljdbkmkgaaW.PrintMore Go.Proofs.Ytmfjbljdbkmkgaa.Dom Go.Proofs.Ytmfjbljdbkmkgaa.Txt
set_option linter.unusedVariables false
set_option linter.unusedSimpArgs false

theorem row_calls_col (t : T) (A3 : Option Addr) (c3 : Nat) (A4 : Option Addr) (c4 : Nat) (w : World) (ht : FitX t) (h3 : Kd.C k53 w A3 t.f3.length t.f3) (l3 : t.f3.length ≤ c3) (h4 : Kd.C k25 w A4 t.f4.length t.f4) (l4 : t.f4.length ≤ c4) :
  Calls Try.prog 6 #[.agg #[.int .i64 t.f0, .string t.f1, .string t.f2, .slice A3 t.f3.length c3, .slice A4 t.f4.length c4]] w fun e w' => e = .returned (.bool true) ∧ Below w.heap.size w w' :=
 law_col t ht w A3 c3 A4 c4 h3 l3 h4 l4
end Go.Proofs.Ytmfjbljdbkmkgaa.PDom

/- Arguments opened: what the reading of a datum says of memory, for texts, numbers, slices and structs, and how large they are. Each as large as a row's reach allows. -/
namespace Go.Proofs.Ytmfjbljdbkmkgaa.Open
open Go.RowKit Go.ChangeShapes Go.WideShapes Go.Proofs.YtmfjbljdbkmkgaaW.PrintWords Go.Proofs.YtmfjbljdbkmkgaaW.PrintLast Go.Proofs.YtmfjbljdbkmkgaaW.PrintMore

/-- A datum of type t that is read within the fuel tells a value of kind k in memory, and the value is Good. -/
def Opens {α : Type} (P : Program) (t : TypeId) (k : Kd α) (Good : α → Prop) (fuel : Nat) : Prop :=
 ∀ (H : Type) (enc : TypeId × Value → H) (W : World) (base : Nat) (spare : Nat → Bool) (held : Bool) (cs : List Value) (x : DataW H × List MemPlace),
  DataW.trod enc P W base spare held fuel t cs = some x → (∀ n ∈ x.1.weights P t, n ≤ reachBytes) → ∃ y, k.K W y cs ∧ Good y

theorem opens_string {P : Program} {t : TypeId} (ht : P.underlying t = some .string) (fuel : Nat) : Opens P t Kd.string (fun s => s.size ≤ 140737488351232) fuel := by
 intro H enc W base spare held cs x h hw
 obtain ⟨s, rfl, rfl, _⟩ := DataW.trod_string ht h
 refine ⟨s, rfl, ?_⟩
 have := hw s.data.toList.length (by simp [DataW.weights])
 rw [Array.length_toList] at this
 exact this
theorem opens_int {P : Program} {t : TypeId} {k : IntKind} (ht : P.underlying t = some (.int k)) (fuel : Nat) : Opens P t (Kd.int k) (fun n => (Lit.int k n).wf = true) fuel := by
 intro H enc W base spare held cs x h hw
 obtain ⟨n, rfl, rfl, hwf⟩ := DataW.trod_int ht h
 exact ⟨n, rfl, hwf⟩

theorem weights_all {H : Type} {P : Program} {e : TypeId} : ∀ {ds : List (DataW H)} {d : DataW H}, d ∈ ds → ∀ n ∈ d.weights P e, n ∈ DataW.weightsAll P e ds
 | d0 :: ds, d, hd, n, hn => by
  simp only [DataW.weightsAll, List.mem_append]
  rcases List.mem_cons.1 hd with rfl | hd
  ·exact .inl hn
  ·exact .inr (weights_all hd n hn)
theorem addr_add (a : Addr) (i j : Nat) : (a.add i).add j = a.add (i + j) := by
 unfold Addr.add
 by_cases h1 : i = 0 <;> by_cases h2 : j = 0 <;> simp [h1, h2, Nat.add_assoc]

theorem opens_slice {α : Type} {P : Program} {t e : TypeId} {k : Kd α} {Good : α → Prop} (ht : P.underlying t = some (.slice e)) (hc : P.cellsOf e = k.sz) {B : Nat} (hB : P.bytesOf e = B) (fuel : Nat) (he : ∀ n, n < fuel → Opens P e k Good n) :
  Opens P t (Kd.slice e k) (fun xs => xs.length * B ≤ 140737488351232 ∧ ∀ x ∈ xs, Good x) fuel := by
 intro H enc W base spare held cs x h hw
 rcases DataW.trod_slice ht h with ⟨rfl, rfl⟩ | ⟨a, len, cap, elems, rest, n, rfl, rfl, rfl, hb, hl, hm, hlen, hel, hsp, hns⟩
 ·exact ⟨[], ⟨none, 0, rfl, Nat.le_refl _, Kd.C_nil _ _⟩, by simp, fun _ h => by cases h⟩
 ·have hwt : (elems.length + rest.length) * B ≤ reachBytes := by
   refine hw _ ?_
   simp only [DataW.weights, ht, List.length_map, hB]
   exact List.mem_cons_self ..
  have each : ∀ i, i < len → ∃ y : α, Good y ∧ ∃ c : List Value, c.length = k.sz ∧ k.K W y c ∧ ∀ j u, c[j]? = some u → W.cell? (a.add (i * k.sz + j)) = some u := by
   intro i hi
   have h1 := hel i hi
   rw [hc, List.getElem?_eq_getElem (by omega)] at h1
   obtain ⟨c, hcs, hy⟩ := Option.bind_eq_some_iff.1 h1
   obtain ⟨_, hcl, hcc⟩ := World.cells?_some hcs
   obtain ⟨y, hK, hG⟩ := he n (by omega) H enc W base spare held c _ hy (fun q hq => hw q (by
    simp only [DataW.weights, ht, List.mem_cons, List.mem_append]
    exact .inr (.inl (weights_all (List.mem_map.2 ⟨elems[i], List.getElem_mem _, rfl⟩) q hq))))
   refine ⟨y, hG, c, hcl, hK, fun j u hu => ?_⟩
   have hj : j < k.sz := by have := (List.getElem?_eq_some_iff.1 hu).1; omega
   have h2 := hcc j hj
   rw [addr_add] at h2
   rw [h2]
   exact hu
  let ys : List α := List.ofFn fun i : Fin len => Classical.choose (each i i.isLt)
  have hyl : ys.length = len := List.length_ofFn
  have hyg : ∀ (i : Nat) (hi : i < len), ys[i]'(by omega) = Classical.choose (each i hi) := fun i hi => by simp [ys]
  refine ⟨ys, ⟨some a, cap, by rw [hyl], by omega, rfl, ?_, fun hp => ⟨a, rfl, fun j p hj => ?_⟩⟩, ?_, fun y hy => ?_⟩
  ·rw [hyl]
   simp only [maxLen] at hm
   omega
  ·obtain ⟨hjl, rfl⟩ := List.getElem?_eq_some_iff.1 hj
   have h1 := Classical.choose_spec (each j (by omega))
   rw [hyg j (by omega)]
   exact h1.2
  ·rw [hyl]
   refine Nat.le_trans (Nat.mul_le_mul_right _ ?_) hwt
   omega
  ·obtain ⟨i, hi, rfl⟩ := List.getElem_of_mem hy
   rw [hyg i (by omega)]
   exact (Classical.choose_spec (each i (by omega))).1

/-- Fields one behind the other, from the cell with number o on. -/
def OpensFs {β : Type} (P : Program) (fs : List Field) (o : Nat) (k : Kd β) (Good : β → Prop) (fuel : Nat) : Prop :=
 ∀ (H : Type) (enc : TypeId × Value → H) (W : World) (base : Nat) (spare : Nat → Bool) (held : Bool) (cs : List Value) (xs : List (DataW H × List MemPlace)), xs.length = fs.length →
  (∀ (i : Nat) (f : Field), fs[i]? = some f → DataW.trod enc P W base spare held fuel f.type ((cs.drop f.offset).take (P.cellsOf f.type)) = xs[i]?) →
  (∀ (i : Nat) (f : Field) (x : DataW H × List MemPlace), fs[i]? = some f → xs[i]? = some x → ∀ n ∈ x.1.weights P f.type, n ≤ reachBytes) → cs.length = o + k.sz → ∃ y, k.K W y (cs.drop o) ∧ Good y
theorem opens_last {β : Type} {P : Program} {f : Field} {o : Nat} {k : Kd β} {Good : β → Prop} {fuel : Nat} (ho : f.offset = o) (hc : P.cellsOf f.type = k.sz) (h : Opens P f.type k Good fuel) : OpensFs P [f] o k Good fuel := by
 intro H enc W base spare held cs xs hl hx hw hcs
 obtain ⟨x, rfl⟩ : ∃ x, xs = [x] := List.length_eq_one_iff.1 hl
 have h1 := hx 0 f rfl
 rw [ho, hc, List.take_of_length_le (by rw [List.length_drop]; omega)] at h1
 exact h H enc W base spare held _ x h1 (hw 0 f x rfl rfl)
theorem opens_cons {α β : Type} {P : Program} {f : Field} {fs : List Field} {o : Nat} {k : Kd α} {k2 : Kd β} {Good : α → Prop} {Good2 : β → Prop} {fuel : Nat} (ho : f.offset = o) (hc : P.cellsOf f.type = k.sz) (h : Opens P f.type k Good fuel) (h2 : OpensFs P fs (o + k.sz) k2 Good2 fuel) :
  OpensFs P (f :: fs) o (Kd.pair k k2) (fun y => Good y.1 ∧ Good2 y.2) fuel := by
 intro H enc W base spare held cs xs hl hx hw hcs
 cases xs with
 | nil => simp at hl
 | cons x xs =>
  have h1 := hx 0 f rfl
  rw [ho, hc] at h1
  obtain ⟨y1, hK1, hG1⟩ := h H enc W base spare held _ x h1 (hw 0 f x rfl rfl)
  have hsz : (Kd.pair k k2).sz = k.sz + k2.sz := rfl
  obtain ⟨y2, hK2, hG2⟩ := h2 H enc W base spare held cs xs (by simpa using hl) (fun i g hg => by have := hx (i + 1) g (by simpa using hg); simpa using this)
   (fun i g z hg hz => hw (i + 1) g z (by simpa using hg) (by simpa using hz)) (by omega)
  refine ⟨(y1, y2), ⟨(cs.drop o).take k.sz, cs.drop (o + k.sz), ?_, hK1, hK2⟩, hG1, hG2⟩
  rw [← List.drop_drop, List.take_append_drop]
theorem opens_struct {α β : Type} {P : Program} {t : TypeId} {fs : Array Field} {k : Kd β} {Good : β → Prop} {fuel : Nat} (ht : P.underlying t = some (.struct fs)) (hc : P.cellsOf t = k.sz) (f : α → β) (g : β → α) (hfg : ∀ y, f (g y) = y) (h : ∀ n, n < fuel → OpensFs P fs.toList 0 k Good n) :
  Opens P t (Kd.iso k f) (fun x => Good (f x)) fuel := by
 intro H enc W base spare held cs x hx hw
 obtain ⟨xs, n, rfl, rfl, hcl, hl, hf⟩ := DataW.trod_struct ht hx
 obtain ⟨y, hK, hG⟩ := h n (by omega) H enc W base spare held cs xs (by simpa using hl) (fun i g hg => hf i g (by simpa using hg)) (fun i q z hq hz m hm => hw m (by
  simp only [DataW.weights, ht]
  exact DataW.weights_mem_each (j := i) (t := q.type) (d := z.1) (by simp only [List.getElem?_map, hq]; rfl) (by simp only [List.getElem?_map, hz]; rfl) m hm)) (by omega)
 rw [List.drop_zero] at hK
 refine ⟨g y, ?_, by show Good (f (g y)); rw [hfg]; exact hG⟩
 show k.K W (f (g y)) cs
 rw [hfg]
 exact hK

end Go.Proofs.Ytmfjbljdbkmkgaa.Open

/- As OpenT, with the sizes of texts. A tree that comes in as an argument: what it reads as in memory, and that it fits. -/
namespace Go.Proofs.Ytmfjbljdbkmkgaa.PDom
open Go.RowKit Go.ChangeShapes Go.WideShapes Go.Proofs.YtmfjbljdbkmkgaaW.PrintWords Go.Proofs.YtmfjbljdbkmkgaaW.PrintLast Go.Proofs.YtmfjbljdbkmkgaaW.PrintMore Go.Proofs.Ytmfjbljdbkmkgaa.Dom Go.Proofs.Ytmfjbljdbkmkgaa.Open
set_option linter.unusedVariables false
set_option linter.unusedSimpArgs false

theorem opens_attr (fuel : Nat) : Opens Try.prog 53 k53 (fun _ => True) fuel := by
 have h := opens_struct (α := S53) (fuel := fuel) Try.underlying53 (by kernel_rfl) (fun x : S53 => (x.f0, x.f1)) (fun y => ⟨y.1, y.2⟩) (fun _ => rfl)
  (fun n _ => opens_cons (P := Try.prog) (o := 0) rfl (by kernel_rfl) (opens_string Try.underlying9 n) (opens_last (o := 1) rfl (by kernel_rfl) (opens_string Try.underlying9 n)))
 intro H enc W base spare held cs x hx hw
 obtain ⟨y, hK, _⟩ := h H enc W base spare held cs x hx hw
 exact ⟨y, hK, trivial⟩
theorem opens_T (fuel : Nat) : Opens Try.prog 25 k25 FitX fuel := by
 induction fuel using Nat.strongRecOn with
 | _ fuel ih =>
  have h := opens_struct (α := T) (fuel := fuel) Try.underlying25 (by kernel_rfl) (fun x : T => (x.f0, x.f1, x.f2, x.f3, x.f4)) (fun y => ⟨y.1, y.2.1, y.2.2.1, y.2.2.2.1, y.2.2.2.2⟩) (fun _ => rfl)
   (fun n hn => opens_cons (P := Try.prog) (o := 0) rfl (by kernel_rfl) (opens_int (k := .i64) Try.underlying3 n)
    (opens_cons (o := 1) rfl (by kernel_rfl) (opens_string Try.underlying9 n) (opens_cons (o := 2) rfl (by kernel_rfl) (opens_string Try.underlying9 n)
     (opens_cons (o := 3) rfl (by kernel_rfl) (opens_slice (k := k53) Try.underlying22 (by kernel_rfl) (B := 32) (by kernel_rfl) n (fun m _ => opens_attr m))
      (opens_last (o := 4) rfl (by kernel_rfl) (opens_slice (k := k25) Try.underlying23 (by kernel_rfl) (B := 88) (by kernel_rfl) n (fun m hm => ih m (by omega))))))))
  intro H enc W base spare held cs x hx hw
  obtain ⟨y, hK, hG⟩ := h H enc W base spare held cs x hx hw
  obtain ⟨_, _, rfl, rfl, ⟨_, _, rfl, rfl, ⟨_, _, rfl, rfl, ⟨_, _, rfl, ⟨A3, c3, rfl, l3, g3⟩, ⟨A4, c4, rfl, l4, g4⟩⟩⟩⟩⟩ := hK
  obtain ⟨_, hn, hx2, ⟨ha, _⟩, ⟨hb, hy⟩⟩ := hG
  have ha2 : y.f3.length * 32 ≤ 140737488351232 := ha
  have hb2 : y.f4.length * 88 ≤ 140737488351232 := hb
  exact ⟨y, k25_mk W y l3 g3 l4 g4, FitX.mk y hn hx2 (by omega) (by omega) hy⟩
theorem open_T {H : Type} {enc : TypeId × Value → H} {W : World} {base : Nat} {spare : Nat → Bool} {held : Bool} {v : Value} {d : DataW H} {ps : List MemPlace} {ts : List TypeId} {ds : List (DataW H)} {j : Nat} {t : TypeId} (e : t = 25)
  (hd : DataW.Trod enc Try.prog W base spare held t v d ps) (hsz : (DataW.weightsEach Try.prog ts ds).all (· ≤ reachBytes) = true) (ht : ts[j]? = some t) (hdj : ds[j]? = some d) :
  ∃ (y : T) (A3 : Option Addr) (c3 : Nat) (A4 : Option Addr) (c4 : Nat), FitX y ∧ v.cells.toList = [.int .i64 y.f0, .string y.f1, .string y.f2, .slice A3 y.f3.length c3, .slice A4 y.f4.length c4] ∧ k53.C W A3 y.f3.length y.f3 ∧ y.f3.length ≤ c3 ∧ k25.C W A4 y.f4.length y.f4 ∧ y.f4.length ≤ c4 := by
 subst e
 obtain ⟨fuel, hf⟩ := hd
 obtain ⟨y, hK, hG⟩ := opens_T fuel H enc W base spare held _ _ hf (fun n hn => by
  have := List.all_eq_true.1 hsz n (DataW.weights_mem_each ht hdj n hn)
  simpa using this)
 obtain ⟨A3, c3, A4, c4, hcs, l3, g3, l4, g4⟩ := k25_open hK
 exact ⟨y, A3, c3, A4, c4, hG, hcs, g3, l3, g4, l4⟩
end Go.Proofs.Ytmfjbljdbkmkgaa.PDom

/- The row of the law FnCollapse, out of its walk. No further conditions. -/
namespace Go.Proofs.Ytmfjbljdbkmkgaa.fnCollapse
open Go.ChangeShapes Go.WideShapes Go.ChangeAt Go.RowKit
open Go.ChangeMaps (open_string shut_string)
open Go.Proofs.Ytmfjbljdbkmkgaa.PDom
set_option linter.unusedVariables false
theorem own : ownKnob Try.prog.godebug = none := by kernel_rfl
theorem laidOut : laidOutB Try.prog = true := by kernel_rfl
set_option maxRecDepth 100000 in
theorem lifted (os : Os) (started : os.Started) (H : Type) (enc : TypeId × Value → H) :
  ReturnsInHanded {} Try.checked os 6 .any (Rows.fnCollapseSpec.pre6 enc Try.prog Try.f6 Rows.fnCollapseRow.domain false) (Rows.fnCollapseSpec.post enc Try.prog Try.f6 false true false false) := by
 refine returnsInHanded_of_change_sized (C := Try.checked) own started (by kernel_rfl) Try.func6
  (ChangeSpec.witness6 (enc := enc) (C := Try.checked) false ⟨#[], #[.agg #[.int .i64 0, .string ByteArray.empty, .string ByteArray.empty, .slice none 0 0, .slice none 0 0]], []⟩ 8 (by kernel_rfl) (by kernel_rfl) (by kernel_rfl) (by kernel_rfl)) ?_
 intro W base args ds gs before hval0 hW hcnd hsz0 _
 have hsz : (DataW.weightsEach Try.prog (Try.f6.params.toList ++ Rows.fnCollapseSpec.plain.varTypes Try.prog) (ds ++ gs)).all (· ≤ reachBytes) = true := hsz0
 have hval : ∀ (j : Nat) t v, Try.f6.params[j]? = some t → args[j]? = some v → Value.okWide Try.prog W .any base t v := hval0
 have hW' := hW
 obtain ⟨p, q, hA0, hV, rfl, hfz, hnd⟩ := hW
 have hA : DataW.TrodAll enc Try.prog W 0 (fun _ => true) true Try.f6.params.toList args.toList ds p := hA0
 rw [Try.params6] at hA hval hsz
 obtain ⟨v0, vs0, d0, ds0, p0, q0, hargs, rfl, rfl, h0, r0⟩ := trodAll_cons hA
 obtain ⟨rfl, rfl, rfl⟩ := trodAll_nil r0
 obtain rfl : args = #[v0] := by cases args; simp_all
 obtain ⟨rfl, rfl⟩ := trodVars_none hV
 obtain ⟨cs0, rfl, hz0⟩ := okWide_struct Try.underlying25 (hval 0 25 v0 rfl rfl)
 have k0 := h0
 have lt0 : ∀ x ∈ p0, x.block < W.heap.size := by obtain ⟨m, hm⟩ := k0; exact DataW.trod_lt m _ _ _ hm
 obtain ⟨x0, A0, c0, B0, d_0, hF0, hcs0, hC0, hl0, hD0, hm0⟩ := open_T rfl h0 hsz (j := 0) (t := 25) rfl rfl
 obtain rfl : cs0 = #[.int .i64 x0.f0, .string x0.f1, .string x0.f2, .slice A0 x0.f3.length c0, .slice B0 x0.f4.length d_0] := by cases cs0; simpa [Value.cells] using hcs0
 clear hA0 hval0 hsz0
 refine (PDom.row_calls_col x0 A0 c0 B0 d_0 W hF0 hC0 hl0 hD0 hm0).mono fun e W' ⟨he, bel⟩ => ?_
 subst he
 exact ⟨_, rfl, _, _, _, [], _, [], hW', trodAll_mk1 (shut_bool Try.underlying4 _), (trodAll_cons_mk (Below.trod laidOut (by kernel_rfl) (of_decide_eq_true (by kernel_rfl)) k0 bel lt0) trodAll_mk0), rfl, bel.frame _, fun h => by cases h⟩
theorem over : Rows.fnCollapseRow.holds Try.pinned (OpenSpec.ofChange Rows.fnCollapseSpec) :=
 OpenClaim.holds_of_wide 6 Try.f6 rfl rfl rfl rfl rfl rfl rfl ⟨rfl, rfl, rfl, rfl, rfl⟩ rfl rfl rfl rfl rfl (by kernel_rfl) Try.func6 (by kernel_rfl)
  (of_decide_eq_true (by kernel_rfl)) (by unfold Func.isWrapper; first | (rw [if_pos (by decide +kernel)]; kernel_rfl) | (rw [if_neg (by decide +kernel)]; exact ⟨rfl, rfl⟩))
  (fun os started H enc _ => lifted os started H enc)
theorem proved : Rows.FnCollapseSaid := over
#print axioms proved
end Go.Proofs.Ytmfjbljdbkmkgaa.fnCollapse
namespace Go.Proofs.Ytmfjbljdbkmkgaa
/-- The row, under a short name, for the claim. -/
theorem fnCollapse_holds : Rows.FnCollapseSaid := fnCollapse.proved
end Go.Proofs.Ytmfjbljdbkmkgaa
