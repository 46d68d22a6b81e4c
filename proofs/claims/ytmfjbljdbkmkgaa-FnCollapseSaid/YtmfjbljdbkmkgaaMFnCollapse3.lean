/- A part of the proof of FnCollapse: ToldX, Mapa, SurgI, Sur2, Repl, Steps, WrapX, UnwX, NameX, DomTot, NormT, AllN, SibN, Guard, Chg, Tell, RedP, FindX, NamedX, Beh, RedX, SibM, ReplX, TreeT, Put, CutP, CutX, CutY, CutZ, Keep, EDomx5, BlankL, ColP, SpcX, ColR, ColF, ColN, ColG, ColH, one behind the other. -/
import Derived.Test.YtmfjbljdbkmkgaaMFnCollapse2
import Derived.Deep.RegionLaw
import Derived.Deep.DeepCutAuto
import Derived.Deep.DeepMust
import Derived.BigRegion
import Derived.Tactics2
import Derived.Test.YtmfjbljdbkmkgaaMFnCollapse1
import Derived.Test.YtmfjbljdbkmkgaaProg
import Derived.Tactics
import Derived.Defers
import Derived.Recover
import Derived.Laws.Pointers
import Derived.Laws.EntriesVeiled
/- impl.told: a tree of nodes, as plain data. -/
namespace Go.Proofs.Ytmfjbljdbkmkgaa.Dom
open Go.RowKit Go.Proofs.YtmfjbljdbkmkgaaW.PrintWords Go.Proofs.YtmfjbljdbkmkgaaW.PrintLast Go.Proofs.YtmfjbljdbkmkgaaW.PrintMore Go.Proofs.Ytmfjbljdbkmkgaa.PDom
set_option linter.unusedVariables false
set_option linter.unusedSimpArgs false

abbrev At := S53
mutual
/-- The tree as plain data. -/
def RT.toT : RT → T
 | .node _ ty _ d at_ ks => if ty = 3 then ⟨0, d, ⟨#[]⟩, at_.map (fun a => (⟨a.1, a.2⟩ : At)), RT.toTL ks⟩ else if ty = 1 then ⟨1, ⟨#[]⟩, d, [], []⟩ else if ty = 4 then ⟨2, ⟨#[]⟩, d, [], []⟩ else ⟨3, ⟨#[]⟩, ⟨#[]⟩, [], RT.toTL ks⟩
def RT.toTL : List RT → List T
 | [] => []
 | k :: ks => k.toT :: RT.toTL ks
end
theorem RT.toTL_map (l : List RT) : RT.toTL l = l.map RT.toT := by
 induction l with
 | nil => rfl
 | cons k l ih => rw [RT.toTL, ih, List.map_cons]
/-- How many attributes and children a node has. -/
inductive RFit : RT → Prop
 | mk (i : Nat) (ty a : Int) (d : ByteArray) (at_ : List (ByteArray × ByteArray)) (ks : List RT) (h3 : at_.length ≤ 4398046510976) (h4 : ks.length ≤ 1000000000000) (hk : ∀ k ∈ ks, RFit k) : RFit (.node i ty a d at_ ks)
theorem at_A {w : World} {A : Option Addr} {n : Nat} {xs : List (ByteArray × ByteArray)} (h : Kd.C kA w A n xs) (i : Int) (h0 : 0 ≤ i) (h1 : i < n) : ∃ ad, A = some ad ∧ w.cell? (ad.add (i.toNat * 3)) = some (.string ⟨#[]⟩) ∧ w.cell? ⟨(ad.add (i.toNat * 3)).block, (ad.add (i.toNat * 3)).off + 1, none⟩ = some (.string (xs.getD i.toNat (⟨#[]⟩, ⟨#[]⟩)).1) ∧ w.cell? ⟨(ad.add (i.toNat * 3)).block, (ad.add (i.toNat * 3)).off + 2, none⟩ = some (.string (xs.getD i.toNat (⟨#[]⟩, ⟨#[]⟩)).2) := by
 obtain ⟨ad, c, e, _, hK, hc0⟩ := Kd.C_get h (⟨#[]⟩, ⟨#[]⟩) i h0 h1
 have hc : ∀ j u, c[j]? = some u → w.cell? (ad.add (i.toNat * 3 + j)) = some u := hc0
 obtain ⟨_, _, rfl, rfl, ⟨_, _, rfl, rfl, rfl⟩⟩ := hK
 exact ⟨ad, e, hc 0 _ rfl, by rw [← add_field _ _ 1 (by omega)]; exact hc 1 _ rfl, by rw [← add_field _ _ 2 (by omega)]; exact hc 2 _ rfl⟩
/-- The state of the tree that is being told: its box, its rows. -/
structure TB (w wr : World) (f0 : Int) (f1 f2 : ByteArray) (v3 v4 : Value) (l3 : List At) (l4 : List T) : Prop where
 box : wr.heap[w.heap.size + 1]? = some (.cells #[.int .i64 f0, .string f1, .string f2, v3, v4] 25 (0, 0))
 res : ∃ a0 a1 a2 a3 a4 : Value, wr.heap[w.heap.size]? = some (.cells #[a0, a1, a2, a3, a4] 25 (0, 0))
 n3 : Kd.N k53 53 wr w.heap.size (fun k => w.heap.size + 2 ≤ k ∧ some k ≠ v4.ownBlock) v3 l3
 n4 : Kd.N k25 25 wr w.heap.size (fun k => w.heap.size + 2 ≤ k ∧ some k ≠ v3.ownBlock) v4 l4
 below : Below w.heap.size w wr
theorem TB.start (w : World) (f0 : Int) (f1 f2 : ByteArray) {wr : World} (hb : wr.heap[w.heap.size + 1]? = some (.cells #[.int .i64 f0, .string f1, .string f2, .slice none 0 0, .slice none 0 0] 25 (0, 0)))
  (hr : ∃ a0 a1 a2 a3 a4 : Value, wr.heap[w.heap.size]? = some (.cells #[a0, a1, a2, a3, a4] 25 (0, 0))) (hw : Below w.heap.size w wr) : TB w wr f0 f1 f2 (.slice none 0 0) (.slice none 0 0) [] [] :=
 ⟨hb, hr, Kd.N_nil _ _ _ _ _, Kd.N_nil _ _ _ _ _, hw⟩
section
variable {w wr w1 w2 w3 : World} {f0 : Int} {f1 f2 : ByteArray} {v3 v4 v1 : Value} {l3 : List At} {l4 : List T}
theorem TB.moved (h : TB w wr f0 f1 f2 v3 v4 l3 l4) (hb : Below wr.heap.size wr w1) : TB w w1 f0 f1 f2 v3 v4 l3 l4 :=
 ⟨(hb.block _ (blk_lt h.box)).trans h.box, by obtain ⟨a0, a1, a2, a3, a4, hr⟩ := h.res; exact ⟨a0, a1, a2, a3, a4, (hb.block _ (blk_lt hr)).trans hr⟩, Kd.N_below h.n3 hb, Kd.N_below h.n4 hb, below_step h.below hb⟩
theorem TB.size (h : TB w wr f0 f1 f2 v3 v4 l3 l4) : w.heap.size + 2 ≤ wr.heap.size := blk_lt h.box
theorem TB.cells (h : TB w wr f0 f1 f2 v3 v4 l3 l4) : wr.cell? ⟨w.heap.size + 1, 0, none⟩ = some (.int .i64 f0) ∧ wr.cell? ⟨w.heap.size + 1, 1, none⟩ = some (.string f1) ∧ wr.cell? ⟨w.heap.size + 1, 2, none⟩ = some (.string f2) ∧ wr.cell? ⟨w.heap.size + 1, 3, none⟩ = some v3 ∧ wr.cell? ⟨w.heap.size + 1, 4, none⟩ = some v4 :=
 ⟨blk_cell h.box 0, blk_cell h.box 1, blk_cell h.box 2, blk_cell h.box 3, blk_cell h.box 4⟩
/-- A block that is kept through an append to an own row. -/
theorem grown_kept {r : Option Nat} (hg : w2.grownBy w3 r) {b : Nat} {x : Obj} (hb : w2.heap[b]? = some x) (hr : some b ≠ r) : w3.heap[b]? = some x :=
 (hg.block b (Array.getElem?_eq_some_iff.1 hb).1 hr).trans hb
/-- One more attribute. -/
theorem TB.attr (h : TB w wr f0 f1 f2 v3 (.slice none 0 0) l3 []) (hb : Below wr.heap.size wr w2) {p : At} (ho : Kd.N k53 53 w3 w.heap.size (fun k => w.heap.size + 2 ≤ k) v1 (l3 ++ [p])) (hb3 : Below w.heap.size w w3) (hg : w2.grownBy w3 v3.ownBlock) :
  w3.cell? ⟨w.heap.size + 1, 3, none⟩ = some v3 ∧ w3.frozen? ⟨w.heap.size + 1, 3, none⟩ = false ∧ TB w (w3.setCell ⟨w.heap.size + 1, 3, none⟩ v1) f0 f1 f2 v1 (.slice none 0 0) (l3 ++ [p]) [] := by
 have h2 := h.moved hb
 have n1 : some (w.heap.size + 1) ≠ v3.ownBlock := fun e => by have := (h2.n3.1 _ e.symm).1; omega
 have n0 : some w.heap.size ≠ v3.ownBlock := fun e => by have := (h2.n3.1 _ e.symm).1; omega
 have b3 := grown_kept hg h2.box n1
 obtain ⟨a0, a1, a2, a3, a4, hr⟩ := h2.res
 have r3 := grown_kept hg hr n0
 refine ⟨blk_cell b3 3, blk_frozen b3 3, blk_set b3 3 _, ⟨a0, a1, a2, a3, a4, (Below.heap_setCell w3 _ _ _ (by show w.heap.size ≠ w.heap.size + 1; omega)).trans r3⟩, ?_, Kd.N_nil _ _ _ _ _, ?_⟩
 ·refine Kd.N_mono (Kd.N_far ho (fun k hk => ?_) _) (fun k hk => ⟨hk, by simp [Value.ownBlock]⟩)
  show k ≠ w.heap.size + 1
  omega
 ·exact Below.setCell hb3 (by show w.heap.size ≤ w.heap.size + 1; omega) _
/-- One more child. -/
theorem TB.kid (h : TB w wr f0 f1 f2 v3 v4 l3 l4) (hb : Below wr.heap.size wr w2) {p : T} (ho : Kd.N k25 25 w3 w.heap.size (fun k => w.heap.size + 2 ≤ k ∧ some k ≠ v3.ownBlock) v1 (l4 ++ [p])) (hb3 : Below w.heap.size w w3) (hg : w2.grownBy w3 v4.ownBlock)
  (hat : v1.ownBlock = v4.ownBlock ∨ ∃ b, v1.ownBlock = some b ∧ w2.heap.size ≤ b) :
  w3.cell? ⟨w.heap.size + 1, 4, none⟩ = some v4 ∧ w3.frozen? ⟨w.heap.size + 1, 4, none⟩ = false ∧ TB w (w3.setCell ⟨w.heap.size + 1, 4, none⟩ v1) f0 f1 f2 v3 v1 l3 (l4 ++ [p]) := by
 have h2 := h.moved hb
 have n1 : some (w.heap.size + 1) ≠ v4.ownBlock := fun e => by have := (h2.n4.1 _ e.symm).1; omega
 have n0 : some w.heap.size ≠ v4.ownBlock := fun e => by have := (h2.n4.1 _ e.symm).1; omega
 have b3 := grown_kept hg h2.box n1
 obtain ⟨a0, a1, a2, a3, a4, hr⟩ := h2.res
 have r3 := grown_kept hg hr n0
 refine ⟨blk_cell b3 4, blk_frozen b3 4, blk_set b3 4 _, ⟨a0, a1, a2, a3, a4, (Below.heap_setCell w3 _ _ _ (by show w.heap.size ≠ w.heap.size + 1; omega)).trans r3⟩, ?_, ?_, ?_⟩
 ·refine Kd.N_far (Kd.N_after h2.n3 hg hat) (fun k hk => ?_) _
  show k ≠ w.heap.size + 1
  omega
 ·refine Kd.N_far ho (fun k hk => ?_) _
  show k ≠ w.heap.size + 1
  omega
 ·exact Below.setCell hb3 (by show w.heap.size ≤ w.heap.size + 1; omega) _
theorem kids_step {P : Program} {ops : Array Oper} {o : Oper} {a : Act} {Q : Exit → Act → World → Prop} {K : Act → World → Prop} {E : Prop} {w0 W : World} (hgd : o.guard = none) (base : Nat) (s x : Operand) (t : TypeId) (z : Value)
  (ho : o.op = .call { callee := .builtin .append, args := #[s, x], argTypes := #[t, t] })
  (ht : P.underlying t = some (.slice 25)) (hinfo : (P.info? 25).map (fun i => (i.zero, i.size, i.bytes)) = some (some z, 5, 88)) (hz : z.cells.size = 5)
  (v : Value) (xs : List T) (p : T) (cs : List Value) (ok okp : Nat → Prop) (hs : a.eval s = v) (hx : a.eval x = .slice (some ⟨W.heap.size, 0, none⟩) 1 1) (hp : Kd.FK k25 W okp p cs) (hokp : ∀ k, okp k → ok k ∧ some k ≠ v.ownBlock) (hfresh : ∀ k, W.heap.size ≤ k → ok k)
  (HO : Kd.N k25 25 W base ok v xs) (HB : Below base w0 W) (hbase : base ≤ W.heap.size) (hl : (xs.length + 1) * 88 ≤ 140737488355328)
  (h : ∀ v1 w1, Kd.N k25 25 w1 base ok v1 (xs ++ [p]) → Below base w0 w1 → W.grownBy w1 v.ownBlock → (v1.ownBlock = v.ownBlock ∨ ∃ b, v1.ownBlock = some b ∧ W.heap.size ≤ b) → K (a.put o.dst v1) w1) :
  if Region.wanted o (yielded ops a.tmps) = true then Oper.wp P o a (W.alloc (.cells cs.toArray 25)) K Q else E := by
 have hw : Region.wanted o (yielded ops a.tmps) = true := by simp [Region.wanted, hgd]
 have := Kd.N_append_step (P := P) (ops := ops) (o := o) (a := a) (Q := Q) (Kc := K) k25 base hw s x t 25 z 88 ho ht hinfo hz (by decide) (by decide) v xs p cs ok okp hs hx hp hokp hfresh HO HB hbase hl h
 rw [if_pos hw] at this ⊢
 exact this
end
theorem infoNd : (Try.prog.info? 25).map (fun i => (i.zero, i.size, i.bytes)) = some (some (.agg #[.int .i64 0, .string ⟨#[]⟩, .string ⟨#[]⟩, .slice none 0 0, .slice none 0 0]), 5, 88) := by kernel_rfl
theorem infoAt : (Try.prog.info? 53).map (fun i => (i.zero, i.size, i.bytes)) = some (some (.agg #[.string ⟨#[]⟩, .string ⟨#[]⟩]), 2, 32) := by kernel_rfl
/-- A row of attributes leads to nothing. -/
theorem attr_R {w : World} {base : Nat} {ok : Nat → Prop} {v : Value} {l : List At} (h : Kd.N k53 53 w base ok v l) : Kd.R k53 53 w base ok v l := by
 obtain ⟨h0, rows, hlen, ⟨h1, inner, ho, hr⟩, hf⟩ := h
 refine ⟨h0, inner, by rw [← hlen]; exact ho, by rw [hr.1, hlen]; rfl, fun j p hj => ?_⟩
 have hlt : j < rows.length := by rw [hlen]; exact (List.getElem?_eq_some_iff.1 hj).1
 have e1 := List.getElem?_eq_getElem hlt
 have hc := (hr.2 j _ e1).1
 have hk := Kd.FK_now (hf j p _ hj e1)
 rw [← hc] at hk
 exact hk
/-- What impl.told returns. -/
def Told (w w' : World) (t : T) (e : Ending) : Prop := ∃ A3 c3 A4 c4, e = .returned (.agg #[.int .i64 t.f0, .string t.f1, .string t.f2, .slice A3 t.f3.length c3, .slice A4 t.f4.length c4]) ∧ t.f3.length ≤ c3 ∧ Kd.F k53 w' (fun k => w.heap.size ≤ k) A3 t.f3.length t.f3 ∧ t.f4.length ≤ c4 ∧ Kd.F k25 w' (fun k => w.heap.size ≤ k) A4 t.f4.length t.f4 ∧ Below w.heap.size w w' ∧
 Kd.R k53 53 w' w.heap.size (fun k => w.heap.size ≤ k) (.slice A3 t.f3.length c3) t.f3 ∧ Kd.N k25 25 w' w.heap.size (fun k => w.heap.size ≤ k ∧ some k ≠ (Value.slice A3 t.f3.length c3).ownBlock) (.slice A4 t.f4.length c4) t.f4
theorem told_leaf (w : World) (t : T) (h3 : t.f3 = []) (h4 : t.f4 = []) (w' : World) (hb : Below w.heap.size w w') (e : Ending) (he : e = .returned (.agg #[.int .i64 t.f0, .string t.f1, .string t.f2, .slice none 0 0, .slice none 0 0])) : Told w w' t e := by
 refine ⟨none, 0, none, 0, by rw [h3, h4]; exact he, by rw [h3]; exact Nat.le_refl _, by rw [h3]; exact Kd.F_nil _ _ _, by rw [h4]; exact Nat.le_refl _, by rw [h4]; exact Kd.F_nil _ _ _, hb, by rw [h3]; exact Kd.R_nil _ _ _ _ _, by rw [h4]; exact Kd.N_nil _ _ _ _ _⟩
theorem told_end {w wr w' : World} {t : T} {v3 v4 : Value} (h : TB w wr t.f0 t.f1 t.f2 v3 v4 t.f3 t.f4) (hw : ∀ k, w.heap.size + 2 ≤ k → k < wr.heap.size → w'.heap[k]? = wr.heap[k]?) (hb : Below w.heap.size w w') : Told w w' t (.returned (.agg #[.int .i64 t.f0, .string t.f1, .string t.f2, v3, v4])) := by
 obtain ⟨A3, c3, rfl⟩ := Kd.N_slice h.n3
 obtain ⟨A4, c4, rfl⟩ := Kd.N_slice h.n4
 have m3 := Kd.N_step h.n3 (w1 := w') (fun k hk hlt => hw k hk.1 hlt)
 have m4 := Kd.N_step h.n4 (w1 := w') (fun k hk hlt => hw k hk.1 hlt)
 exact ⟨A3, c3, A4, c4, rfl, (Kd.N_reads' m3).2.1, Kd.F_mono (Kd.N_F m3) (fun k hk => Nat.le_trans (by omega) hk.1), (Kd.N_reads' m4).2.1, Kd.F_mono (Kd.N_F m4) (fun k hk => Nat.le_trans (by omega) hk.1), hb, attr_R (Kd.N_mono m3 (fun k hk => Nat.le_trans (by omega) hk.1)), Kd.N_mono m4 (fun k hk => ⟨Nat.le_trans (by omega) hk.1, hk.2⟩)⟩
theorem sets5 (w : World) (b : Nat) (a0 a1 a2 a3 a4 : Value) (k : Nat) (hk : k ≠ b) : (((((w.setCell ⟨b, 0, none⟩ a0).setCell ⟨b, 1, none⟩ a1).setCell ⟨b, 2, none⟩ a2).setCell ⟨b, 3, none⟩ a3).setCell ⟨b, 4, none⟩ a4).heap[k]? = w.heap[k]? := by
 rw [Below.heap_setCell _ ⟨b, 4, none⟩ _ _ hk, Below.heap_setCell _ ⟨b, 3, none⟩ _ _ hk, Below.heap_setCell _ ⟨b, 2, none⟩ _ _ hk, Below.heap_setCell _ ⟨b, 1, none⟩ _ _ hk, Below.heap_setCell _ ⟨b, 0, none⟩ _ _ hk]
theorem below_sets5 {w wr : World} (h : Below w.heap.size w wr) (a0 a1 a2 a3 a4 : Value) : Below w.heap.size w (((((wr.setCell ⟨w.heap.size, 0, none⟩ a0).setCell ⟨w.heap.size, 1, none⟩ a1).setCell ⟨w.heap.size, 2, none⟩ a2).setCell ⟨w.heap.size, 3, none⟩ a3).setCell ⟨w.heap.size, 4, none⟩ a4) :=
 ((((h.setCell (p := ⟨w.heap.size, 0, none⟩) (Nat.le_refl _) a0).setCell (p := ⟨w.heap.size, 1, none⟩) (Nat.le_refl _) a1).setCell (p := ⟨w.heap.size, 2, none⟩) (Nat.le_refl _) a2).setCell (p := ⟨w.heap.size, 3, none⟩) (Nat.le_refl _) a3).setCell (p := ⟨w.heap.size, 4, none⟩) (Nat.le_refl _) a4
set_option maxHeartbeats 4000000 in
set_option maxRecDepth 100000 in
theorem told_calls (D : Tab) (r : RT) : ∀ (p : Option Nat), Is D p r → RFit r → ∀ (w : World), Dom w D → Calls Try.prog 66 #[ptr (some r.id)] w fun e w' => Told w w' r.toT e := by
 induction r using RT.induct with
 | h i ty a d at_ ks ih =>
  intro p hr hf w hdom
  have hroot : D i = some _ := hr.root
  obtain ⟨va, hHi, hA⟩ := hdom.has hroot
  have c5 : w.cell? ⟨i, 5, none⟩ = some (.int .u32 ty) := hHi.cells10.2.2.2.2.2.1
  have c7 : w.cell? ⟨i, 7, none⟩ = some (.string d) := hHi.cells10.2.2.2.2.2.2.2.1
  have c9 : w.cell? ⟨i, 9, none⟩ = some va := hHi.cells10.2.2.2.2.2.2.2.2.2
  have hl : i < w.heap.size := hHi.lt
  show Calls _ _ #[ptr (some i)] _ _
  rw [ptr_some]
  by_cases t1 : ty = 1
  ·subst t1
   clear ih hr hf hdom hroot hHi hA c9
   go_enter Try.func66, Try.ntmps66
   go_wp2_with fail
   refine bodyPost_ret (v := .agg #[.int .i64 1, .string ⟨#[]⟩, .string d, .slice none 0 0, .slice none 0 0]) (by simp [results, Try.results66, go_sem]) rfl ?_
   exact told_leaf w _ rfl rfl _ (below_alloc (below_alloc (Below.refl _ _) _) _) _ rfl
  ·by_cases t4 : ty = 4
   ·subst t4
    clear ih hr hf hdom hroot hHi hA c9
    go_enter Try.func66, Try.ntmps66
    go_wp2_with fail
    refine bodyPost_ret (v := .agg #[.int .i64 2, .string ⟨#[]⟩, .string d, .slice none 0 0, .slice none 0 0]) (by simp [results, Try.results66, go_sem]) rfl ?_
    exact told_leaf w _ rfl rfl _ (below_alloc (below_alloc (Below.refl _ _) _) _) _ rfl
   ·obtain ⟨Aa, ca, hva, hca, hCa⟩ := Kd.R_reads hA
    have hva' : va = .slice Aa at_.length ca := hva
    subst hva'
    have HC := Aside0.mk (show Kd.C kA w Aa at_.length at_ from hCa)
    have HF := Aside0.mk hf
    have HR := Aside0.mk hr
    have HD := Aside0.mk hdom
    have HI := Aside0.mk hHi
    have IH := Aside0.mk ih
    clear ih hr hf hdom hroot hHi hA hCa hva hca
    have HE : ∃ t : T, (RT.node i ty a d at_ ks).toT = t ∧ t.f4 = RT.toTL ks ∧ ((ty = 3 ∧ t.f0 = 0 ∧ t.f1 = d ∧ t.f2 = ⟨#[]⟩ ∧ t.f3 = at_.map (fun a => (⟨a.1, a.2⟩ : At))) ∨ (ty ≠ 3 ∧ t.f0 = 3 ∧ t.f1 = ⟨#[]⟩ ∧ t.f2 = ⟨#[]⟩ ∧ t.f3 = [])) := by
     refine ⟨_, rfl, ?_⟩
     simp only [RT.toT]
     by_cases t3 : ty = 3
     ·rw [if_pos t3]
      exact ⟨rfl, .inl ⟨t3, rfl, rfl, rfl, rfl⟩⟩
     ·rw [if_neg t3, if_neg t1, if_neg t4]
      exact ⟨rfl, .inr ⟨t3, rfl, rfl, rfl, rfl⟩⟩
    obtain ⟨t, het, hk4, hcase⟩ := HE
    rw [het]
    rcases hcase with ⟨t3, q0, q1, q2, q3⟩ | ⟨t3, q0, q1, q2, q3⟩
    ·subst t3
     have HT := Aside0.mk (⟨het, hk4, q0, q1, q2, q3⟩ : _ ∧ _ ∧ _ ∧ _ ∧ _ ∧ _)
     clear het hk4 q0 q1 q2 q3 t1 t4
     go_enter Try.func66, Try.ntmps66
     go_wp2_with fail
     have hS := TB.start w 0 d ⟨#[]⟩ (two_new w (.cells #[.int .i64 0, .string ⟨#[]⟩, .string ⟨#[]⟩, .slice none 0 0, .slice none 0 0] 25) (.cells #[.int .i64 0, .string d, .string ⟨#[]⟩, .slice none 0 0, .slice none 0 0] 25)) ⟨_, _, _, _, _, two_old w _ _⟩ (below_alloc (below_alloc (Below.refl _ _) _) _)
     have HS := Aside0.mk hS
     clear hS
     generalize (w.alloc (.cells #[.int .i64 0, .string ⟨#[]⟩, .string ⟨#[]⟩, .slice none 0 0, .slice none 0 0] 25)).alloc (.cells #[.int .i64 0, .string d, .string ⟨#[]⟩, .slice none 0 0, .slice none 0 0] 25) = W0 at HS ⊢
     clear c5 c7 c9
     go_loopw [24] (fun vj wr => ∃ (j : Nat) (v3 : Value), vj = .int .i64 j ∧ j ≤ at_.length ∧ Aside0 (TB w wr 0 d ⟨#[]⟩ v3 (.slice none 0 0) ((at_.map (fun a => (⟨a.1, a.2⟩ : At))).take j) [])) (fun vj _ => at_.length - (intOf vj).toNat)
     case atStart => exact ⟨0, _, rfl, Nat.zero_le _, HS⟩
     case round =>
      obtain ⟨j, v3, rfl, hj, HB⟩ := hrel
      by_cases hlt : j < at_.length
      ·obtain ⟨ad, rfl, y0, y1, y2⟩ := at_A (Kd.C_below HC.out HB.out.below) (j : Int) (by omega) (by omega)
       have he : at_.getD ((j : Int)).toNat (⟨#[]⟩, ⟨#[]⟩) = at_[j] := by simp [List.getD_eq_getElem?_getD, List.getElem?_eq_getElem hlt]
       have hsn : (at_.map (fun a => (⟨a.1, a.2⟩ : At))).take (j + 1) = (at_.map (fun a => (⟨a.1, a.2⟩ : At))).take j ++ [(⟨at_[j].1, at_[j].2⟩ : At)] := by
        rw [List.take_succ_eq_append_getElem (by rw [List.length_map]; exact hlt), List.getElem_map]
       have hlen : ((at_.map (fun a => (⟨a.1, a.2⟩ : At))).take j).length ≤ 4398046510976 := by
        cases HF.out with
        | mk _ _ _ _ _ _ h3 h4 hk => rw [List.length_take, List.length_map]; omega
       rw [he] at y1 y2
       simp only [Int.toNat_natCast] at y0 y1 y2
       generalize at_[j] = q at y1 y2 hsn
       obtain ⟨q0, q1⟩ := q
       simp only at y1 y2 hsn
       have HSN := Aside0.mk hsn
       have HLN := Aside0.mk hlen
       have HWJ := Aside0.mk (show wrap64 ((j : Int) + 1) = ((j + 1 : Nat) : Int) from by
        have := HLN.out
        have : at_.length ≤ 4398046510976 := by cases HF.out with | mk _ _ _ _ _ _ h3 h4 hk => exact h3
        unfold wrap64; omega)
       clear he hsn hlen
       go_upto_region 9 with fail
       have hcp : (wr.alloc (.cells #[.string ⟨#[]⟩, .string q0, .string q1] 106)).heap[wr.heap.size]? = some (.cells #[.string ⟨#[]⟩, .string q0, .string q1] 106 (0, 0)) := heap_alloc_new wr _
       have HB8 := Aside0.mk (below_alloc (Below.refl wr.heap.size wr) (.cells #[.string ⟨#[]⟩, .string q0, .string q1] 106))
       generalize wr.alloc (.cells #[.string ⟨#[]⟩, .string q0, .string q1] 106) = w8 at hcp HB8 ⊢
       have e1 : w8.cell? ⟨wr.heap.size, 1, none⟩ = some (.string q0) := by rw [blk_cell hcp]; rfl
       have e2 : w8.cell? ⟨wr.heap.size, 2, none⟩ = some (.string q1) := by rw [blk_cell hcp]; rfl
       have HM := Aside0.mk (HB.out.moved HB8.out)
       have x3 : w8.cell? ⟨w.heap.size + 1, 3, none⟩ = some v3 := HM.out.cells.2.2.2.1
       clear hcp y0 y1 y2
       go_wp2_with ((with_reducible refine gate_builtin (b := .append) (xs := #[.tmp 29, .tmp 35]) rfl ?_); at_builtin; go_must (refine Kd.N_append k53 (w0 := w) w.heap.size rfl (.tmp 29) (.tmp 35) 22 53 (.agg #[.string ⟨#[]⟩, .string ⟨#[]⟩]) 32 rfl Try.underlying22 infoAt rfl (by decide) (by decide) v3 ((at_.map (fun a => (⟨a.1, a.2⟩ : At))).take j) (⟨q0, q1⟩ : At) [.string q0, .string q1] (fun k => w.heap.size + 2 ≤ k) (fun _ => False) rfl (by go_simp) (k53_mkF w8 _ ⟨q0, q1⟩) (fun _ h => h.elim) (fun k hk => Nat.le_trans HM.out.size hk) (Kd.N_mono HM.out.n3 (fun k hk => hk.1)) HM.out.below HM.out.below.size (by have := HLN.out; omega) ?_))
       intro v1 w3 ho hb hg hat
       rw [← HSN.out] at ho
       obtain ⟨L1, hL1⟩ : ∃ L1, L1 = ((at_.map (fun a => (⟨a.1, a.2⟩ : At))).take (j + 1)).length := ⟨_, rfl⟩
       obtain ⟨A1, k1, hv1⟩ := Kd.N_slice ho
       rw [← hL1] at hv1
       subst hv1
       clear hL1
       obtain ⟨g3, gf3, ht3⟩ := HB.out.attr HB8.out (p := ⟨q0, q1⟩) (by rw [← HSN.out]; exact ho) hb hg
       rw [← HSN.out] at ht3
       have HT3 := Aside0.mk ht3
       clear ho hb hg hat ht3
       go_wp2_with fail
       go_roundw
       case rel => exact ⟨j + 1, _, by rw [HWJ.out], hlt, HT3⟩
       case measure => rw [HWJ.out]; simp [intOf]; omega
      ·have hje : j = at_.length := by omega
       subst hje
       have hB := HB.out
       rw [List.take_of_length_le (by rw [List.length_map]; exact Nat.le_refl _)] at hB
       have HB0 := Aside0.mk hB
       clear hB HB hlt hj
       have c1 : wr.cell? ⟨i, 1, none⟩ = some (ptr (ks[0]?.map RT.id)) := Is.first (HD.out.below HB0.out.below) HR.out
       go_wp2_with fail
       go_loopg [6] ks.length (fun n v6 wr => ∃ (j : Nat) (v4 : Value), n = ks.length - j ∧ j ≤ ks.length ∧ v6 = ptr (ks[j]?.map RT.id) ∧ Aside0 (TB w wr 0 d ⟨#[]⟩ v3 v4 (at_.map (fun a => (⟨a.1, a.2⟩ : At))) ((ks.map RT.toT).take j)))
       case atStart => exact ⟨0, _, rfl, Nat.zero_le _, rfl, HB0⟩
       case round =>
        clear c1
        obtain ⟨j, v4, rfl, hj, rfl, HB⟩ := hrel
        by_cases hlt : j < ks.length
        ·rw [List.getElem?_eq_getElem hlt]
         have hkm : ks[j] ∈ ks := List.getElem_mem hlt
         have HNX := Aside0.mk (show ∀ wx, Below w.heap.size w wx → wx.cell? ⟨ks[j].id, 4, none⟩ = some (ptr (ks[j + 1]?.map RT.id)) from fun wx hb => Is.next (HD.out.below hb) HR.out (j := j) hlt)
         have HKC := Aside0.mk (fun wx hb => IH.out ks[j] hkm (some i) (HR.out.kid hkm) (by cases HF.out with | mk _ _ _ _ _ _ h3 h4 hk => exact hk _ hkm) wx (HD.out.below hb))
         have hsn : (ks.map RT.toT).take (j + 1) = (ks.map RT.toT).take j ++ [ks[j].toT] := by rw [List.take_succ_eq_append_getElem (by rw [List.length_map]; exact hlt), List.getElem_map]
         have hlen : ((ks.map RT.toT).take j).length ≤ 1000000000000 := by
          cases HF.out with
          | mk _ _ _ _ _ _ h3 h4 hk => rw [List.length_take, List.length_map]; omega
         have HSN := Aside0.mk hsn
         have HLN := Aside0.mk hlen
         simp only [Option.map_some, ptr_some] at HKC ⊢
         generalize ks[j].toT = u at HKC HSN
         generalize ks[j].id = x at HNX HKC ⊢
         clear hkm hsn hlen
         have x4 : wr.cell? ⟨w.heap.size + 1, 4, none⟩ = some v4 := HB.out.cells.2.2.2.2
         have HDW := Aside0.mk (below_drew (Below.refl wr.heap.size wr))
         have x4d : wr.drew.cell? ⟨w.heap.size + 1, 4, none⟩ = some v4 := (HB.out.moved HDW.out).cells.2.2.2.2
         go_upto_region 18 with fail
         go_region_law (first
          | (refine kids_step (w0 := w) (W := w2) rfl w.heap.size (.tmp 64) (.tmp 67) 23 (.agg #[.int .i64 0, .string ⟨#[]⟩, .string ⟨#[]⟩, .slice none 0 0, .slice none 0 0]) rfl Try.underlying23 infoNd rfl v4 ((ks.map RT.toT).take j) u [.int .i64 u.f0, .string u.f1, .string u.f2, .slice A3 u.f3.length c3, .slice A4 u.f4.length c4] (fun k => w.heap.size + 2 ≤ k ∧ some k ≠ v3.ownBlock) (fun k => wr.heap.size ≤ k) (by simp [Act.eval, Act.put]) (by simp [Act.eval, Act.put]) HFK.out HOK.out HFR.out HM2.out.n4 HM2.out.below HM2.out.below.size (by have := HLN.out; omega) ?_; intro v1 w3 ho hb hg hat; obtain ⟨L1, hL1⟩ : ∃ L1, L1 = ((ks.map RT.toT).take j ++ [u]).length := ⟨_, rfl⟩; obtain ⟨A1, k1, hv1⟩ := Kd.N_slice ho; rw [← hL1] at hv1; subst hv1; clear hL1; obtain ⟨g3, gf3, ht3⟩ := HB.out.kid HB2.out ho hb hg hat; rw [← HSN.out] at ht3; have HT3 := Aside0.mk ht3; have nx := HNX.out _ ht3.below; clear ho hb hg hat ht3)
          | (go_simp; go_at_call 66; refine (HKC.out _ (below_step HB.out.below HDW.out)).mono ?_; rintro e w2 ⟨A3, c3, A4, c4, rfl, m3, F3, m4, F4, hb2, _, _⟩; have HB2 := Aside0.mk (below_step HDW.out hb2); have HM2 := Aside0.mk (HB.out.moved HB2.out); have HFK := Aside0.mk (k25_mkF w2 (fun k => wr.heap.size ≤ k) u m3 F3 m4 F4); have HOK := Aside0.mk (show ∀ k, wr.heap.size ≤ k → (w.heap.size + 2 ≤ k ∧ some k ≠ v3.ownBlock) ∧ some k ≠ v4.ownBlock from fun k hk => ⟨⟨Nat.le_trans HB.out.size hk, fun e => by have := Kd.N_lt HB.out.n3 k e.symm; omega⟩, fun e => by have := Kd.N_lt HB.out.n4 k e.symm; omega⟩); have HFR := Aside0.mk (show ∀ k, w2.heap.size ≤ k → w.heap.size + 2 ≤ k ∧ some k ≠ v3.ownBlock from fun k hk => ⟨Nat.le_trans HM2.out.size hk, fun e => by have := Kd.N_lt HM2.out.n3 k e.symm; omega⟩); have x42 : w2.cell? ⟨w.heap.size + 1, 4, none⟩ = some v4 := HM2.out.cells.2.2.2.2; have x43 : (w2.alloc (.cells #[.int .i64 u.f0, .string u.f1, .string u.f2, .slice A3 u.f3.length c3, .slice A4 u.f4.length c4] 25)).cell? ⟨w.heap.size + 1, 4, none⟩ = some v4 := (HM2.out.moved (below_alloc (Below.refl _ _) _)).cells.2.2.2.2; clear m3 F3 m4 F4 hb2))
         all_goals (simp only [Exit.inBlock, Exit.then]; go_wp2_with fail; go_roundg (ks.length - (j + 1)))
         all_goals first
          | exact ⟨j + 1, _, rfl, hlt, rfl, HT3⟩
          | omega
          | trace_state
        ·have hje : j = ks.length := by omega
         subst hje
         rw [List.getElem?_eq_none (Nat.le_refl _)]
         simp only [Option.map_none, ptr_none]
         have hB := HB.out
         rw [List.take_of_length_le (by rw [List.length_map]; exact Nat.le_refl _), ← RT.toTL_map] at hB
         obtain ⟨n3, A3, c3, e3⟩ : ∃ n A c, v3 = .slice A n c := by obtain ⟨A, c, h⟩ := Kd.N_slice hB.n3; exact ⟨_, A, c, h⟩
         obtain ⟨n4, A4, c4, e4⟩ : ∃ n A c, v4 = .slice A n c := by obtain ⟨A, c, h⟩ := Kd.N_slice hB.n4; exact ⟨_, A, c, h⟩
         subst e4
         subst e3
         obtain ⟨a0, a1, a2, a3, a4, hr⟩ := hB.res
         obtain ⟨b0, b1, b2, b3, b4⟩ := hB.cells
         have r0 := blk_cell hr 0
         have r1 := blk_cell hr 1
         have r2 := blk_cell hr 2
         have r3 := blk_cell hr 3
         have r4 := blk_cell hr 4
         have f0 := blk_frozen hr 0
         have f1 := blk_frozen hr 1
         have f2 := blk_frozen hr 2
         have f3 := blk_frozen hr 3
         have f4 := blk_frozen hr 4
         have HBB := Aside0.mk hB
         clear hB hr HB
         go_wp2_with fail
         refine bodyPost_ret (v := .agg #[.int .i64 0, .string d, .string ⟨#[]⟩, .slice A3 n3 c3, .slice A4 n4 c4]) (by simp [results, Try.results66, go_sem, r0, r1, r2, r3, r4]) rfl ?_
         obtain ⟨het, hk4, q0, q1, q2, q3⟩ := HT.out
         have hte := told_end (t := t) (by rw [q0, q1, q2, q3, hk4]; exact HBB.out) (fun k hk _ => sets5 wr w.heap.size (.int .i64 0) (.string d) (.string ⟨#[]⟩) (.slice A3 n3 c3) (.slice A4 n4 c4) k (by omega)) (below_sets5 HBB.out.below (.int .i64 0) (.string d) (.string ⟨#[]⟩) (.slice A3 n3 c3) (.slice A4 n4 c4))
         rw [q0, q1, q2] at hte
         exact hte
    ·have b3 : (ty == 3) = false := beq_eq_false_iff_ne.2 t3
     have b1 : (ty == 1) = false := beq_eq_false_iff_ne.2 t1
     have b4 : (ty == 4) = false := beq_eq_false_iff_ne.2 t4
     have d3 := decide_eq_false t3
     have d1 := decide_eq_false t1
     have d4 := decide_eq_false t4
     have HT := Aside0.mk (⟨het, hk4, q0, q1, q2, q3⟩ : _ ∧ _ ∧ _ ∧ _ ∧ _ ∧ _)
     clear het hk4 q0 q1 q2 q3 t1 t4 t3
     go_enter Try.func66, Try.ntmps66
     go_upto_region 15 with fail
     have HB0 := Aside0.mk (TB.start w 3 ⟨#[]⟩ ⟨#[]⟩ (two_new w (.cells #[.int .i64 0, .string ⟨#[]⟩, .string ⟨#[]⟩, .slice none 0 0, .slice none 0 0] 25) (.cells #[.int .i64 3, .string ⟨#[]⟩, .string ⟨#[]⟩, .slice none 0 0, .slice none 0 0] 25)) ⟨_, _, _, _, _, two_old w _ _⟩ (below_alloc (below_alloc (Below.refl _ _) _) _))
     generalize (w.alloc (.cells #[.int .i64 0, .string ⟨#[]⟩, .string ⟨#[]⟩, .slice none 0 0, .slice none 0 0] 25)).alloc (.cells #[.int .i64 3, .string ⟨#[]⟩, .string ⟨#[]⟩, .slice none 0 0, .slice none 0 0] 25) = W0 at HB0 ⊢
     clear c5 c7 c9
     have c1 : W0.cell? ⟨i, 1, none⟩ = some (ptr (ks[0]?.map RT.id)) := Is.first (HD.out.below HB0.out.below) HR.out
     go_wp2_with fail
     go_loopg [6] ks.length (fun n v6 wr => ∃ (j : Nat) (v4 : Value), n = ks.length - j ∧ j ≤ ks.length ∧ v6 = ptr (ks[j]?.map RT.id) ∧ Aside0 (TB w wr 3 ⟨#[]⟩ ⟨#[]⟩ (.slice none 0 0) v4 [] ((ks.map RT.toT).take j)))
     case atStart => exact ⟨0, _, rfl, Nat.zero_le _, rfl, HB0⟩
     case round =>
      clear c1
      obtain ⟨j, v4, rfl, hj, rfl, HB⟩ := hrel
      by_cases hlt : j < ks.length
      ·rw [List.getElem?_eq_getElem hlt]
       have hkm : ks[j] ∈ ks := List.getElem_mem hlt
       have HNX := Aside0.mk (show ∀ wx, Below w.heap.size w wx → wx.cell? ⟨ks[j].id, 4, none⟩ = some (ptr (ks[j + 1]?.map RT.id)) from fun wx hb => Is.next (HD.out.below hb) HR.out (j := j) hlt)
       have HKC := Aside0.mk (fun wx hb => IH.out ks[j] hkm (some i) (HR.out.kid hkm) (by cases HF.out with | mk _ _ _ _ _ _ h3 h4 hk => exact hk _ hkm) wx (HD.out.below hb))
       have hsn : (ks.map RT.toT).take (j + 1) = (ks.map RT.toT).take j ++ [ks[j].toT] := by rw [List.take_succ_eq_append_getElem (by rw [List.length_map]; exact hlt), List.getElem_map]
       have hlen : ((ks.map RT.toT).take j).length ≤ 1000000000000 := by
        cases HF.out with
        | mk _ _ _ _ _ _ h3 h4 hk => rw [List.length_take, List.length_map]; omega
       have HSN := Aside0.mk hsn
       have HLN := Aside0.mk hlen
       simp only [Option.map_some, ptr_some] at HKC ⊢
       generalize ks[j].toT = u at HKC HSN
       generalize ks[j].id = x at HNX HKC ⊢
       clear hkm hsn hlen
       have x4 : wr.cell? ⟨w.heap.size + 1, 4, none⟩ = some v4 := HB.out.cells.2.2.2.2
       have HDW := Aside0.mk (below_drew (Below.refl wr.heap.size wr))
       have x4d : wr.drew.cell? ⟨w.heap.size + 1, 4, none⟩ = some v4 := (HB.out.moved HDW.out).cells.2.2.2.2
       go_upto_region 18 with fail
       go_region_law (first
        | (refine kids_step (w0 := w) (W := w2) rfl w.heap.size (.tmp 64) (.tmp 67) 23 (.agg #[.int .i64 0, .string ⟨#[]⟩, .string ⟨#[]⟩, .slice none 0 0, .slice none 0 0]) rfl Try.underlying23 infoNd rfl v4 ((ks.map RT.toT).take j) u [.int .i64 u.f0, .string u.f1, .string u.f2, .slice A3 u.f3.length c3, .slice A4 u.f4.length c4] (fun k => w.heap.size + 2 ≤ k ∧ some k ≠ (Value.slice none 0 0).ownBlock) (fun k => wr.heap.size ≤ k) (by simp [Act.eval, Act.put]) (by simp [Act.eval, Act.put]) HFK.out HOK.out HFR.out HM2.out.n4 HM2.out.below HM2.out.below.size (by have := HLN.out; omega) ?_; intro v1 w3 ho hb hg hat; obtain ⟨L1, hL1⟩ : ∃ L1, L1 = ((ks.map RT.toT).take j ++ [u]).length := ⟨_, rfl⟩; obtain ⟨A1, k1, hv1⟩ := Kd.N_slice ho; rw [← hL1] at hv1; subst hv1; clear hL1; obtain ⟨g3, gf3, ht3⟩ := HB.out.kid HB2.out ho hb hg hat; rw [← HSN.out] at ht3; have HT3 := Aside0.mk ht3; have nx := HNX.out _ ht3.below; clear ho hb hg hat ht3)
        | (go_simp; go_at_call 66; refine (HKC.out _ (below_step HB.out.below HDW.out)).mono ?_; rintro e w2 ⟨A3, c3, A4, c4, rfl, m3, F3, m4, F4, hb2, _, _⟩; have HB2 := Aside0.mk (below_step HDW.out hb2); have HM2 := Aside0.mk (HB.out.moved HB2.out); have HFK := Aside0.mk (k25_mkF w2 (fun k => wr.heap.size ≤ k) u m3 F3 m4 F4); have HOK := Aside0.mk (show ∀ k, wr.heap.size ≤ k → (w.heap.size + 2 ≤ k ∧ some k ≠ (Value.slice none 0 0).ownBlock) ∧ some k ≠ v4.ownBlock from fun k hk => ⟨⟨Nat.le_trans HB.out.size hk, fun e => by have := Kd.N_lt HB.out.n3 k e.symm; omega⟩, fun e => by have := Kd.N_lt HB.out.n4 k e.symm; omega⟩); have HFR := Aside0.mk (show ∀ k, w2.heap.size ≤ k → w.heap.size + 2 ≤ k ∧ some k ≠ (Value.slice none 0 0).ownBlock from fun k hk => ⟨Nat.le_trans HM2.out.size hk, fun e => by have := Kd.N_lt HM2.out.n3 k e.symm; omega⟩); have x42 : w2.cell? ⟨w.heap.size + 1, 4, none⟩ = some v4 := HM2.out.cells.2.2.2.2; have x43 : (w2.alloc (.cells #[.int .i64 u.f0, .string u.f1, .string u.f2, .slice A3 u.f3.length c3, .slice A4 u.f4.length c4] 25)).cell? ⟨w.heap.size + 1, 4, none⟩ = some v4 := (HM2.out.moved (below_alloc (Below.refl _ _) _)).cells.2.2.2.2; clear m3 F3 m4 F4 hb2))
       all_goals (simp only [Exit.inBlock, Exit.then]; go_wp2_with fail; go_roundg (ks.length - (j + 1)))
       all_goals first
        | exact ⟨j + 1, _, rfl, hlt, rfl, HT3⟩
        | omega
        | trace_state
      ·have hje : j = ks.length := by omega
       subst hje
       rw [List.getElem?_eq_none (Nat.le_refl _)]
       simp only [Option.map_none, ptr_none]
       have hB := HB.out
       rw [List.take_of_length_le (by rw [List.length_map]; exact Nat.le_refl _), ← RT.toTL_map] at hB
       have e3 : True := trivial
       obtain ⟨n4, A4, c4, e4⟩ : ∃ n A c, v4 = .slice A n c := by obtain ⟨A, c, h⟩ := Kd.N_slice hB.n4; exact ⟨_, A, c, h⟩
       subst e4
       clear e3
       obtain ⟨a0, a1, a2, a3, a4, hr⟩ := hB.res
       obtain ⟨b0, b1, b2, b3, b4⟩ := hB.cells
       have r0 := blk_cell hr 0
       have r1 := blk_cell hr 1
       have r2 := blk_cell hr 2
       have r3 := blk_cell hr 3
       have r4 := blk_cell hr 4
       have f0 := blk_frozen hr 0
       have f1 := blk_frozen hr 1
       have f2 := blk_frozen hr 2
       have f3 := blk_frozen hr 3
       have f4 := blk_frozen hr 4
       have HBB := Aside0.mk hB
       clear hB hr HB
       go_wp2_with fail
       refine bodyPost_ret (v := .agg #[.int .i64 3, .string ⟨#[]⟩, .string ⟨#[]⟩, .slice none 0 0, .slice A4 n4 c4]) (by simp [results, Try.results66, go_sem, r0, r1, r2, r3, r4]) rfl ?_
       obtain ⟨het, hk4, q0, q1, q2, q3⟩ := HT.out
       have hte := told_end (t := t) (by rw [q0, q1, q2, q3, hk4]; exact HBB.out) (fun k hk _ => sets5 wr w.heap.size (.int .i64 3) (.string ⟨#[]⟩) (.string ⟨#[]⟩) (.slice none 0 0) (.slice A4 n4 c4) k (by omega)) (below_sets5 HBB.out.below (.int .i64 3) (.string ⟨#[]⟩) (.string ⟨#[]⟩) (.slice none 0 0) (.slice A4 n4 c4))
       rw [q0, q1, q2] at hte
       exact hte
end Go.Proofs.Ytmfjbljdbkmkgaa.Dom

/- Trees of nodes whose children change at one place: what a table holds of them. Plain facts. -/
namespace Go.Proofs.Ytmfjbljdbkmkgaa.Dom
open Go.RowKit Go.Proofs.YtmfjbljdbkmkgaaW.PrintWords Go.Proofs.YtmfjbljdbkmkgaaW.PrintLast Go.Proofs.YtmfjbljdbkmkgaaW.PrintMore Go.Proofs.Ytmfjbljdbkmkgaa.PDom
set_option linter.unusedVariables false
set_option linter.unusedSimpArgs false

theorem Is.congr {D D' : Tab} (r : RT) : ∀ {p : Option Nat}, Is D p r → (∀ b ∈ r.pre, D' b = D b) → Is D' p r := by
 induction r using RT.induct with
 | h i t a d at_ ks ih =>
  intro p h he
  have hroot : D i = some _ := h.root
  refine Is.mk p i t a d at_ ks ((he i (by simp [RT.pre])).trans hroot) (fun k hk => ih k hk (h.kid hk) (fun b hb => he b ?_))
  show b ∈ i :: RT.preL ks
  exact List.mem_cons_of_mem _ (RT.mem_preL.2 ⟨k, hk, hb⟩)
/-- A tree whose root has another parent. -/
theorem Is.reroot {D D' : Tab} {r : RT} {p q : Option Nat} (h : Is D p r) (hr : D' r.id = some (r.info q)) (he : ∀ b ∈ RT.preL r.kids, D' b = D b) : Is D' q r := by
 cases r with
 | node i t a d at_ ks =>
  refine Is.mk q i t a d at_ ks hr (fun k hk => (h.kid (r := .node i t a d at_ ks) hk).congr k (fun b hb => he b (RT.mem_preL.2 ⟨k, hk, hb⟩)))
/-- The children of the node at a place, changed. -/
def RT.mapAt (f : List RT → List RT) : RT → List Int → RT
 | .node i t a d at_ ks, [] => .node i t a d at_ (f ks)
 | .node i t a d at_ ks, j :: l => .node i t a d at_ (match ks[j.toNat]? with | some k => ks.set j.toNat (RT.mapAt f k l) | none => ks)
theorem RT.mapAt_id (f : List RT → List RT) (r : RT) (l : List Int) : (r.mapAt f l).id = r.id := by
 cases r
 cases l <;> simp [RT.mapAt, RT.id]
theorem RT.mapAt_cons (f : List RT → List RT) (i : Nat) (t a : Int) (d : ByteArray) (at_ : List (ByteArray × ByteArray)) (ks : List RT) (j : Int) (l : List Int) {k : RT} (hk : ks[j.toNat]? = some k) :
  RT.mapAt f (.node i t a d at_ ks) (j :: l) = .node i t a d at_ (ks.set j.toNat (k.mapAt f l)) := by
 simp only [RT.mapAt, hk]
theorem RT.sub_pre (l : List Int) : ∀ (r y : RT), r.at_ l = some y → ∀ b ∈ y.pre, b ∈ r.pre := by
 induction l with
 | nil =>
  intro r y h b hb
  have : r = y := by simpa [RT.at_] using h
  rw [this]; exact hb
 | cons j l ih =>
  intro r y h b hb
  simp only [RT.at_] at h
  split at h
  ·obtain ⟨k, hk, h2⟩ := Option.bind_eq_some_iff.1 h
   have hkm : k ∈ r.kids := List.mem_of_getElem? hk
   have := ih k y h2 b hb
   cases r with
   | node i t a d at_ ks =>
    show b ∈ i :: RT.preL ks
    exact List.mem_cons_of_mem _ (RT.mem_preL.2 ⟨k, hkm, this⟩)
  ·cases h
theorem map_set {α β : Type} (f : α → β) (l : List α) (j : Nat) (x : α) {y : α} (hy : l[j]? = some y) (h : f x = f y) : (l.set j x).map f = l.map f := by
 rw [List.map_set, h]
 apply List.ext_getElem?
 intro m
 by_cases hm : m = j
 ·subst hm
  have hlt := (List.getElem?_eq_some_iff.1 hy).1
  rw [List.getElem?_set_self (by rw [List.length_map]; exact hlt), List.getElem?_map, hy]
  rfl
 ·rw [List.getElem?_set_ne (fun e => hm e.symm)]
theorem nodup_kid {i : Nat} {ks : List RT} {k k' : RT} {j : Nat} (h : (i :: RT.preL ks).Nodup) (hk : ks[j]? = some k) : i ∉ k.pre ∧ k.pre.Nodup ∧ ∀ m, m ≠ j → ks[m]? = some k' → ∀ b ∈ k'.pre, b ∉ k.pre := by
 obtain ⟨h1, h2⟩ := List.nodup_cons.1 h
 have hlt := (List.getElem?_eq_some_iff.1 hk).1
 have hs : ks = ks.take j ++ k :: ks.drop (j + 1) := by
  have := (List.getElem?_eq_some_iff.1 hk).2
  rw [← this]
  exact (List.take_append_drop j ks).symm.trans (by rw [List.drop_eq_getElem_cons hlt])
 have hp : RT.preL ks = RT.preL (ks.take j) ++ (k.pre ++ RT.preL (ks.drop (j + 1))) := by
  conv => lhs; rw [hs]
  rw [RT.preL_append]
  rfl
 rw [hp] at h1 h2
 rw [List.nodup_append] at h2
 obtain ⟨n1, n2, n3⟩ := h2
 rw [List.nodup_append] at n2
 obtain ⟨m1, m2, m3⟩ := n2
 refine ⟨fun hb => h1 (by simp [hb]), m1, fun m hm hk' b hb hbk => ?_⟩
 rcases Nat.lt_or_gt_of_ne hm with hlt2 | hgt
 ·refine n3 b (RT.mem_preL.2 ⟨k', ?_, hb⟩) b (by simp [hbk]) rfl
  refine List.mem_of_getElem? (i := m) ?_
  rw [List.getElem?_take, if_pos hlt2, hk']
 ·refine m3 b hbk b (RT.mem_preL.2 ⟨k', ?_, hb⟩) rfl
  refine List.mem_of_getElem? (i := m - (j + 1)) ?_
  rw [List.getElem?_drop, show j + 1 + (m - (j + 1)) = m by omega, hk']
theorem Is.mapAt {D D' : Tab} (f : List RT → List RT) (l : List Int) : ∀ (r up : RT) {p : Option Nat}, Is D p r → r.at_ l = some up → r.pre.Nodup → (∃ q, D' up.id = some { up.info q with kids := (f up.kids).map RT.id } ∧ Is D q up) → (∀ k ∈ f up.kids, Is D' (some up.id) k) →
  (∀ b ∈ r.pre, b ≠ up.id → b ∉ RT.preL up.kids → D' b = D b) → Is D' p (r.mapAt f l) := by
 induction l with
 | nil =>
  intro r up p h hu hnd hD hK hO
  obtain rfl : r = up := by simpa [RT.at_] using hu
  obtain ⟨q, hD, hq⟩ := hD
  have hpq : q = p := by
   have h1 := h.root
   have h2 := hq.root
   rw [h1] at h2
   have := congrArg Info.parent (Option.some.inj h2)
   cases r
   exact this.symm
  subst hpq
  cases r with
  | node i t a d at_ ks =>
   simp only [RT.mapAt]
   exact Is.mk q i t a d at_ (f ks) hD hK
 | cons j l ih =>
  intro r up p h hu hnd hD hK hO
  cases r with
  | node i t a d at_ ks =>
   simp only [RT.at_] at hu
   split at hu
   case isFalse => cases hu
   obtain ⟨k, hk, hu⟩ := Option.bind_eq_some_iff.1 hu
   have hk' : ks[j.toNat]? = some k := hk
   rw [RT.mapAt_cons f i t a d at_ ks j l hk']
   have hkm : k ∈ ks := List.mem_of_getElem? hk'
   have hnd' : (i :: RT.preL ks).Nodup := hnd
   obtain ⟨d1, d2, _⟩ := nodup_kid (k' := k) hnd' hk'
   have hsub := RT.sub_pre l k up hu
   have upk : up.id ∈ k.pre := hsub _ (RT.id_mem up)
   have kidsk : ∀ b ∈ RT.preL up.kids, b ∈ k.pre := fun b hb => hsub b (by cases up; exact List.mem_cons_of_mem _ hb)
   have hroot : D i = some _ := h.root
   refine Is.mk p i t a d at_ _ ?_ ?_
   ·rw [hO i (by simp [RT.pre]) (fun e => d1 (by rw [e]; exact upk)) (fun hb => d1 (kidsk _ hb)), hroot, map_set RT.id ks _ _ hk' (RT.mapAt_id f k l)]
    rfl
   ·intro x hx
    obtain ⟨m, hm, rfl⟩ := List.getElem_of_mem hx
    by_cases hmj : m = j.toNat
    ·subst hmj
     rw [List.getElem_set_self]
     refine ih k up (h.kid hkm) hu d2 hD hK (fun b hb h1 h2 => hO b ?_ h1 h2)
     show b ∈ i :: RT.preL ks
     exact List.mem_cons_of_mem _ (RT.mem_preL.2 ⟨k, hkm, hb⟩)
    ·rw [List.getElem_set_ne (fun e => hmj e.symm)]
     have hml : m < ks.length := by simpa using hm
     have hks : ks[m]? = some ks[m] := List.getElem?_eq_getElem hml
     obtain ⟨_, _, d3⟩ := nodup_kid (k' := ks[m]) hnd' hk'
     have hd := d3 m hmj hks
     refine (h.kid (r := .node i t a d at_ ks) (List.getElem_mem hml)).congr _ (fun b hb => hO b ?_ ?_ ?_)
     ·show b ∈ i :: RT.preL ks
      exact List.mem_cons_of_mem _ (RT.mem_preL.2 ⟨_, List.getElem_mem hml, hb⟩)
     ·exact fun e => hd b hb (by rw [e]; exact upk)
     ·exact fun h2 => hd b hb (kidsk b h2)
/-- A node that may have children. -/
def Opens (r : RT) : Prop := r.ty ≠ 1 ∧ r.ty ≠ 4
end Go.Proofs.Ytmfjbljdbkmkgaa.Dom

/- A subtree taken out of a tree, and a tree put in. Plain facts on tables. -/
namespace Go.Proofs.Ytmfjbljdbkmkgaa.Dom
open Go.RowKit Go.Proofs.YtmfjbljdbkmkgaaW.PrintWords Go.Proofs.YtmfjbljdbkmkgaaW.PrintLast Go.Proofs.YtmfjbljdbkmkgaaW.PrintMore Go.Proofs.Ytmfjbljdbkmkgaa.PDom
set_option linter.unusedVariables false
set_option linter.unusedSimpArgs false

theorem Is.up {D : Tab} {r up : RT} {p : Option Nat} {l : List Int} (h : Is D p r) (hu : r.at_ l = some up) : ∃ q, Is D q up := by
 induction l generalizing r p with
 | nil =>
  have : r = up := by simpa [RT.at_] using hu
  exact ⟨p, this ▸ h⟩
 | cons j l ih =>
  simp only [RT.at_] at hu
  split at hu
  ·obtain ⟨k, hk, h2⟩ := Option.bind_eq_some_iff.1 hu
   exact ih (h.kid (List.mem_of_getElem? hk)) h2
  ·cases hu
theorem info_k (p : Option Nat) (r : RT) : (r.info p).kids = r.kids.map RT.id := by cases r; rfl
theorem info_p (p : Option Nat) (r : RT) : (r.info p).parent = p := by cases r; rfl
theorem info_set (p q : Option Nat) (r : RT) : { r.info p with parent := q } = r.info q := by cases r; rfl
def RT.withKids : RT → List RT → RT
 | .node i t a d at_ _, ks => .node i t a d at_ ks
/-- What a node's children have for themselves. -/
theorem kids_apart {D : Tab} (wf : WF D) {up x : RT} {q : Option Nat} (hu : Is D q up) {k1 k2 : List RT} (hk : up.kids = k1 ++ x :: k2) :
  (∀ k ∈ k1 ++ k2, ∀ b ∈ k.pre, b ≠ up.id ∧ b ≠ x.id) ∧ (∀ b ∈ RT.preL x.kids, b ≠ up.id ∧ b ≠ x.id) ∧ x.id ≠ up.id ∧ x.id ∈ RT.preL up.kids := by
 have hnd := Is.nodup wf up hu
 cases up with
 | node i t a d at_ ks =>
  obtain rfl : ks = k1 ++ x :: k2 := hk
  obtain ⟨n1, n2⟩ := List.nodup_cons.1 (show (i :: RT.preL (k1 ++ x :: k2)).Nodup from hnd)
  have hp : RT.preL (k1 ++ x :: k2) = RT.preL k1 ++ (x.pre ++ RT.preL k2) := by rw [RT.preL_append]; rfl
  rw [hp] at n1 n2
  obtain ⟨m1, m2, m3⟩ := List.nodup_append.1 n2
  obtain ⟨o1, o2, o3⟩ := List.nodup_append.1 m2
  have hxm := RT.id_mem x
  refine ⟨fun k hkm b hb => ⟨fun e => n1 (by rw [← show b = i from e]; rcases List.mem_append.1 hkm with h | h; exact List.mem_append_left _ (RT.mem_preL.2 ⟨k, h, hb⟩); exact List.mem_append_right _ (List.mem_append_right _ (RT.mem_preL.2 ⟨k, h, hb⟩))), fun e => ?_⟩, fun b hb => ⟨fun e => n1 (by rw [← show b = i from e]; exact List.mem_append_right _ (List.mem_append_left _ (by cases x; exact List.mem_cons_of_mem _ hb))), fun e => ?_⟩, fun e => n1 (by rw [← show x.id = i from e]; exact List.mem_append_right _ (List.mem_append_left _ hxm)), ?_⟩
  ·rcases List.mem_append.1 hkm with h | h
   ·exact m3 b (RT.mem_preL.2 ⟨k, h, hb⟩) x.id (List.mem_append_left _ hxm) e
   ·exact o3 x.id hxm b (RT.mem_preL.2 ⟨k, h, hb⟩) e.symm
  ·cases x with
   | node i2 t2 a2 d2 at2 ks2 =>
    obtain ⟨p1, _⟩ := List.nodup_cons.1 (show (i2 :: RT.preL ks2).Nodup from o1)
    exact p1 (by rw [← show b = i2 from e]; exact hb)
  ·show x.id ∈ RT.preL (k1 ++ x :: k2)
   rw [hp]
   exact List.mem_append_right _ (List.mem_append_left _ hxm)
theorem rt_remove {D : Tab} (wf : WF D) {r up x : RT} {l : List Int} (hr : Is D none r) (hu : r.at_ l = some up) {k1 k2 : List RT} (hk : up.kids = k1 ++ x :: k2) {q : Option Nat} (hq : Is D q up) :
  Is (relink D up.id x.id (up.info q) (x.info (some up.id)) (k1.map RT.id ++ k2.map RT.id) none) none (r.mapAt (fun _ => k1 ++ k2) l) ∧ Is (relink D up.id x.id (up.info q) (x.info (some up.id)) (k1.map RT.id ++ k2.map RT.id) none) none x := by
 obtain ⟨a1, a2, a3, a4⟩ := kids_apart wf hq hk
 have hxm : x ∈ up.kids := by rw [hk]; simp
 have hx := hq.kid hxm
 have hne : up.id ≠ x.id := fun e => a3 e.symm
 refine ⟨hr.mapAt (fun _ => k1 ++ k2) l r up hu (Is.nodup wf r hr) ⟨q, ?_, hq⟩ (fun k hkm => ?_) (fun b hb h1 h2 => relink_o h1 (fun e => h2 (e ▸ a4))), ?_⟩
 ·rw [relink_n hne, List.map_append]
 ·refine (hq.kid (k := k) (by rw [hk]; rcases List.mem_append.1 hkm with h | h <;> simp [h])).congr k (fun b hb => ?_)
  exact relink_o (a1 k hkm b hb).1 (a1 k hkm b hb).2
 ·refine hx.reroot ?_ (fun b hb => relink_o (a2 b hb).1 (a2 b hb).2)
  rw [relink_c, info_set]
end Go.Proofs.Ytmfjbljdbkmkgaa.Dom

/- dom.ReplaceNode: its contract over a tree. -/
namespace Go.Proofs.Ytmfjbljdbkmkgaa.Dom
open Go.RowKit Go.Proofs.YtmfjbljdbkmkgaaW.PrintWords Go.Proofs.YtmfjbljdbkmkgaaW.PrintLast Go.Proofs.YtmfjbljdbkmkgaaW.PrintMore Go.Proofs.Ytmfjbljdbkmkgaa.PDom
set_option linter.unusedVariables false
set_option linter.unusedSimpArgs false

theorem Is.selfless {D : Tab} (wf : WF D) {q : Option Nat} {up : RT} (h : Is D q up) : q ≠ some up.id := fun e => by
 subst e
 obtain ⟨ip, h1, h2⟩ := wf.up h.root (info_p _ _)
 rw [h.root] at h1
 obtain rfl := Option.some.inj h1
 rw [info_k] at h2
 obtain ⟨k, hk, hkid⟩ := List.mem_map.1 h2
 exact h.proper hk (RT.id_mem k) hkid
theorem Is.parent_eq {D : Tab} {p q : Option Nat} {r y : RT} (h : Is D p r) (h' : Is D q y) (e : r.id = y.id) : p = q := by
 have h1 := h.root
 have h2 := h'.root
 rw [e, h2] at h1
 have := congrArg Info.parent (Option.some.inj h1)
 rw [info_p, info_p] at this
 exact this.symm
/-- Which blocks a change leaves in the table: the same. -/
theorem relink_same {D : Tab} {n c : Nat} {i ic : Info} {K : List Nat} {pc : Option Nat} (hn : D n ≠ none) (hc : D c ≠ none) (k : Nat) : relink D n c i ic K pc k = none ↔ D k = none := by
 unfold relink put
 by_cases h1 : k = c
 ·subst h1; simp [hc]
 ·by_cases h2 : k = n
  ·subst h2; simp [h1, hn]
  ·simp [h1, h2]
theorem Only.trans' {D D' : Tab} {w w' w'' : World} (h : Only D w w') (h' : Only D' w' w'') (hD : ∀ k, D k = none ↔ D' k = none) : Only D w w'' := h.trans h' (fun k hk _ => (hD k).1 hk)
end Go.Proofs.Ytmfjbljdbkmkgaa.Dom

/- The steps of a tree surgery, one by one, over trees: InsertBefore, RemoveChild, AppendChild. -/
namespace Go.Proofs.Ytmfjbljdbkmkgaa.Dom
open Go.RowKit Go.Proofs.YtmfjbljdbkmkgaaW.PrintWords Go.Proofs.YtmfjbljdbkmkgaaW.PrintLast Go.Proofs.YtmfjbljdbkmkgaaW.PrintMore Go.Proofs.Ytmfjbljdbkmkgaa.PDom
set_option linter.unusedVariables false
set_option linter.unusedSimpArgs false

theorem Is.below_root {D : Tab} (r : RT) : ∀ {p : Option Nat}, Is D p r → ∀ b ∈ RT.preL r.kids, ∃ q i, D b = some i ∧ i.parent = some q := by
 induction r using RT.induct with
 | h i t a d at_ ks ih =>
  intro p h b hb
  obtain ⟨k, hk, hbk⟩ := RT.mem_preL.1 hb
  have hkd := h.kid (show k ∈ (RT.node i t a d at_ ks).kids from hk)
  by_cases e : b = k.id
  ·subst e
   exact ⟨_, _, hkd.root, info_p _ _⟩
  ·refine ih k hk hkd b ?_
   cases k with
   | node i2 t2 a2 d2 at2 ks2 =>
    simp only [RT.pre, List.mem_cons] at hbk
    rcases hbk with hbk | hbk
    ·exact absurd hbk e
    ·exact hbk
/-- A root that is not this tree's own stands outside of it. -/
theorem Is.outside {D : Tab} {p : Option Nat} {r x : RT} (h : Is D p r) (hx : Is D none x) (hne : x.id ≠ r.id) : x.id ∉ r.pre := fun hm => by
 have hb : x.id ∈ RT.preL r.kids := by
  cases r with
  | node i t a d at_ ks =>
   simp only [RT.pre, List.mem_cons] at hm
   exact hm.resolve_left hne
 obtain ⟨q, i, h1, h2⟩ := h.below_root r _ hb
 rw [hx.root] at h1
 obtain rfl := Option.some.inj h1
 rw [info_p] at h2
 cases h2
theorem remove_step {w : World} {D : Tab} (hdom : Dom w D) {r x up : RT} {l : List Int} {k1 k2 : List RT} (hr : Is D none r) (hu : r.at_ l = some up) (hk : up.kids = k1 ++ x :: k2) :
  ∃ D1, (Calls Try.prog 98 #[ptr (some up.id), ptr (some x.id)] w fun e w1 => e = .returned (.tuple #[]) ∧ Dom w1 D1 ∧ Only D w w1) ∧
   Is D1 none (r.mapAt (fun _ => k1 ++ k2) l) ∧ Is D1 none x ∧ x.id ∉ (r.mapAt (fun _ => k1 ++ k2) l).pre ∧ (∀ k, D k = none ↔ D1 k = none) := by
 obtain ⟨q, hq⟩ := hr.up hu
 have hself := hq.selfless hdom.wf
 have hxm : x ∈ up.kids := by rw [hk]; simp
 have hx := hq.kid hxm
 obtain ⟨h1, h2⟩ := rt_remove hdom.wf hr hu hk hq
 refine ⟨_, remove_calls w D up.id x.id (up.info q) (x.info (some up.id)) (k1.map RT.id) (k2.map RT.id) hdom hq.root hx.root (by rw [info_k, hk, List.map_append]; rfl) (by rw [info_p]; exact hself), h1, h2, h1.outside h2 ?_, fun k => (relink_same (by rw [hq.root]; simp) (by rw [hx.root]; simp) k).symm⟩
 rw [RT.mapAt_id]
 intro e
 have := Is.parent_eq hx hr e
 cases this
/-- A child's place, below its parent's. -/
theorem at_kid {l : List Int} {k1 k2 : List RT} {y : RT} : ∀ {r up : RT}, r.at_ l = some up → up.kids = k1 ++ y :: k2 → r.at_ (l ++ [(k1.length : Int)]) = some y := by
 induction l with
 | nil =>
  intro r up h hk
  obtain rfl : r = up := by simpa [RT.at_] using h
  cases r with
  | node i t a d at_ ks =>
   have hk' : ks = k1 ++ y :: k2 := hk
   simp [RT.at_, RT.kids, hk']
 | cons j l ih =>
  intro r up h hk
  cases r with
  | node i t a d at_ ks =>
   simp only [RT.at_, List.cons_append, show (RT.node i t a d at_ ks).kids = ks from rfl] at h ⊢
   split at h
   ·rename_i h0
    rw [if_pos h0]
    cases e : ks[j.toNat]? with
    | none => rw [e] at h; simp at h
    | some k =>
     rw [e] at h
     exact ih h hk
   ·cases h
theorem mapAt_kid {f : List RT → List RT} {l : List Int} {k1 k2 : List RT} {y : RT} : ∀ {r up : RT}, r.at_ l = some up → up.kids = k1 ++ y :: k2 → r.mapAt f (l ++ [(k1.length : Int)]) = r.mapAt (fun _ => k1 ++ y.withKids (f y.kids) :: k2) l := by
 induction l with
 | nil =>
  intro r up h hk
  obtain rfl : r = up := by simpa [RT.at_] using h
  cases r with
  | node i t a d at_ ks =>
   have hk' : ks = k1 ++ y :: k2 := hk
   subst hk'
   cases y
   simp [RT.mapAt, RT.withKids, RT.kids]
 | cons j l ih =>
  intro r up h hk
  cases r with
  | node i t a d at_ ks =>
   simp only [RT.at_, List.cons_append, show (RT.node i t a d at_ ks).kids = ks from rfl] at h ⊢
   split at h
   ·cases e : ks[j.toNat]? with
    | none => rw [e] at h; simp at h
    | some k =>
     rw [e] at h
     rw [RT.mapAt_cons _ _ _ _ _ _ _ _ _ e, RT.mapAt_cons _ _ _ _ _ _ _ _ _ e, ih h hk]
   ·cases h
end Go.Proofs.Ytmfjbljdbkmkgaa.Dom

/- The guards of the laws on trees always tell something: zzFits2, name29, size29 right29, tree29. Plain facts. -/
namespace Go.Proofs.Ytmfjbljdbkmkgaa.PDom
open Go.RowKit Go.Proofs.YtmfjbljdbkmkgaaW.PrintWords Go.Proofs.YtmfjbljdbkmkgaaW.PrintLast Go.Proofs.YtmfjbljdbkmkgaaW.PrintMore Go.Proofs.Ytmfjbljdbkmkgaa.Dom
set_option linter.unusedVariables false
set_option linter.unusedSimpArgs false

theorem up {α : Type} {g : Nat → Option α} (hm : ∀ k, LeO (g k) (g (k + 1))) {k m : Nat} (h : k ≤ m) {r : α} (hk : g k = some r) : g m = some r := by
 induction h with
 | refl => exact hk
 | step _ ih => exact hm _ _ ih

theorem succ_wrap (j : Nat) (h : j ≤ 4611686018427387904) : wrap64 ((j : Int) + 1) = ((j + 1 : Nat) : Int) := by
 rw [wrap_same (by omega) (by omega)]
 omega

theorem fits3_loop (l : List S53) (hl : l.length ≤ 4611686018427387904) : ∀ (n j k : Nat), j + n = l.length → n < k → ∃ b, laws_zzFits3.l0 k l (l.length : Int) (j : Int) = some b
 | 0, j, k + 1, h, hk => by
  rw [laws_zzFits3.l0, if_neg (by omega)]
  exact ⟨_, rfl⟩
 | n + 1, j, k + 1, h, hk => by
  obtain ⟨b, hb⟩ := fits3_loop l hl n (j + 1) k (by omega) (by omega)
  rw [laws_zzFits3.l0, if_pos (by omega), if_pos (by omega), if_pos (by omega), succ_wrap j (by omega), hb]
  obtain ⟨c, hc⟩ : ∃ c, laws_zzFits4.f (rd_T53 l (j : Int)).f0 (rd_T53 l (j : Int)).f1 = some c := by
   unfold laws_zzFits4.f
   repeat' split
   all_goals exact ⟨_, rfl⟩
  rw [hc, Option.bind_some]
  split
  ·exact ⟨_, rfl⟩
  ·exact ⟨_, rfl⟩
 | n, j, 0, h, hk => absurd hk (Nat.not_lt_zero _)
theorem fits2_tot (f0 : Int) (f1 f2 : ByteArray) (f3 : List S53) (f4 : List S25) (hl : f3.length ≤ 4611686018427387904) (k : Nat) (hk : f3.length < k) : ∃ b, laws_zzFits2.f k f0 f1 f2 f3 f4 = some b := by
 obtain ⟨c, hc⟩ : ∃ c, laws_zzFits3.f k f3 = some c := by
  unfold laws_zzFits3.f
  split
  ·exact ⟨_, rfl⟩
  ·exact fits3_loop f3 hl f3.length 0 k (by omega) hk
 unfold laws_zzFits2.f
 rw [hc]
 simp only [Option.bind_some]
 repeat' split
 all_goals exact ⟨_, rfl⟩

end Go.Proofs.Ytmfjbljdbkmkgaa.PDom

/- What the laws' guards on a tree tell: it is in normal form, of 300 nodes at most, as deep as that. Plain facts. -/
namespace Go.Proofs.Ytmfjbljdbkmkgaa.PDom
open Go.RowKit Go.Proofs.YtmfjbljdbkmkgaaW.PrintWords Go.Proofs.YtmfjbljdbkmkgaaW.PrintLast Go.Proofs.YtmfjbljdbkmkgaaW.PrintMore Go.Proofs.Ytmfjbljdbkmkgaa.Dom
set_option linter.unusedVariables false
set_option linter.unusedSimpArgs false

theorem rd_at (l : List S25) {j : Nat} (h : j < l.length) : rd_T25 l (j : Int) = l[j] := by simp [rd_T25, List.getD_eq_getElem?_getD, List.getElem?_eq_getElem h]
def NodeOk (root : Bool) (t : T) : Prop :=
 ((t.f0 = 1 ∨ t.f0 = 2) ∧ t.f1 = ⟨#[]⟩ ∧ t.f3 = [] ∧ t.f4 = []) ∨ (t.f0 = 3 ∧ root = true ∧ t.f1 = ⟨#[]⟩ ∧ t.f2 = ⟨#[]⟩ ∧ t.f3 = []) ∨ (t.f0 = 0 ∧ t.f2 = ⟨#[]⟩)
inductive Norm : Bool → T → Prop
 | mk (root : Bool) (t : T) (h : NodeOk root t) (hk : ∀ y ∈ t.f4, Norm false y) : Norm root t
/-! ### How many nodes -/
mutual
def countT : T → Nat
 | ⟨_, _, _, _, ks⟩ => 1 + countTL ks
def countTL : List T → Nat
 | [] => 0
 | k :: ks => countT k + countTL ks
end
theorem countT_eq (t : T) : countT t = 1 + countTL t.f4 := by cases t; rfl
end Go.Proofs.Ytmfjbljdbkmkgaa.PDom

/- impl.AllNodes of a tree in normal form: the places of its nodes, in order. -/
namespace Go.Proofs.Ytmfjbljdbkmkgaa.PDom
open Go.RowKit Go.Proofs.YtmfjbljdbkmkgaaW.PrintWords Go.Proofs.YtmfjbljdbkmkgaaW.PrintLast Go.Proofs.YtmfjbljdbkmkgaaW.PrintMore Go.Proofs.Ytmfjbljdbkmkgaa.Dom
set_option linter.unusedVariables false
set_option linter.unusedSimpArgs false

mutual
/-- The places of a tree's nodes, each ahead of those in it. -/
def pathsT (p : List Int) : T → List (List Int)
 | ⟨_, _, _, _, ks⟩ => p :: pathsTL p 0 ks
def pathsTL (p : List Int) (j : Nat) : List T → List (List Int)
 | [] => []
 | k :: ks => pathsT (p ++ [(j : Int)]) k ++ pathsTL p (j + 1) ks
end
theorem pathsT_eq (p : List Int) (t : T) : pathsT p t = p :: pathsTL p 0 t.f4 := by cases t; rfl
theorem kids_norm {root : Bool} {t : T} (h : Norm root t) : kidsT t = t.f4 := by
 obtain ⟨_, _, h1, _⟩ := h
 unfold kidsT
 by_cases hf : flat t
 ·rw [if_pos hf]
  rcases h1 with ⟨_, _, _, h4⟩ | ⟨h3, _⟩ | ⟨h0, _⟩
  ·exact h4.symm
  ·unfold flat at hf; omega
  ·unfold flat at hf; omega
 ·rw [if_neg hf]
theorem Norm.kid {root : Bool} {t y : T} (h : Norm root t) (hy : y ∈ t.f4) : Norm false y := by
 obtain ⟨_, _, _, hk⟩ := h
 exact hk y hy
theorem told_open {t : T} {i : Nat} {ty a : Int} {d : ByteArray} {at_ : List (ByteArray × ByteArray)} {ks : List RT} (h : TellsT t (.node i ty a d at_ ks)) {root : Bool} (hn : Norm root t) :
  t.f4.length = ks.length ∧ ∀ j (h1 : j < t.f4.length) (h2 : j < ks.length), TellsT t.f4[j] ks[j] := by
 cases h with
 | mk _ _ _ _ ha hl hk =>
  have e := kids_norm hn
  simp only [e] at hl hk
  exact ⟨hl, hk⟩
theorem told_paths (r : RT) : ∀ (t : T) (root : Bool), Norm root t → TellsT t r → (∀ p, r.paths p = pathsT p t) ∧ r.pre.length = countT t := by
 induction r using RT.induct with
 | h i ty a d at_ ks ih =>
  intro t root hn ht
  obtain ⟨hl, hk⟩ := told_open ht hn
  have key : ∀ (n j : Nat), ks.length = j + n → (∀ p, RT.pathsL p j (ks.drop j) = pathsTL p j (t.f4.drop j)) ∧ (RT.preL (ks.drop j)).length = countTL (t.f4.drop j) := by
   intro n
   induction n with
   | zero =>
    intro j hj
    rw [List.drop_eq_nil_of_le (by omega), List.drop_eq_nil_of_le (by omega)]
    exact ⟨fun _ => rfl, rfl⟩
   | succ n ihn =>
    intro j hj
    have h1 : j < ks.length := by omega
    have h2 : j < t.f4.length := by omega
    obtain ⟨e1, e2⟩ := ihn (j + 1) (by omega)
    obtain ⟨e3, e4⟩ := ih ks[j] (List.getElem_mem h1) t.f4[j] false (hn.kid (List.getElem_mem h2)) (hk j h2 h1)
    rw [List.drop_eq_getElem_cons h1, List.drop_eq_getElem_cons h2]
    refine ⟨fun p => ?_, ?_⟩
    ·simp only [RT.pathsL, pathsTL]
     rw [e1, e3]
    ·simp only [RT.preL, countTL, List.length_append]
     rw [e2, e4]
  obtain ⟨e1, e2⟩ := key ks.length 0 (by omega)
  simp only [List.drop_zero] at e1 e2
  refine ⟨fun p => ?_, ?_⟩
  ·rw [pathsT_eq]
   simp only [RT.paths]
   rw [e1]
  ·rw [countT_eq]
   simp only [RT.pre, List.length_cons]
   omega
end Go.Proofs.Ytmfjbljdbkmkgaa.PDom

/- Places in a tree as plain data and among its nodes; first children and siblings at places. Plain facts. -/
namespace Go.Proofs.Ytmfjbljdbkmkgaa.PDom
open Go.RowKit Go.Proofs.YtmfjbljdbkmkgaaW.PrintWords Go.Proofs.YtmfjbljdbkmkgaaW.PrintLast Go.Proofs.YtmfjbljdbkmkgaaW.PrintMore Go.Proofs.Ytmfjbljdbkmkgaa.Dom
set_option linter.unusedVariables false
set_option linter.unusedSimpArgs false

theorem at_append (r : RT) (l m : List Int) : r.at_ (l ++ m) = (r.at_ l).bind fun y => y.at_ m := by
 induction l generalizing r with
 | nil => rfl
 | cons k l ih =>
  simp only [List.cons_append, RT.at_]
  by_cases h : 0 ≤ k
  ·rw [if_pos h, if_pos h]
   cases r.kids[k.toNat]? with
   | none => rfl
   | some y => simp only [Option.bind_some]; exact ih y
  ·rw [if_neg h, if_neg h]; rfl
/-! ### Which one is found -/
end Go.Proofs.Ytmfjbljdbkmkgaa.PDom

/- impl.guarded, over a function that returns: false, and what that function left. -/
namespace Go.Proofs.Ytmfjbljdbkmkgaa.Guard
open Go.RowKit Go.Proofs.YtmfjbljdbkmkgaaW.PrintWords Go.Proofs.YtmfjbljdbkmkgaaW.PrintLast Go.Proofs.YtmfjbljdbkmkgaaW.PrintMore
set_option linter.unusedVariables false
set_option linter.unusedSimpArgs false

theorem catch_idle (p : Addr) (w : World) :
  CallsD Try.prog 94 #[.pointer (some p)] .returning w fun e u' w' => e = .returned (.tuple #[]) ∧ u' = .returning ∧ w' = w := by
 refine callsD_of_wpS Try.func94 rfl fun c₀ cs hu => ?_
 apply wpS_seq
 apply wpS_region
 simp [wpOpsS, go_sem, recoverD, hu, Try.ntmps94, Exit.thenS]
 refine wpS_cond (t := false) (by simp [Act.eval, Array.replicate]) ?_
 simp only [Bool.false_eq_true, if_false]
 refine wpS_of_wp (wp_skip ?_)
 cases c₀
 simp_all [bodyPostS, results, Try.results94]
theorem guarded_calls (F : Nat) (cap : Array Value) (w : World) (Q : World → Prop) (hF : ∀ (args : Array Value) (w : World), (callFunc F args).run Try.prog w = .ok (.enter F args) w)
  (HC : Calls Try.prog F cap (w.alloc (.cells #[.bool false] 4)) fun e w' => e = .returned (.tuple #[]) ∧ w'.heap[w.heap.size]? = some (.cells #[.bool false] 4 (0, 0)) ∧ Q w') :
  Calls Try.prog 63 #[.func (.func F) #[] cap] w fun e w' => e = .returned (.bool false) ∧ ∃ w2, Q w2 ∧ w2.heap[w.heap.size]? = some (.cells #[.bool false] 4 (0, 0)) ∧ w' = w2.setCell ⟨w.heap.size, 0, none⟩ (.bool false) := by
 have hmf : ∀ (fn : Fn) (first cap : Array Value) (w : World), (Instr.makeFunc fn first cap).run Try.prog w = .ok (.func fn first cap) w := fun _ _ _ _ => rfl
 have HC0 := Aside0.mk HC
 clear HC
 go_enter_defers Try.func63, Try.ntmps63
 go_wp2_with fail
 refine HC0.out.mono ?_
 rintro e w2 ⟨rfl, hb, hq⟩
 have c2 := blk_cell hb 0
 have f2 := blk_frozen hb 0
 have HB := Aside0.mk hb
 have HQ := Aside0.mk hq
 clear hb hq
 go_wp2_with fail
 refine leaves_cons (f := 94) (args := #[.pointer (some ⟨w.heap.size, 0, none⟩)]) (by simp) (by simp [go_sem]) ?_
 refine (catch_idle ⟨w.heap.size, 0, none⟩ _).mono ?_
 rintro e u' w'' ⟨rfl, rfl, rfl⟩
 have c3 : (w2.setCell ⟨w.heap.size, 0, none⟩ (.bool false)).cell? ⟨w.heap.size, 0, none⟩ = some (.bool false) := by rw [blk_cell (blk_set HB.out 0 (.bool false))]; rfl
 simp [Leaves, settle, results, Try.results63, go_sem, c3]
 exact ⟨w2, HQ.out, HB.out, rfl⟩
end Go.Proofs.Ytmfjbljdbkmkgaa.Guard

/- impl.changedAt, over a function that changes a tree: what it returns. -/
namespace Go.Proofs.Ytmfjbljdbkmkgaa.Dom
open Go.RowKit Go.Proofs.YtmfjbljdbkmkgaaW.PrintWords Go.Proofs.YtmfjbljdbkmkgaaW.PrintLast Go.Proofs.YtmfjbljdbkmkgaaW.PrintMore Go.Proofs.Ytmfjbljdbkmkgaa.PDom
set_option linter.unusedVariables false
set_option linter.unusedSimpArgs false

/-- What a tree becomes. -/
def Turns (w w' : World) (D : Tab) (r : RT) (u : T) : Prop := ∃ D' r', Dom w' D' ∧ Is D' none r' ∧ r'.id = r.id ∧ RFit r' ∧ r'.toT = u ∧ Only D w w' ∧ (∀ k, k < w.heap.size → D k = none → D' k = none)
theorem push_size (w : World) (o : Obj) : (w.alloc o).heap.size = w.heap.size + 1 := Array.size_push _
end Go.Proofs.Ytmfjbljdbkmkgaa.Dom

/- What is told of a tree that was made: the tree itself. Plain facts. -/
namespace Go.Proofs.Ytmfjbljdbkmkgaa.PDom
open Go.RowKit Go.Proofs.YtmfjbljdbkmkgaaW.PrintWords Go.Proofs.YtmfjbljdbkmkgaaW.PrintLast Go.Proofs.YtmfjbljdbkmkgaaW.PrintMore Go.Proofs.Ytmfjbljdbkmkgaa.Dom
set_option linter.unusedVariables false
set_option linter.unusedSimpArgs false

theorem toT_norm (r : RT) : ∀ (t : T) (root : Bool), Norm root t → TellsT t r → r.toT = t := by
 induction r using RT.induct with
 | h i ty a d at_ ks ih =>
  intro t root hn ht
  obtain ⟨hl, hk⟩ := told_open ht hn
  have hkids : RT.toTL ks = t.f4 := by
   rw [RT.toTL_map]
   apply List.ext_getElem (by rw [List.length_map]; exact hl.symm)
   intro j h1 h2
   rw [List.getElem_map]
   have h3 : j < ks.length := by rw [List.length_map] at h1; exact h1
   exact ih ks[j] (List.getElem_mem h3) _ false (hn.kid (List.getElem_mem h2)) (hk j h2 h3)
  cases ht with
  | mk _ _ _ _ ha hl2 hk2 =>
   cases hn with
   | mk _ _ h _ =>
    obtain ⟨f0, f1, f2, f3, f4⟩ := t
    simp only at hkids
    simp only [RT.toT, tyOf, dataOf, attrsOf, flat]
    rcases h with ⟨h0, h1, h3, h4⟩ | ⟨h0, hr, h1, h2, h3⟩ | ⟨h0, h2⟩
    ·simp only at h0 h1 h3 h4
     subst h1 h3 h4
     rcases h0 with rfl | rfl
     ·simp
     ·simp
    ·simp only at h0 h1 h2 h3
     subst h0 h1 h2 h3
     simp [hkids]
    ·simp only at h0 h2
     subst h0 h2
     simp [hkids, List.map_map, Function.comp_def]
end Go.Proofs.Ytmfjbljdbkmkgaa.PDom

/- Who stands within whom in a tree of nodes, and what becomes of it when a node's children come up into its place. Plain facts. -/
namespace Go.Proofs.Ytmfjbljdbkmkgaa.Dom
open Go.RowKit Go.Proofs.YtmfjbljdbkmkgaaW.PrintWords Go.Proofs.YtmfjbljdbkmkgaaW.PrintLast Go.Proofs.YtmfjbljdbkmkgaaW.PrintMore Go.Proofs.Ytmfjbljdbkmkgaa.PDom
set_option linter.unusedVariables false
set_option linter.unusedSimpArgs false

/-- A property of a node in which its children have no part. -/
def Own (m : RT → Bool) : Prop := ∀ r K, m (r.withKids K) = m r
theorem at_cons {r y : RT} {j : Int} {l : List Int} (h : r.at_ (j :: l) = some y) : 0 ≤ j ∧ ∃ k, r.kids[j.toNat]? = some k ∧ k.at_ l = some y := by
 simp only [RT.at_] at h
 split at h
 ·rename_i h0
  obtain ⟨k, hk, e⟩ := Option.bind_eq_some_iff.1 h
  exact ⟨h0, k, hk, e⟩
 ·cases h
theorem at_cons_mk {r y k : RT} {j : Nat} {l : List Int} (hk : r.kids[j]? = some k) (h : k.at_ l = some y) : r.at_ ((j : Int) :: l) = some y := by
 simp only [RT.at_]
 rw [if_pos (by omega), show ((j : Int).toNat) = j from by omega, hk]
 exact h
/-! ### Which nodes a changed tree has -/
/-- Each node of a tree has a place, and one alone. -/
theorem place_of (r : RT) : ∀ b ∈ r.pre, ∃ l y, r.at_ l = some y ∧ y.id = b := by
 induction r using RT.induct with
 | h i t a d at_ ks ih =>
  intro b hb
  rcases List.mem_cons.1 hb with h1 | h1
  ·exact ⟨[], _, rfl, h1.symm⟩
  ·obtain ⟨k, hk, hbk⟩ := RT.mem_preL.1 h1
   obtain ⟨l, y, h2, h3⟩ := ih k hk b hbk
   obtain ⟨n, hn, rfl⟩ := List.mem_iff_getElem.1 hk
   exact ⟨(n : Int) :: l, y, at_cons_mk (List.getElem?_eq_getElem hn) h2, h3⟩
/-! ### A property of all nodes -/
inductive RT.All (P : RT → Prop) : RT → Prop
 | mk (r : RT) (h : P r) (hk : ∀ k ∈ r.kids, RT.All P k) : RT.All P r
/-! ### The text -/
/-! ### One within another -/
/-! ### What stands while the nodes of a tree are gone through -/
/-- Attributes that can be counted, and a kind that is known. -/
def okN (r : RT) : Prop := r.attrs.length ≤ 4398046510976 ∧ (r.ty = 1 ∨ r.ty = 3 ∨ r.ty = 4)
theorem rfit_all (r : RT) : RT.All okN r → r.pre.length ≤ 1000000000000 → RFit r := by
 induction r using RT.induct with
 | h i t a d at_ ks ih =>
  intro ha hl
  cases ha with
  | mk _ hp hk =>
   have h1 := RT.kids_lt (.node i t a d at_ ks)
   refine .mk i t a d at_ ks hp.1 ?_ (fun k hkm => ih k hkm (hk k hkm) ?_)
   ·have : ks.length < (RT.node i t a d at_ ks).pre.length := h1
    omega
   ·have := RT.kid_pre (r := .node i t a d at_ ks) hkm
    omega
end Go.Proofs.Ytmfjbljdbkmkgaa.Dom

/- dom.FindFirstNode, FindAllNodes, ContainsNode: the first node, and all nodes, below a node of which a function is true. -/
namespace Go.Proofs.Ytmfjbljdbkmkgaa.Dom
open Go.RowKit Go.Proofs.YtmfjbljdbkmkgaaW.PrintWords Go.Proofs.YtmfjbljdbkmkgaaW.PrintLast Go.Proofs.YtmfjbljdbkmkgaaW.PrintMore Go.Proofs.Ytmfjbljdbkmkgaa.PDom
set_option linter.unusedVariables false
set_option linter.unusedSimpArgs false

def firstD (D : Tab) (x : Nat) : Option Nat := match D x with
 | some i => i.kids.head?
 | none => none
def nextD (D : Tab) (x : Nat) : Option Nat := match D x with
 | some i => nextIn (sibs D i) x
 | none => none
theorem nav_all {D : Tab} (wf : WF D) : Nav D (firstD D) (nextD D) (fun _ => true) := by
 constructor
 ·intro p i t a d at_ ks h
  have e : D i = some _ := h.root
  unfold firstD
  rw [e]
  show (ks.map RT.id).head? = _
  cases ks <;> rfl
 ·intro p i t a d at_ l1 k l2 h
  have hk := h.kid (r := .node i t a d at_ (l1 ++ k :: l2)) (k := k) (by simp [RT.kids])
  have hroot : D i = some _ := h.root
  have hp : (k.info (some i)).parent = some i := by cases k; rfl
  have hnd := wf.nodup hroot
  have e1 : ((RT.node i t a d at_ (l1 ++ k :: l2)).info p).kids = l1.map RT.id ++ k.id :: l2.map RT.id := by simp [RT.info]
  rw [e1] at hnd
  unfold nextD
  rw [hk.root]
  show nextIn (sibs D (k.info (some i))) k.id = _
  rw [sibs_some hp, kidsOf_some hroot, e1, nextIn_split (nodup_split hnd).1]
  cases l2 <;> rfl
end Go.Proofs.Ytmfjbljdbkmkgaa.Dom

/- impl.named: a function that tells whether a node is an element of one of some names. -/
namespace Go.Proofs.Ytmfjbljdbkmkgaa.Dom
open Go.RowKit Go.Proofs.YtmfjbljdbkmkgaaW.PrintWords Go.Proofs.YtmfjbljdbkmkgaaW.PrintLast Go.Proofs.YtmfjbljdbkmkgaaW.PrintMore Go.Proofs.Ytmfjbljdbkmkgaa.PDom
set_option linter.unusedVariables false
set_option linter.unusedSimpArgs false

def elemD (D : Tab) (names : List ByteArray) (x : Nat) : Bool := match D x with
 | some i => i.ty == 3 && names.any fun s => i.data.toList == s.toList
 | none => false
theorem any_dropN {α : Type} {l : List α} {P : α → Bool} {m : Nat} (h : m < l.length) : (l.drop m).any P = if P l[m] = true then true else (l.drop (m + 1)).any P := by
 rw [List.drop_eq_getElem_cons h, List.any_cons]
 cases P l[m] <;> rfl
set_option maxHeartbeats 400000 in
set_option maxRecDepth 100000 in
theorem named1_calls (w : World) (D : Tab) (hdom : Dom w D) (b : Nat) (A : Option Addr) (c : Nat) (names : List ByteArray) (hb : w.heap[b]? = some (.cells #[.slice A names.length c] 28 (0, 0))) (hr : Kd.string.C w A names.length names) (hl : names.length ≤ 4611686018427387904) :
  TellsB w D 61 #[.pointer (some ⟨b, 0, none⟩)] (elemD D names) := by
 intro x hx
 cases hi : D x with
 | none => exact absurd hi hx
 | some i =>
  have e : elemD D names x = (i.ty == 3 && names.any fun s => i.data.toList == s.toList) := by unfold elemD; rw [hi]
  rw [e]
  have HN := Aside0.mk (node_calls w D x i hdom hi)
  have c5 := ty_cell hdom hi
  have e5 : tyAt D x = i.ty := by unfold tyAt; rw [hi]
  rw [e5] at c5
  have HR := Aside0.mk hr
  have c0 : w.cell? ⟨b, 0, none⟩ = some (.slice A names.length c) := by rw [blk_cell hb]; rfl
  clear hx hi hb hr e e5 hdom
  obtain ⟨p, ks, ty, at_, d, as_⟩ := i
  by_cases t3 : ty = 3
  ·subst t3
   have hn : nameOf ⟨p, ks, 3, at_, d, as_⟩ = d := rfl
   rw [hn] at HN
   simp only at c5 ⊢
   clear hn
   show Calls _ _ #[ptr (some x), .pointer (some ⟨b, 0, none⟩)] _ _
   simp only [ptr_some] at HN ⊢
   go_enter Try.func61, Try.ntmps61
   go_wp2_with fail
   go_loop [8] (fun vi => ∃ j : Nat, j ≤ names.length ∧ vi = .int .i64 j ∧ Aside0 ((names.any fun s => d.toList == s.toList) = (names.drop j).any fun s => d.toList == s.toList)) (fun vi => names.length - (intOf vi).toNat)
   case atStart => exact ⟨0, Nat.zero_le _, rfl, ⟨by rw [List.drop_zero]⟩⟩
   case round =>
    obtain ⟨j, hj, rfl, HF⟩ := hrel
    by_cases hlt : j < names.length
    ·obtain ⟨ad, rfl, hcell⟩ := Kd.at_string HR.out (j : Int) (by omega) (by omega)
     have he : rdOf ByteArray.empty names (j : Int) = names[j] := by simp [rdOf, List.getD_eq_getElem?_getD, List.getElem?_eq_getElem hlt]
     rw [he, Int.toNat_natCast] at hcell
     have HD := Aside0.mk (any_dropN (P := fun s => d.toList == s.toList) hlt)
     clear he
     generalize names[j] = s at *
     cases hq : (d.toList == s.toList) with
     | true =>
      have HQ := Aside0.mk hq
      go_wp2_with (go_at_call 62; go_must (refine HN.out.mono ?_; rintro e w' ⟨rfl, rfl⟩))
      go_ret
      refine ⟨?_, rfl⟩
      rw [HF.out, HD.out, HQ.out]
      rfl
     | false =>
      have HQ := Aside0.mk hq
      go_wp2_with (go_at_call 62; go_must (refine HN.out.mono ?_; rintro e w' ⟨rfl, rfl⟩))
      go_round
      case rel => exact ⟨j + 1, by omega, by go_num, ⟨by rw [HF.out, HD.out, HQ.out]; rfl⟩⟩
      case measure => simp [intOf]; omega
    ·have hje : j = names.length := by omega
     subst hje
     go_wp2_with fail
     go_ret
     refine ⟨?_, rfl⟩
     rw [HF.out, List.drop_length]
     rfl
  ·have b3 : (ty == 3) = false := beq_eq_false_iff_ne.2 t3
   simp only at c5 ⊢
   rw [b3]
   show Calls _ _ #[ptr (some x), .pointer (some ⟨b, 0, none⟩)] _ _
   simp only [ptr_some] at HN ⊢
   clear HN t3
   go_enter Try.func61, Try.ntmps61
   go_wp2_with fail
   go_loop [8] (fun vi => ∃ j : Nat, j ≤ names.length ∧ vi = .int .i64 j) (fun vi => names.length - (intOf vi).toNat)
   case atStart => exact ⟨0, Nat.zero_le _, rfl⟩
   case round =>
    obtain ⟨j, hj, rfl⟩ := hrel
    by_cases hlt : j < names.length
    ·obtain ⟨ad, rfl, hcell⟩ := Kd.at_string HR.out (j : Int) (by omega) (by omega)
     have he : rdOf ByteArray.empty names (j : Int) = names[j] := by simp [rdOf, List.getD_eq_getElem?_getD, List.getElem?_eq_getElem hlt]
     rw [he, Int.toNat_natCast] at hcell
     clear he
     generalize names[j] = s at *
     go_wp2_with fail
     go_round
     case rel => exact ⟨j + 1, by omega, by go_num⟩
     case measure => simp [intOf]; omega
    ·have hje : j = names.length := by omega
     subst hje
     go_wp2_with fail
     go_ret
     exact ⟨rfl, rfl⟩
theorem named_calls (w : World) (A : Option Addr) (n c : Nat) :
  Calls Try.prog 32 #[.slice A n c] w fun e w' => e = .returned (.func (Fn.func 61) #[] #[.pointer (some ⟨w.heap.size, 0, none⟩)]) ∧ w' = w.alloc (.cells #[.slice A n c] 28) := by
 have hmf : ∀ (fn : Fn) (first cap : Array Value) (w : World), (Instr.makeFunc fn first cap).run Try.prog w = .ok (.func fn first cap) w := fun _ _ _ _ => rfl
 go_enter Try.func32, Try.ntmps32
 go_wp2
 go_ret
 exact ⟨rfl, rfl⟩
end Go.Proofs.Ytmfjbljdbkmkgaa.Dom

/- impl.behind, over a function that changes a tree: what it returns. -/
namespace Go.Proofs.Ytmfjbljdbkmkgaa.Dom
open Go.RowKit Go.Proofs.YtmfjbljdbkmkgaaW.PrintWords Go.Proofs.YtmfjbljdbkmkgaaW.PrintLast Go.Proofs.YtmfjbljdbkmkgaaW.PrintMore Go.Proofs.Ytmfjbljdbkmkgaa.PDom
set_option linter.unusedVariables false
set_option linter.unusedSimpArgs false

def dumI : Info := ⟨none, [], 0, 0, ⟨#[]⟩, []⟩
/-- What the closure leaves in the box b. -/
def Boxed (w w' : World) (b : Nat) (u : T) : Prop := ∃ A3 c3 A4 c4, w'.heap[b]? = some (.cells #[.int .i64 u.f0, .string u.f1, .string u.f2, .slice A3 u.f3.length c3, .slice A4 u.f4.length c4] 25 (0, 0)) ∧ u.f3.length ≤ c3 ∧ Kd.F k53 w' (fun k => w.heap.size ≤ k) A3 u.f3.length u.f3 ∧ u.f4.length ≤ c4 ∧ Kd.F k25 w' (fun k => w.heap.size ≤ k) A4 u.f4.length u.f4 ∧ Only (put none_ b dumI) w w' ∧
 Kd.R k53 53 w' w.heap.size (fun k => w.heap.size ≤ k) (.slice A3 u.f3.length c3) u.f3 ∧ Kd.N k25 25 w' w.heap.size (fun k => w.heap.size ≤ k ∧ some k ≠ (Value.slice A3 u.f3.length c3).ownBlock) (.slice A4 u.f4.length c4) u.f4
theorem only_box {w w' : World} {b : Nat} (hb : ∀ k, k < w.heap.size → k ≠ b → w'.heap[k]? = w.heap[k]?) (h1 : w'.os = w.os) (h2 : w'.tape = w.tape) (h3 : w'.output = w.output) (h4 : w.heap.size ≤ w'.heap.size) : Only (put none_ b dumI) w w' :=
 ⟨h1, h2, h3, h4, fun k hk hd => hb k hk (fun e => by subst e; rw [put_same] at hd; cases hd)⟩
theorem put_none (b k : Nat) (h : k ≠ b) : put none_ b dumI k = none := put_other _ _ h
theorem sets5_box {w : World} {b : Nat} {x0 x1 x2 x3 x4 : Value} (h : w.heap[b]? = some (.cells #[x0, x1, x2, x3, x4] 25 (0, 0))) (a0 a1 a2 a3 a4 : Value) :
  (((((w.setCell ⟨b, 0, none⟩ a0).setCell ⟨b, 1, none⟩ a1).setCell ⟨b, 2, none⟩ a2).setCell ⟨b, 3, none⟩ a3).setCell ⟨b, 4, none⟩ a4).heap[b]? = some (.cells #[a0, a1, a2, a3, a4] 25 (0, 0)) :=
 blk_set (blk_set (blk_set (blk_set (blk_set h 0 a0) 1 a1) 2 a2) 3 a3) 4 a4
theorem boxed_end {w w4 : World} {b : Nat} {u : T} {x0 x1 x2 x3 x4 : Value} {A5 A6 : Option Addr} {c5 c6 : Nat} (hb : b < w.heap.size) (h : w4.heap[b]? = some (.cells #[x0, x1, x2, x3, x4] 25 (0, 0))) (hB : Below w.heap.size w w4)
  (m5 : u.f3.length ≤ c5) (F5 : Kd.F k53 w4 (fun k => w.heap.size ≤ k) A5 u.f3.length u.f3) (m6 : u.f4.length ≤ c6) (F6 : Kd.F k25 w4 (fun k => w.heap.size ≤ k) A6 u.f4.length u.f4) (R5 : Kd.R k53 53 w4 w.heap.size (fun k => w.heap.size ≤ k) (.slice A5 u.f3.length c5) u.f3) (N6 : Kd.N k25 25 w4 w.heap.size (fun k => w.heap.size ≤ k ∧ some k ≠ (Value.slice A5 u.f3.length c5).ownBlock) (.slice A6 u.f4.length c6) u.f4) :
  Boxed w (((((w4.setCell ⟨b, 0, none⟩ (.int .i64 u.f0)).setCell ⟨b, 1, none⟩ (.string u.f1)).setCell ⟨b, 2, none⟩ (.string u.f2)).setCell ⟨b, 3, none⟩ (.slice A5 u.f3.length c5)).setCell ⟨b, 4, none⟩ (.slice A6 u.f4.length c6)) b u := by
 have hs := fun k (hk : k ≠ b) => sets5 w4 b (.int .i64 u.f0) (.string u.f1) (.string u.f2) (.slice A5 u.f3.length c5) (.slice A6 u.f4.length c6) k hk
 have hbb : Below 0 w4 (((((w4.setCell ⟨b, 0, none⟩ (.int .i64 u.f0)).setCell ⟨b, 1, none⟩ (.string u.f1)).setCell ⟨b, 2, none⟩ (.string u.f2)).setCell ⟨b, 3, none⟩ (.slice A5 u.f3.length c5)).setCell ⟨b, 4, none⟩ (.slice A6 u.f4.length c6)) :=
  Below.setCell (Below.setCell (Below.setCell (Below.setCell (Below.setCell (Below.refl 0 w4) (p := ⟨b, 0, none⟩) (Nat.zero_le _) _) (p := ⟨b, 1, none⟩) (Nat.zero_le _) _) (p := ⟨b, 2, none⟩) (Nat.zero_le _) _) (p := ⟨b, 3, none⟩) (Nat.zero_le _) _) (p := ⟨b, 4, none⟩) (Nat.zero_le _) _
 refine ⟨A5, c5, A6, c6, sets5_box h _ _ _ _ _, m5, Kd.F_step F5 (fun k hk _ => hs k (by omega)), m6, Kd.F_step F6 (fun k hk _ => hs k (by omega)), ?_, Kd.R_step R5 (fun k hk _ => hs k (by omega)), Kd.N_step N6 (fun k hk _ => hs k (by have := hk.1; omega))⟩
 exact only_box (fun k hk hne => (hs k hne).trans (hB.block k hk)) (hbb.os.trans hB.os) (hbb.tape.trans hB.tape) (hbb.output.trans hB.output) (Nat.le_trans hB.size hbb.size)
set_option maxHeartbeats 1000000 in
set_option maxRecDepth 100000 in
theorem beh1_calls (F : Nat) (cap : Array Value) (hF : ∀ (args : Array Value) (w : World), (callFunc F args).run Try.prog w = .ok (.enter F args) w) (P : T → Prop) (t : T) (ht : Fit t) (w : World) (b0 b1 b2 : Nat) (A3 : Option Addr) (c3 : Nat) (A4 : Option Addr) (c4 : Nat)
  (hb0 : w.heap[b0]? = some (.cells #[.int .i64 t.f0, .string t.f1, .string t.f2, .slice A3 t.f3.length c3, .slice A4 t.f4.length c4] 25 (0, 0))) (hb1 : w.heap[b1]? = some (.cells #[.func (.func F) #[] cap] 50 (0, 0))) (hb2 : w.heap[b2]? = some (.cells #[.int .i64 0, .string ⟨#[]⟩, .string ⟨#[]⟩, .slice none 0 0, .slice none 0 0] 25 (0, 0)))
  (h3 : Kd.C k53 w A3 t.f3.length t.f3) (l3 : t.f3.length ≤ c3) (h4 : Kd.C k25 w A4 t.f4.length t.f4) (l4 : t.f4.length ≤ c4)
  (hdo : ∀ W D r, Below w.heap.size w W → (∀ k, k < w.heap.size → D k = none) → Dom W D → Is D none r → TellsT t r → Calls Try.prog F (#[.pointer (some ⟨r.id, 0, none⟩)] ++ cap) W fun e w' => e = .returned (.tuple #[]) ∧ ∃ u, P u ∧ Turns W w' D r u) :
  Calls Try.prog 64 #[.pointer (some ⟨b0, 0, none⟩), .pointer (some ⟨b1, 0, none⟩), .pointer (some ⟨b2, 0, none⟩)] w fun e w' => e = .returned (.tuple #[]) ∧ ∃ u, P u ∧ Boxed w w' b2 u := by
 have HM := Aside0.mk (made_calls _ t (Nat.le_refl _) ht w A3 c3 A4 c4 h3 l3 h4 l4)
 have HDO := Aside0.mk hdo
 have HB1 := Aside0.mk hb1
 have HB2 := Aside0.mk hb2
 have a0 := blk_cell hb0 0
 have a1 := blk_cell hb0 1
 have a2 := blk_cell hb0 2
 have a3 := blk_cell hb0 3
 have a4 := blk_cell hb0 4
 have d0 := blk_cell hb1 0
 clear hdo hb0 hb1 hb2 h3 h4 l3 l4 ht
 go_enter Try.func64, Try.ntmps64
 go_wp2_with fail
 refine HM.out.mono ?_
 rintro e w1 ⟨b, D, rfl, hm⟩
 obtain ⟨i0, hi0⟩ : ∃ i, D b = some i := by
  obtain ⟨_, _, i, h, _⟩ := hm.tree
  exact ⟨i, h⟩
 obtain ⟨r, rfl, hr, hto⟩ := hm.tree.rt hm.dom.wf i0 hi0
 have hroot := hm.root i0 hi0
 rw [hroot] at hr
 have hnone : ∀ k, k < w.heap.size → D k = none := fun k hk => by
  cases hd : D k with
  | none => rfl
  | some i => have := hm.fresh k (by rw [hd]; simp); omega
 have HF := Aside0.mk (HDO.out w1 D r hm.below hnone hm.dom hr hto)
 have HBL := Aside0.mk hm.below
 have HNO := Aside0.mk hnone
 have d1 := blk_cell ((hm.below.block _ (blk_lt HB1.out)).trans HB1.out) 0
 clear HM HDO hm hi0 hroot hr hto hnone d0 a0 a1 a2 a3 a4
 generalize hri : r.id = ri at *
 have HRI := Aside0.mk hri
 clear hri
 simp only [ptr_some] at HF ⊢
 go_wp2_with fail
 refine HF.out.mono ?_
 rintro e w3 ⟨rfl, u, hu, D', r', hd', hr', hid, hfit, hto, hon, hnn⟩
 have HT := Aside0.mk (told_calls D' r' none hr' hfit w3 hd')
 rw [hid, HRI.out, hto] at HT
 have HB3 := Aside0.mk (HBL.out.trans (hon.below HBL.out.size (fun k hk => HNO.out k hk)))
 have HU := Aside0.mk hu
 clear hd' hr' hid hfit hto hon hnn HF d1 hu
 simp only [ptr_some] at HT
 go_wp2_with fail
 refine HT.out.mono ?_
 rintro e w4 ⟨A5, c5, A6, c6, rfl, m5, F5, m6, F6, hb4, R5, N6⟩
 have HB4 := Aside0.mk (below_step HB3.out hb4)
 have hb64 := (HB4.out.block _ (blk_lt HB2.out)).trans HB2.out
 have HB64 := Aside0.mk hb64
 have HE := Aside0.mk (boxed_end (blk_lt HB2.out) hb64 HB4.out m5 (Kd.F_mono F5 (fun k hk => Nat.le_trans HB3.out.size hk)) m6 (Kd.F_mono F6 (fun k hk => Nat.le_trans HB3.out.size hk)) (Kd.R_lower (Kd.R_mono R5 (fun k hk => Nat.le_trans HB3.out.size hk)) HB3.out.size) (Kd.N_lower (Kd.N_mono N6 (fun k hk => ⟨Nat.le_trans HB3.out.size hk.1, hk.2⟩)) HB3.out.size))
 have r0 := blk_cell hb64 0
 have r1 := blk_cell hb64 1
 have r2 := blk_cell hb64 2
 have r3 := blk_cell hb64 3
 have r4 := blk_cell hb64 4
 have f0 := blk_frozen hb64 0
 have f1 := blk_frozen hb64 1
 have f2 := blk_frozen hb64 2
 have f3 := blk_frozen hb64 3
 have f4 := blk_frozen hb64 4
 clear m5 F5 m6 F6 R5 N6 hb4 hb64 HT
 go_wp2_with fail
 go_end0
 exact ⟨rfl, u, HU.out, HE.out⟩
theorem enters_beh1 : ∀ (args : Array Value) (w : World), (callFunc 64 args).run Try.prog w = .ok (.enter 64 args) w := fun _ _ => by kernel_rfl
theorem four_boxes (w : World) (o0 o1 o2 o3 : Obj) : ((((w.alloc o0).alloc o1).alloc o2).alloc o3).heap.size = w.heap.size + 4 ∧ Below w.heap.size w ((((w.alloc o0).alloc o1).alloc o2).alloc o3) ∧ ((((w.alloc o0).alloc o1).alloc o2).alloc o3).heap[w.heap.size]? = some o0 ∧
  ((((w.alloc o0).alloc o1).alloc o2).alloc o3).heap[w.heap.size + 1]? = some o1 ∧ ((((w.alloc o0).alloc o1).alloc o2).alloc o3).heap[w.heap.size + 2]? = some o2 ∧ ((((w.alloc o0).alloc o1).alloc o2).alloc o3).heap[w.heap.size + 3]? = some o3 := by
 have e : ((((w.alloc o0).alloc o1).alloc o2).alloc o3).heap = (((w.heap.push o0).push o1).push o2).push o3 := rfl
 refine ⟨by rw [e]; simp, below_alloc (below_alloc (below_alloc (below_alloc (Below.refl _ _) _) _) _) _, ?_, ?_, ?_, ?_⟩ <;> rw [e] <;> simp only [Array.getElem?_push, Array.size_push] <;> repeat (first | rfl | rw [if_pos trivial] | rw [if_pos (by omega)] | rw [if_neg (by omega)])
set_option maxHeartbeats 1000000 in
set_option maxRecDepth 100000 in
theorem behind_calls (F : Nat) (cap : Array Value) (hF : ∀ (args : Array Value) (w : World), (callFunc F args).run Try.prog w = .ok (.enter F args) w) (P : T → Prop) (t : T) (ht : Fit t) (w : World) (A3 : Option Addr) (c3 : Nat) (A4 : Option Addr) (c4 : Nat)
  (h3 : Kd.C k53 w A3 t.f3.length t.f3) (l3 : t.f3.length ≤ c3) (h4 : Kd.C k25 w A4 t.f4.length t.f4) (l4 : t.f4.length ≤ c4)
  (hdo : ∀ W D r, Below w.heap.size w W → (∀ k, k < w.heap.size → D k = none) → Dom W D → Is D none r → TellsT t r → Calls Try.prog F (#[.pointer (some ⟨r.id, 0, none⟩)] ++ cap) W fun e w' => e = .returned (.tuple #[]) ∧ ∃ u, P u ∧ Turns W w' D r u) :
  Calls Try.prog 33 #[.agg #[.int .i64 t.f0, .string t.f1, .string t.f2, .slice A3 t.f3.length c3, .slice A4 t.f4.length c4], .func (.func F) #[] cap] w fun e w' => ∃ u, P u ∧ Told w w' u e := by
 have hmf : ∀ (fn : Fn) (first cap : Array Value) (w : World), (Instr.makeFunc fn first cap).run Try.prog w = .ok (.func fn first cap) w := fun _ _ _ _ => rfl
 obtain ⟨W0, hW0⟩ : ∃ W0, W0 = (((w.alloc (.cells #[.int .i64 t.f0, .string t.f1, .string t.f2, .slice A3 t.f3.length c3, .slice A4 t.f4.length c4] 25)).alloc (.cells #[.func (.func F) #[] cap] 50)).alloc (.cells #[.int .i64 0, .string ⟨#[]⟩, .string ⟨#[]⟩, .slice none 0 0, .slice none 0 0] 25)).alloc (.cells #[.int .i64 0, .string ⟨#[]⟩, .string ⟨#[]⟩, .slice none 0 0, .slice none 0 0] 25) := ⟨_, rfl⟩
 obtain ⟨hsz, hB0, hk0, hk1, hk2, hk3⟩ := four_boxes w (.cells #[.int .i64 t.f0, .string t.f1, .string t.f2, .slice A3 t.f3.length c3, .slice A4 t.f4.length c4] 25) (.cells #[.func (.func F) #[] cap] 50) (.cells #[.int .i64 0, .string ⟨#[]⟩, .string ⟨#[]⟩, .slice none 0 0, .slice none 0 0] 25) (.cells #[.int .i64 0, .string ⟨#[]⟩, .string ⟨#[]⟩, .slice none 0 0, .slice none 0 0] 25)
 rw [← hW0] at hsz hB0 hk0 hk1 hk2 hk3
 have hB1 : Below W0.heap.size W0 (W0.alloc (.cells #[.bool false] 4)) := below_alloc (Below.refl _ _) _
 have hB01 := below_step hB0 hB1
 have HG := Aside0.mk (Guard.guarded_calls 64 #[.pointer (some ⟨w.heap.size, 0, none⟩), .pointer (some ⟨w.heap.size + 1, 0, none⟩), .pointer (some ⟨w.heap.size + 3, 0, none⟩)] W0 (fun w' => ∃ u, P u ∧ Boxed (W0.alloc (.cells #[.bool false] 4)) w' (w.heap.size + 3) u) enters_beh1
  ((beh1_calls F cap hF P t ht _ w.heap.size (w.heap.size + 1) (w.heap.size + 3) A3 c3 A4 c4 ((hB1.block _ (by omega)).trans hk0) ((hB1.block _ (by omega)).trans hk1) ((hB1.block _ (by omega)).trans hk3) (Kd.C_below h3 hB01) l3 (Kd.C_below h4 hB01) l4
   (fun W D r hW hno hd hr hto => hdo W D r (by refine below_step hB0 (Below.trans hB1 ?_); exact hW.mono (by rw [push_size]; omega)) (fun k hk => hno k (by rw [push_size]; omega)) hd hr hto)).mono fun e w' h => by
    obtain ⟨rfl, u, hu, hx⟩ := h
    refine ⟨rfl, ?_, u, hu, hx⟩
    obtain ⟨_, _, _, _, _, _, _, _, _, ho, _, _⟩ := hx
    exact (ho.block _ (by rw [push_size]; omega) (put_none _ _ (by omega))).trans (heap_alloc_new W0 _)))
 have HZ := Aside0.mk hsz
 have HB0 := Aside0.mk hB0
 have K2 := Aside0.mk hk2
 clear hdo ht h3 h4 l3 l4 hB1 hB01 hk0 hk1 hk2 hk3 hsz hB0
 go_enter Try.func33, Try.ntmps33
 go_wp2_with fail
 rw [← hW0]
 refine HG.out.mono ?_
 rintro e w2 ⟨rfl, w3, ⟨u, hu, A5, c5, A6, c6, hbx, m5, F5, m6, F6, ho, R5, N6⟩, hbad, rfl⟩
 have hz := HZ.out
 have hbx2 : (w3.setCell ⟨W0.heap.size, 0, none⟩ (.bool false)).heap[w.heap.size + 3]? = _ := (Below.heap_setCell w3 ⟨W0.heap.size, 0, none⟩ _ (w.heap.size + 3) (by show _ ≠ W0.heap.size; omega)).trans hbx
 have r0 := blk_cell hbx2 0
 have r1 := blk_cell hbx2 1
 have r2 := blk_cell hbx2 2
 have r3 := blk_cell hbx2 3
 have r4 := blk_cell hbx2 4
 have hk2 : (w3.setCell ⟨W0.heap.size, 0, none⟩ (.bool false)).heap[w.heap.size + 2]? = _ := (Below.heap_setCell w3 ⟨W0.heap.size, 0, none⟩ _ (w.heap.size + 2) (by show _ ≠ W0.heap.size; omega)).trans ((ho.block _ (by rw [push_size]; omega) (put_none _ _ (by omega))).trans ((heap_alloc_old W0 _ (by omega)).trans K2.out))
 have f0 := blk_frozen hk2 0
 have f1 := blk_frozen hk2 1
 have f2 := blk_frozen hk2 2
 have f3 := blk_frozen hk2 3
 have f4 := blk_frozen hk2 4
 have q0 := blk_cell hk2 0
 have q1 := blk_cell hk2 1
 have q2 := blk_cell hk2 2
 have q3 := blk_cell hk2 3
 have q4 := blk_cell hk2 4
 have hon : Below w.heap.size w w3 := HB0.out.trans ⟨ho.os, ho.tape, ho.output, by have := ho.size; rw [push_size] at this; omega, fun k hk => (ho.block k (by rw [push_size]; omega) (put_none _ _ (by omega))).trans (heap_alloc_old W0 _ (by omega))⟩
 have hw4 : ∃ w4, w4 = w3.setCell ⟨W0.heap.size, 0, none⟩ (.bool false) := ⟨_, rfl⟩
 obtain ⟨w4, hw4⟩ := hw4
 have hs4 : ∀ k, k ≠ W0.heap.size → w4.heap[k]? = w3.heap[k]? := fun k hk => by rw [hw4]; exact Below.heap_setCell w3 ⟨W0.heap.size, 0, none⟩ _ k hk
 have hon4 : Below w.heap.size w w4 := by rw [hw4]; exact hon.setCell (p := ⟨W0.heap.size, 0, none⟩) (by show _ ≤ W0.heap.size; omega) _
 rw [← hw4] at r0 r1 r2 r3 r4 f0 f1 f2 f3 f4 q0 q1 q2 q3 q4 ⊢
 clear hw4
 have HTO := Aside0.mk (show Told w (((((w4.setCell ⟨w.heap.size + 2, 0, none⟩ (.int .i64 u.f0)).setCell ⟨w.heap.size + 2, 1, none⟩ (.string u.f1)).setCell ⟨w.heap.size + 2, 2, none⟩ (.string u.f2)).setCell ⟨w.heap.size + 2, 3, none⟩ (.slice A5 u.f3.length c5)).setCell ⟨w.heap.size + 2, 4, none⟩ (.slice A6 u.f4.length c6)) u (.returned (.agg #[.int .i64 u.f0, .string u.f1, .string u.f2, .slice A5 u.f3.length c5, .slice A6 u.f4.length c6])) from
  ⟨A5, c5, A6, c6, rfl, m5, Kd.F_mono (Kd.F_step F5 (fun k hk _ => (sets5 w4 _ _ _ _ _ _ k (by rw [push_size] at hk; omega)).trans (hs4 k (by rw [push_size] at hk; omega)))) (fun k hk => by rw [push_size] at hk; omega), m6, Kd.F_mono (Kd.F_step F6 (fun k hk _ => (sets5 w4 _ _ _ _ _ _ k (by rw [push_size] at hk; omega)).trans (hs4 k (by rw [push_size] at hk; omega)))) (fun k hk => by rw [push_size] at hk; omega),
   ((((hon4.setCell (p := ⟨w.heap.size + 2, 0, none⟩) (by show _ ≤ w.heap.size + 2; omega) _).setCell (p := ⟨w.heap.size + 2, 1, none⟩) (by show _ ≤ w.heap.size + 2; omega) _).setCell (p := ⟨w.heap.size + 2, 2, none⟩) (by show _ ≤ w.heap.size + 2; omega) _).setCell (p := ⟨w.heap.size + 2, 3, none⟩) (by show _ ≤ w.heap.size + 2; omega) _).setCell (p := ⟨w.heap.size + 2, 4, none⟩) (by show _ ≤ w.heap.size + 2; omega) _,
   Kd.R_lower (Kd.R_mono (Kd.R_step R5 (fun k hk _ => (sets5 w4 _ _ _ _ _ _ k (by rw [push_size] at hk; omega)).trans (hs4 k (by rw [push_size] at hk; omega)))) (fun k hk => by rw [push_size] at hk; omega)) (by rw [push_size]; omega), Kd.N_lower (Kd.N_mono (Kd.N_step N6 (fun k hk _ => (sets5 w4 _ _ _ _ _ _ k (by have h1 := hk.1; rw [push_size] at h1; omega)).trans (hs4 k (by have h1 := hk.1; rw [push_size] at h1; omega)))) (fun k hk => ⟨by have h1 := hk.1; rw [push_size] at h1; omega, hk.2⟩)) (by rw [push_size]; omega)⟩)
 have HU := Aside0.mk hu
 clear hbx hbx2 F5 F6 R5 N6 m5 m6 ho hbad hon hon4 hs4 hz HG hu hk2
 go_wp2_with fail
 refine bodyPost_ret (v := .agg #[.int .i64 u.f0, .string u.f1, .string u.f2, .slice A5 u.f3.length c5, .slice A6 u.f4.length c6]) (by simp [results, Try.results33, go_sem, q0, q1, q2, q3, q4]) rfl ?_
 exact ⟨u, HU.out, HTO.out⟩
/-- The result, stored in a box of the caller's and read back. -/
theorem told_box {w W0 w2 : World} {u : T} {b : Nat} {A5 A6 : Option Addr} {c5 c6 : Nat} (hb0 : Below w.heap.size w W0) (hb : w.heap.size ≤ b) (hlt : b < W0.heap.size) (m5 : u.f3.length ≤ c5) (F5 : Kd.F k53 w2 (fun k => W0.heap.size ≤ k) A5 u.f3.length u.f3) (m6 : u.f4.length ≤ c6) (F6 : Kd.F k25 w2 (fun k => W0.heap.size ≤ k) A6 u.f4.length u.f4) (hB : Below W0.heap.size W0 w2)
  (R5 : Kd.R k53 53 w2 W0.heap.size (fun k => W0.heap.size ≤ k) (.slice A5 u.f3.length c5) u.f3) (N6 : Kd.N k25 25 w2 W0.heap.size (fun k => W0.heap.size ≤ k ∧ some k ≠ (Value.slice A5 u.f3.length c5).ownBlock) (.slice A6 u.f4.length c6) u.f4) (a0 a1 a2 a3 a4 : Value) :
  Told w (((((w2.setCell ⟨b, 0, none⟩ a0).setCell ⟨b, 1, none⟩ a1).setCell ⟨b, 2, none⟩ a2).setCell ⟨b, 3, none⟩ a3).setCell ⟨b, 4, none⟩ a4) u (.returned (.agg #[.int .i64 u.f0, .string u.f1, .string u.f2, .slice A5 u.f3.length c5, .slice A6 u.f4.length c6])) := by
 have hs := fun k (hk : k ≠ b) => sets5 w2 b a0 a1 a2 a3 a4 k hk
 have hle := hb0.size
 exact ⟨A5, c5, A6, c6, rfl, m5, Kd.F_mono (Kd.F_step F5 (fun k hk _ => hs k (by omega))) (fun k hk => by omega), m6, Kd.F_mono (Kd.F_step F6 (fun k hk _ => hs k (by omega))) (fun k hk => by omega),
  (((((below_step hb0 hB).setCell (p := ⟨b, 0, none⟩) hb _).setCell (p := ⟨b, 1, none⟩) hb _).setCell (p := ⟨b, 2, none⟩) hb _).setCell (p := ⟨b, 3, none⟩) hb _).setCell (p := ⟨b, 4, none⟩) hb _,
  Kd.R_lower (Kd.R_mono (Kd.R_step R5 (fun k hk _ => hs k (by omega))) (fun k hk => by omega)) hle, Kd.N_lower (Kd.N_mono (Kd.N_step N6 (fun k hk _ => hs k (by have := hk.1; omega))) (fun k hk => ⟨by have := hk.1; omega, hk.2⟩)) hle⟩
end Go.Proofs.Ytmfjbljdbkmkgaa.Dom

/- domutils.RemoveRedundant over a tree. -/
namespace Go.Proofs.Ytmfjbljdbkmkgaa.Dom
open Go.RowKit Go.Proofs.YtmfjbljdbkmkgaaW.PrintWords Go.Proofs.YtmfjbljdbkmkgaaW.PrintLast Go.Proofs.YtmfjbljdbkmkgaaW.PrintMore Go.Proofs.Ytmfjbljdbkmkgaa.PDom
set_option linter.unusedVariables false
set_option linter.unusedSimpArgs false

/-- An element of one of some names. -/
def mt (names : List ByteArray) (r : RT) : Bool := r.ty == 3 && names.any fun s => r.data.toList == s.toList
/-! ### Up from a node -/
end Go.Proofs.Ytmfjbljdbkmkgaa.Dom

/- impl.neighbor at the kinds of first children and siblings. Printed in part by the program gen_sibm.py of this session. -/
namespace Go.Proofs.Ytmfjbljdbkmkgaa.PDom
open Go.RowKit Go.Proofs.YtmfjbljdbkmkgaaW.PrintWords Go.Proofs.YtmfjbljdbkmkgaaW.PrintLast Go.Proofs.YtmfjbljdbkmkgaaW.PrintMore Go.Proofs.Ytmfjbljdbkmkgaa.Dom
set_option linter.unusedVariables false
set_option linter.unusedSimpArgs false

theorem last_split (path : List Int) (j : Int) (h : path.getLast? = some j) : path = path.dropLast ++ [j] := by
 obtain ⟨l, rfl⟩ := List.getLast?_eq_some_iff.1 h
 simp
/-- The node at a place that isn't the root: its parent, and its number among the children. -/
theorem at_last {r x : RT} {path : List Int} {j : Int} (hx : r.at_ path = some x) (hj : path.getLast? = some j) : ∃ up, r.at_ path.dropLast = some up ∧ 0 ≤ j ∧ ∃ h : j.toNat < up.kids.length, up.kids[j.toNat] = x := by
 have e := last_split path j hj
 rw [e, at_append] at hx
 obtain ⟨up, h1, h2⟩ := Option.bind_eq_some_iff.1 hx
 refine ⟨up, h1, ?_⟩
 simp only [RT.at_] at h2
 by_cases h0 : 0 ≤ j
 ·rw [if_pos h0] at h2
  obtain ⟨y, h3, h4⟩ := Option.bind_eq_some_iff.1 h2
  obtain rfl := Option.some.inj h4
  obtain ⟨h5, h6⟩ := List.getElem?_eq_some_iff.1 h3
  exact ⟨h0, h5, h6⟩
 ·rw [if_neg h0] at h2
  cases h2
end Go.Proofs.Ytmfjbljdbkmkgaa.PDom

/- impl.Replaced: a tree with another one in a node's place. -/
namespace Go.Proofs.Ytmfjbljdbkmkgaa.PDom
open Go.RowKit Go.Proofs.YtmfjbljdbkmkgaaW.PrintWords Go.Proofs.YtmfjbljdbkmkgaaW.PrintLast Go.Proofs.YtmfjbljdbkmkgaaW.PrintMore Go.Proofs.Ytmfjbljdbkmkgaa.Dom
set_option linter.unusedVariables false
set_option linter.unusedSimpArgs false

theorem is_into {D D' : Tab} {p : Option Nat} {r : RT} (hs : ∀ b i, D b = some i → D' b = some i) (h : Is D p r) : Is D' p r := by
 induction h with
 | mk p i t a d at_ ks h hk ih => exact Is.mk p i t a d at_ ks (hs _ _ h) ih
theorem is_mem {D : Tab} (r : RT) : ∀ {p : Option Nat}, Is D p r → ∀ b ∈ r.pre, D b ≠ none := by
 induction r using RT.induct with
 | h i t a d at_ ks ih =>
  intro p h b hb
  have hroot : D i = some _ := h.root
  rcases List.mem_cons.1 (show b ∈ i :: RT.preL ks from hb) with rfl | hb
  ·rw [hroot]; simp
  ·obtain ⟨k, hk, hbk⟩ := RT.mem_preL.1 hb
   exact ih k hk (h.kid hk) b hbk
/-- A tree that has been made beside a table. -/
theorem beside {W W1 : World} {D D2 : Tab} {b : Nat} {t tw : T} {r : RT} (hdom : Dom W D) (hr : Is D none r) (hm : Made W W1 b D2 tw) :
  ∃ y, y.id = b ∧ TellsT tw y ∧ Dom W1 (uni D D2) ∧ Is (uni D D2) none r ∧ Is (uni D D2) none y ∧ y.id ∉ r.pre ∧ (∀ k, k < W.heap.size → D k = none → uni D D2 k = none) := by
 have hge : ∀ y, D2 y ≠ none → W.heap.size ≤ y := hm.fresh
 have hd : ∀ y, D y ≠ none → D2 y = none := by
  intro y hy
  cases hc : D2 y with
  | none => rfl
  | some q =>
   have := hge y (by rw [hc]; simp)
   have := hdom.lt hy
   omega
 have hd' : ∀ y, D2 y ≠ none → D y = none := by
  intro y hy
  cases hc : D y with
  | none => rfl
  | some q => exact absurd (hd y (by rw [hc]; simp)) hy
 obtain ⟨i0, hi0⟩ : ∃ i, D2 b = some i := by
  obtain ⟨_, _, i, h, _⟩ := hm.tree
  exact ⟨i, h⟩
 obtain ⟨y, rfl, hy, hto⟩ := hm.tree.rt hm.dom.wf i0 hi0
 rw [hm.root i0 hi0] at hy
 refine ⟨y, rfl, hto, (hdom.below hm.below).union hm.dom hd, is_into (fun b i h => uni_left h) hr, is_into (fun b i h => by rw [uni_right (hd' b (by rw [h]; simp)), h]) hy, fun hmem => ?_, fun k hk hn => ?_⟩
 ·have h1 := hdom.lt (is_mem r hr _ hmem)
  have h2 := hge y.id (by rw [hi0]; simp)
  omega
 ·rw [uni_right hn]
  cases hc : D2 k with
  | none => rfl
  | some q => have := hge k (by rw [hc]; simp); omega
/-- The parts of a tree at a place below its root. -/
theorem place_parts {r x : RT} {path : List Int} {j : Int} (hx : r.at_ path = some x) (hj : path.getLast? = some j) : ∃ up k1 k2, r.at_ path.dropLast = some up ∧ up.kids = k1 ++ x :: k2 ∧ k1.length = j.toNat := by
 obtain ⟨up, hu, h0, hlt, he⟩ := at_last hx hj
 refine ⟨up, up.kids.take j.toNat, up.kids.drop (j.toNat + 1), hu, ?_, by rw [List.length_take]; omega⟩
 rw [← he]
 exact (List.take_append_drop j.toNat up.kids).symm.trans (by rw [List.drop_eq_getElem_cons hlt])
end Go.Proofs.Ytmfjbljdbkmkgaa.PDom

/- Trees as plain data: their text, which of their nodes stand within one another, whether they are plain (elements, texts, comments); and the same of trees of nodes. Plain facts. -/
namespace Go.Proofs.Ytmfjbljdbkmkgaa.Dom
open Go.RowKit Go.Proofs.YtmfjbljdbkmkgaaW.PrintWords Go.Proofs.YtmfjbljdbkmkgaaW.PrintLast Go.Proofs.YtmfjbljdbkmkgaaW.PrintMore Go.Proofs.Ytmfjbljdbkmkgaa.PDom
set_option linter.unusedVariables false
set_option linter.unusedSimpArgs false

mutual
def txT : T → List UInt8
 | ⟨k, _, x, _, ks⟩ => if k = 1 then x.data.toList else txTL ks
def txTL : List T → List UInt8
 | [] => []
 | k :: ks => txT k ++ txTL ks
end
/-! ### Taken out, all at once -/
theorem own_nil {m : RT → Bool} (hO : Own m) (i : Nat) (t a : Int) (d : ByteArray) (at_ : List (ByteArray × ByteArray)) (ks : List RT) : m (.node i t a d at_ []) = m (.node i t a d at_ ks) := hO (.node i t a d at_ ks) []
/-! ### Plain trees -/
mutual
def okT : T → Bool
 | ⟨k, n, x, as_, ks⟩ => ((((k == 1 || k == 2) && (n.size == 0 && (as_.isEmpty && ks.isEmpty))) || (k == 0 && x.size == 0)) && (decide (as_.length ≤ 4398046510976) && decide (ks.length ≤ 4398046510976))) && okTL ks
def okTL : List T → Bool
 | [] => true
 | k :: ks => okT k && okTL ks
end
theorem okTL_iff : ∀ {l : List T}, okTL l = true ↔ ∀ k ∈ l, okT k = true
 | [] => by simp [okTL]
 | k :: ks => by
  rw [okTL, Bool.and_eq_true, okTL_iff (l := ks)]
  simp
theorem size_zero {a : ByteArray} (h : a.size = 0) : a = ⟨#[]⟩ := by
 cases a with
 | mk d =>
  have : d = #[] := Array.eq_empty_of_size_eq_zero h
  rw [this]
theorem okT_open {t : T} (h : okT t = true) : NodeOk false t ∧ t.f3.length ≤ 4398046510976 ∧ t.f4.length ≤ 4398046510976 ∧ ∀ k ∈ t.f4, okT k = true := by
 cases t with
 | mk k n x as_ ks =>
  rw [okT] at h
  simp only [Bool.and_eq_true, Bool.or_eq_true, beq_iff_eq, decide_eq_true_eq, List.isEmpty_iff] at h
  obtain ⟨⟨h1, h2, h3⟩, h4⟩ := h
  refine ⟨?_, h2, h3, okTL_iff.1 h4⟩
  rcases h1 with ⟨h5, h6, h7, h8⟩ | ⟨h5, h6⟩
  ·exact .inl ⟨h5, size_zero h6, h7, h8⟩
  ·exact .inr (.inr ⟨h5, size_zero h6⟩)
theorem okT_mk {t : T} (h : NodeOk false t) (h3 : t.f3.length ≤ 4398046510976) (h4 : t.f4.length ≤ 4398046510976) (hk : ∀ k ∈ t.f4, okT k = true) : okT t = true := by
 cases t with
 | mk k n x as_ ks =>
  rw [okT]
  simp only [Bool.and_eq_true, Bool.or_eq_true, beq_iff_eq, decide_eq_true_eq, List.isEmpty_iff]
  refine ⟨⟨?_, h3, h4⟩, okTL_iff.2 hk⟩
  rcases h with ⟨a, b, c, d⟩ | ⟨_, b, _⟩ | ⟨a, b⟩
  ·exact .inl ⟨a, by rw [show n = ⟨#[]⟩ from b]; rfl, c, d⟩
  ·cases b
  ·exact .inr ⟨a, by rw [show x = ⟨#[]⟩ from b]; rfl⟩
theorem T_induct {P : T → Prop} (h : ∀ t : T, (∀ k ∈ t.f4, P k) → P t) : ∀ t, P t := by
 intro t
 generalize hn : SizeOf.sizeOf t = n
 induction n using Nat.strongRecOn generalizing t with
 | _ n ih =>
  refine h t (fun k hk => ih _ ?_ k rfl)
  rw [← hn]
  exact kid_lt hk
theorem ok_norm (t : T) : okT t = true → Norm false t := by
 induction t using T_induct with
 | h t ih =>
  intro h
  obtain ⟨h1, _, _, h4⟩ := okT_open h
  exact ⟨false, t, h1, fun y hy => ih y hy (h4 y hy)⟩
theorem ok_fit (t : T) : okT t = true → Fit t := by
 induction t using T_induct with
 | h t ih =>
  intro h
  obtain ⟨_, h2, h3, h4⟩ := okT_open h
  exact ⟨t, h2, h3, fun y hy => ih y hy (h4 y hy)⟩
/-- The nodes of a plain tree. -/
theorem ok_all (r : RT) : ∀ t : T, okT t = true → TellsT t r → RT.All okN r := by
 induction r using RT.induct with
 | h i ty a d at_ ks ih =>
  intro t ht h
  have hn := ok_norm t ht
  obtain ⟨h1, h3, _, h4⟩ := okT_open ht
  obtain ⟨hl, hk⟩ := told_open h hn
  have hty : (ty = 1 ∨ ty = 3 ∨ ty = 4) ∧ at_.length ≤ 4398046510976 := by
   cases h with
   | mk _ _ _ _ ha hl hk =>
    refine ⟨?_, ?_⟩
    ·rcases h1 with ⟨(e | e), _⟩ | ⟨_, e, _⟩ | ⟨e, _⟩
     ·rw [e]; simp [tyOf]
     ·rw [e]; simp [tyOf]
     ·cases e
     ·rw [e]; simp [tyOf]
    ·unfold attrsOf
     split
     ·rw [List.length_map]; exact h3
     ·simp
  refine ⟨_, ⟨hty.2, hty.1⟩, fun k hk2 => ?_⟩
  obtain ⟨n, hn2, rfl⟩ := List.mem_iff_getElem.1 (show k ∈ ks from hk2)
  exact ih _ hk2 _ (h4 _ (List.getElem_mem (by rw [hl]; exact hn2))) (hk n (by rw [hl]; exact hn2) hn2)
end Go.Proofs.Ytmfjbljdbkmkgaa.Dom

/- spec.Put29: the tree with others in a node's place. -/
namespace Go.Proofs.Ytmfjbljdbkmkgaa.PDom
open Go.RowKit Go.Proofs.YtmfjbljdbkmkgaaW.PrintWords Go.Proofs.YtmfjbljdbkmkgaaW.PrintLast Go.Proofs.YtmfjbljdbkmkgaaW.PrintMore Go.Proofs.Ytmfjbljdbkmkgaa.Dom
set_option linter.unusedVariables false
set_option linter.unusedSimpArgs false

section
variable {w w1 w2 w3 : World} {P : Nat → Prop} {v v1 : Value} {xs ys : List T}
end
/-- An element of a row of trees that is only read. -/
theorem at_F {w : World} {P : Nat → Prop} {A : Option Addr} {n : Nat} {xs : List T} (h : Kd.F k25 w P A n xs) (i : Int) (h0 : 0 ≤ i) (h1 : i < n) : ∃ ad A3 c3 A4 c4, A = some ad ∧ w.cell? (ad.add (i.toNat * 5)) = some (.int .i64 (xs.getD i.toNat z25).f0) ∧ w.cell? ⟨(ad.add (i.toNat * 5)).block, (ad.add (i.toNat * 5)).off + 1, none⟩ = some (.string (xs.getD i.toNat z25).f1) ∧ w.cell? ⟨(ad.add (i.toNat * 5)).block, (ad.add (i.toNat * 5)).off + 2, none⟩ = some (.string (xs.getD i.toNat z25).f2) ∧
  w.cell? ⟨(ad.add (i.toNat * 5)).block, (ad.add (i.toNat * 5)).off + 3, none⟩ = some (.slice A3 (xs.getD i.toNat z25).f3.length c3) ∧ w.cell? ⟨(ad.add (i.toNat * 5)).block, (ad.add (i.toNat * 5)).off + 4, none⟩ = some (.slice A4 (xs.getD i.toNat z25).f4.length c4) ∧
  (xs.getD i.toNat z25).f3.length ≤ c3 ∧ Kd.F k53 w P A3 (xs.getD i.toNat z25).f3.length (xs.getD i.toNat z25).f3 ∧ (xs.getD i.toNat z25).f4.length ≤ c4 ∧ Kd.F k25 w P A4 (xs.getD i.toNat z25).f4.length (xs.getD i.toNat z25).f4 := by
 obtain ⟨ad, cs, rfl, hcl, hK, hcc, _⟩ := Kd.F_get h z25 i h0 h1
 have hc : ∀ j u, cs[j]? = some u → w.cell? (ad.add (i.toNat * 5 + j)) = some u := hcc
 obtain ⟨A3, c3, A4, c4, rfl, l3, g3, l4, g4⟩ := k25_openF hK
 exact ⟨ad, A3, c3, A4, c4, rfl, hc 0 _ rfl, by rw [← add_field _ _ 1 (by omega)]; exact hc 1 _ rfl, by rw [← add_field _ _ 2 (by omega)]; exact hc 2 _ rfl, by rw [← add_field _ _ 3 (by omega)]; exact hc 3 _ rfl, by rw [← add_field _ _ 4 (by omega)]; exact hc 4 _ rfl, l3, g3, l4, g4⟩
section
variable {w wr w1 w2 w3 : World} {P : Nat → Prop} {c0 : Array Value} {v v1 : Value} {xs ys : List T}
end
end Go.Proofs.Ytmfjbljdbkmkgaa.PDom

/- What laws.inlineTree makes of a tree: its nodes in order, as many as may come, so deep; texts of printed ASCII, names of some. Plain facts. -/
namespace Go.Proofs.Ytmfjbljdbkmkgaa.Dom
open Go.RowKit Go.Proofs.YtmfjbljdbkmkgaaW.PrintWords Go.Proofs.YtmfjbljdbkmkgaaW.PrintLast Go.Proofs.YtmfjbljdbkmkgaaW.PrintMore Go.Proofs.Ytmfjbljdbkmkgaa.PDom Go.Proofs.Ytmfjbljdbkmkgaa.Txt
set_option linter.unusedVariables false
set_option linter.unusedSimpArgs false

/-! ### Names -/
theorem named_some (l : List ByteArray) (hl : l.length ≤ 4611686018427387904) (s : ByteArray) : ∀ (n j k : Nat), j + n = l.length → n < k → spec_Named.l0 k s l (l.length : Int) (j : Int) = some ((l.drop j).any fun x => x.toList == s.toList)
 | 0, j, k, hj, hk => by
  obtain ⟨k, rfl⟩ : ∃ m, k = m + 1 := ⟨k - 1, by omega⟩
  rw [spec_Named.l0, if_neg (by omega), List.drop_eq_nil_of_le (by omega)]
  rfl
 | n + 1, j, k, hj, hk => by
  obtain ⟨k, rfl⟩ : ∃ m, k = m + 1 := ⟨k - 1, by omega⟩
  have hlt : j < l.length := by omega
  have hr : rdOf ByteArray.empty l (j : Int) = l[j] := by simp [rdOf, List.getD_eq_getElem?_getD, List.getElem?_eq_getElem hlt]
  have hw : wrap64 ((j : Int) + 1) = ((j + 1 : Nat) : Int) := by unfold wrap64; omega
  rw [spec_Named.l0, if_pos (by omega), if_pos (by omega), if_pos (by omega), hr, hw, any_dropN hlt]
  by_cases e : l[j].toList = s.toList
  ·rw [if_pos e, if_pos (beq_iff_eq.2 e)]
  ·rw [if_neg e, if_neg (fun h => e (beq_iff_eq.1 h))]
   exact named_some l hl s n (j + 1) k (by omega) (by omega)
theorem named_f (l : List ByteArray) (hl : l.length ≤ 4611686018427387904) (s : ByteArray) (k : Nat) (hk : l.length < k) : spec_Named.f k l s = some (l.any fun x => x.toList == s.toList) := by
 have := named_some l hl s l.length 0 k (by omega) hk
 rw [List.drop_zero] at this
 exact this
def names14 : List ByteArray := [(⟨#[100, 105, 118]⟩ : ByteArray), (⟨#[112]⟩ : ByteArray), (⟨#[115, 112, 97, 110]⟩ : ByteArray), (⟨#[98]⟩ : ByteArray), (⟨#[115, 116, 114, 111, 110, 103]⟩ : ByteArray), (⟨#[101, 109]⟩ : ByteArray), (⟨#[105]⟩ : ByteArray), (⟨#[97]⟩ : ByteArray), (⟨#[99, 111, 100, 101]⟩ : ByteArray), (⟨#[112, 114, 101]⟩ : ByteArray), (⟨#[98, 114]⟩ : ByteArray), (⟨#[105, 109, 103]⟩ : ByteArray), (⟨#[117, 108]⟩ : ByteArray), (⟨#[108, 105]⟩ : ByteArray)]
def nmC (s : ByteArray) : ByteArray := if (names14.any fun x => x.toList == s.toList) = true then s else rdOf ByteArray.empty names14 ((s.size : Int) % 14)
theorem name_f (s : ByteArray) (k : Nat) (hk : 14 < k) : laws_inlineName.f k s = some (nmC s) := by
 have h1 := named_f names14 (by decide) s k hk
 have h0 : laws_inlineNames.f = some names14 := rfl
 rw [laws_inlineName.f, h0, Option.bind_some, h1, Option.bind_some]
 have hlen : (names14.length : Int) = 14 := rfl
 rw [hlen, if_neg (show ¬ (14 : Int) = 0 by decide), if_pos (show 0 ≤ (s.size : Int) % 14 by omega), if_pos (show (s.size : Int) % 14 < 14 by omega)]
 unfold nmC
 split <;> rfl
theorem nmC_mem (s : ByteArray) : nmC s ∈ names14 := by
 unfold nmC
 split
 ·rename_i h
  obtain ⟨x, hx, e⟩ := List.any_eq_true.1 h
  rw [← toList_inj (beq_iff_eq.1 e)]
  exact hx
 ·have h1 : ((s.size : Int) % 14).toNat < names14.length := by show _ < 14; omega
  simp only [rdOf, List.getD_eq_getElem?_getD, List.getElem?_eq_getElem h1, Option.getD_some]
  exact List.getElem_mem h1
/-! ### Texts -/
def ascB (s : ByteArray) : ByteArray := (laws_inlineASCII.f 400 s).getD ⟨#[]⟩
theorem asc_f (s : ByteArray) (hs : s.size ≤ 140737488351232) : ∃ r, ascB s = strOfNums r ∧ (∀ k, 301 < k → laws_inlineASCII.f k s = some (ascB s)) ∧ r.length ≤ 300 ∧ Asc r := by
 obtain ⟨r, h1, h2, h3⟩ := ascii s hs
 have e : ascB s = strOfNums r := by unfold ascB; rw [h1 400 (by omega)]; rfl
 exact ⟨r, e, fun k hk => by rw [e]; exact h1 k hk, h2, h3⟩
/-! ### The tree, cut -/
def brN : ByteArray := ⟨#[98, 114]⟩
def imgN : ByteArray := ⟨#[105, 109, 103]⟩
mutual
def cutT (d l : Int) : T → T × Int
 | ⟨k, n, x, _, ks⟩ => if k = 1 then (⟨1, ⟨#[]⟩, ascB x, [], []⟩, l - 1) else if k = 2 then (⟨2, ⟨#[]⟩, ascB x, [], []⟩, l - 1) else
  if nmC n = brN ∨ nmC n = imgN then (⟨0, nmC n, ⟨#[]⟩, [], []⟩, l - 1) else (⟨0, nmC n, ⟨#[]⟩, [], (cutL d (l - 1) ks).1⟩, (cutL d (l - 1) ks).2)
def cutL (d l : Int) : List T → List T × Int
 | [] => ([], l)
 | k :: ks => if 0 < l ∧ 0 < d then ((cutT (d - 1) l k).1 :: (cutL d (cutT (d - 1) l k).2 ks).1, (cutL d (cutT (d - 1) l k).2 ks).2) else cutL d l ks
end
/-- Up to a place, and from there on. -/
theorem cutL_append (d : Int) (a b : List T) : ∀ l, cutL d l (a ++ b) = ((cutL d l a).1 ++ (cutL d (cutL d l a).2 b).1, (cutL d (cutL d l a).2 b).2) := by
 induction a with
 | nil => intro l; rfl
 | cons k a ih =>
  intro l
  rw [List.cons_append, cutL, cutL]
  split
  ·rw [ih]
   rfl
  ·exact ih l
theorem cutL_one (d l : Int) (k : T) : cutL d l [k] = if 0 < l ∧ 0 < d then ([(cutT (d - 1) l k).1], (cutT (d - 1) l k).2) else ([], l) := by
 rw [cutL]
 split <;> rfl
/-- How many nodes there are, and how many may still come. -/
theorem cut_count (t : T) : ∀ (d l : Int), 0 < l → (countT (cutT d l t).1 : Int) + (cutT d l t).2 = l ∧ 0 ≤ (cutT d l t).2 ∧ (cutT d l t).2 < l := by
 induction t using T_induct with
 | h t ih =>
  intro d l hl
  cases t with
  | mk k n x as_ ks =>
   have hL : ∀ (c : List T), (∀ y ∈ c, y ∈ ks) → ∀ l : Int, 0 ≤ l → (countTL (cutL d l c).1 : Int) + (cutL d l c).2 = l ∧ 0 ≤ (cutL d l c).2 ∧ (cutL d l c).2 ≤ l := by
    intro c
    induction c with
    | nil => intro _ l hl; simp [cutL, countTL]; exact hl
    | cons y c ih2 =>
     intro hm l hl
     rw [cutL]
     split
     ·rename_i h0
      obtain ⟨a1, a2, a3⟩ := ih y (hm y (by simp)) (d - 1) l h0.1
      obtain ⟨b1, b2, b3⟩ := ih2 (fun z hz => hm z (by simp [hz])) (cutT (d - 1) l y).2 a2
      simp only [countTL]
      refine ⟨?_, b2, by omega⟩
      push_cast
      omega
     ·exact ih2 (fun z hz => hm z (by simp [hz])) l hl
   rw [cutT]
   split
   ·simp [countT, countTL]; omega
   ·split
    ·simp [countT, countTL]; omega
    ·split
     ·simp [countT, countTL]; omega
     ·obtain ⟨a1, a2, a3⟩ := hL ks (fun y hy => hy) (l - 1) (by omega)
      simp only [countT]
      refine ⟨?_, a2, by omega⟩
      push_cast
      omega
theorem cutL_le (d : Int) (c : List T) : ∀ l : Int, 0 ≤ l → 0 ≤ (cutL d l c).2 ∧ (cutL d l c).2 ≤ l := by
 induction c with
 | nil => intro l hl; exact ⟨hl, Int.le_refl _⟩
 | cons y c ih =>
  intro l hl
  rw [cutL]
  split
  ·rename_i h0
   obtain ⟨_, a2, a3⟩ := cut_count y (d - 1) l h0.1
   obtain ⟨b2, b3⟩ := ih (cutT (d - 1) l y).2 a2
   exact ⟨b2, by omega⟩
  ·exact ih l hl
theorem cutL_len (d : Int) (c : List T) : ∀ l : Int, 0 ≤ l → ((cutL d l c).1.length : Int) ≤ l := by
 induction c with
 | nil => intro l hl; simpa [cutL] using hl
 | cons y c ih =>
  intro l hl
  rw [cutL]
  split
  ·rename_i h0
   obtain ⟨_, a2, a3⟩ := cut_count y (d - 1) l h0.1
   have := ih (cutT (d - 1) l y).2 a2
   simp only [List.length_cons]
   push_cast
   omega
  ·exact ih l hl
/-- Trees whose texts and rows can be counted. -/
inductive FitX : T → Prop
 | mk (t : T) (h1 : t.f1.size ≤ 140737488351232) (h2 : t.f2.size ≤ 140737488351232) (h3 : t.f3.length ≤ 4398046510976) (h4 : t.f4.length ≤ 4398046510976) (hk : ∀ y ∈ t.f4, FitX y) : FitX t
theorem FitX.fit {t : T} (h : FitX t) : Fit t := by
 induction h with
 | mk t _ _ h3 h4 _ ih => exact ⟨t, h3, h4, ih⟩
/-- What a cut tree is like: plain, its names some of these, its texts ASCII's, none of them long. -/
inductive CutOk : T → Prop
 | text (k : Int) (r : List Int) (hk : k = 1 ∨ k = 2) (hr : Asc r) (hl : r.length ≤ 300) : CutOk ⟨k, ⟨#[]⟩, strOfNums r, [], []⟩
 | elem (n : ByteArray) (ks : List T) (hn : n ∈ names14) (hv : n = brN ∨ n = imgN → ks = []) (hk : ∀ y ∈ ks, CutOk y) : CutOk ⟨0, n, ⟨#[]⟩, [], ks⟩
theorem cut_ok (t : T) : FitX t → ∀ d l, CutOk (cutT d l t).1 := by
 induction t using T_induct with
 | h t ih =>
  intro hf d l
  cases t with
  | mk k n x as_ ks =>
   obtain ⟨_, _, h2, _, _, hk⟩ := hf
   obtain ⟨r, e1, _, e3, e4⟩ := asc_f x h2
   rw [cutT]
   split
   ·rw [e1]; exact .text 1 r (.inl rfl) e4 e3
   ·split
    ·rw [e1]; exact .text 2 r (.inr rfl) e4 e3
    ·split
     ·exact .elem _ _ (nmC_mem n) (fun _ => rfl) (fun y hy => by simp at hy)
     ·rename_i hv
      have hL : ∀ (c : List T), (∀ y ∈ c, y ∈ ks) → ∀ l, ∀ y ∈ (cutL d l c).1, CutOk y := by
       intro c
       induction c with
       | nil => intro _ l y hy; simp [cutL] at hy
       | cons z c ih2 =>
        intro hm l y hy
        rw [cutL] at hy
        split at hy
        ·rcases List.mem_cons.1 hy with e | e
         ·rw [e]
          exact ih z (hm z (by simp)) (hk z (hm z (by simp))) _ _
         ·exact ih2 (fun q hq => hm q (by simp [hq])) _ y e
        ·exact ih2 (fun q hq => hm q (by simp [hq])) _ y hy
      exact .elem _ _ (nmC_mem n) (fun h => absurd h hv) (hL ks (fun y hy => hy) _)
theorem countTL_ge (l : List T) : l.length ≤ countTL l := by
 induction l with
 | nil => exact Nat.le_refl _
 | cons k l ih =>
  have := countT_eq k
  rw [countTL, List.length_cons]
  omega
theorem cutOk_ok {t : T} (h : CutOk t) : countT t ≤ 1000000 → okT t = true := by
 induction h with
 | text k r hk hr hl => exact fun _ => okT_mk (.inl ⟨hk, rfl, rfl, rfl⟩) (Nat.zero_le _) (Nat.zero_le _) (fun y hy => by simp at hy)
 | elem n ks hn hv hk ih =>
  intro hc
  rw [countT] at hc
  have h1 := countTL_ge ks
  refine okT_mk (.inr (.inr ⟨rfl, rfl⟩)) (Nat.zero_le _) (by show ks.length ≤ _; omega) (fun y hy => ih y hy ?_)
  have : countT y ≤ countTL ks := by
   clear h1 hc ih hv hk
   have hy' : y ∈ ks := hy
   induction ks with
   | nil => simp at hy'
   | cons z ks ih =>
    rw [countTL]
    rcases List.mem_cons.1 hy' with e | e
    ·rw [e]; omega
    ·have := ih e e; omega
  omega
end Go.Proofs.Ytmfjbljdbkmkgaa.Dom

/- laws.inlineTree: its contract. -/
namespace Go.Proofs.Ytmfjbljdbkmkgaa.Dom
open Go.RowKit Go.Proofs.YtmfjbljdbkmkgaaW.PrintWords Go.Proofs.YtmfjbljdbkmkgaaW.PrintLast Go.Proofs.YtmfjbljdbkmkgaaW.PrintMore Go.Proofs.Ytmfjbljdbkmkgaa.PDom Go.Proofs.Ytmfjbljdbkmkgaa.Txt
set_option linter.unusedVariables false
set_option linter.unusedSimpArgs false

/-- All is as it was, but for the box of the number that is left. -/
abbrev OnL (lb : Nat) (w w' : World) : Prop := Only (put none_ lb dumI) w w'
theorem OnL.at {lb : Nat} {w w' : World} (h : OnL lb w w') {k : Nat} (hk : k < w.heap.size) (hne : k ≠ lb) : w'.heap[k]? = w.heap[k]? := h.block k hk (put_none lb k hne)
theorem OnL.then {lb : Nat} {w w1 w2 : World} (h : OnL lb w w1) (h2 : OnL lb w1 w2) : OnL lb w w2 := h.trans h2 (fun k hk _ => hk)
theorem OnL.below {lb : Nat} {w w1 w2 : World} (h : OnL lb w w1) (h2 : Below w.heap.size w1 w2) : OnL lb w w2 :=
 ⟨h2.os.trans h.os, h2.tape.trans h.tape, h2.output.trans h.output, Nat.le_trans h.size h2.size, fun k hk hd => (h2.block k hk).trans (h.block k hk hd)⟩
theorem OnL.of {lb : Nat} {w w1 : World} (h : Below w.heap.size w w1) : OnL lb w w1 := ⟨h.os, h.tape, h.output, h.size, fun k hk _ => h.block k hk⟩
theorem OnL.set {lb : Nat} {w w1 : World} (h : OnL lb w w1) (j : Nat) (u : Value) : OnL lb w (w1.setCell ⟨lb, j, none⟩ u) := Only.set h (p := ⟨lb, j, none⟩) (by show put none_ lb dumI lb ≠ none; rw [put_same]; simp) u
def zeroN : Array Value := #[.int .i64 0, .string ⟨#[]⟩, .string ⟨#[]⟩, .slice none 0 0, .slice none 0 0]
/-- The tree that is being made: its box, its row; the result's box; what is left. -/
structure TC (w wr : World) (lb : Nat) (L : Int) (nm : ByteArray) (v4 : Value) (l4 : List T) : Prop where
 box : wr.heap[w.heap.size + 2]? = some (.cells #[.int .i64 0, .string nm, .string ⟨#[]⟩, .slice none 0 0, v4] 25 (0, 0))
 res : wr.heap[w.heap.size + 1]? = some (.cells zeroN 25 (0, 0))
 lbx : wr.heap[lb]? = some (.cells #[.int .i64 L] 3 (0, 0))
 n4 : Kd.N k25 25 wr w.heap.size (fun k => w.heap.size + 3 ≤ k) v4 l4
 on : OnL lb w wr
section
variable {w wr w1 w2 w3 : World} {lb : Nat} {L L' : Int} {nm : ByteArray} {v4 v1 : Value} {l4 : List T}
theorem TC.size (h : TC w wr lb L nm v4 l4) : w.heap.size + 3 ≤ wr.heap.size := blk_lt h.box
theorem TC.moved (h : TC w wr lb L nm v4 l4) (hb : Below wr.heap.size wr w1) : TC w w1 lb L nm v4 l4 :=
 ⟨(hb.block _ (blk_lt h.box)).trans h.box, (hb.block _ (blk_lt h.res)).trans h.res, (hb.block _ (blk_lt h.lbx)).trans h.lbx, Kd.N_below h.n4 hb, h.on.below (hb.mono (by have := h.size; omega))⟩
theorem TC.call (h : TC w w1 lb L nm v4 l4) (hlb : lb < w.heap.size) (ho : OnL lb w1 w2) (hl : w2.heap[lb]? = some (.cells #[.int .i64 L'] 3 (0, 0))) : TC w w2 lb L' nm v4 l4 :=
 ⟨(ho.at (blk_lt h.box) (by omega)).trans h.box, (ho.at (blk_lt h.res) (by omega)).trans h.res, hl, Kd.N_step h.n4 (fun k hk hk2 => ho.at hk2 (by omega)), h.on.then ho⟩
theorem TC.kid (h : TC w w2 lb L nm v4 l4) (hlb : lb < w.heap.size) {p : T} (ho : Kd.N k25 25 w3 w.heap.size (fun k => w.heap.size + 3 ≤ k) v1 (l4 ++ [p])) (hb3 : Below w.heap.size w2 w3) (hg : w2.grownBy w3 v4.ownBlock) :
  w3.cell? ⟨w.heap.size + 2, 4, none⟩ = some v4 ∧ w3.frozen? ⟨w.heap.size + 2, 4, none⟩ = false ∧ TC w (w3.setCell ⟨w.heap.size + 2, 4, none⟩ v1) lb L nm v1 (l4 ++ [p]) := by
 have n2 : some (w.heap.size + 2) ≠ v4.ownBlock := fun e => by have := h.n4.1 _ e.symm; omega
 have n1 : some (w.heap.size + 1) ≠ v4.ownBlock := fun e => by have := h.n4.1 _ e.symm; omega
 have n0 : some lb ≠ v4.ownBlock := fun e => by have := h.n4.1 _ e.symm; omega
 have b3 := grown_kept hg h.box n2
 refine ⟨blk_cell b3 4, blk_frozen b3 4, blk_set b3 4 _, (Below.heap_setCell w3 _ _ _ (by show w.heap.size + 1 ≠ w.heap.size + 2; omega)).trans (grown_kept hg h.res n1), (Below.heap_setCell w3 _ _ _ (by show lb ≠ w.heap.size + 2; omega)).trans (grown_kept hg h.lbx n0), ?_, ?_⟩
 ·refine Kd.N_far ho (fun k hk => ?_) _
  show k ≠ w.heap.size + 2
  omega
 ·exact h.on.below (Below.setCell hb3 (p := ⟨w.heap.size + 2, 4, none⟩) (by show w.heap.size ≤ w.heap.size + 2; omega) _)
end
/-- What inlineTree returns. -/
def ToldC (w w' : World) (lb : Nat) (L : Int) (u : T) (e : Ending) : Prop := ∃ A4 c4, e = .returned (.agg #[.int .i64 u.f0, .string u.f1, .string u.f2, .slice none 0 0, .slice A4 u.f4.length c4]) ∧ u.f3 = [] ∧ u.f4.length ≤ c4 ∧ Kd.N k25 25 w' w.heap.size (fun k => w.heap.size ≤ k) (.slice A4 u.f4.length c4) u.f4 ∧ OnL lb w w' ∧ w'.heap[lb]? = some (.cells #[.int .i64 L] 3 (0, 0))
theorem cut_end {w w3 : World} {lb : Nat} {L : Int} {u : T} {A4 : Option Addr} {c4 : Nat} (hlb : lb < w.heap.size) (h3 : u.f3 = []) (hr : w.heap.size + 1 < w3.heap.size) (hl : w3.heap[lb]? = some (.cells #[.int .i64 L] 3 (0, 0))) (hon : OnL lb w w3)
  (h4 : Kd.N k25 25 w3 w.heap.size (fun k => w.heap.size + 3 ≤ k) (.slice A4 u.f4.length c4) u.f4) (a0 a1 a2 a3 a4 : Value) :
  ToldC w (((((w3.setCell ⟨w.heap.size + 1, 0, none⟩ a0).setCell ⟨w.heap.size + 1, 1, none⟩ a1).setCell ⟨w.heap.size + 1, 2, none⟩ a2).setCell ⟨w.heap.size + 1, 3, none⟩ a3).setCell ⟨w.heap.size + 1, 4, none⟩ a4) lb L u (.returned (.agg #[.int .i64 u.f0, .string u.f1, .string u.f2, .slice none 0 0, .slice A4 u.f4.length c4])) := by
 have hs := fun k (hk : k ≠ w.heap.size + 1) => sets5 w3 (w.heap.size + 1) a0 a1 a2 a3 a4 k hk
 have hb : Below w.heap.size w3 (((((w3.setCell ⟨w.heap.size + 1, 0, none⟩ a0).setCell ⟨w.heap.size + 1, 1, none⟩ a1).setCell ⟨w.heap.size + 1, 2, none⟩ a2).setCell ⟨w.heap.size + 1, 3, none⟩ a3).setCell ⟨w.heap.size + 1, 4, none⟩ a4) :=
  Below.setCell (Below.setCell (Below.setCell (Below.setCell (Below.setCell (Below.refl _ w3) (p := ⟨w.heap.size + 1, 0, none⟩) (Nat.le_succ _) _) (p := ⟨w.heap.size + 1, 1, none⟩) (Nat.le_succ _) _) (p := ⟨w.heap.size + 1, 2, none⟩) (Nat.le_succ _) _) (p := ⟨w.heap.size + 1, 3, none⟩) (Nat.le_succ _) _) (p := ⟨w.heap.size + 1, 4, none⟩) (Nat.le_succ _) _
 exact ⟨A4, c4, rfl, h3, (Kd.N_reads' h4).2.1, Kd.N_mono (Kd.N_step h4 (fun k hk _ => hs k (by omega))) (fun k hk => by omega), hon.below hb, (hs lb (by omega)).trans hl⟩
theorem fk_cut {W : World} {ok : Nat → Prop} {u : T} {A4 : Option Addr} {c4 : Nat} (h3 : u.f3 = []) (l4 : u.f4.length ≤ c4) (g4 : Kd.F k25 W ok A4 u.f4.length u.f4) : Kd.FK k25 W ok u [.int .i64 u.f0, .string u.f1, .string u.f2, .slice none 0 0, .slice A4 u.f4.length c4] := by
 have := k25_mkF W ok u (A3 := none) (c3 := 0) (by rw [h3]; exact Nat.le_refl _) (by rw [h3]; exact Kd.F_nil _ _ _) l4 g4
 rw [h3] at this
 exact this
/-- The three boxes, and one less left. -/
theorem cut_start {w : World} {lb : Nat} {l l' : Int} (hlb : w.heap[lb]? = some (.cells #[.int .i64 l] 3 (0, 0))) (c0 c1 c2 : Array Value) (W : World) (hW : W = (((w.setCell ⟨lb, 0, none⟩ (.int .i64 l')).alloc (.cells c0 25)).alloc (.cells c1 25)).alloc (.cells c2 25)) :
  W.heap.size = w.heap.size + 3 ∧ W.heap[w.heap.size]? = some (.cells c0 25 (0, 0)) ∧ W.heap[w.heap.size + 1]? = some (.cells c1 25 (0, 0)) ∧ W.heap[w.heap.size + 2]? = some (.cells c2 25 (0, 0)) ∧ W.heap[lb]? = some (.cells #[.int .i64 l'] 3 (0, 0)) ∧ OnL lb w W := by
 have hlt := blk_lt hlb
 obtain ⟨W3, hW3⟩ : ∃ W3, W3 = w.setCell ⟨lb, 0, none⟩ (.int .i64 l') := ⟨_, rfl⟩
 have kl3 : W3.heap[lb]? = some (.cells #[.int .i64 l'] 3 (0, 0)) := by rw [hW3]; exact blk_set hlb 0 _
 have hs3 : W3.heap.size = w.heap.size := by rw [hW3]; simp [World.setCell]
 have o3 : OnL lb w W3 := by rw [hW3]; exact (OnL.of (Below.refl _ w)).set 0 _
 rw [← hW3] at hW
 have e : W.heap = ((W3.heap.push (.cells c0 25 (0, 0))).push (.cells c1 25 (0, 0))).push (.cells c2 25 (0, 0)) := by rw [hW]; rfl
 have b4 : Below W3.heap.size W3 W := by rw [hW]; exact below_alloc (below_alloc (below_alloc (Below.refl _ _) _) _) _
 refine ⟨by rw [e]; simp [hs3], ?_, ?_, ?_, (b4.block _ (by omega)).trans kl3, o3.below (b4.mono (by omega))⟩ <;> rw [e] <;> simp only [Array.getElem?_push, Array.size_push, hs3] <;> repeat (first | rfl | rw [if_pos trivial] | rw [if_pos (by omega)] | rw [if_neg (by omega)])
end Go.Proofs.Ytmfjbljdbkmkgaa.Dom

/- laws.inlineTree: its walk. -/
namespace Go.Proofs.Ytmfjbljdbkmkgaa.Dom
open Go.RowKit Go.Proofs.YtmfjbljdbkmkgaaW.PrintWords Go.Proofs.YtmfjbljdbkmkgaaW.PrintLast Go.Proofs.YtmfjbljdbkmkgaaW.PrintMore Go.Proofs.Ytmfjbljdbkmkgaa.PDom Go.Proofs.Ytmfjbljdbkmkgaa.Txt
set_option linter.unusedVariables false
set_option linter.unusedSimpArgs false

set_option maxHeartbeats 4000000 in
set_option maxRecDepth 100000 in
theorem cut_calls : ∀ (n : Nat) (t : T), SizeOf.sizeOf t ≤ n → FitX t → ∀ (d l : Int), 0 ≤ d → d ≤ 8 → 0 < l → l ≤ 60 → ∀ (w : World) (lb : Nat) (P : Nat → Prop) (A3 : Option Addr) (c3 : Nat) (A4 : Option Addr) (c4 : Nat), w.heap[lb]? = some (.cells #[.int .i64 l] 3 (0, 0)) → (∀ k, P k → k ≠ lb ∧ k < w.heap.size) → Kd.F k25 w P A4 t.f4.length t.f4 → t.f4.length ≤ c4 →
  Calls Try.prog 31 #[.agg #[.int .i64 t.f0, .string t.f1, .string t.f2, .slice A3 t.f3.length c3, .slice A4 t.f4.length c4], .int .i64 d, .pointer (some ⟨lb, 0, none⟩)] w fun e w' => ToldC w w' lb (cutT d l t).2 (cutT d l t).1 e := by
 intro n
 induction n with
 | zero =>
  intro t h
  cases t
  simp at h
 | succ n ih =>
  intro t hsz hfit d l hd0 hd8 hl0 hl60 w lb P A3 c3 A4 c4 hlb hP h4 l4
  obtain ⟨f0, f1, f2, f3, f4⟩ := t
  simp only at h4 l4 ⊢
  have hlt := blk_lt hlb
  have HSZ := Aside0.mk hsz
  have HFIT := Aside0.mk hfit
  have HP := Aside0.mk hP
  have H4 := Aside0.mk h4
  have L4 := Aside0.mk l4
  have IH := Aside0.mk ih
  have HLB := Aside0.mk hlb
  have hw1 : wrap64 (l - 1) = l - 1 := by unfold wrap64; omega
  have q0 : w.cell? ⟨lb, 0, none⟩ = some (.int .i64 l) := by rw [blk_cell hlb]; rfl
  have qf : w.frozen? ⟨lb, 0, none⟩ = false := blk_frozen hlb 0
  by_cases k1 : f0 = 1 ∨ f0 = 2
  ·obtain ⟨W, hW⟩ : ∃ W, W = (((w.setCell ⟨lb, 0, none⟩ (.int .i64 (l - 1))).alloc (.cells #[.int .i64 f0, .string f1, .string f2, .slice A3 f3.length c3, .slice A4 f4.length c4] 25)).alloc (.cells #[.int .i64 0, .string ⟨#[]⟩, .string ⟨#[]⟩, .slice none 0 0, .slice none 0 0] 25)).alloc (.cells #[.int .i64 f0, .string f1, .string f2, .slice none 0 0, .slice none 0 0] 25) := ⟨_, rfl⟩
   obtain ⟨z0, z1, z2, z3, z4, z5⟩ := cut_start (l' := l - 1) hlb _ _ _ W hW
   obtain ⟨r, e1, e2, _, _⟩ := asc_f f2 (by cases hfit with | mk _ h1 h2 h3 h4 hk => exact h2)
   have HA := Aside0.mk (laws_inlineASCII.calls 400 f2 (ascB f2) W (e2 400 (by omega)))
   have Z0 := Aside0.mk z0
   have Z2 := Aside0.mk z2
   have Z4 := Aside0.mk z4
   have Z5 := Aside0.mk z5
   clear hsz hfit h4 l4 ih hP z0 z1 z2 z3 z4 z5 e1 e2 HSZ HFIT HP H4 L4 IH hd0 hd8 hl0 hl60
   rcases k1 with rfl | rfl
   ·rw [show (cutT d l ⟨1, f1, f2, f3, f4⟩).2 = l - 1 by rw [cutT, if_pos rfl], show (cutT d l ⟨1, f1, f2, f3, f4⟩).1 = ⟨1, ⟨#[]⟩, ascB f2, [], []⟩ by rw [cutT, if_pos rfl]]
    clear hlb
    go_enter Try.func31, Try.ntmps31
    go_wp2_with fail
    rw [← hW]
    clear hW
    refine HA.out.mono ?_
    rintro e w3 ⟨rfl, hB⟩
    have hb2 := (hB.block _ (blk_lt Z2.out)).trans Z2.out
    have HE := Aside0.mk (fun a0 a1 a2 a3 a4 => cut_end (w := w) (w3 := w3) (u := ⟨1, ⟨#[]⟩, ascB f2, [], []⟩) (A4 := none) (c4 := 0) hlt rfl (blk_lt hb2) ((hB.block _ (blk_lt Z4.out)).trans Z4.out) (Z5.out.below (hB.mono (by have := Z0.out; omega))) (Kd.N_nil _ _ _ _ _) a0 a1 a2 a3 a4)
    have g0 := blk_frozen hb2 0
    have g1 := blk_frozen hb2 1
    have g2 := blk_frozen hb2 2
    have g3 := blk_frozen hb2 3
    have g4 := blk_frozen hb2 4
    have p0 := blk_cell hb2 0
    have p1 := blk_cell hb2 1
    have p2 := blk_cell hb2 2
    have p3 := blk_cell hb2 3
    have p4 := blk_cell hb2 4
    clear hb2 hB HA
    go_wp2_with fail
    refine bodyPost_ret (v := .agg #[.int .i64 1, .string ⟨#[]⟩, .string (ascB f2), .slice none 0 0, .slice none 0 0]) (by simp [results, Try.results31, go_sem, p0, p1, p2, p3, p4]) rfl ?_
    exact HE.out _ _ _ _ _
   ·rw [show (cutT d l ⟨2, f1, f2, f3, f4⟩).2 = l - 1 by rw [cutT, if_neg (by decide), if_pos rfl], show (cutT d l ⟨2, f1, f2, f3, f4⟩).1 = ⟨2, ⟨#[]⟩, ascB f2, [], []⟩ by rw [cutT, if_neg (by decide), if_pos rfl]]
    clear hlb
    go_enter Try.func31, Try.ntmps31
    go_wp2_with fail
    rw [← hW]
    clear hW
    refine HA.out.mono ?_
    rintro e w3 ⟨rfl, hB⟩
    have hb2 := (hB.block _ (blk_lt Z2.out)).trans Z2.out
    have HE := Aside0.mk (fun a0 a1 a2 a3 a4 => cut_end (w := w) (w3 := w3) (u := ⟨2, ⟨#[]⟩, ascB f2, [], []⟩) (A4 := none) (c4 := 0) hlt rfl (blk_lt hb2) ((hB.block _ (blk_lt Z4.out)).trans Z4.out) (Z5.out.below (hB.mono (by have := Z0.out; omega))) (Kd.N_nil _ _ _ _ _) a0 a1 a2 a3 a4)
    have g0 := blk_frozen hb2 0
    have g1 := blk_frozen hb2 1
    have g2 := blk_frozen hb2 2
    have g3 := blk_frozen hb2 3
    have g4 := blk_frozen hb2 4
    have p0 := blk_cell hb2 0
    have p1 := blk_cell hb2 1
    have p2 := blk_cell hb2 2
    have p3 := blk_cell hb2 3
    have p4 := blk_cell hb2 4
    clear hb2 hB HA
    go_wp2_with fail
    refine bodyPost_ret (v := .agg #[.int .i64 2, .string ⟨#[]⟩, .string (ascB f2), .slice none 0 0, .slice none 0 0]) (by simp [results, Try.results31, go_sem, p0, p1, p2, p3, p4]) rfl ?_
    exact HE.out _ _ _ _ _
  ·have kk1 : f0 ≠ 1 := fun e => k1 (.inl e)
   have kk2 : f0 ≠ 2 := fun e => k1 (.inr e)
   have d1 : decide (f0 = 1) = false := decide_eq_false kk1
   have d2 : decide (f0 = 2) = false := decide_eq_false kk2
   have b1 : (f0 == 1) = false := beq_eq_false_iff_ne.2 kk1
   have b2 : (f0 == 2) = false := beq_eq_false_iff_ne.2 kk2
   obtain ⟨W, hW⟩ : ∃ W, W = (((w.setCell ⟨lb, 0, none⟩ (.int .i64 (l - 1))).alloc (.cells #[.int .i64 f0, .string f1, .string f2, .slice A3 f3.length c3, .slice A4 f4.length c4] 25)).alloc (.cells #[.int .i64 0, .string ⟨#[]⟩, .string ⟨#[]⟩, .slice none 0 0, .slice none 0 0] 25)).alloc (.cells #[.int .i64 f0, .string f1, .string f2, .slice none 0 0, .slice none 0 0] 25) := ⟨_, rfl⟩
   obtain ⟨z0, z1, z2, z3, z4, z5⟩ := cut_start (l' := l - 1) hlb _ _ _ W hW
   have HA := Aside0.mk (laws_inlineName.calls 20 f1 (nmC f1) W (name_f f1 20 (by omega)))
   have Z0 := Aside0.mk z0
   have Z1 := Aside0.mk z1
   have Z2 := Aside0.mk z2
   have Z3 := Aside0.mk z3
   have Z4 := Aside0.mk z4
   have Z5 := Aside0.mk z5
   have HC := Aside0.mk (show (cutT d l ⟨f0, f1, f2, f3, f4⟩).1 = (if nmC f1 = brN ∨ nmC f1 = imgN then ⟨0, nmC f1, ⟨#[]⟩, [], []⟩ else ⟨0, nmC f1, ⟨#[]⟩, [], (cutL d (l - 1) f4).1⟩) ∧ (cutT d l ⟨f0, f1, f2, f3, f4⟩).2 = (if nmC f1 = brN ∨ nmC f1 = imgN then l - 1 else (cutL d (l - 1) f4).2) from by
    rw [cutT, if_neg kk1, if_neg kk2]
    split <;> exact ⟨rfl, rfl⟩)
   have HD0 := Aside0.mk hd0
   have HD8 := Aside0.mk hd8
   have HL60 := Aside0.mk hl60
   have HL0 := Aside0.mk hl0
   clear hsz hfit h4 l4 ih hP hlb z0 z1 z2 z3 z4 z5 k1 kk1 kk2 hd0 hd8 hl0 hl60
   go_enter Try.func31, Try.ntmps31
   go_wp2_with fail
   rw [← hW]
   clear hW
   refine HA.out.mono ?_
   rintro e w3 ⟨rfl, hB⟩
   have hb2 := (hB.block _ (blk_lt Z3.out)).trans Z3.out
   have HT := Aside0.mk (show TC w (((((w3.setCell ⟨w.heap.size + 1 + 1, 0, none⟩ (.int .i64 0)).setCell ⟨w.heap.size + 1 + 1, 1, none⟩ (.string (nmC f1))).setCell ⟨w.heap.size + 1 + 1, 2, none⟩ (.string ⟨#[]⟩)).setCell ⟨w.heap.size + 1 + 1, 3, none⟩ (.slice none 0 0)).setCell ⟨w.heap.size + 1 + 1, 4, none⟩ (.slice none 0 0)) lb (l - 1) (nmC f1) (.slice none 0 0) [] from by
    have hs := fun k (hk : k ≠ w.heap.size + 2) => sets5 w3 (w.heap.size + 2) (.int .i64 0) (.string (nmC f1)) (.string ⟨#[]⟩) (.slice none 0 0) (.slice none 0 0) k hk
    have hz := Z0.out
    refine ⟨sets5_box hb2 _ _ _ _ _, (hs _ (by omega)).trans ((hB.block _ (blk_lt Z2.out)).trans Z2.out), (hs _ (by omega)).trans ((hB.block _ (blk_lt Z4.out)).trans Z4.out), Kd.N_nil _ _ _ _ _, (Z5.out.below (hB.mono (by omega))).below ?_⟩
    exact Below.setCell (Below.setCell (Below.setCell (Below.setCell (Below.setCell (Below.refl _ w3) (p := ⟨w.heap.size + 2, 0, none⟩) (by show _ ≤ w.heap.size + 2; omega) _) (p := ⟨w.heap.size + 2, 1, none⟩) (by show _ ≤ w.heap.size + 2; omega) _) (p := ⟨w.heap.size + 2, 2, none⟩) (by show _ ≤ w.heap.size + 2; omega) _) (p := ⟨w.heap.size + 2, 3, none⟩) (by show _ ≤ w.heap.size + 2; omega) _) (p := ⟨w.heap.size + 2, 4, none⟩) (by show _ ≤ w.heap.size + 2; omega) _)
   have hbN := (hB.block _ (blk_lt Z1.out)).trans Z1.out
   have HBN := Aside0.mk hbN
   have g0 := blk_frozen hb2 0
   have g1 := blk_frozen hb2 1
   have g2 := blk_frozen hb2 2
   have g3 := blk_frozen hb2 3
   have g4 := blk_frozen hb2 4
   have p0 := blk_cell hb2 0
   have p1 := blk_cell hb2 1
   have p2 := blk_cell hb2 2
   have p3 := blk_cell hb2 3
   have p4 := blk_cell hb2 4
   have r4 := blk_cell hbN 4
   clear hb2 hbN hB HA
   go_upto_region 8 with fail
   have HR4 := Aside0.mk (show (((((w3.setCell ⟨w.heap.size + 1 + 1, 0, none⟩ (.int .i64 0)).setCell ⟨w.heap.size + 1 + 1, 1, none⟩ (.string (nmC f1))).setCell ⟨w.heap.size + 1 + 1, 2, none⟩ (.string ⟨#[]⟩)).setCell ⟨w.heap.size + 1 + 1, 3, none⟩ (.slice none 0 0)).setCell ⟨w.heap.size + 1 + 1, 4, none⟩ (.slice none 0 0)).cell? ⟨w.heap.size, 4, none⟩ = some (.slice A4 f4.length c4) from
    blk_cell ((sets5 w3 (w.heap.size + 2) (.int .i64 0) (.string (nmC f1)) (.string ⟨#[]⟩) (.slice none 0 0) (.slice none 0 0) _ (by omega)).trans HBN.out) 4)
   clear g0 g1 g2 g3 g4 p0 p1 p2 p3 p4 r4 HBN Z0 Z1 Z2 Z3 Z4 Z5
   generalize hW4 : ((((w3.setCell ⟨w.heap.size + 1 + 1, 0, none⟩ (.int .i64 0)).setCell ⟨w.heap.size + 1 + 1, 1, none⟩ (.string (nmC f1))).setCell ⟨w.heap.size + 1 + 1, 2, none⟩ (.string ⟨#[]⟩)).setCell ⟨w.heap.size + 1 + 1, 3, none⟩ (.slice none 0 0)).setCell ⟨w.heap.size + 1 + 1, 4, none⟩ (.slice none 0 0) = W4 at HT HR4 ⊢
   clear hW4
   have r4 := HR4.out
   have o1 : W4.cell? ⟨w.heap.size + 1 + 1, 1, none⟩ = some (.string (nmC f1)) := blk_cell HT.out.box 1
   by_cases hv : nmC f1 = brN ∨ nmC f1 = imgN
   ·have hc := HC.out
    rw [if_pos hv, if_pos hv] at hc
    have HC2 := Aside0.mk hc
    clear hc HC
    have o0 : W4.cell? ⟨w.heap.size + 1 + 1, 0, none⟩ = some (.int .i64 0) := blk_cell HT.out.box 0
    have o2 : W4.cell? ⟨w.heap.size + 1 + 1, 2, none⟩ = some (.string ⟨#[]⟩) := blk_cell HT.out.box 2
    have o3 : W4.cell? ⟨w.heap.size + 1 + 1, 3, none⟩ = some (.slice none 0 0) := blk_cell HT.out.box 3
    have o4 : W4.cell? ⟨w.heap.size + 1 + 1, 4, none⟩ = some (.slice none 0 0) := blk_cell HT.out.box 4
    have hr := HT.out.res
    have g0 := blk_frozen hr 0
    have g1 := blk_frozen hr 1
    have g2 := blk_frozen hr 2
    have g3 := blk_frozen hr 3
    have g4 := blk_frozen hr 4
    have p0 := blk_cell hr 0
    have p1 := blk_cell hr 1
    have p2 := blk_cell hr 2
    have p3 := blk_cell hr 3
    have p4 := blk_cell hr 4
    simp only [zeroN] at p0 p1 p2 p3 p4
    have HE := Aside0.mk (fun a0 a1 a2 a3 a4 => cut_end (w := w) (w3 := W4) (u := ⟨0, nmC f1, ⟨#[]⟩, [], []⟩) (A4 := none) (c4 := 0) hlt rfl (blk_lt hr) HT.out.lbx HT.out.on HT.out.n4 a0 a1 a2 a3 a4)
    clear hr HT HR4
    generalize nmC f1 = nm at *
    rcases hv with rfl | rfl
    ·simp only [brN] at *
     go_wp2_with fail
     refine bodyPost_ret (v := .agg #[.int .i64 0, .string ⟨#[98, 114]⟩, .string ⟨#[]⟩, .slice none 0 0, .slice none 0 0]) (by simp [results, Try.results31, go_sem, p0, p1, p2, p3, p4]) rfl ?_
     rw [HC2.out.1, HC2.out.2]
     exact HE.out _ _ _ _ _
    ·simp only [imgN] at *
     go_wp2_with fail
     refine bodyPost_ret (v := .agg #[.int .i64 0, .string ⟨#[105, 109, 103]⟩, .string ⟨#[]⟩, .slice none 0 0, .slice none 0 0]) (by simp [results, Try.results31, go_sem, p0, p1, p2, p3, p4]) rfl ?_
     rw [HC2.out.1, HC2.out.2]
     exact HE.out _ _ _ _ _
   ·have hc := HC.out
    rw [if_neg hv, if_neg hv] at hc
    have HC2 := Aside0.mk hc
    clear hc HC
    have m1 : ((nmC f1).toList == (⟨#[98, 114]⟩ : ByteArray).toList) = false := beq_eq_false_iff_ne.2 (fun e => hv (.inl (toList_inj e)))
    have m2 : ((nmC f1).toList == (⟨#[105, 109, 103]⟩ : ByteArray).toList) = false := beq_eq_false_iff_ne.2 (fun e => hv (.inr (toList_inj e)))
    clear hv
    have x1 : (⟨#[98, 114]⟩ : ByteArray).toList = [98, 114] := (ByteArray.toList_eq _).trans rfl
    have x2 : (⟨#[105, 109, 103]⟩ : ByteArray).toList = [105, 109, 103] := (ByteArray.toList_eq _).trans rfl
    rw [x1] at m1
    rw [x2] at m2
    generalize nmC f1 = nm at *
    clear x1 x2
    go_wp2_with fail
    go_loopw [54] (fun vi wr => ∃ (j : Nat) (v4 : Value), vi = .int .i64 j ∧ j ≤ f4.length ∧ Aside0 (TC w wr lb (cutL d (l - 1) (f4.take j)).2 nm v4 (cutL d (l - 1) (f4.take j)).1)) (fun vi _ => f4.length - (intOf vi).toNat)
    case atStart => exact ⟨0, _, rfl, Nat.zero_le _, HT⟩
    case round =>
     clear HT HR4 r4 m1 m2
     obtain ⟨j, v4, rfl, hj, HT⟩ := hrel
     by_cases hlt2 : j < f4.length
     ·have hF := Kd.F_step H4.out (fun k hk hk2 => HT.out.on.at hk2 (HP.out k hk).1)
      obtain ⟨ad, A5, c5, A6, c6, rfl, y0, y1, y2, y3, y4, m3, g3, m4, g4⟩ := at_F hF (j : Int) (by omega) (by omega)
      have he : f4.getD (j : Int).toNat z25 = f4[j] := by simp [List.getD_eq_getElem?_getD, List.getElem?_eq_getElem hlt2]
      rw [he] at y0 y1 y2 y3 y4 m3 g3 m4 g4
      simp only [Int.toNat_natCast] at y0 y1 y2 y3 y4
      have hq : f4[j] ∈ f4 := List.getElem_mem _
      have hfq : FitX f4[j] := by obtain ⟨_, _, _, _, _, hk⟩ := HFIT.out; exact hk _ hq
      have hsq : SizeOf.sizeOf f4[j] ≤ n := by have h1 := kid_lt (t := ⟨f0, f1, f2, f3, f4⟩) hq; have h2 := HSZ.out; omega
      have hsn : cutL d (l - 1) (f4.take (j + 1)) = if 0 < (cutL d (l - 1) (f4.take j)).2 ∧ 0 < d then ((cutL d (l - 1) (f4.take j)).1 ++ [(cutT (d - 1) (cutL d (l - 1) (f4.take j)).2 f4[j]).1], (cutT (d - 1) (cutL d (l - 1) (f4.take j)).2 f4[j]).2) else ((cutL d (l - 1) (f4.take j)).1, (cutL d (l - 1) (f4.take j)).2) := by
       rw [List.take_succ_eq_append_getElem hlt2, cutL_append, cutL_one]
       split <;> simp
      have hL := cutL_le d (f4.take j) (l - 1) (by have := HL0.out; omega)
      have hlen : (cutL d (l - 1) (f4.take j)).1.length ≤ 1000000 := by
       have := cutL_len d (f4.take j) (l - 1) (by have := HL0.out; omega)
       have := HL60.out
       omega
      generalize f4[j] = q at *
      generalize (cutL d (l - 1) (f4.take j)).1 = la at *
      generalize (cutL d (l - 1) (f4.take j)).2 = L at *
      have HWJ := Aside0.mk (wrap_succ j (by obtain ⟨_, _, _, _, ha, _⟩ := HFIT.out; simp only at ha; omega))
      have ql := blk_cell HT.out.lbx 0
      have HSN := Aside0.mk hsn
      have HKC := Aside0.mk (fun (hL0 : 0 < L) (hd1 : 0 < d) wx (hb : Below wr.heap.size wr wx) => IH.out q hsq hfq (d - 1) L (by omega) (by have := HD8.out; omega) hL0 (by have := HL60.out; omega) wx lb P A5 c5 A6 c6 ((hb.block _ (blk_lt HT.out.lbx)).trans HT.out.lbx) (fun k hk => ⟨(HP.out k hk).1, by have h1 := (HP.out k hk).2; have h2 := HT.out.size; have h3 := hb.size; omega⟩) (Kd.F_below g4 hb) m4)
      have HLN := Aside0.mk hlen
      clear he hq hfq hsq hsn hL hF m3 g3 m4 g4 hlen
      have hwd : wrap64 (d - 1) = d - 1 := by have := HD0.out; have := HD8.out; unfold wrap64; omega
      go_upto_region 13 with fail
      have hcp : (wr.alloc (.cells #[.int .i64 q.f0, .string q.f1, .string q.f2, .slice A5 q.f3.length c5, .slice A6 q.f4.length c6] 25)).heap[wr.heap.size]? = some (.cells #[.int .i64 q.f0, .string q.f1, .string q.f2, .slice A5 q.f3.length c5, .slice A6 q.f4.length c6] 25 (0, 0)) := heap_alloc_new wr _
      have HB8 := Aside0.mk (below_alloc (Below.refl wr.heap.size wr) (.cells #[.int .i64 q.f0, .string q.f1, .string q.f2, .slice A5 q.f3.length c5, .slice A6 q.f4.length c6] 25))
      have HTP := Aside0.mk HT.out
      clear HT ql
      generalize wr.alloc (.cells #[.int .i64 q.f0, .string q.f1, .string q.f2, .slice A5 q.f3.length c5, .slice A6 q.f4.length c6] 25) = w8 at hcp HB8 ⊢
      have HT := Aside0.mk (HTP.out.moved HB8.out)
      have ql := blk_cell HT.out.lbx 0
      have HCP := Aside0.mk hcp
      clear hcp y0 y1 y2 y3 y4
      have hwk : IntKind.i64.wrap (d - 1) = d - 1 := by have := HD0.out; have := HD8.out; simp [IntKind.wrap, IntKind.bits, IntKind.signed]; omega
      by_cases hp : 0 < L ∧ 0 < d
      ·obtain ⟨hp1, hp2⟩ := hp
       have HSN2 := Aside0.mk (HSN.out.trans (if_pos ⟨hp1, hp2⟩))
       have HKC2 := Aside0.mk (HKC.out hp1 hp2)
       clear HSN HKC
       go_upto_region 14 with fail
       have HDW := Aside0.mk (below_drew (Below.refl w8.heap.size w8))
       have hcd := (HDW.out.block _ (blk_lt HCP.out)).trans HCP.out
       have y0 := blk_cell HCP.out 0
       have y1 := blk_cell HCP.out 1
       have y2 := blk_cell HCP.out 2
       have y3 := blk_cell HCP.out 3
       have y4 := blk_cell HCP.out 4
       have yd0 := blk_cell hcd 0
       have yd1 := blk_cell hcd 1
       have yd2 := blk_cell hcd 2
       have yd3 := blk_cell hcd 3
       have yd4 := blk_cell hcd 4
       have x4 : w8.cell? ⟨w.heap.size + 1 + 1, 4, none⟩ = some v4 := blk_cell HT.out.box 4
       have x4d : w8.drew.cell? ⟨w.heap.size + 1 + 1, 4, none⟩ = some v4 := blk_cell (HT.out.moved HDW.out).box 4
       have HKW := Aside0.mk (HKC2.out _ (below_step HB8.out HDW.out))
       have HTD := Aside0.mk (HT.out.moved HDW.out)
       clear hcd HKC2
       generalize (cutT (d - 1) L q).1 = u at HKW HSN2
       generalize (cutT (d - 1) L q).2 = L2 at HKW HSN2
       have HOK := Aside0.mk (show ∀ k, wr.heap.size ≤ k → w.heap.size + 3 ≤ k ∧ some k ≠ v4.ownBlock from fun k hk => ⟨Nat.le_trans HTP.out.size hk, fun e => by have := Kd.N_lt HTP.out.n4 k e.symm; omega⟩)
       have HAF := Aside0.mk (show ∀ (w2 : World) (A7 : Option Addr) (c7 : Nat), u.f3 = [] → u.f4.length ≤ c7 → Kd.N k25 25 w2 w8.drew.heap.size (fun k => w8.drew.heap.size ≤ k) (.slice A7 u.f4.length c7) u.f4 → OnL lb w8.drew w2 → w2.heap[lb]? = some (.cells #[.int .i64 L2] 3 (0, 0)) →
         Aside0 (TC w w2 lb L2 nm v4 la) ∧ Aside0 (w.heap.size ≤ w2.heap.size) ∧ Aside0 (Kd.FK k25 w2 (fun k => wr.heap.size ≤ k) u [.int .i64 u.f0, .string u.f1, .string u.f2, .slice none 0 0, .slice A7 u.f4.length c7]) ∧ Aside0 (∀ k, w2.heap.size ≤ k → w.heap.size + 3 ≤ k) ∧ w2.cell? ⟨w.heap.size + 1 + 1, 4, none⟩ = some v4 ∧ (w2.alloc (.cells #[.int .i64 u.f0, .string u.f1, .string u.f2, .slice none 0 0, .slice A7 u.f4.length c7] 25)).cell? ⟨w.heap.size + 1 + 1, 4, none⟩ = some v4 from fun w2 A7 c7 hu3 m7 N7 ho2 hl2 => by
        have h2 := HTD.out.call hlt ho2 hl2
        refine ⟨⟨h2⟩, ⟨by have := h2.size; omega⟩, ⟨Kd.FK_mono (fk_cut (W := w2) hu3 m7 (Kd.N_F N7)) (fun k hk => show wr.heap.size ≤ k from Nat.le_trans (Nat.le_trans HB8.out.size HDW.out.size) hk)⟩, ⟨fun k hk => Nat.le_trans h2.size hk⟩, blk_cell h2.box 4, blk_cell (h2.moved (below_alloc (Below.refl _ _) _)).box 4⟩)
       go_region_law (first
        | (refine kids_step (w0 := w2) (W := w2) rfl w.heap.size (.tmp 67) (.tmp 73) 23 (.agg #[.int .i64 0, .string ⟨#[]⟩, .string ⟨#[]⟩, .slice none 0 0, .slice none 0 0]) rfl Try.underlying23 infoNd rfl v4 la u [.int .i64 u.f0, .string u.f1, .string u.f2, .slice none 0 0, .slice A7 u.f4.length c7] (fun k => w.heap.size + 3 ≤ k) (fun k => wr.heap.size ≤ k) (by simp [Act.eval, Act.put]) (by simp [Act.eval, Act.put]) HFK.out HOK.out HFR.out HT2.out.n4 (Below.refl _ _) HSZ2.out (by have := HLN.out; omega) ?_; intro v1 w3 ho hb hg hat; obtain ⟨L1, hL1⟩ : ∃ L1, L1 = (la ++ [u]).length := ⟨_, rfl⟩; obtain ⟨A1, k1, hv1⟩ := Kd.N_slice ho; rw [← hL1] at hv1; subst hv1; clear hL1; obtain ⟨g3, gf3, ht3⟩ := HT2.out.kid hlt ho hb hg; have HT3 := Aside0.mk ht3; clear ho hb hg hat ht3)
        | (go_simp; go_at_call 31; (try simp only [hwk]); refine HKW.out.mono ?_; rintro e w2 ⟨A7, c7, rfl, hu3, m7, N7, ho2, hl2⟩; obtain ⟨HT2, HSZ2, HFK, HFR, x42, x43⟩ := HAF.out w2 A7 c7 hu3 m7 N7 ho2 hl2; clear hu3 m7 N7 ho2 hl2))
       all_goals (simp only [Exit.inBlock, Exit.then]; go_wp2_with fail; go_roundw)
       all_goals first
        | exact ⟨j + 1, _, by rw [HWJ.out], hlt2, by rw [HSN2.out]; exact HT3⟩
        | (rw [HWJ.out]; simp [intOf]; omega)
      ·have HSN2 := Aside0.mk (HSN.out.trans (if_neg hp))
       clear HSN HKC
       by_cases hp1 : 0 < L
       ·have hp2 : ¬ 0 < d := fun h => hp ⟨hp1, h⟩
        clear hp
        go_wp2_with fail
        go_roundw
        case rel => exact ⟨j + 1, _, by rw [HWJ.out], hlt2, by rw [HSN2.out]; exact HT⟩
        case measure => rw [HWJ.out]; simp [intOf]; omega
       ·clear hp
        go_wp2_with fail
        go_roundw
        case rel => exact ⟨j + 1, _, by rw [HWJ.out], hlt2, by rw [HSN2.out]; exact HT⟩
        case measure => rw [HWJ.out]; simp [intOf]; omega
     ·have hje : j = f4.length := by omega
      subst hje
      have hT := HT.out
      rw [List.take_of_length_le (Nat.le_refl _)] at hT
      generalize (cutL d (l - 1) f4).1 = la at *
      generalize (cutL d (l - 1) f4).2 = L at *
      obtain ⟨A7, c7, e4⟩ := Kd.N_slice hT.n4
      obtain ⟨n7, hn7⟩ : ∃ n7, n7 = la.length := ⟨_, rfl⟩
      rw [← hn7] at e4
      subst e4
      have o0 : wr.cell? ⟨w.heap.size + 1 + 1, 0, none⟩ = some (.int .i64 0) := blk_cell hT.box 0
      have o1 : wr.cell? ⟨w.heap.size + 1 + 1, 1, none⟩ = some (.string nm) := blk_cell hT.box 1
      have o2 : wr.cell? ⟨w.heap.size + 1 + 1, 2, none⟩ = some (.string ⟨#[]⟩) := blk_cell hT.box 2
      have o3 : wr.cell? ⟨w.heap.size + 1 + 1, 3, none⟩ = some (.slice none 0 0) := blk_cell hT.box 3
      have o4 : wr.cell? ⟨w.heap.size + 1 + 1, 4, none⟩ = some (.slice A7 n7 c7) := blk_cell hT.box 4
      have hr := hT.res
      have g0 := blk_frozen hr 0
      have g1 := blk_frozen hr 1
      have g2 := blk_frozen hr 2
      have g3 := blk_frozen hr 3
      have g4 := blk_frozen hr 4
      have p0 := blk_cell hr 0
      have p1 := blk_cell hr 1
      have p2 := blk_cell hr 2
      have p3 := blk_cell hr 3
      have p4 := blk_cell hr 4
      simp only [zeroN] at p0 p1 p2 p3 p4
      have HE := Aside0.mk (fun a0 a1 a2 a3 a4 => cut_end (w := w) (w3 := wr) (u := ⟨0, nm, ⟨#[]⟩, [], la⟩) (A4 := A7) (c4 := c7) hlt rfl (blk_lt hr) hT.lbx hT.on (by rw [hn7] at hT; exact hT.n4) a0 a1 a2 a3 a4)
      rw [← hn7] at HE
      clear hr hT HT hn7
      go_wp2_with fail
      refine bodyPost_ret (v := .agg #[.int .i64 0, .string nm, .string ⟨#[]⟩, .slice none 0 0, .slice A7 n7 c7]) (by simp [results, Try.results31, go_sem, p0, p1, p2, p3, p4]) rfl ?_
      rw [HC2.out.1, HC2.out.2]
      exact HE.out _ _ _ _ _
end Go.Proofs.Ytmfjbljdbkmkgaa.Dom

/- laws.inlineCutTree: its contract. -/
namespace Go.Proofs.Ytmfjbljdbkmkgaa.Dom
open Go.RowKit Go.Proofs.YtmfjbljdbkmkgaaW.PrintWords Go.Proofs.YtmfjbljdbkmkgaaW.PrintLast Go.Proofs.YtmfjbljdbkmkgaaW.PrintMore Go.Proofs.Ytmfjbljdbkmkgaa.PDom Go.Proofs.Ytmfjbljdbkmkgaa.Txt
set_option linter.unusedVariables false
set_option linter.unusedSimpArgs false

def divN : ByteArray := ⟨#[100, 105, 118]⟩
/-- A tree, cut: its root is a div. -/
def cutR (t : T) : T := ⟨0, divN, ⟨#[]⟩, [], (cutT 8 60 ⟨0, t.f1, t.f2, t.f3, t.f4⟩).1.f4⟩
theorem cutT_0 (t : T) : (cutT 8 60 ⟨0, t.f1, t.f2, t.f3, t.f4⟩).1.f0 = 0 ∧ (cutT 8 60 ⟨0, t.f1, t.f2, t.f3, t.f4⟩).1.f2 = ⟨#[]⟩ ∧ (cutT 8 60 ⟨0, t.f1, t.f2, t.f3, t.f4⟩).1.f3 = [] := by
 rw [cutT, if_neg (by decide), if_neg (by decide)]
 split <;> exact ⟨rfl, rfl, rfl⟩
theorem three_new (w : World) (o0 o1 o2 : Obj) : (((w.alloc o0).alloc o1).alloc o2).heap.size = w.heap.size + 3 ∧ Below w.heap.size w (((w.alloc o0).alloc o1).alloc o2) ∧ (((w.alloc o0).alloc o1).alloc o2).heap[w.heap.size]? = some o0 ∧ (((w.alloc o0).alloc o1).alloc o2).heap[w.heap.size + 1]? = some o1 ∧ (((w.alloc o0).alloc o1).alloc o2).heap[w.heap.size + 2]? = some o2 := by
 have e : (((w.alloc o0).alloc o1).alloc o2).heap = ((w.heap.push o0).push o1).push o2 := rfl
 refine ⟨by rw [e]; simp, below_alloc (below_alloc (below_alloc (Below.refl _ _) _) _) _, ?_, ?_, ?_⟩ <;> rw [e] <;> simp only [Array.getElem?_push, Array.size_push] <;> repeat (first | rfl | rw [if_pos trivial] | rw [if_pos (by omega)] | rw [if_neg (by omega)])
set_option maxHeartbeats 1000000 in
set_option maxRecDepth 100000 in
theorem cutR_calls (t : T) (hf : FitX t) (w : World) (A3 : Option Addr) (c3 : Nat) (A4 : Option Addr) (c4 : Nat) (h3 : Kd.C k53 w A3 t.f3.length t.f3) (l3 : t.f3.length ≤ c3) (h4 : Kd.C k25 w A4 t.f4.length t.f4) (l4 : t.f4.length ≤ c4) :
  Calls Try.prog 10 #[.agg #[.int .i64 t.f0, .string t.f1, .string t.f2, .slice A3 t.f3.length c3, .slice A4 t.f4.length c4]] w fun e w' => ∃ A5 c5, e = .returned (.agg #[.int .i64 0, .string divN, .string ⟨#[]⟩, .slice none 0 0, .slice A5 (cutR t).f4.length c5]) ∧ Kd.N k25 25 w' w.heap.size (fun k => w.heap.size ≤ k) (.slice A5 (cutR t).f4.length c5) (cutR t).f4 ∧ Below w.heap.size w w' := by
 obtain ⟨W, hW⟩ : ∃ W, W = ((w.alloc (.cells #[.int .i64 0, .string t.f1, .string t.f2, .slice A3 t.f3.length c3, .slice A4 t.f4.length c4] 25)).alloc (.cells #[.int .i64 0, .string ⟨#[]⟩, .string ⟨#[]⟩, .slice none 0 0, .slice none 0 0] 25)).alloc (.cells #[.int .i64 60] 3) := ⟨_, rfl⟩
 obtain ⟨z0, z1, z2, z3, z4⟩ := three_new w (.cells #[.int .i64 0, .string t.f1, .string t.f2, .slice A3 t.f3.length c3, .slice A4 t.f4.length c4] 25) (.cells #[.int .i64 0, .string ⟨#[]⟩, .string ⟨#[]⟩, .slice none 0 0, .slice none 0 0] 25) (.cells #[.int .i64 60] 3)
 rw [← hW] at z0 z1 z2 z3 z4
 have hfx : FitX ⟨0, t.f1, t.f2, t.f3, t.f4⟩ := by obtain ⟨_, h1, h2, h3, h4, h5⟩ := hf; exact ⟨_, h1, h2, h3, h4, h5⟩
 have HC := Aside0.mk (cut_calls _ ⟨0, t.f1, t.f2, t.f3, t.f4⟩ (Nat.le_refl _) hfx 8 60 (by decide) (by decide) (by decide) (by decide) W (w.heap.size + 1 + 1) (fun k => k < w.heap.size) A3 c3 A4 c4 z4 (fun k hk => ⟨by omega, by omega⟩) (Kd.F_below (Kd.C_F k25_heap h4) z1) l4)
 obtain ⟨e0, e2, e3⟩ := cutT_0 t
 have hcr : cutR t = ⟨0, divN, ⟨#[]⟩, [], (cutT 8 60 ⟨0, t.f1, t.f2, t.f3, t.f4⟩).1.f4⟩ := rfl
 have HCR := Aside0.mk hcr
 generalize (cutT 8 60 ⟨0, t.f1, t.f2, t.f3, t.f4⟩).1 = u at *
 generalize (cutT 8 60 ⟨0, t.f1, t.f2, t.f3, t.f4⟩).2 = L at *
 obtain ⟨u0, u1, u2, u3, u4⟩ := u
 simp only at e0 e2 e3
 subst e0
 subst e2
 subst e3
 have Z0 := Aside0.mk z0
 have Z1 := Aside0.mk z1
 have Z3 := Aside0.mk z3
 clear h3 l3 h4 l4 hf hfx z0 z1 z2 z3 z4 hcr
 go_enter Try.func10, Try.ntmps10
 go_wp2_with fail
 rw [← hW]
 clear hW
 refine HC.out.mono ?_
 rintro e w2 ⟨A5, c5, rfl, _, m5, N5, ho, hl⟩
 have HR := Aside0.mk ((ho.at (blk_lt Z3.out) (by omega)).trans Z3.out)
 have HB := Aside0.mk (show Below w.heap.size w w2 from Z1.out.trans ⟨ho.os, ho.tape, ho.output, by have := ho.size; have := Z0.out; omega, fun k hk => ho.at (by have := Z0.out; omega) (by omega)⟩)
 have N5' := Aside0.mk N5
 have HZ := Aside0.mk (show w.heap.size + 3 ≤ w2.heap.size by have := ho.size; have := Z0.out; omega)
 clear m5 N5 ho hl HC
 go_upto_region 5 with fail
 have K9 := heap_alloc_new w2 (.cells #[.int .i64 0, .string ⟨#[100, 105, 118]⟩, .string ⟨#[]⟩, .slice none 0 0, .slice A5 u4.length c5] 25)
 have HB9 := Aside0.mk (below_alloc (Below.refl w2.heap.size w2) (.cells #[.int .i64 0, .string ⟨#[100, 105, 118]⟩, .string ⟨#[]⟩, .slice none 0 0, .slice A5 u4.length c5] 25))
 generalize w2.alloc (.cells #[.int .i64 0, .string ⟨#[100, 105, 118]⟩, .string ⟨#[]⟩, .slice none 0 0, .slice A5 u4.length c5] 25) = w9 at K9 HB9 ⊢
 have hb2 := (HB9.out.block _ (blk_lt HR.out)).trans HR.out
 have o0 := blk_cell K9 0
 have o1 := blk_cell K9 1
 have o2 := blk_cell K9 2
 have o3 := blk_cell K9 3
 have o4 := blk_cell K9 4
 have f0 := blk_frozen hb2 0
 have f1 := blk_frozen hb2 1
 have f2 := blk_frozen hb2 2
 have f3 := blk_frozen hb2 3
 have f4 := blk_frozen hb2 4
 have q0 := blk_cell hb2 0
 have q1 := blk_cell hb2 1
 have q2 := blk_cell hb2 2
 have q3 := blk_cell hb2 3
 have q4 := blk_cell hb2 4
 have HE := Aside0.mk (fun a0 a1 a2 a3 a4 => sets5 w9 (w.heap.size + 1) a0 a1 a2 a3 a4)
 have HE2 := Aside0.mk (fun (a0 a1 a2 a3 a4 : Value) => (Below.setCell (Below.setCell (Below.setCell (Below.setCell (Below.setCell (below_step HB.out HB9.out) (p := ⟨w.heap.size + 1, 0, none⟩) (Nat.le_succ _) a0) (p := ⟨w.heap.size + 1, 1, none⟩) (Nat.le_succ _) a1) (p := ⟨w.heap.size + 1, 2, none⟩) (Nat.le_succ _) a2) (p := ⟨w.heap.size + 1, 3, none⟩) (Nat.le_succ _) a3) (p := ⟨w.heap.size + 1, 4, none⟩) (Nat.le_succ _) a4))
 clear K9 hb2
 go_wp2_with fail
 refine bodyPost_ret (v := .agg #[.int .i64 0, .string ⟨#[100, 105, 118]⟩, .string ⟨#[]⟩, .slice none 0 0, .slice A5 u4.length c5]) (by simp [results, Try.results10, go_sem, q0, q1, q2, q3, q4]) rfl ?_
 rw [HCR.out]
 refine ⟨A5, c5, rfl, ?_, HE2.out _ _ _ _ _⟩
 have hz := Z0.out
 exact Kd.N_lower (Kd.N_mono (Kd.N_step (Kd.N_below N5'.out HB9.out) (fun k hk _ => HE.out _ _ _ _ _ k (by omega))) (fun k hk => by omega)) Z1.out.size
end Go.Proofs.Ytmfjbljdbkmkgaa.Dom
namespace Go.Proofs.Ytmfjbljdbkmkgaa.PDom
open Go.RowKit Go.Proofs.YtmfjbljdbkmkgaaW.PrintWords Go.Proofs.YtmfjbljdbkmkgaaW.PrintLast Go.Proofs.YtmfjbljdbkmkgaaW.PrintMore Go.Proofs.Ytmfjbljdbkmkgaa.Dom
set_option linter.unusedVariables false
set_option linter.unusedSimpArgs false
/-! ### As the printed walks take it -/
end Go.Proofs.Ytmfjbljdbkmkgaa.PDom

/- Printed by the program extprint.py of this session, out of the kit's print and contracts of this session's own; Lean checks it. -/
namespace Go.Proofs.Ytmfjbljdbkmkgaa.PDom
open Go.RowKit Go.Proofs.YtmfjbljdbkmkgaaW.PrintWords Go.Proofs.YtmfjbljdbkmkgaaW.PrintLast Go.Proofs.YtmfjbljdbkmkgaaW.PrintMore
attribute [local go_sem] max2_int min2_int max_two min_two max_three min_three max_four min_four   -- for this text's walks alone
set_option linter.unusedVariables false
set_option linter.unusedSimpArgs false

-- NOT PRINTED: function 81 (collapse_replaceAnyWhitespaceWithSpace)

-- NOT PRINTED: function 70 (collapse_ZzBlanks)

-- NOT PRINTED: function 38 (impl_Blanks)


/-! ### spec_Blank: function 43 -/
def spec_Blank.f (a0 : Int) : Option (Bool) := if a0 = 32 then (some true) else (if a0 = 9 then (some true) else (if a0 = 10 then (some true) else (some (a0 == 13))))
set_option maxHeartbeats 8000000 in
set_option maxRecDepth 100000 in
theorem spec_Blank.calls (a0 : Int) (r : Bool) (w : World) (h : spec_Blank.f a0 = some r) :
  Calls Try.prog 43 #[.int .u8 a0] w fun e w' => e = .returned (.bool r) ∧ Drawn0 w w' := by
 have H : (if a0 = 32 then (some true) else (if a0 = 9 then (some true) else (if a0 = 10 then (some true) else (some (a0 == 13))))) = some r := h
 clear h
 by_cases c2 : a0 = 32
 ·rw [if_pos c2] at H
  have c2b0 : (a0 == 32) = true := beq_iff_eq.mpr c2
  have c2b1 : (a0 != 32) = false := bne_eq_false_iff_eq.mpr c2
  clear c2
  obtain rfl := Option.some.inj H
  go_enter Try.func43, Try.ntmps43
  go_wp2
  go_ret
  exact ⟨by first | rfl | (simp; done) | (simp [*]; done), by repeat (first | exact Drawn0.refl _ | apply Drawn0.step)⟩
 ·rw [if_neg c2] at H
  have c2b0 : (a0 == 32) = false := beq_eq_false_iff_ne.mpr c2
  have c2b1 : (a0 != 32) = true := bne_iff_ne.mpr c2
  by_cases c3 : a0 = 9
  ·rw [if_pos c3] at H
   have c3b0 : (a0 == 9) = true := beq_iff_eq.mpr c3
   have c3b1 : (a0 != 9) = false := bne_eq_false_iff_eq.mpr c3
   clear c3
   obtain rfl := Option.some.inj H
   go_enter Try.func43, Try.ntmps43
   go_wp2
   go_ret
   exact ⟨by first | rfl | (simp; done) | (simp [*]; done), by repeat (first | exact Drawn0.refl _ | apply Drawn0.step)⟩
  ·rw [if_neg c3] at H
   have c3b0 : (a0 == 9) = false := beq_eq_false_iff_ne.mpr c3
   have c3b1 : (a0 != 9) = true := bne_iff_ne.mpr c3
   by_cases c4 : a0 = 10
   ·rw [if_pos c4] at H
    have c4b0 : (a0 == 10) = true := beq_iff_eq.mpr c4
    have c4b1 : (a0 != 10) = false := bne_eq_false_iff_eq.mpr c4
    clear c4
    obtain rfl := Option.some.inj H
    go_enter Try.func43, Try.ntmps43
    go_wp2
    go_ret
    exact ⟨by first | rfl | (simp; done) | (simp [*]; done), by repeat (first | exact Drawn0.refl _ | apply Drawn0.step)⟩
   ·rw [if_neg c4] at H
    have c4b0 : (a0 == 10) = false := beq_eq_false_iff_ne.mpr c4
    have c4b1 : (a0 != 10) = true := bne_iff_ne.mpr c4
    obtain rfl := Option.some.inj H
    go_enter Try.func43, Try.ntmps43
    go_wp2
    go_ret
    exact ⟨by first | rfl | (simp; done) | (simp [*]; done), by repeat (first | exact Drawn0.refl _ | apply Drawn0.step)⟩
end Go.Proofs.Ytmfjbljdbkmkgaa.PDom

/- White space to one blank a run, as plain data. -/
namespace Go.Proofs.Ytmfjbljdbkmkgaa.Blank
set_option linter.unusedVariables false
set_option linter.unusedSimpArgs false

def ws (c : Int) : Bool := decide (c = 32) || decide (c = 13) || decide (c = 10) || decide (c = 9)
/-- Runs of white space are one blank; b: whether white space stands right ahead. -/
def norm : Bool → List Int → List Int
 | _, [] => []
 | b, c :: l => if ws c = true then (if b = true then norm true l else 32 :: norm true l) else c :: norm false l
def endW : Bool → List Int → Bool
 | b, [] => b
 | _, c :: l => endW (ws c) l
theorem norm_append (l m : List Int) : ∀ b, norm b (l ++ m) = norm b l ++ norm (endW b l) m := by
 induction l with
 | nil => intro b; rfl
 | cons c l ih =>
  intro b
  rw [List.cons_append]
  simp only [norm, endW]
  cases hw : ws c with
  | true =>
   simp only [if_true]
   rw [ih true]
   cases b with
   | true => simp
   | false => simp
  | false => simp [ih false]
theorem endW_append (l m : List Int) : ∀ b, endW b (l ++ m) = endW (endW b l) m := by
 induction l with
 | nil => intro b; rfl
 | cons c l ih => intro b; exact ih _
theorem norm_ws (l : List Int) (h : ∀ c ∈ l, ws c = true) : norm true l = [] := by
 induction l with
 | nil => rfl
 | cons c l ih =>
  simp only [norm]
  rw [if_pos (h c List.mem_cons_self), if_pos trivial]
  exact ih (fun x hx => h x (List.mem_cons_of_mem _ hx))
theorem norm_run (l : List Int) (h : ∀ c ∈ l, ws c = true) (hne : l ≠ []) : norm false l = [32] := by
 cases l with
 | nil => exact absurd rfl hne
 | cons c l =>
  simp only [norm]
  rw [if_pos (h c List.mem_cons_self), if_neg (by simp), norm_ws l (fun x hx => h x (List.mem_cons_of_mem _ hx))]
theorem endW_run (l : List Int) (h : ∀ c ∈ l, ws c = true) (hne : l ≠ []) : ∀ b, endW b l = true := by
 induction l with
 | nil => exact absurd rfl hne
 | cons c l ih =>
  intro b
  show endW (ws c) l = true
  rw [h c List.mem_cons_self]
  cases l with
  | nil => rfl
  | cons d l => exact ih (fun x hx => h x (List.mem_cons_of_mem _ hx)) (by simp) true
open Go.Proofs.YtmfjbljdbkmkgaaW.PrintWords in
theorem bt_nth (s : ByteArray) (j : Nat) (h : j < s.size) : (bytesOf s)[j]? = some (bt s (j : Int)) := by
 have h2 : j < s.data.toList.length := by rw [Array.length_toList]; exact h
 unfold bytesOf
 rw [List.getElem?_map, List.getElem?_eq_getElem h2, ← bt_at s (j : Int) (by simpa using h)]
 simp
 rfl
end Go.Proofs.Ytmfjbljdbkmkgaa.Blank

/- White space of a tree, collapsed: text by text with a store of texts, and all at once. Plain facts. -/
namespace Go.Proofs.Ytmfjbljdbkmkgaa.Dom
open Go.RowKit Go.Proofs.YtmfjbljdbkmkgaaW.PrintWords Go.Proofs.YtmfjbljdbkmkgaaW.PrintLast Go.Proofs.YtmfjbljdbkmkgaaW.PrintMore Go.Proofs.Ytmfjbljdbkmkgaa.PDom Go.Proofs.Ytmfjbljdbkmkgaa.Blank Go.Proofs.Ytmfjbljdbkmkgaa.Txt
set_option linter.unusedVariables false
set_option linter.unusedSimpArgs false

/-- Which elements are blocks, void, preformatted. -/
structure Srt where
 bk : List ByteArray
 vd : List ByteArray
 pr : List ByteArray
def inL (l : List ByteArray) (n : ByteArray) : Bool := l.any fun s => n.toList == s.toList
def brB : ByteArray := ⟨#[98, 114]⟩
def codeB : ByteArray := ⟨#[99, 111, 100, 101]⟩
def Srt.kind (S : Srt) (n : ByteArray) : Nat := if (inL S.bk n || n.toList == brB.toList) = true then 1 else if (inL S.vd n || (inL S.pr n || n.toList == codeB.toList)) = true then 2 else 3
theorem kind_cases (S : Srt) (n : ByteArray) : S.kind n = 1 ∨ S.kind n = 2 ∨ S.kind n = 3 := by
 unfold Srt.kind
 split
 ·exact .inl rfl
 ·split
  ·exact .inr (.inl rfl)
  ·exact .inr (.inr rfl)
/-- A text without the blank ahead, if it is to be cut; without the one behind. -/
def cut1 (b : Bool) (l : List Int) : List Int := if (b && l.head? == some 32) = true then l.tail else l
def trimB (l : List Int) : List Int := if (l.getLast? == some 32) = true then l.dropLast else l
/-- What is known of the text ahead (whether it ends in a blank), and whether a blank ahead is kept. -/
structure Bt where
 pt : Option Bool
 keep : Bool
def Bt.ent (k : Nat) (b : Bt) : Bt := if k = 1 then ⟨none, false⟩ else if k = 2 then ⟨none, true⟩ else if b.pt.isSome = true then ⟨b.pt, false⟩ else b
def Bt.ct (b : Bt) (x : List Int) : List Int := cut1 (b.pt.getD true && !b.keep) (norm false x)
def Bt.txt (b : Bt) (x : List Int) : Bt := if (b.ct x).isEmpty = true then b else ⟨some ((b.ct x).getLast? == some 32), b.keep⟩
/-! ### All at once: ahead, then back -/
mutual
def p1 (S : Srt) (b : Bt) : T → Bt × List T
 | ⟨k, n, x, as_, ks⟩ =>
  if k = 1 then (b.txt (bytesOf x), if (b.ct (bytesOf x)).isEmpty = true then [] else [⟨k, n, strOfNums (b.ct (bytesOf x)), as_, ks⟩])
  else if k = 0 then
   if inL S.pr n = true then (b.ent (S.kind n), [⟨k, n, x, as_, ks⟩])
   else ((p1L S (b.ent (S.kind n)) ks).1.ent (S.kind n), [⟨k, n, x, as_, (p1L S (b.ent (S.kind n)) ks).2⟩])
  else (b, [⟨k, n, x, as_, ks⟩])
def p1L (S : Srt) (b : Bt) : List T → Bt × List T
 | [] => (b, [])
 | k :: ks => ((p1L S (p1 S b k).1 ks).1, (p1 S b k).2 ++ (p1L S (p1 S b k).1 ks).2)
end
def aft (k : Nat) (tr : Nat) : Nat := if k = 1 then 1 else if k = 2 then 0 else tr
mutual
/-- tr: 0: the last text stays, 1: it loses a blank at its end, 2: and is taken out, if nothing is left of it. -/
def p2 (S : Srt) (tr : Nat) : T → Nat × List T
 | ⟨k, n, x, as_, ks⟩ =>
  if k = 1 then (0, if tr = 0 then [⟨k, n, x, as_, ks⟩] else if tr = 2 ∧ trimB (bytesOf x) = [] then [] else [⟨k, n, strOfNums (trimB (bytesOf x)), as_, ks⟩])
  else if k = 0 then
   if inL S.pr n = true then (aft (S.kind n) tr, [⟨k, n, x, as_, ks⟩])
   else (aft (S.kind n) (p2L S (aft (S.kind n) tr) ks).1, [⟨k, n, x, as_, (p2L S (aft (S.kind n) tr) ks).2⟩])
  else (tr, [⟨k, n, x, as_, ks⟩])
def p2L (S : Srt) (tr : Nat) : List T → Nat × List T
 | [] => (tr, [])
 | k :: ks => ((p2 S (p2L S tr ks).1 k).1, (p2 S (p2L S tr ks).1 k).2 ++ (p2L S tr ks).2)
end
theorem p2L_append (S : Srt) (tr : Nat) (a b : List T) : p2L S tr (a ++ b) = ((p2L S (p2L S tr b).1 a).1, (p2L S (p2L S tr b).1 a).2 ++ (p2L S tr b).2) := by
 induction a with
 | nil => rfl
 | cons k a ih => rw [List.cons_append, p2L, p2L, ih, List.append_assoc]
def colT (S : Srt) : T → T
 | ⟨k, n, x, as_, ks⟩ => if inL S.pr n = true then ⟨k, n, x, as_, ks⟩ else ⟨k, n, x, as_, (p2L S 2 (p1L S ⟨none, false⟩ ks).2).2⟩
/-! ### Text by text -/
structure SR where
 st : Nat → List Int
 pt : Option Nat
 keep : Bool
def upd (σ : Nat → List Int) (i : Nat) (x : List Int) : Nat → List Int := fun j => if j = i then x else σ j
theorem upd_same (σ : Nat → List Int) (i : Nat) (x : List Int) : upd σ i x i = x := if_pos rfl
theorem upd_other (σ : Nat → List Int) {i j : Nat} (x : List Int) (h : j ≠ i) : upd σ i x j = σ j := if_neg h
def SR.bits (s : SR) : Bt := ⟨s.pt.map fun p => (s.st p).getLast? == some 32, s.keep⟩
def SR.ct (s : SR) (i : Nat) : List Int := s.bits.ct (s.st i)
def SR.txt (s : SR) (i : Nat) : SR := if (s.ct i).isEmpty = true then ⟨upd s.st i [], s.pt, s.keep⟩ else ⟨upd s.st i (s.ct i), some i, s.keep⟩
def SR.cutP (s : SR) : Nat → List Int := match s.pt with
 | some p => upd s.st p (trimB (s.st p))
 | none => s.st
def SR.ent (k : Nat) (s : SR) : SR := if k = 1 then ⟨s.cutP, none, false⟩ else if k = 2 then ⟨s.st, none, true⟩ else if s.pt.isSome = true then ⟨s.st, s.pt, false⟩ else s
mutual
def run (S : Srt) (s : SR) : RT → SR × List RT
 | .node i ty a d at_ ks =>
  if ty = 1 then (s.txt i, if (s.ct i).isEmpty = true then [] else [.node i ty a d at_ ks])
  else if ty = 3 then
   if inL S.pr d = true then (s.ent (S.kind d), [.node i ty a d at_ ks])
   else ((runL S (s.ent (S.kind d)) ks).1.ent (S.kind d), [.node i ty a d at_ (runL S (s.ent (S.kind d)) ks).2])
  else (s, [.node i ty a d at_ ks])
def runL (S : Srt) (s : SR) : List RT → SR × List RT
 | [] => (s, [])
 | k :: ks => ((runL S (run S s k).1 ks).1, (run S s k).2 ++ (runL S (run S s k).1 ks).2)
end
mutual
/-- The tree with the store's texts; what is preformatted stays. -/
def RT.dat (S : Srt) (σ : Nat → List Int) : RT → RT
 | .node i ty a d at_ ks => if ty = 1 then .node i ty a (strOfNums (σ i)) at_ ks else if (ty == 3 && !inL S.pr d) = true then .node i ty a d at_ (RT.datL S σ ks) else .node i ty a d at_ ks
def RT.datL (S : Srt) (σ : Nat → List Int) : List RT → List RT
 | [] => []
 | k :: ks => k.dat S σ :: RT.datL S σ ks
end
mutual
/-- The texts of it. -/
def RT.tid (S : Srt) : RT → List Nat
 | .node i ty a d at_ ks => if ty = 1 then [i] else if (ty == 3 && !inL S.pr d) = true then RT.tidL S ks else []
def RT.tidL (S : Srt) : List RT → List Nat
 | [] => []
 | k :: ks => k.tid S ++ RT.tidL S ks
end
mutual
/-- Some of them taken out. -/
def RT.rm (S : Srt) (q : Nat → Bool) : RT → List RT
 | .node i ty a d at_ ks => if ty = 1 then (if q i = true then [] else [.node i ty a d at_ ks]) else if (ty == 3 && !inL S.pr d) = true then [.node i ty a d at_ (RT.rmL S q ks)] else [.node i ty a d at_ ks]
def RT.rmL (S : Srt) (q : Nat → Bool) : List RT → List RT
 | [] => []
 | k :: ks => k.rm S q ++ RT.rmL S q ks
end
theorem datL_append (S : Srt) (σ : Nat → List Int) (a b : List RT) : RT.datL S σ (a ++ b) = RT.datL S σ a ++ RT.datL S σ b := by
 induction a with
 | nil => rfl
 | cons k a ih => rw [List.cons_append, RT.datL, RT.datL, ih]; rfl
theorem datL_map (S : Srt) (σ : Nat → List Int) (a : List RT) : RT.datL S σ a = a.map (RT.dat S σ) := by
 induction a with
 | nil => rfl
 | cons k a ih => rw [RT.datL, ih]; rfl
theorem tidL_append (S : Srt) (a b : List RT) : RT.tidL S (a ++ b) = RT.tidL S a ++ RT.tidL S b := by
 induction a with
 | nil => rfl
 | cons k a ih => rw [List.cons_append, RT.tidL, RT.tidL, ih, List.append_assoc]
theorem rmL_append (S : Srt) (q : Nat → Bool) (a b : List RT) : RT.rmL S q (a ++ b) = RT.rmL S q a ++ RT.rmL S q b := by
 induction a with
 | nil => rfl
 | cons k a ih => rw [List.cons_append, RT.rmL, RT.rmL, ih, List.append_assoc]
theorem toTL_append (a b : List RT) : RT.toTL (a ++ b) = RT.toTL a ++ RT.toTL b := by
 rw [RT.toTL_map, RT.toTL_map, RT.toTL_map, List.map_append]
theorem mem_tidL {S : Srt} {x : Nat} {l : List RT} : x ∈ RT.tidL S l ↔ ∃ k ∈ l, x ∈ k.tid S := by
 induction l with
 | nil => simp [RT.tidL]
 | cons k l ih => simp [RT.tidL, ih]
/-- The store counts at the texts alone. -/
theorem dat_congr (S : Srt) (σ τ : Nat → List Int) (r : RT) : (∀ b ∈ r.tid S, σ b = τ b) → r.dat S σ = r.dat S τ := by
 induction r using RT.induct with
 | h i ty a d at_ ks ih =>
  intro h
  rw [RT.tid] at h
  rw [RT.dat, RT.dat]
  split
  ·rename_i h1
   rw [if_pos h1] at h
   rw [h i (by simp)]
  ·rename_i h1
   rw [if_neg h1] at h
   split
   ·rename_i h2
    rw [if_pos h2] at h
    rw [datL_map, datL_map]
    congr 1
    exact List.map_congr_left (fun k hk => ih k hk (fun b hb => h b (mem_tidL.2 ⟨k, hk, hb⟩)))
   ·rfl
theorem datL_congr (S : Srt) (σ τ : Nat → List Int) (l : List RT) (h : ∀ b ∈ RT.tidL S l, σ b = τ b) : RT.datL S σ l = RT.datL S τ l := by
 rw [datL_map, datL_map]
 exact List.map_congr_left (fun k hk => dat_congr S σ τ k (fun b hb => h b (mem_tidL.2 ⟨k, hk, hb⟩)))
/-- How the store may differ later on: the last text may lose its blank. -/
structure Agr (s : SR) (I : List Nat) (tr : Nat) (τ : Nat → List Int) (q : Nat → Bool) : Prop where
 t : ∀ b ∈ I, τ b = if s.pt = some b ∧ tr ≠ 0 then trimB (s.st b) else s.st b
 q : ∀ b ∈ I, q b = decide (s.pt = some b ∧ tr = 2 ∧ trimB (s.st b) = [])
/-- What is done between two stores: the texts I, of which I' are left; what becomes of the text ahead. -/
structure Snd (s : SR) (I : List Nat) (s' : SR) (I' : List Nat) (f : Nat → Nat) (X : Nat → (Nat → List Int) → (Nat → Bool) → Prop) : Prop where
 sub : ∀ b ∈ I', b ∈ I
 ptin : ∀ p, s'.pt = some p → p ∈ I' ∨ s.pt = some p
 far : ∀ b, b ∉ I → s.pt ≠ some b → s'.st b = s.st b
 old : ∀ p, s.pt = some p → p ∉ I → (s'.pt = some p → s'.st p = s.st p ∧ ∀ tr, f tr = tr) ∧ (s'.pt ≠ some p → ∀ tr, f tr ≠ 2 ∧ s'.st p = if f tr = 0 then s.st p else trimB (s.st p))
 out : ∀ tr τ q, Agr s' I' tr τ q → X tr τ q
theorem Snd.refl (s : SR) : Snd s [] s [] (fun tr => tr) (fun _ _ _ => True) :=
 ⟨fun b h => (by cases h), fun p h => .inr h, fun b _ _ => rfl, fun p h _ => ⟨fun _ => ⟨rfl, fun _ => rfl⟩, fun h2 => absurd h h2⟩, fun _ _ _ _ => trivial⟩
theorem Snd.comp {s s1 s2 : SR} {I1 I1' I2 I2' : List Nat} {f1 f2 : Nat → Nat} {X1 X2 : Nat → (Nat → List Int) → (Nat → Bool) → Prop} (h1 : Snd s I1 s1 I1' f1 X1) (h2 : Snd s1 I2 s2 I2' f2 X2) (hd : ∀ b ∈ I1, b ∉ I2) :
  Snd s (I1 ++ I2) s2 (I1' ++ I2') (fun tr => f1 (f2 tr)) (fun tr τ q => X1 (f2 tr) τ q ∧ X2 tr τ q) := by
 refine ⟨?_, ?_, ?_, ?_, ?_⟩
 ·intro b hb
  rcases List.mem_append.1 hb with h | h
  ·exact List.mem_append_left _ (h1.sub b h)
  ·exact List.mem_append_right _ (h2.sub b h)
 ·intro p hp
  rcases h2.ptin p hp with h | h
  ·exact .inl (List.mem_append_right _ h)
  ·rcases h1.ptin p h with h | h
   ·exact .inl (List.mem_append_left _ h)
   ·exact .inr h
 ·intro b hb hp
  have n1 : b ∉ I1 := fun h => hb (List.mem_append_left _ h)
  have n2 : b ∉ I2 := fun h => hb (List.mem_append_right _ h)
  have hp1 : s1.pt ≠ some b := fun e => by
   rcases h1.ptin b e with h | h
   ·exact n1 (h1.sub b h)
   ·exact hp h
  exact (h2.far b n2 hp1).trans (h1.far b n1 hp)
 ·intro p hp hI
  have n1 : p ∉ I1 := fun h => hI (List.mem_append_left _ h)
  have n2 : p ∉ I2 := fun h => hI (List.mem_append_right _ h)
  obtain ⟨a1, a2⟩ := h1.old p hp n1
  by_cases e : s1.pt = some p
  ·obtain ⟨b1, b2⟩ := a1 e
   obtain ⟨c1, c2⟩ := h2.old p e n2
   refine ⟨fun h => ?_, fun h tr => ?_⟩
   ·obtain ⟨d1, d2⟩ := c1 h
    exact ⟨d1.trans b1, fun tr => (b2 _).trans (d2 tr)⟩
   ·obtain ⟨d1, d2⟩ := c2 h tr
    refine ⟨by rw [b2]; exact d1, ?_⟩
    show _ = if f1 (f2 tr) = 0 then _ else _
    rw [b2, d2, b1]
  ·have e2 : s2.pt ≠ some p := fun h => by
    rcases h2.ptin p h with h | h
    ·exact n2 (h2.sub p h)
    ·exact e h
   refine ⟨fun h => absurd h e2, fun _ tr => ?_⟩
   obtain ⟨d1, d2⟩ := a2 e (f2 tr)
   exact ⟨d1, (h2.far p n2 e).trans d2⟩
 ·intro tr τ q hA
  refine ⟨h1.out _ τ q ?_, h2.out tr τ q ⟨fun b hb => hA.t b (List.mem_append_right _ hb), fun b hb => hA.q b (List.mem_append_right _ hb)⟩⟩
  have key : ∀ b ∈ I1', (if s2.pt = some b ∧ tr ≠ 0 then trimB (s2.st b) else s2.st b) = (if s1.pt = some b ∧ f2 tr ≠ 0 then trimB (s1.st b) else s1.st b) ∧ ((s2.pt = some b ∧ tr = 2 ∧ trimB (s2.st b) = []) ↔ (s1.pt = some b ∧ f2 tr = 2 ∧ trimB (s1.st b) = [])) := by
   intro b hb
   have n2 := hd b (h1.sub b hb)
   by_cases e : s1.pt = some b
   ·obtain ⟨c1, c2⟩ := h2.old b e n2
    by_cases e2 : s2.pt = some b
    ·obtain ⟨d1, d2⟩ := c1 e2
     rw [d1, d2 tr]
     simp [e, e2]
    ·obtain ⟨d1, d2⟩ := c2 e2 tr
     constructor
     ·rw [if_neg (fun h => e2 h.1), d2]
      by_cases h0 : f2 tr = 0
      ·rw [if_pos h0, if_neg (fun h => h.2 h0)]
      ·rw [if_neg h0, if_pos ⟨e, h0⟩]
     ·exact ⟨fun h => absurd h.1 e2, fun h => absurd h.2.1 d1⟩
   ·have e2 : s2.pt ≠ some b := fun h => by
     rcases h2.ptin b h with h | h
     ·exact n2 (h2.sub b h)
     ·exact e h
    rw [if_neg (fun h => e2 h.1), if_neg (fun h => e h.1), h2.far b n2 e]
    exact ⟨rfl, ⟨fun h => absurd h.1 e2, fun h => absurd h.1 e⟩⟩
  exact ⟨fun b hb => (hA.t b (List.mem_append_left _ hb)).trans (key b hb).1, fun b hb => (hA.q b (List.mem_append_left _ hb)).trans (decide_eq_decide.2 (key b hb).2)⟩
theorem Snd.imp {s s1 : SR} {I I' : List Nat} {f g : Nat → Nat} {X Y : Nat → (Nat → List Int) → (Nat → Bool) → Prop} (h : Snd s I s1 I' f X) (hf : ∀ tr, f tr = g tr) (hx : ∀ tr τ q, X tr τ q → Y tr τ q) : Snd s I s1 I' g Y := by
 obtain rfl : f = g := funext hf
 exact ⟨h.sub, h.ptin, h.far, h.old, fun tr τ q hA => hx _ _ _ (h.out tr τ q hA)⟩
theorem snd_ent (k : Nat) (s : SR) (hk : k = 1 ∨ k = 2 ∨ k = 3) : Snd s [] (s.ent k) [] (aft k) (fun _ _ _ => True) := by
 refine ⟨fun b h => (by cases h), fun p h => .inr ?_, fun b _ hp => ?_, fun p hp _ => ?_, fun _ _ _ _ => trivial⟩
 ·rcases hk with rfl | rfl | rfl
  ·cases h
  ·cases h
  ·unfold SR.ent at h
   rw [if_neg (by decide), if_neg (by decide)] at h
   split at h <;> exact h
 ·rcases hk with rfl | rfl | rfl
  ·show s.cutP b = _
   unfold SR.cutP
   cases e : s.pt with
   | some p => exact upd_other _ _ (fun e2 => hp (by rw [e, e2]))
   | none => rfl
  ·rfl
  ·unfold SR.ent
   rw [if_neg (by decide), if_neg (by decide)]
   split <;> rfl
 ·rcases hk with rfl | rfl | rfl
  ·refine ⟨fun h => (by cases h), fun _ tr => ⟨(show (1 : Nat) ≠ 2 by decide), ?_⟩⟩
   show s.cutP p = _
   unfold SR.cutP
   rw [hp]
   exact upd_same _ _ _
  ·exact ⟨fun h => (by cases h), fun _ tr => ⟨(show (0 : Nat) ≠ 2 by decide), rfl⟩⟩
  ·have e : s.ent 3 = ⟨s.st, s.pt, false⟩ := by
    unfold SR.ent
    rw [if_neg (by decide), if_neg (by decide), if_pos (by rw [hp]; rfl)]
   rw [e]
   exact ⟨fun _ => ⟨rfl, fun _ => rfl⟩, fun h => absurd hp h⟩
theorem bits_ent (k : Nat) (s : SR) : (s.ent k).bits = s.bits.ent k := by
 unfold SR.ent Bt.ent SR.bits
 split
 ·rfl
 ·split
  ·rfl
  ·simp only [Option.isSome_map]
   split <;> rfl
theorem bits_txt (s : SR) (i : Nat) (hp : s.pt ≠ some i) : (s.txt i).bits = s.bits.txt (s.st i) := by
 unfold SR.txt Bt.txt
 show (if (s.ct i).isEmpty = true then _ else _ : SR).bits = if (s.ct i).isEmpty = true then _ else (⟨some ((s.ct i).getLast? == some 32), s.keep⟩ : Bt)
 split
 ·unfold SR.bits
  show (⟨s.pt.map fun p => (upd s.st i [] p).getLast? == some 32, s.keep⟩ : Bt) = _
  cases e : s.pt with
  | none => rfl
  | some p =>
   rw [Option.map_some, Option.map_some, upd_other _ _ (fun e2 => hp (by rw [e, e2]))]
 ·unfold SR.bits
  show (⟨some ((upd s.st i (s.ct i) i).getLast? == some 32), s.keep⟩ : Bt) = _
  rw [upd_same]
end Go.Proofs.Ytmfjbljdbkmkgaa.Dom

/- laws.inlineSpaced: its contract. -/
namespace Go.Proofs.Ytmfjbljdbkmkgaa.Dom
open Go.RowKit Go.Proofs.YtmfjbljdbkmkgaaW.PrintWords Go.Proofs.YtmfjbljdbkmkgaaW.PrintLast Go.Proofs.YtmfjbljdbkmkgaaW.PrintMore Go.Proofs.Ytmfjbljdbkmkgaa.PDom Go.Proofs.Ytmfjbljdbkmkgaa.Txt Go.Proofs.Ytmfjbljdbkmkgaa.Blank
set_option linter.unusedVariables false
set_option linter.unusedSimpArgs false

def blkN (c : Int) : Int := if ws c = true then 32 else c
def blkB (x : ByteArray) : ByteArray := strOfNums ((bytesOf x).map blkN)
mutual
def spcT : T → T
 | ⟨k, n, x, as_, ks⟩ => ⟨k, n, if k = 1 then blkB x else x, as_, spcTL ks⟩
def spcTL : List T → List T
 | [] => []
 | k :: ks => spcT k :: spcTL ks
end
mutual
/-- No attributes in it. -/
def naT : T → Bool
 | ⟨_, _, _, as_, ks⟩ => as_.isEmpty && naTL ks
def naTL : List T → Bool
 | [] => true
 | k :: ks => naT k && naTL ks
end
theorem naTL_iff : ∀ {l : List T}, naTL l = true ↔ ∀ k ∈ l, naT k = true
 | [] => by simp [naTL]
 | k :: ks => by
  rw [naTL, Bool.and_eq_true, naTL_iff (l := ks)]
  simp
theorem naT_open {t : T} (h : naT t = true) : t.f3 = [] ∧ ∀ k ∈ t.f4, naT k = true := by
 cases t with
 | mk k n x as_ ks =>
  rw [naT, Bool.and_eq_true] at h
  exact ⟨List.isEmpty_iff.1 h.1, naTL_iff.1 h.2⟩
theorem blank_f (c : Int) : spec_Blank.f c = some (ws c) := by
 unfold spec_Blank.f ws
 by_cases h1 : c = 32
 ·rw [if_pos h1]; simp [h1]
 ·rw [if_neg h1]
  by_cases h2 : c = 9
  ·rw [if_pos h2]; simp [h2]
  ·rw [if_neg h2]
   by_cases h3 : c = 10
   ·rw [if_pos h3]; simp [h3]
   ·rw [if_neg h3]
    by_cases h4 : c = 13
    ·simp [h4]
    ·simp [h1, h2, h3, h4]
/-- What a function that makes a tree anew returns. -/
def ToldK (w w' : World) (u : T) (e : Ending) : Prop := ∃ A3 c3 A4 c4, e = .returned (.agg #[.int .i64 u.f0, .string u.f1, .string u.f2, .slice A3 0 c3, .slice A4 u.f4.length c4]) ∧ u.f3 = [] ∧ u.f4.length ≤ c4 ∧ Kd.N k25 25 w' w.heap.size (fun k => w.heap.size ≤ k) (.slice A4 u.f4.length c4) u.f4 ∧ Below w.heap.size w w'
/-- The tree that is being made: its box, its row; the result's box. -/
structure KB (w wr : World) (k : Int) (nm tx : ByteArray) (A3 : Option Addr) (c3 : Nat) (v4 : Value) (l4 : List T) : Prop where
 box : wr.heap[w.heap.size + 2]? = some (.cells #[.int .i64 k, .string nm, .string tx, .slice A3 0 c3, v4] 25 (0, 0))
 res : wr.heap[w.heap.size + 1]? = some (.cells zeroN 25 (0, 0))
 n4 : Kd.N k25 25 wr w.heap.size (fun k => w.heap.size + 3 ≤ k) v4 l4
 on : Below w.heap.size w wr
section
variable {w wr w1 w2 w3 : World} {k : Int} {nm tx : ByteArray} {A3 : Option Addr} {c3 : Nat} {v4 v1 : Value} {l4 : List T}
theorem KB.size (h : KB w wr k nm tx A3 c3 v4 l4) : w.heap.size + 3 ≤ wr.heap.size := blk_lt h.box
theorem KB.moved (h : KB w wr k nm tx A3 c3 v4 l4) (hb : Below wr.heap.size wr w1) : KB w w1 k nm tx A3 c3 v4 l4 :=
 ⟨(hb.block _ (blk_lt h.box)).trans h.box, (hb.block _ (blk_lt h.res)).trans h.res, Kd.N_below h.n4 hb, h.on.trans (hb.mono (by have := h.size; omega))⟩
theorem KB.kid (h : KB w w2 k nm tx A3 c3 v4 l4) {p : T} (ho : Kd.N k25 25 w3 w.heap.size (fun k => w.heap.size + 3 ≤ k) v1 (l4 ++ [p])) (hb3 : Below w.heap.size w2 w3) (hg : w2.grownBy w3 v4.ownBlock) :
  w3.cell? ⟨w.heap.size + 2, 4, none⟩ = some v4 ∧ w3.frozen? ⟨w.heap.size + 2, 4, none⟩ = false ∧ KB w (w3.setCell ⟨w.heap.size + 2, 4, none⟩ v1) k nm tx A3 c3 v1 (l4 ++ [p]) := by
 have n2 : some (w.heap.size + 2) ≠ v4.ownBlock := fun e => by have := h.n4.1 _ e.symm; omega
 have n1 : some (w.heap.size + 1) ≠ v4.ownBlock := fun e => by have := h.n4.1 _ e.symm; omega
 have b3 := grown_kept hg h.box n2
 refine ⟨blk_cell b3 4, blk_frozen b3 4, blk_set b3 4 _, (Below.heap_setCell w3 _ _ _ (by show w.heap.size + 1 ≠ w.heap.size + 2; omega)).trans (grown_kept hg h.res n1), ?_, ?_⟩
 ·refine Kd.N_far ho (fun k hk => ?_) _
  show k ≠ w.heap.size + 2
  omega
 ·exact h.on.trans (Below.setCell hb3 (p := ⟨w.heap.size + 2, 4, none⟩) (by show w.heap.size ≤ w.heap.size + 2; omega) _)
end
theorem F_nilA {α : Type} (d : Kd α) (W : World) (ok : Nat → Prop) (A : Option Addr) : Kd.F d W ok A 0 [] := fun W' _ => ⟨rfl, by simp, fun h => absurd h (Nat.lt_irrefl 0)⟩
theorem fk_na {W : World} {ok : Nat → Prop} {u : T} {A3 A4 : Option Addr} {c3 c4 : Nat} (h3 : u.f3 = []) (l4 : u.f4.length ≤ c4) (g4 : Kd.F k25 W ok A4 u.f4.length u.f4) : Kd.FK k25 W ok u [.int .i64 u.f0, .string u.f1, .string u.f2, .slice A3 0 c3, .slice A4 u.f4.length c4] := by
 have := k25_mkF W ok u (A3 := A3) (c3 := c3) (by rw [h3]; exact Nat.zero_le _) (by rw [h3]; exact F_nilA _ _ _ _) l4 g4
 rw [h3] at this
 exact this
/-- How such a function ends. -/
theorem na_end {w w3 : World} {u : T} {A3 A4 : Option Addr} {c3 c4 : Nat} (h : KB w w3 u.f0 u.f1 u.f2 A3 c3 (.slice A4 u.f4.length c4) u.f4) (h3 : u.f3 = []) (a0 a1 a2 a3 a4 : Value) :
  ToldK w (((((w3.setCell ⟨w.heap.size + 1, 0, none⟩ a0).setCell ⟨w.heap.size + 1, 1, none⟩ a1).setCell ⟨w.heap.size + 1, 2, none⟩ a2).setCell ⟨w.heap.size + 1, 3, none⟩ a3).setCell ⟨w.heap.size + 1, 4, none⟩ a4) u (.returned (.agg #[.int .i64 u.f0, .string u.f1, .string u.f2, .slice A3 0 c3, .slice A4 u.f4.length c4])) := by
 have hs := fun k (hk : k ≠ w.heap.size + 1) => sets5 w3 (w.heap.size + 1) a0 a1 a2 a3 a4 k hk
 have hb : Below w.heap.size w3 (((((w3.setCell ⟨w.heap.size + 1, 0, none⟩ a0).setCell ⟨w.heap.size + 1, 1, none⟩ a1).setCell ⟨w.heap.size + 1, 2, none⟩ a2).setCell ⟨w.heap.size + 1, 3, none⟩ a3).setCell ⟨w.heap.size + 1, 4, none⟩ a4) :=
  Below.setCell (Below.setCell (Below.setCell (Below.setCell (Below.setCell (Below.refl _ w3) (p := ⟨w.heap.size + 1, 0, none⟩) (Nat.le_succ _) _) (p := ⟨w.heap.size + 1, 1, none⟩) (Nat.le_succ _) _) (p := ⟨w.heap.size + 1, 2, none⟩) (Nat.le_succ _) _) (p := ⟨w.heap.size + 1, 3, none⟩) (Nat.le_succ _) _) (p := ⟨w.heap.size + 1, 4, none⟩) (Nat.le_succ _) _
 exact ⟨A3, c3, A4, c4, rfl, h3, (Kd.N_reads' h.n4).2.1, Kd.N_mono (Kd.N_step h.n4 (fun k hk _ => hs k (by omega))) (fun k hk => by omega), h.on.trans hb⟩
/-- Up to a place written over. -/
def over (l : List Int) (i : Nat) : List Int := (l.take i).map blkN ++ l.drop i
end Go.Proofs.Ytmfjbljdbkmkgaa.Dom

/- White space of a tree, collapsed text by text, is what it is all at once. Plain facts. -/
namespace Go.Proofs.Ytmfjbljdbkmkgaa.Dom
open Go.RowKit Go.Proofs.YtmfjbljdbkmkgaaW.PrintWords Go.Proofs.YtmfjbljdbkmkgaaW.PrintLast Go.Proofs.YtmfjbljdbkmkgaaW.PrintMore Go.Proofs.Ytmfjbljdbkmkgaa.PDom Go.Proofs.Ytmfjbljdbkmkgaa.Blank Go.Proofs.Ytmfjbljdbkmkgaa.Txt
set_option linter.unusedVariables false
set_option linter.unusedSimpArgs false

theorem norm_byt (l : List Int) : ∀ b, Byt l → Byt (norm b l) := by
 induction l with
 | nil => intro b h; exact h
 | cons c l ih =>
  intro b h
  have hl : Byt l := fun x hx => h x (List.mem_cons_of_mem _ hx)
  unfold norm
  split
  ·split
   ·exact ih true hl
   ·exact Byt.cons (by decide) (by decide) (ih true hl)
  ·exact Byt.cons (h c (by simp)).1 (h c (by simp)).2 (ih false hl)
theorem cut1_byt {b : Bool} {l : List Int} (h : Byt l) : Byt (cut1 b l) := by
 unfold cut1
 split
 ·exact fun x hx => h x (List.mem_of_mem_tail hx)
 ·exact h
theorem trimB_byt {l : List Int} (h : Byt l) : Byt (trimB l) := by
 unfold trimB
 split
 ·exact fun x hx => h x (List.dropLast_subset l hx)
 ·exact h
theorem upd_byt {σ : Nat → List Int} (h : ∀ b, Byt (σ b)) {i : Nat} {x : List Int} (hx : Byt x) : ∀ b, Byt (upd σ i x b) := by
 intro b
 unfold upd
 split
 ·exact hx
 ·exact h b
theorem ct_byt {s : SR} (h : ∀ b, Byt (s.st b)) (i : Nat) : Byt (s.ct i) := cut1_byt (norm_byt _ _ (h i))
theorem cutP_byt {s : SR} (h : ∀ b, Byt (s.st b)) : ∀ b, Byt (s.cutP b) := by
 unfold SR.cutP
 cases s.pt with
 | some p => exact upd_byt h (trimB_byt (h _))
 | none => exact h
theorem txt_byt {s : SR} (h : ∀ b, Byt (s.st b)) (i : Nat) : ∀ b, Byt ((s.txt i).st b) := by
 unfold SR.txt
 split
 ·exact upd_byt h Byt.nil
 ·exact upd_byt h (ct_byt h i)
theorem ent_byt {s : SR} (h : ∀ b, Byt (s.st b)) (k : Nat) : ∀ b, Byt ((s.ent k).st b) := by
 unfold SR.ent
 split
 ·exact cutP_byt h
 ·split
  ·exact h
  ·split <;> exact h
def NodeS (S : Srt) (r : RT) : Prop := ∀ s : SR, (∀ b, Byt (s.st b)) → (r.tid S).Nodup → (∀ p, s.pt = some p → p ∉ r.tid S) →
 (∀ b, Byt ((run S s r).1.st b)) ∧ (run S s r).1.bits = (p1 S s.bits (r.dat S s.st).toT).1 ∧
 Snd s (r.tid S) (run S s r).1 (RT.tidL S (run S s r).2) (fun tr => (p2L S tr (p1 S s.bits (r.dat S s.st).toT).2).1) (fun tr τ q => (p2L S tr (p1 S s.bits (r.dat S s.st).toT).2).2 = RT.toTL (RT.datL S τ (RT.rmL S q (run S s r).2)))
def ListS (S : Srt) (l : List RT) : Prop := ∀ s : SR, (∀ b, Byt (s.st b)) → (RT.tidL S l).Nodup → (∀ p, s.pt = some p → p ∉ RT.tidL S l) →
 (∀ b, Byt ((runL S s l).1.st b)) ∧ (runL S s l).1.bits = (p1L S s.bits (RT.toTL (RT.datL S s.st l))).1 ∧
 Snd s (RT.tidL S l) (runL S s l).1 (RT.tidL S (runL S s l).2) (fun tr => (p2L S tr (p1L S s.bits (RT.toTL (RT.datL S s.st l))).2).1) (fun tr τ q => (p2L S tr (p1L S s.bits (RT.toTL (RT.datL S s.st l))).2).2 = RT.toTL (RT.datL S τ (RT.rmL S q (runL S s l).2)))
theorem list_sound (S : Srt) : ∀ l : List RT, (∀ k ∈ l, NodeS S k) → ListS S l
 | [], _ => fun s hb _ _ => ⟨hb, rfl, (Snd.refl s).imp (fun _ => rfl) (fun _ _ _ _ => rfl)⟩
 | k :: ks, h => by
  intro s hb hn hp
  have hn' : (k.tid S ++ RT.tidL S ks).Nodup := hn
  obtain ⟨n1, n2, n3⟩ := List.nodup_append.1 hn'
  have hd : ∀ b ∈ k.tid S, b ∉ RT.tidL S ks := fun b h1 h2 => n3 b h1 b h2 rfl
  obtain ⟨a1, a2, a3⟩ := h k (by simp) s hb n1 (fun p e hm => hp p e (List.mem_append_left _ hm))
  have hp1 : ∀ p, (run S s k).1.pt = some p → p ∉ RT.tidL S ks := fun p e hm => by
   rcases a3.ptin p e with h1 | h1
   ·exact hd p (a3.sub p h1) hm
   ·exact hp p h1 (List.mem_append_right _ hm)
  obtain ⟨b1, b2, b3⟩ := list_sound S ks (fun y hy => h y (by simp [hy])) (run S s k).1 a1 n2 hp1
  have hdat : RT.datL S (run S s k).1.st ks = RT.datL S s.st ks := datL_congr S _ _ ks (fun b hm => a3.far b (fun h1 => hd b h1 hm) (fun e => hp b e (List.mem_append_right _ hm)))
  rw [hdat] at b2 b3
  rw [a2] at b2 b3
  have e1 : p1L S s.bits (RT.toTL (RT.datL S s.st (k :: ks))) = ((p1L S (p1 S s.bits (k.dat S s.st).toT).1 (RT.toTL (RT.datL S s.st ks))).1, (p1 S s.bits (k.dat S s.st).toT).2 ++ (p1L S (p1 S s.bits (k.dat S s.st).toT).1 (RT.toTL (RT.datL S s.st ks))).2) := by
   rw [RT.datL, RT.toTL, p1L]
  have e2 : runL S s (k :: ks) = ((runL S (run S s k).1 ks).1, (run S s k).2 ++ (runL S (run S s k).1 ks).2) := by rw [runL]
  rw [e1, e2]
  refine ⟨b1, b2, ?_⟩
  show Snd s (k.tid S ++ RT.tidL S ks) _ (RT.tidL S ((run S s k).2 ++ (runL S (run S s k).1 ks).2)) _ _
  rw [tidL_append]
  refine (a3.comp b3 hd).imp (fun tr => ?_) (fun tr τ q hx => ?_)
  ·rw [p2L_append]
  ·obtain ⟨x1, x2⟩ := hx
   rw [p2L_append, rmL_append, datL_append, toTL_append, ← x1, ← x2]
theorem node_sound (S : Srt) (r : RT) : RT.All okN r → NodeS S r := by
 induction r using RT.induct with
 | h i ty a d at_ ks ih =>
  intro hall s hb hn hp
  cases hall with
  | mk _ hok hks =>
   by_cases h1 : ty = 1
   ·subst h1
    have ht : RT.tid S (.node i 1 a d at_ ks) = [i] := by rw [RT.tid, if_pos rfl]
    have hpi : s.pt ≠ some i := fun e => hp i e (by rw [ht]; simp)
    have hT : (RT.dat S s.st (.node i 1 a d at_ ks)).toT = ⟨1, ⟨#[]⟩, strOfNums (s.st i), [], []⟩ := by rw [RT.dat, if_pos rfl, RT.toT, if_neg (by decide), if_pos rfl]
    have hr : run S s (.node i 1 a d at_ ks) = (s.txt i, if (s.ct i).isEmpty = true then [] else [.node i 1 a d at_ ks]) := by rw [run, if_pos rfl]
    have h1' : p1 S s.bits ⟨1, ⟨#[]⟩, strOfNums (s.st i), [], []⟩ = (s.bits.txt (s.st i), if (s.ct i).isEmpty = true then [] else [⟨1, ⟨#[]⟩, strOfNums (s.ct i), [], []⟩]) := by
     rw [p1, if_pos rfl, bytes_str (hb i)]
     rfl
    rw [hr, hT, h1', ht]
    refine ⟨txt_byt hb i, bits_txt s i hpi, ?_⟩
    simp only
    by_cases he : (s.ct i).isEmpty = true
    ·rw [if_pos he, if_pos he]
     unfold SR.txt
     rw [if_pos he]
     refine ⟨fun b h => (by cases h), fun p h => .inr h, fun b h1 _ => upd_other _ _ (fun e => h1 (by rw [e]; simp)), fun p hpp hI => ⟨fun _ => ⟨upd_other _ _ (fun e => hI (by rw [e]; simp)), fun _ => rfl⟩, fun h => absurd hpp h⟩, fun _ _ _ _ => rfl⟩
    ·rw [if_neg he, if_neg he]
     unfold SR.txt
     rw [if_neg he]
     have ht1 : RT.tidL S [.node i 1 a d at_ ks] = [i] := by rw [RT.tidL, ht]; rfl
     have hp2 : ∀ tr, p2L S tr [⟨1, ⟨#[]⟩, strOfNums (s.ct i), [], []⟩] = (0, if tr = 0 then [⟨1, ⟨#[]⟩, strOfNums (s.ct i), [], []⟩] else if tr = 2 ∧ trimB (s.ct i) = [] then [] else [⟨1, ⟨#[]⟩, strOfNums (trimB (s.ct i)), [], []⟩]) := by
      intro tr
      rw [p2L, p2L, p2, if_pos rfl, bytes_str (ct_byt hb i), List.append_nil]
     rw [ht1]
     refine ⟨fun b h => h, fun p h => .inl ?_, fun b h1 _ => upd_other _ _ (fun e => h1 (by rw [e]; simp)), fun p hpp hI => ⟨fun h => absurd (Option.some.inj h).symm (fun e => hI (by rw [e]; simp)), fun _ tr => ?_⟩, fun tr τ q hA => ?_⟩
     ·rw [← Option.some.inj h]; simp
     ·rw [hp2]
      exact ⟨(show (0 : Nat) ≠ 2 by decide), upd_other _ _ (fun e => hI (by rw [e]; simp))⟩
     ·have hτ := hA.t i (by simp)
      have hq := hA.q i (by simp)
      simp only [true_and] at hτ hq
      rw [upd_same] at hτ hq
      rw [hp2, RT.rmL, RT.rmL, RT.rm, if_pos rfl, hq, List.append_nil]
      simp only [decide_eq_true_eq]
      by_cases t0 : tr = 0
      ·subst t0
       rw [if_pos rfl, if_neg (by simp), RT.datL, RT.datL, RT.dat, if_pos rfl, RT.toTL, RT.toTL, RT.toT, if_neg (by decide), if_pos rfl, hτ, if_neg (by simp)]
      ·rw [if_neg t0]
       by_cases t2 : tr = 2 ∧ trimB (s.ct i) = []
       ·rw [if_pos t2, if_pos t2]
        rfl
       ·rw [if_neg t2, if_neg t2, RT.datL, RT.datL, RT.dat, if_pos rfl, RT.toTL, RT.toTL, RT.toT, if_neg (by decide), if_pos rfl, hτ, if_pos t0]
   ·by_cases h3 : ty = 3
    ·subst h3
     cases hpr : inL S.pr d with
     | true =>
      have ht : RT.tid S (.node i 3 a d at_ ks) = [] := by rw [RT.tid, if_neg (by decide), hpr, if_neg (by simp)]
      have hT : ∀ σ, RT.dat S σ (.node i 3 a d at_ ks) = .node i 3 a d at_ ks := by intro σ; rw [RT.dat, if_neg (by decide), hpr, if_neg (by simp)]
      have hr : run S s (.node i 3 a d at_ ks) = (s.ent (S.kind d), [.node i 3 a d at_ ks]) := by rw [run, if_neg (by decide), if_pos rfl, if_pos hpr]
      have h1' : p1 S s.bits (RT.toT (.node i 3 a d at_ ks)) = (s.bits.ent (S.kind d), [RT.toT (.node i 3 a d at_ ks)]) := by
       rw [RT.toT, if_pos rfl, p1, if_neg (by decide), if_pos rfl, if_pos hpr]
      have h2' : ∀ tr, p2L S tr [RT.toT (.node i 3 a d at_ ks)] = (aft (S.kind d) tr, [RT.toT (.node i 3 a d at_ ks)]) := by
       intro tr
       rw [RT.toT, if_pos rfl, p2L, p2L, p2, if_neg (by decide), if_pos rfl, if_pos hpr]
       rfl
      rw [hr, hT, h1', ht]
      refine ⟨ent_byt hb _, bits_ent _ _, ?_⟩
      have ht1 : RT.tidL S [.node i 3 a d at_ ks] = [] := by rw [RT.tidL, ht]; rfl
      rw [ht1]
      refine (snd_ent (S.kind d) s (kind_cases S d)).imp (fun tr => by rw [h2']) (fun tr τ q _ => ?_)
      rw [h2', RT.rmL, RT.rmL, RT.rm, if_neg (by decide), hpr, if_neg (by simp), List.append_nil, RT.datL, RT.datL, hT]
      rfl
     | false =>
      have hL := list_sound S ks (fun k hk => ih k hk (hks k hk))
      have ht : RT.tid S (.node i 3 a d at_ ks) = RT.tidL S ks := by rw [RT.tid, if_neg (by decide), hpr, if_pos (by simp)]
      rw [ht] at hn hp ⊢
      have hr : run S s (.node i 3 a d at_ ks) = ((runL S (s.ent (S.kind d)) ks).1.ent (S.kind d), [.node i 3 a d at_ (runL S (s.ent (S.kind d)) ks).2]) := by rw [run, if_neg (by decide), if_pos rfl, hpr, if_neg (by simp)]
      have hs1 := snd_ent (S.kind d) s (kind_cases S d)
      have hp1 : ∀ p, (s.ent (S.kind d)).pt = some p → p ∉ RT.tidL S ks := fun p e => by
       rcases hs1.ptin p e with h | h
       ·cases h
       ·exact hp p h
      obtain ⟨c1, c2, c3⟩ := hL (s.ent (S.kind d)) (ent_byt hb _) hn hp1
      have hdat : RT.datL S (s.ent (S.kind d)).st ks = RT.datL S s.st ks := datL_congr S _ _ ks (fun b hm => hs1.far b (by simp) (fun e => hp b e hm))
      rw [hdat, bits_ent] at c2 c3
      have hT : (RT.dat S s.st (.node i 3 a d at_ ks)).toT = ⟨0, d, ⟨#[]⟩, at_.map (fun a => (⟨a.1, a.2⟩ : At)), RT.toTL (RT.datL S s.st ks)⟩ := by
       rw [RT.dat, if_neg (by decide), hpr, if_pos (by simp), RT.toT, if_pos rfl]
      have h1' : p1 S s.bits (⟨0, d, ⟨#[]⟩, at_.map (fun a => (⟨a.1, a.2⟩ : At)), RT.toTL (RT.datL S s.st ks)⟩ : T) = ((p1L S (s.bits.ent (S.kind d)) (RT.toTL (RT.datL S s.st ks))).1.ent (S.kind d), [⟨0, d, ⟨#[]⟩, at_.map (fun a => (⟨a.1, a.2⟩ : At)), (p1L S (s.bits.ent (S.kind d)) (RT.toTL (RT.datL S s.st ks))).2⟩]) := by
       rw [p1, if_neg (by decide), if_pos rfl, hpr, if_neg (by simp)]
      rw [hr, hT, h1']
      refine ⟨ent_byt c1 _, by rw [bits_ent, c2], ?_⟩
      simp only
      generalize hP : (p1L S (s.bits.ent (S.kind d)) (RT.toTL (RT.datL S s.st ks))).2 = P at *
      generalize hR : runL S (s.ent (S.kind d)) ks = R at *
      have ht1 : RT.tidL S [.node i 3 a d at_ R.2] = [] ++ RT.tidL S R.2 ++ [] := by
       rw [RT.tidL, RT.tid, if_neg (by decide), hpr, if_pos (by simp), List.append_nil, RT.tidL, List.append_nil]
       rfl
      have hI : RT.tidL S ks = [] ++ RT.tidL S ks ++ [] := by simp
      rw [ht1, hI]
      have h2' : ∀ tr, p2L S tr [(⟨0, d, ⟨#[]⟩, at_.map (fun a => (⟨a.1, a.2⟩ : At)), P⟩ : T)] = (aft (S.kind d) (p2L S (aft (S.kind d) tr) P).1, [⟨0, d, ⟨#[]⟩, at_.map (fun a => (⟨a.1, a.2⟩ : At)), (p2L S (aft (S.kind d) tr) P).2⟩]) := by
       intro tr
       rw [p2L, p2L, p2, if_neg (by decide), if_pos rfl, hpr, if_neg (by simp)]
       rfl
      refine ((hs1.comp c3 (fun b h => (by cases h))).comp (snd_ent (S.kind d) R.1 (kind_cases S d)) (fun b _ h => (by cases h))).imp (fun tr => by rw [h2']) (fun tr τ q hx => ?_)
      obtain ⟨⟨_, x2⟩, _⟩ := hx
      have x3 : (p2L S (aft (S.kind d) tr) P).2 = RT.toTL (RT.datL S τ (RT.rmL S q R.2)) := x2
      rw [h2', x3, RT.rmL, RT.rmL, RT.rm, if_neg (by decide), hpr, if_pos (by simp), List.append_nil, RT.datL, RT.datL, RT.dat, if_neg (by decide), hpr, if_pos (by simp), RT.toTL, RT.toTL, RT.toT, if_pos rfl]
    ·have h4 : ty = 4 := by
      rcases hok.2 with e | e | e
      ·exact absurd e h1
      ·exact absurd e h3
      ·exact e
     subst h4
     have ht : RT.tid S (.node i 4 a d at_ ks) = [] := by rw [RT.tid, if_neg (by decide), if_neg (by simp)]
     have hT : ∀ σ, RT.dat S σ (.node i 4 a d at_ ks) = .node i 4 a d at_ ks := by intro σ; rw [RT.dat, if_neg (by decide), if_neg (by simp)]
     have hr : run S s (.node i 4 a d at_ ks) = (s, [.node i 4 a d at_ ks]) := by rw [run, if_neg (by decide), if_neg (by decide)]
     have h1' : p1 S s.bits (RT.toT (.node i 4 a d at_ ks)) = (s.bits, [RT.toT (.node i 4 a d at_ ks)]) := by
      rw [RT.toT, if_neg (by decide), if_neg (by decide), if_pos rfl, p1, if_neg (by decide), if_neg (by decide)]
     have h2' : ∀ tr, p2L S tr [RT.toT (.node i 4 a d at_ ks)] = (tr, [RT.toT (.node i 4 a d at_ ks)]) := by
      intro tr
      rw [RT.toT, if_neg (by decide), if_neg (by decide), if_pos rfl, p2L, p2L, p2, if_neg (by decide), if_neg (by decide)]
      rfl
     rw [hr, hT, h1', ht]
     have ht1 : RT.tidL S [.node i 4 a d at_ ks] = [] := by rw [RT.tidL, ht]; rfl
     rw [ht1]
     refine ⟨hb, rfl, (Snd.refl s).imp (fun tr => by rw [h2']) (fun tr τ q _ => ?_)⟩
     rw [h2', RT.rmL, RT.rmL, RT.rm, if_neg (by decide), if_neg (by simp), List.append_nil, RT.datL, RT.datL, hT]
     rfl
/-- All children of a root, from the start to the end: what is left of them. -/
theorem run_end (S : Srt) (l : List RT) (h : ∀ k ∈ l, RT.All okN k) (σ : Nat → List Int) (hb : ∀ b, Byt (σ b)) (hn : (RT.tidL S l).Nodup) (s' : SR) (L' : List RT) (e : runL S ⟨σ, none, false⟩ l = (s', L')) :
  (∀ b, Byt (s'.st b)) ∧ (∀ p, s'.pt = some p → p ∈ RT.tidL S L') ∧ (∀ b ∈ RT.tidL S L', b ∈ RT.tidL S l) ∧
  (p2L S 2 (p1L S ⟨none, false⟩ (RT.toTL (RT.datL S σ l))).2).2 = RT.toTL (RT.datL S s'.cutP (RT.rmL S (fun b => decide (s'.pt = some b ∧ trimB (s'.st b) = [])) L')) := by
 obtain ⟨h1, h2, h3⟩ := list_sound S l (fun k hk => node_sound S k (h k hk)) ⟨σ, none, false⟩ hb hn (fun p hp => by cases hp)
 rw [e] at h1 h3
 refine ⟨h1, fun p hp => ?_, h3.sub, h3.out 2 s'.cutP _ ⟨fun b _ => ?_, fun b _ => ?_⟩⟩
 ·rcases h3.ptin p hp with h | h
  ·exact h
  ·cases h
 ·show s'.cutP b = if s'.pt = some b ∧ (2 : Nat) ≠ 0 then trimB (s'.st b) else s'.st b
  unfold SR.cutP
  cases e2 : s'.pt with
  | none => rw [if_neg (fun h => by cases h.1)]
  | some p =>
   by_cases hpb : p = b
   ·subst hpb
    rw [if_pos ⟨rfl, by decide⟩]
    exact upd_same _ _ _
   ·rw [if_neg (fun h => hpb (Option.some.inj h.1))]
    exact upd_other _ _ (fun e => hpb e.symm)
 ·simp
end Go.Proofs.Ytmfjbljdbkmkgaa.Dom

/- A place in a tree of nodes with what stands on its left and right, up to the root; a node's text changed. Plain facts. -/
namespace Go.Proofs.Ytmfjbljdbkmkgaa.Dom
open Go.RowKit Go.Proofs.YtmfjbljdbkmkgaaW.PrintWords Go.Proofs.YtmfjbljdbkmkgaaW.PrintLast Go.Proofs.YtmfjbljdbkmkgaaW.PrintMore Go.Proofs.Ytmfjbljdbkmkgaa.PDom Go.Proofs.Ytmfjbljdbkmkgaa.Blank Go.Proofs.Ytmfjbljdbkmkgaa.Txt
set_option linter.unusedVariables false
set_option linter.unusedSimpArgs false

/-- An element with the children that are done, and those that are not. -/
structure Fr where
 i : Nat
 a : Int
 d : ByteArray
 at_ : List (ByteArray × ByteArray)
 L : List RT
 R : List RT
def Fr.up (f : Fr) (M : List RT) : RT := .node f.i 3 f.a f.d f.at_ (f.L ++ M ++ f.R)
def plug : Fr → List Fr → List RT → RT
 | f, [], M => f.up M
 | f, g :: fs, M => plug g fs [f.up M]
def pth : Fr → List Fr → List Int
 | _, [] => []
 | _, g :: fs => pth g fs ++ [(g.L.length : Int)]
theorem up_kids (f : Fr) (M : List RT) : (f.up M).kids = f.L ++ M ++ f.R := rfl
theorem plug_at : ∀ (fs : List Fr) (f : Fr) (M : List RT), (plug f fs M).at_ (pth f fs) = some (f.up M)
 | [], f, M => rfl
 | g :: fs, f, M => at_kid (k1 := g.L) (k2 := g.R) (plug_at fs g [f.up M]) (by rw [up_kids]; simp)
theorem plug_mapAt : ∀ (fs : List Fr) (f : Fr) (M M' : List RT), (plug f fs M).mapAt (fun _ => f.L ++ M' ++ f.R) (pth f fs) = plug f fs M'
 | [], f, M, M' => rfl
 | g :: fs, f, M, M' => by
  have h := mapAt_kid (f := fun _ => f.L ++ M' ++ f.R) (plug_at fs g [f.up M]) (k1 := g.L) (k2 := g.R) (y := f.up M) (by rw [up_kids]; simp)
  show (plug g fs [f.up M]).mapAt _ (pth g fs ++ [(g.L.length : Int)]) = plug g fs [f.up M']
  rw [h]
  have := plug_mapAt fs g [f.up M] [f.up M']
  rw [← this]
  congr 1
  funext _
  show g.L ++ f.up M' :: g.R = g.L ++ [f.up M'] ++ g.R
  simp
def rootOf : Fr → List Fr → Nat
 | f, [] => f.i
 | _, g :: fs => rootOf g fs
theorem plug_id : ∀ (fs : List Fr) (f : Fr) (M : List RT), (plug f fs M).id = rootOf f fs
 | [], f, M => rfl
 | g :: fs, f, M => plug_id fs g [f.up M]
def Fr.dat (S : Srt) (σ : Nat → List Int) (f : Fr) : Fr := { f with L := RT.datL S σ f.L, R := RT.datL S σ f.R }
theorem up_dat (S : Srt) (σ : Nat → List Int) (f : Fr) (M : List RT) (h : inL S.pr f.d = false) : (f.up M).dat S σ = (f.dat S σ).up (RT.datL S σ M) := by
 unfold Fr.up
 rw [RT.dat, if_neg (by decide), h, if_pos (by simp), datL_append, datL_append]
 rfl
theorem plug_dat (S : Srt) (σ : Nat → List Int) : ∀ (fs : List Fr) (f : Fr) (M : List RT), (∀ g ∈ f :: fs, inL S.pr g.d = false) → (plug f fs M).dat S σ = plug (f.dat S σ) (fs.map (Fr.dat S σ)) (RT.datL S σ M)
 | [], f, M, h => up_dat S σ f M (h f (by simp))
 | g :: fs, f, M, h => by
  show (plug g fs [f.up M]).dat S σ = plug (g.dat S σ) (fs.map (Fr.dat S σ)) [(f.dat S σ).up (RT.datL S σ M)]
  rw [plug_dat S σ fs g [f.up M] (fun x hx => h x (List.mem_cons_of_mem _ hx)), RT.datL, RT.datL, up_dat S σ f M (h f (by simp))]
theorem dat_id (S : Srt) (σ : Nat → List Int) (r : RT) : (r.dat S σ).id = r.id := by
 cases r
 rw [RT.dat]
 split
 ·rfl
 ·split <;> rfl
theorem datL_ids (S : Srt) (σ : Nat → List Int) (l : List RT) : (RT.datL S σ l).map RT.id = l.map RT.id := by
 rw [datL_map, List.map_map]
 exact List.map_congr_left (fun r _ => dat_id S σ r)
theorem dat_ty (S : Srt) (σ : Nat → List Int) (r : RT) : (r.dat S σ).ty = r.ty := by
 cases r
 rw [RT.dat]
 split
 ·rfl
 ·split <;> rfl
theorem dat_data (S : Srt) (σ : Nat → List Int) (r : RT) : (r.dat S σ).data = if r.ty = 1 then strOfNums (σ r.id) else r.data := by
 cases r with
 | node i ty a d at_ ks =>
  rw [RT.dat]
  show RT.data (if ty = 1 then _ else _) = if ty = 1 then strOfNums (σ i) else d
  split
  ·rfl
  ·split <;> rfl
theorem dat_kids (S : Srt) (σ : Nat → List Int) (r : RT) : (r.dat S σ).kids.map RT.id = r.kids.map RT.id := by
 cases r with
 | node i ty a d at_ ks =>
  rw [RT.dat]
  split
  ·rfl
  ·split
   ·exact datL_ids S σ ks
   ·rfl
theorem pre_dat (S : Srt) (σ : Nat → List Int) (r : RT) : (r.dat S σ).pre = r.pre := by
 induction r using RT.induct with
 | h i ty a d at_ ks ih =>
  rw [RT.dat]
  split
  ·rfl
  ·split
   ·have : ∀ l : List RT, (∀ k ∈ l, (k.dat S σ).pre = k.pre) → RT.preL (RT.datL S σ l) = RT.preL l := by
     intro l
     induction l with
     | nil => intro _; rfl
     | cons k l ih2 =>
      intro h
      rw [RT.datL, RT.preL, RT.preL, h k (by simp), ih2 (fun y hy => h y (by simp [hy]))]
    show i :: RT.preL (RT.datL S σ ks) = i :: RT.preL ks
    rw [this ks ih]
   ·rfl
theorem tid_pre (S : Srt) (r : RT) : ∀ b ∈ r.tid S, b ∈ r.pre := by
 induction r using RT.induct with
 | h i ty a d at_ ks ih =>
  intro b hb
  rw [RT.tid] at hb
  split at hb
  ·have : b = i := by simpa using hb
   rw [this]
   exact List.mem_cons_self
  ·split at hb
   ·obtain ⟨k, hk, hbk⟩ := mem_tidL.1 hb
    exact List.mem_cons_of_mem _ (RT.mem_preL.2 ⟨k, hk, ih k hk b hbk⟩)
   ·cases hb
theorem tidL_pre (S : Srt) (l : List RT) : ∀ b ∈ RT.tidL S l, b ∈ RT.preL l := fun b hb => by
 obtain ⟨k, hk, hbk⟩ := mem_tidL.1 hb
 exact RT.mem_preL.2 ⟨k, hk, tid_pre S k b hbk⟩
/-- A text that the table holds. -/
theorem tid_info (S : Srt) {D : Tab} {σ : Nat → List Int} {b : Nat} (r : RT) : ∀ {p : Option Nat}, Is D p (r.dat S σ) → b ∈ r.tid S → ∃ i : Info, D b = some i ∧ i.ty = 1 ∧ i.data = strOfNums (σ b) := by
 induction r using RT.induct with
 | h i ty a d at_ ks ih =>
  intro p h hb
  rw [RT.tid] at hb
  rw [RT.dat] at h
  split at hb
  ·rename_i h1
   rw [if_pos h1] at h
   have : b = i := by simpa using hb
   subst this
   exact ⟨_, h.root, h1, rfl⟩
  ·rename_i h1
   rw [if_neg h1] at h
   split at hb
   ·rename_i h2
    rw [if_pos h2] at h
    obtain ⟨k, hk, hbk⟩ := mem_tidL.1 hb
    exact ih k hk (h.kid (k := k.dat S σ) (by show k.dat S σ ∈ RT.datL S σ ks; rw [datL_map]; exact List.mem_map_of_mem hk)) hbk
   ·cases hb
/-! ### A node's text, changed -/
theorem Dom.setData {w : World} {D : Tab} (h : Dom w D) {b : Nat} {i : Info} (hb : D b = some i) (d : ByteArray) : Dom (w.setCell ⟨b, 7, none⟩ (.string d)) (put D b { i with data := d }) := by
 have hk : ∀ p, kidsOf (put D b { i with data := d }) p = kidsOf D p := fun p => by
  rw [kidsOf_put]
  split
  ·rename_i e
   rw [e, kidsOf_some hb]
  ·rfl
 have hs : ∀ j : Info, sibs (put D b { i with data := d }) j = sibs D j := fun j => by
  unfold sibs
  split
  ·exact hk _
  ·rfl
 have old : ∀ {x j}, put D b { i with data := d } x = some j → ∃ j0, D x = some j0 ∧ j.parent = j0.parent ∧ j.kids = j0.kids := fun {x j} e => by
  by_cases hx : x = b
  ·subst hx
   rw [put_same] at e
   obtain rfl := Option.some.inj e
   exact ⟨i, hb, rfl, rfl⟩
  ·rw [put_other _ _ hx] at e
   exact ⟨j, e, rfl, rfl⟩
 have new : ∀ {x j0}, D x = some j0 → ∃ j, put D b { i with data := d } x = some j ∧ j.parent = j0.parent ∧ j.kids = j0.kids := fun {x j0} e => by
  by_cases hx : x = b
  ·subst hx
   rw [hb] at e
   obtain rfl := Option.some.inj e
   exact ⟨_, put_same _ _ _, rfl, rfl⟩
  ·exact ⟨j0, (put_other _ _ hx).trans e, rfl, rfl⟩
 obtain ⟨v0, hv0, _⟩ := h.has hb
 refine ⟨⟨fun {x j p} e hp => ?_, fun {x j c} e hc => ?_, fun {x j} e => ?_⟩, fun {x j} e => ?_⟩
 ·obtain ⟨j0, e0, e1, e2⟩ := old e
  obtain ⟨ip, g1, g2⟩ := h.wf.up e0 (e1.symm.trans hp)
  obtain ⟨ip', f1, f2, f3⟩ := new g1
  exact ⟨ip', f1, by rw [f3]; exact g2⟩
 ·obtain ⟨j0, e0, e1, e2⟩ := old e
  obtain ⟨ic, g1, g2⟩ := h.wf.down e0 (by rw [← e2]; exact hc)
  obtain ⟨ic', f1, f2, f3⟩ := new g1
  exact ⟨ic', f1, by rw [f2]; exact g2⟩
 ·obtain ⟨j0, e0, e1, e2⟩ := old e
  rw [e2]
  exact h.wf.nodup e0
 ·by_cases hx : x = b
  ·subst hx
   rw [put_same] at e
   obtain rfl := Option.some.inj e
   obtain ⟨v, h1, h2⟩ := h.has hb
   refine ⟨v, ?_, h2.set h1 7 _⟩
   refine h1.put 7 _ _ ?_
   unfold recOf Rec.cells
   rw [hs]
   rfl
  ·rw [put_other _ _ hx] at e
   obtain ⟨v, h1, h2⟩ := h.has e
   refine ⟨v, ?_, h2.set hv0 7 _⟩
   have hr : recOf (put D b { i with data := d }) x j v = recOf D x j v := by unfold recOf; rw [hs]
   rw [hr]
   exact h1.far (p := ⟨b, 7, none⟩) hx _
theorem Is.setData (S : Srt) {D : Tab} {σ : Nat → List Int} {b : Nat} {i : Info} (x : List Int) (hD : D b = some i) (r : RT) : ∀ {p : Option Nat}, Is D p (r.dat S σ) → r.pre.Nodup → b ∈ r.tid S → Is (put D b { i with data := strOfNums x }) p (r.dat S (upd σ b x)) := by
 induction r using RT.induct with
 | h i0 ty a d at_ ks ih =>
  intro p h hn hb
  obtain ⟨hn1, hn2⟩ := List.nodup_cons.1 (show (i0 :: RT.preL ks).Nodup from hn)
  rw [RT.tid] at hb
  rw [RT.dat] at h ⊢
  split at hb
  ·rename_i h1
   rw [if_pos h1] at h ⊢
   have e : b = i0 := by simpa using hb
   subst e
   rw [upd_same]
   have hr := h.root
   rw [show (RT.node b ty a (strOfNums (σ b)) at_ ks).id = b from rfl, hD] at hr
   obtain rfl := Option.some.inj hr
   refine Is.mk p b ty a _ at_ ks (put_same _ _ _) (fun k hk => (h.kid (k := k) hk).congr k (fun c hc => put_other _ _ (fun e => hn1 (by rw [← e]; exact RT.mem_preL.2 ⟨k, hk, hc⟩))))
  ·rename_i h1
   rw [if_neg h1] at h ⊢
   split at hb
   ·rename_i h2
    rw [if_pos h2] at h ⊢
    obtain ⟨k0, hk0, hbk0⟩ := mem_tidL.1 hb
    have hbp := tid_pre S k0 b hbk0
    obtain ⟨j0, hj0, e0⟩ := List.getElem_of_mem hk0
    have g0 : ks[j0]? = some k0 := by rw [List.getElem?_eq_getElem hj0, e0]
    refine Is.mk p i0 ty a d at_ _ ?_ (fun y hy => ?_)
    ·rw [put_other _ _ (fun e => hn1 (by rw [e]; exact RT.mem_preL.2 ⟨k0, hk0, hbp⟩)), datL_ids]
     have := h.root
     rw [show (RT.node i0 ty a d at_ (RT.datL S σ ks)).id = i0 from rfl] at this
     rw [this]
     show some (⟨p, (RT.datL S σ ks).map RT.id, ty, a, d, at_⟩ : Info) = _
     rw [datL_ids]
    ·rw [datL_map] at hy
     obtain ⟨k, hk, rfl⟩ := List.mem_map.1 hy
     have hki := h.kid (k := k.dat S σ) (by show k.dat S σ ∈ RT.datL S σ ks; rw [datL_map]; exact List.mem_map_of_mem hk)
     obtain ⟨j, hj, e1⟩ := List.getElem_of_mem hk
     have g1 : ks[j]? = some k := by rw [List.getElem?_eq_getElem hj, e1]
     by_cases hjj : j = j0
     ·subst hjj
      rw [g0] at g1
      obtain rfl := Option.some.inj g1
      exact ih k0 hk hki (nodup_kid (k' := k0) hn g0).2.1 hbk0
     ·have hno : b ∉ k.pre := fun hm => (nodup_kid (k' := k) hn g0).2.2 j hjj g1 b hm hbp
      rw [dat_congr S (upd σ b x) σ k (fun c hc => upd_other _ _ (fun e => hno (by rw [← e]; exact tid_pre S k c hc)))]
      exact hki.congr _ (fun c hc => put_other _ _ (fun e => hno (by rw [← e, ← pre_dat S σ k]; exact hc)))
   ·cases hb
end Go.Proofs.Ytmfjbljdbkmkgaa.Dom

/- collapse's small functions: nextNode, removeNode, fillDefaultDomFuncs: their contracts. -/
namespace Go.Proofs.Ytmfjbljdbkmkgaa.Dom
open Go.RowKit Go.Proofs.YtmfjbljdbkmkgaaW.PrintWords Go.Proofs.YtmfjbljdbkmkgaaW.PrintLast Go.Proofs.YtmfjbljdbkmkgaaW.PrintMore Go.Proofs.Ytmfjbljdbkmkgaa.PDom Go.Proofs.Ytmfjbljdbkmkgaa.Blank Go.Proofs.Ytmfjbljdbkmkgaa.Txt
set_option linter.unusedVariables false
set_option linter.unusedSimpArgs false

/-- impl.named's function, over the names in a box. -/
def nmF (b : Nat) : Value := .func (Fn.func 61) #[] #[.pointer (some ⟨b, 0, none⟩)]
/-- A box with names, outside of the table. -/
structure Nms (w : World) (D : Tab) (b : Nat) (l : List ByteArray) : Prop where
 ex : ∃ A c, w.heap[b]? = some (.cells #[.slice A l.length c] 28 (0, 0)) ∧ Kd.F Kd.string w (fun k => D k = none) A l.length l
 out : D b = none
 len : l.length ≤ 4611686018427387904
theorem Nms.only {w wr : World} {D Dr : Tab} {b : Nat} {l : List ByteArray} (h : Nms w D b l) (ho : Only D w wr) (hs : ∀ k, D k = none ↔ Dr k = none) : Nms wr Dr b l := by
 obtain ⟨A, c, h1, h2⟩ := h.ex
 exact ⟨⟨A, c, (ho.block b (blk_lt h1) h.out).trans h1, Kd.F_mono (Kd.F_step h2 (fun k hk hk2 => ho.block k hk2 hk)) (fun k hk => (hs k).1 hk)⟩, (hs b).1 h.out, h.len⟩
theorem Nms.tells {w : World} {D : Tab} {b : Nat} {l : List ByteArray} (h : Nms w D b l) (hd : Dom w D) : TellsB w D 61 #[.pointer (some ⟨b, 0, none⟩)] (elemD D l) := by
 obtain ⟨A, c, h1, h2⟩ := h.ex
 exact named1_calls w D hd b A c l h1 (Kd.F_now h2) h.len
/-- The three functions. -/
structure Fns (w : World) (D : Tab) (fd b1 b2 b3 : Nat) (S : Srt) : Prop where
 box : w.heap[fd]? = some (.cells #[nmF b1, nmF b2, nmF b3] 64 (0, 0))
 out : D fd = none
 n1 : Nms w D b1 S.bk
 n2 : Nms w D b2 S.vd
 n3 : Nms w D b3 S.pr
theorem Fns.only {w wr : World} {D Dr : Tab} {fd b1 b2 b3 : Nat} {S : Srt} (h : Fns w D fd b1 b2 b3 S) (ho : Only D w wr) (hs : ∀ k, D k = none ↔ Dr k = none) : Fns wr Dr fd b1 b2 b3 S :=
 ⟨(ho.block fd (blk_lt h.box) h.out).trans h.box, (hs fd).1 h.out, h.n1.only ho hs, h.n2.only ho hs, h.n3.only ho hs⟩
def parD (D : Tab) (x : Nat) : Option Nat := match D x with
 | some i => i.parent
 | none => none
def nx (b e : Bool) (fi ne pa : Option Nat) : Option Nat := if (b || e) = true then ne.or pa else fi.or (ne.or pa)
theorem node_cells {w : World} {D : Tab} (hdom : Dom w D) {x : Nat} (hx : D x ≠ none) : w.cell? ⟨x, 0, none⟩ = some (ptr (parD D x)) ∧ w.cell? ⟨x, 1, none⟩ = some (ptr (firstD D x)) ∧ w.cell? ⟨x, 4, none⟩ = some (ptr (nextD D x)) := by
 cases hi : D x with
 | none => exact absurd hi hx
 | some i =>
  obtain ⟨v, hv, _⟩ := hdom.has hi
  obtain ⟨c0, c1, _, _, c4, _⟩ := hv.cells10
  have e0 : parD D x = i.parent := by unfold parD; rw [hi]
  have e1 : firstD D x = i.kids.head? := by unfold firstD; rw [hi]
  have e4 : nextD D x = nextIn (sibs D i) x := by unfold nextD; rw [hi]
  rw [e0, e1, e4]
  exact ⟨c0, c1, c4⟩
theorem eql_tab {w : World} {D : Tab} (hdom : Dom w D) {x y : Nat} (hx : D x ≠ none) (hy : D y ≠ none) : (binOp .eql 47 (.pointer (some ⟨x, 0, none⟩)) (.pointer (some ⟨y, 0, none⟩))).run Try.prog w = .ok (.bool (x == y)) w := by
 cases h1 : D x with
 | none => exact absurd h1 hx
 | some i =>
  cases h2 : D y with
  | none => exact absurd h2 hy
  | some i2 =>
   obtain ⟨_, hv, _⟩ := hdom.has h1
   obtain ⟨_, hv2, _⟩ := hdom.has h2
   exact eql_nodes hv hv2
theorem neq_tab {w : World} {D : Tab} (hdom : Dom w D) {x y : Nat} (hx : D x ≠ none) (hy : D y ≠ none) : (binOp .neq 47 (.pointer (some ⟨x, 0, none⟩)) (.pointer (some ⟨y, 0, none⟩))).run Try.prog w = .ok (.bool (x != y)) w := by
 cases h1 : D x with
 | none => exact absurd h1 hx
 | some i =>
  cases h2 : D y with
  | none => exact absurd h2 hy
  | some i2 =>
   obtain ⟨_, hv, _⟩ := hdom.has h1
   obtain ⟨_, hv2, _⟩ := hdom.has h2
   exact neq_nodes hv hv2
theorem par_in {D : Tab} (wf : WF D) {x p : Nat} (h : parD D x = some p) : D p ≠ none := by
 unfold parD at h
 cases hi : D x with
 | none => rw [hi] at h; cases h
 | some i =>
  rw [hi] at h
  obtain ⟨ip, h1, _⟩ := wf.up hi h
  rw [h1]; simp
theorem eql_none (x : Nat) (w : World) : (binOp .eql 47 (.pointer none) (.pointer (some ⟨x, 0, none⟩))).run Try.prog w = .ok (.bool false) w := by kernel_rfl
set_option maxHeartbeats 4000000 in
set_option maxRecDepth 100000 in
theorem nextNode_calls (w : World) (D : Tab) (hdom : Dom w D) (fd b1 b2 b3 : Nat) (S : Srt) (hf : Fns w D fd b1 b2 b3 S) (pv : Option Nat) (hpv : ∀ p, pv = some p → D p ≠ none) (x : Nat) (hx : D x ≠ none) :
  Calls Try.prog 80 #[ptr pv, ptr (some x), .pointer (some ⟨fd, 0, none⟩)] w fun e w' => e = .returned (ptr (nx ((pv.bind (parD D)) == some x) (elemD D S.pr x) (firstD D x) (nextD D x) (parD D x))) ∧ w' = w := by
 have HE := Aside0.mk (hf.n3.tells hdom x hx)
 have c2 := blk_cell hf.box 2
 have c2' : w.cell? ⟨fd, 2, none⟩ = some (nmF b3) := c2
 unfold nmF at c2'
 obtain ⟨q0, q1, q4⟩ := node_cells hdom hx
 clear c2
 have hqn := eql_none x w
 generalize elemD D S.pr x = el at *
 generalize firstD D x = fi at *
 generalize nextD D x = ne at *
 have key : ∃ b : Bool, ((pv.bind (parD D)) == some x) = b ∧ ((pv = none ∧ b = false) ∨ (∃ p, pv = some p ∧ w.cell? ⟨p, 0, none⟩ = some (.pointer none) ∧ b = false) ∨
   (∃ p q, pv = some p ∧ w.cell? ⟨p, 0, none⟩ = some (.pointer (some ⟨q, 0, none⟩)) ∧ (binOp .eql 47 (.pointer (some ⟨q, 0, none⟩)) (.pointer (some ⟨x, 0, none⟩))).run Try.prog w = .ok (.bool b) w)) := by
  refine ⟨_, rfl, ?_⟩
  cases pv with
  | none => exact .inl ⟨rfl, rfl⟩
  | some p =>
   have hp := hpv p rfl
   obtain ⟨p0, _, _⟩ := node_cells hdom hp
   rw [Option.bind_some]
   cases e : parD D p with
   | none =>
    rw [e] at p0
    exact .inr (.inl ⟨p, rfl, p0, rfl⟩)
   | some q =>
    rw [e] at p0
    exact .inr (.inr ⟨p, q, rfl, p0, by rw [eql_tab hdom (par_in hdom.wf e) hx]; rfl⟩)
 obtain ⟨b, hb, hcase⟩ := key
 rw [hb]
 generalize hpa : parD D x = pa at *
 clear hb hpv hf hdom hx hpa
 simp only [ptr_some] at HE ⊢
 generalize hpp : ptr pa = pp at *
 have fin : ∀ o : Option Nat, ptr (o.or pa) = match o with | some y => .pointer (some ⟨y, 0, none⟩) | none => pp := fun o => by cases o; exact hpp; rfl
 have H2 : ∀ (b : Bool), ptr (nx b el fi ne pa) = if (b || el) = true then ptr (ne.or pa) else match fi with | some y => .pointer (some ⟨y, 0, none⟩) | none => ptr (ne.or pa) := fun b => by
  unfold nx
  split
  ·rfl
  ·cases fi <;> rfl
 rw [H2, fin]
 clear H2 fin hpp
 rcases hcase with ⟨rfl, rfl⟩ | ⟨p, rfl, cp, rfl⟩ | ⟨p, q, rfl, cp, hq⟩
 ·simp only [ptr_none]
  cases el
  ·cases fi
   ·cases ne
    all_goals
     simp only [ptr_none, ptr_some, Bool.or_self, Bool.or_true, Bool.true_or, Bool.or_false, Bool.false_or, if_true, Bool.false_eq_true, if_false] at q1 q4 ⊢
     go_enter Try.func80, Try.ntmps80
     go_wp2_with (go_at_call 61; go_must (refine HE.out.mono ?_; rintro e w1 ⟨rfl, rfl⟩))
     go_ret
     exact ⟨rfl, rfl⟩
   ·simp only [ptr_none, ptr_some, Bool.or_self, Bool.or_true, Bool.true_or, Bool.or_false, Bool.false_or, if_true, Bool.false_eq_true, if_false] at q1 ⊢
    go_enter Try.func80, Try.ntmps80
    go_wp2_with (go_at_call 61; go_must (refine HE.out.mono ?_; rintro e w1 ⟨rfl, rfl⟩))
    go_ret
    exact ⟨rfl, rfl⟩
  ·cases ne
   all_goals
    simp only [ptr_none, ptr_some, Bool.or_self, Bool.or_true, Bool.true_or, Bool.or_false, Bool.false_or, if_true, Bool.false_eq_true, if_false] at q4 ⊢
    go_enter Try.func80, Try.ntmps80
    go_wp2_with (go_at_call 61; go_must (refine HE.out.mono ?_; rintro e w1 ⟨rfl, rfl⟩))
    go_ret
    exact ⟨rfl, rfl⟩
 ·simp only [ptr_some]
  cases el
  ·cases fi
   ·cases ne
    all_goals
     simp only [ptr_none, ptr_some, Bool.or_self, Bool.or_true, Bool.true_or, Bool.or_false, Bool.false_or, if_true, Bool.false_eq_true, if_false] at q1 q4 ⊢
     go_enter Try.func80, Try.ntmps80
     go_wp2_with (go_at_call 61; go_must (refine HE.out.mono ?_; rintro e w1 ⟨rfl, rfl⟩))
     go_ret
     exact ⟨rfl, rfl⟩
   ·simp only [ptr_none, ptr_some, Bool.or_self, Bool.or_true, Bool.true_or, Bool.or_false, Bool.false_or, if_true, Bool.false_eq_true, if_false] at q1 ⊢
    go_enter Try.func80, Try.ntmps80
    go_wp2_with (go_at_call 61; go_must (refine HE.out.mono ?_; rintro e w1 ⟨rfl, rfl⟩))
    go_ret
    exact ⟨rfl, rfl⟩
  ·cases ne
   all_goals
    simp only [ptr_none, ptr_some, Bool.or_self, Bool.or_true, Bool.true_or, Bool.or_false, Bool.false_or, if_true, Bool.false_eq_true, if_false] at q4 ⊢
    go_enter Try.func80, Try.ntmps80
    go_wp2_with (go_at_call 61; go_must (refine HE.out.mono ?_; rintro e w1 ⟨rfl, rfl⟩))
    go_ret
    exact ⟨rfl, rfl⟩
 ·simp only [ptr_some]
  cases b
  ·cases el
   ·cases fi
    ·cases ne
     all_goals
      simp only [ptr_none, ptr_some, Bool.or_self, Bool.or_true, Bool.true_or, Bool.or_false, Bool.false_or, if_true, Bool.false_eq_true, if_false] at q1 q4 ⊢
      go_enter Try.func80, Try.ntmps80
      go_wp2_with (go_at_call 61; go_must (refine HE.out.mono ?_; rintro e w1 ⟨rfl, rfl⟩))
      go_ret
      exact ⟨rfl, rfl⟩
    ·simp only [ptr_none, ptr_some, Bool.or_self, Bool.or_true, Bool.true_or, Bool.or_false, Bool.false_or, if_true, Bool.false_eq_true, if_false] at q1 ⊢
     go_enter Try.func80, Try.ntmps80
     go_wp2_with (go_at_call 61; go_must (refine HE.out.mono ?_; rintro e w1 ⟨rfl, rfl⟩))
     go_ret
     exact ⟨rfl, rfl⟩
   ·cases ne
    all_goals
     simp only [ptr_none, ptr_some, Bool.or_self, Bool.or_true, Bool.true_or, Bool.or_false, Bool.false_or, if_true, Bool.false_eq_true, if_false] at q4 ⊢
     go_enter Try.func80, Try.ntmps80
     go_wp2_with (go_at_call 61; go_must (refine HE.out.mono ?_; rintro e w1 ⟨rfl, rfl⟩))
     go_ret
     exact ⟨rfl, rfl⟩
  ·cases ne
   all_goals
    simp only [ptr_none, ptr_some, Bool.or_self, Bool.or_true, Bool.true_or, Bool.or_false, Bool.false_or, if_true, Bool.false_eq_true, if_false] at q4 ⊢
    go_enter Try.func80, Try.ntmps80
    go_wp2_with fail
    go_ret
    exact ⟨rfl, rfl⟩
theorem eql_nilF (b : Nat) (w : World) : (binOp .eql 44 (.func (Fn.func 61) #[] #[.pointer (some ⟨b, 0, none⟩)]) .nilFunc).run Try.prog w = .ok (.bool false) w := by kernel_rfl
set_option maxRecDepth 100000 in
theorem fill_calls (w : World) (fd b1 b2 b3 : Nat) (hb : w.heap[fd]? = some (.cells #[nmF b1, nmF b2, nmF b3] 64 (0, 0))) :
  Calls Try.prog 79 #[.pointer (some ⟨fd, 0, none⟩)] w fun e w' => e = .returned (.pointer (some ⟨fd, 0, none⟩)) ∧ w' = w := by
 unfold nmF at hb
 have c0 := blk_cell hb 0
 have c1 := blk_cell hb 1
 have c2 := blk_cell hb 2
 have n1 := eql_nilF b1 w
 have n2 := eql_nilF b2 w
 have n3 := eql_nilF b3 w
 clear hb
 go_enter Try.func79, Try.ntmps79
 go_wp2_with fail
 go_ret
 exact ⟨rfl, rfl⟩
theorem zip_next {w : World} {D : Tab} (hdom : Dom w D) {p : Option Nat} {up x : RT} {k1 k2 : List RT} (hr : Is D p up) (hk : up.kids = k1 ++ x :: k2) : nextD D x.id = k2.head?.map RT.id := by
 cases up with
 | node i t a d at_ ks =>
  obtain rfl : ks = k1 ++ x :: k2 := hk
  have := (nav_all hdom.wf).next _ _ _ _ _ _ k1 x k2 hr
  rw [this]
  cases k2 <;> rfl
theorem removeNode_calls (w : World) (D : Tab) (hdom : Dom w D) (r up x : RT) (l : List Int) (k1 k2 : List RT) (hr : Is D none r) (hu : r.at_ l = some up) (hk : up.kids = k1 ++ x :: k2) :
  Calls Try.prog 83 #[ptr (some x.id)] w fun e w' => e = .returned (ptr ((k2.head?.map RT.id).or (some up.id))) ∧ ∃ D', Dom w' D' ∧ Is D' none (r.mapAt (fun _ => k1 ++ k2) l) ∧ Only D w w' ∧ (∀ k, D k = none ↔ D' k = none) ∧ x.id ∉ (r.mapAt (fun _ => k1 ++ k2) l).pre := by
 obtain ⟨D1, c1, R1, _, N1, s1⟩ := remove_step hdom hr hu hk
 obtain ⟨q, hq⟩ := hr.up hu
 have hx := hq.kid (show x ∈ up.kids by rw [hk]; simp)
 have hxD : D x.id ≠ none := by rw [hx.root]; simp
 obtain ⟨p0, _, p4⟩ := node_cells hdom hxD
 have e0 : parD D x.id = some up.id := by unfold parD; rw [hx.root]; exact info_p _ _
 rw [zip_next hdom hq hk] at p4
 rw [e0] at p0
 have C1 := Aside0.mk c1
 have HR1 := Aside0.mk R1
 have S1 := Aside0.mk s1
 have HN1 := Aside0.mk N1
 clear c1 R1 s1 N1 hr hu hk hdom hq hx hxD e0
 generalize x.id = xi at *
 generalize up.id = ui at *
 generalize k2.head?.map RT.id = ne at *
 simp only [ptr_some] at C1 p0 ⊢
 cases ne with
 | none =>
  simp only [ptr_none] at p4
  go_enter Try.func83, Try.ntmps83
  go_wp2_with (go_at_call 98; go_must (refine C1.out.mono ?_; rintro e w1 ⟨rfl, hd1, ho1⟩; have HO1 := Aside0.mk ho1; have HD1 := Aside0.mk hd1; clear hd1 ho1))
  go_ret
  exact ⟨rfl, D1, HD1.out, HR1.out, HO1.out, S1.out, HN1.out⟩
 | some y =>
  simp only [ptr_some] at p4
  go_enter Try.func83, Try.ntmps83
  go_wp2_with (go_at_call 98; go_must (refine C1.out.mono ?_; rintro e w1 ⟨rfl, hd1, ho1⟩; have HO1 := Aside0.mk ho1; have HD1 := Aside0.mk hd1; clear hd1 ho1))
  go_ret
  exact ⟨rfl, D1, HD1.out, HR1.out, HO1.out, S1.out, HN1.out⟩
end Go.Proofs.Ytmfjbljdbkmkgaa.Dom

/- Collapse, step by step over a table that holds the tree with the store's texts. Plain facts on tables and worlds. -/
namespace Go.Proofs.Ytmfjbljdbkmkgaa.Dom
open Go.RowKit Go.Proofs.YtmfjbljdbkmkgaaW.PrintWords Go.Proofs.YtmfjbljdbkmkgaaW.PrintLast Go.Proofs.YtmfjbljdbkmkgaaW.PrintMore Go.Proofs.Ytmfjbljdbkmkgaa.PDom Go.Proofs.Ytmfjbljdbkmkgaa.Blank Go.Proofs.Ytmfjbljdbkmkgaa.Txt
set_option linter.unusedVariables false
set_option linter.unusedSimpArgs false

/-- Elements, texts and comments; these have no children. -/
def okC (r : RT) : Prop := okN r ∧ (r.ty = 3 ∨ r.kids = [])
theorem okC_okN {r : RT} (h : RT.All okC r) : RT.All okN r := by
 induction r using RT.induct with
 | h i t a d at_ ks ih =>
  cases h with
  | mk _ h hk => exact ⟨_, h.1, fun k hm => ih k hm (hk k hm)⟩
/-- What a node's text has no part in. -/
def SameNav (D D' : Tab) : Prop := ∀ y, parD D' y = parD D y ∧ firstD D' y = firstD D y ∧ nextD D' y = nextD D y ∧ (D' y = none ↔ D y = none)
theorem put_nav {D : Tab} {b : Nat} {i : Info} (hb : D b = some i) (d : ByteArray) : SameNav D (put D b { i with data := d }) := by
 have hk : ∀ p, kidsOf (put D b { i with data := d }) p = kidsOf D p := fun p => by
  rw [kidsOf_put]
  split
  ·rename_i e
   rw [e, kidsOf_some hb]
  ·rfl
 have hs : ∀ j : Info, sibs (put D b { i with data := d }) j = sibs D j := fun j => by
  unfold sibs
  split
  ·exact hk _
  ·rfl
 intro y
 by_cases hy : y = b
 ·subst hy
  unfold parD firstD nextD
  rw [put_same, hb]
  refine ⟨rfl, rfl, ?_, by simp⟩
  show nextIn (sibs _ _) y = nextIn (sibs _ _) y
  rw [hs]
  rfl
 ·unfold parD firstD nextD
  rw [put_other _ _ hy]
  refine ⟨rfl, rfl, ?_, Iff.rfl⟩
  cases D y with
  | none => rfl
  | some j => simp only [hs]
def restF : List Fr → List Nat
 | [] => []
 | g :: fs => RT.preL g.R ++ restF fs
def rest (f : Fr) (fs : List Fr) : List Nat := RT.preL f.R ++ restF fs
/-- What was met last. -/
def PrevOk (f : Fr) (fs : List Fr) (pv : Option Nat) : Prop := (f.L = [] ∧ ((fs = [] ∧ pv = none) ∨ (fs ≠ [] ∧ pv = some f.i))) ∨ ∃ L0 z, f.L = L0 ++ [z] ∧ pv = some z.id
def curId (f : Fr) : Nat := match f.R with
 | x :: _ => x.id
 | [] => f.i
mutual
def RT.ms : RT → Nat
 | .node _ ty _ _ _ ks => if ty = 3 then 2 + RT.msL ks else 1
def RT.msL : List RT → Nat
 | [] => 0
 | k :: ks => k.ms + RT.msL ks
end
def msF : List Fr → Nat
 | [] => 0
 | g :: fs => 1 + RT.msL g.R + msF fs
def msr (f : Fr) (fs : List Fr) : Nat := RT.msL f.R + msF fs
theorem ms_pos (x : RT) : 0 < x.ms := by
 cases x
 rw [RT.ms]
 split <;> omega
/-- How it ends. -/
def fin (S : Srt) : SR → Fr → List Fr → SR × RT
 | s, f, [] => ((runL S s f.R).1, .node f.i 3 f.a f.d f.at_ (f.L ++ (runL S s f.R).2))
 | s, f, g :: fs => fin S ((runL S s f.R).1.ent (S.kind f.d)) { g with L := g.L ++ [.node f.i 3 f.a f.d f.at_ (f.L ++ (runL S s f.R).2)] } fs
theorem fin_step {S : Srt} {s s' : SR} {f f' : Fr} (fs : List Fr) (hi : f'.i = f.i) (ha : f'.a = f.a) (hd : f'.d = f.d) (hat : f'.at_ = f.at_) (h1 : (runL S s f.R).1 = (runL S s' f'.R).1) (h2 : f.L ++ (runL S s f.R).2 = f'.L ++ (runL S s' f'.R).2) : fin S s f fs = fin S s' f' fs := by
 cases fs with
 | nil => rw [fin, fin, h1, h2, hi, ha, hd, hat]
 | cons g fs => rw [fin, fin, h1, h2, hi, ha, hd, hat]
theorem fin_skip {S : Srt} {s s' : SR} {f : Fr} {x : RT} {R' : List RT} (fs : List Fr) (hR : f.R = x :: R') (h : run S s x = (s', [x])) : fin S s f fs = fin S s' { f with L := f.L ++ [x], R := R' } fs := by
 refine fin_step fs rfl rfl rfl rfl ?_ ?_
 ·rw [hR, runL, h]
 ·rw [hR, runL, h]
  simp
theorem fin_drop {S : Srt} {s s' : SR} {f : Fr} {x : RT} {R' : List RT} (fs : List Fr) (hR : f.R = x :: R') (h : run S s x = (s', [])) : fin S s f fs = fin S s' { f with R := R' } fs := by
 refine fin_step fs rfl rfl rfl rfl ?_ ?_
 ·rw [hR, runL, h]
 ·rw [hR, runL, h]
  simp
theorem fin_push {S : Srt} {s : SR} {f : Fr} {i : Nat} {a : Int} {d : ByteArray} {at_ : List (ByteArray × ByteArray)} {ks R' : List RT} (fs : List Fr) (hR : f.R = .node i 3 a d at_ ks :: R') (hn : inL S.pr d = false) : fin S s f fs = fin S (s.ent (S.kind d)) ⟨i, a, d, at_, [], ks⟩ ({ f with R := R' } :: fs) := by
 have hr : run S s (.node i 3 a d at_ ks) = ((runL S (s.ent (S.kind d)) ks).1.ent (S.kind d), [.node i 3 a d at_ (runL S (s.ent (S.kind d)) ks).2]) := by rw [run, if_neg (by decide), if_pos rfl, hn, if_neg (by simp)]
 rw [fin]
 refine fin_step fs rfl rfl rfl rfl ?_ ?_
 ·rw [hR, runL, hr]
 ·rw [hR, runL, hr]
  simp
theorem fin_pop {S : Srt} {s : SR} {f g : Fr} (fs : List Fr) (hR : f.R = []) : fin S s f (g :: fs) = fin S (s.ent (S.kind f.d)) { g with L := g.L ++ [f.up []] } fs := by
 rw [fin, hR]
 unfold Fr.up
 rw [hR, runL]
 simp
theorem ent_ent (k : Nat) (s : SR) : (s.ent k).ent k = s.ent k := by
 unfold SR.ent
 by_cases h1 : k = 1
 ·rw [if_pos h1, if_pos h1]
  rfl
 ·rw [if_neg h1, if_neg h1]
  by_cases h2 : k = 2
  ·rw [if_pos h2, if_pos h2]
  ·rw [if_neg h2, if_neg h2]
   by_cases h3 : s.pt.isSome = true
   ·rw [if_pos h3, if_pos h3]
   ·rw [if_neg h3, if_neg h3]
theorem up_congr {f f' : Fr} {M M' : List RT} (fs : List Fr) (h : f.up M = f'.up M') : plug f fs M = plug f' fs M' := by
 cases fs with
 | nil => exact h
 | cons g fs => show plug g fs [f.up M] = plug g fs [f'.up M']; rw [h]
theorem tid_up (S : Srt) (f : Fr) (M : List RT) (h : inL S.pr f.d = false) : (f.up M).tid S = RT.tidL S f.L ++ RT.tidL S M ++ RT.tidL S f.R := by
 unfold Fr.up
 rw [RT.tid, if_neg (by decide), h, if_pos (by simp), tidL_append, tidL_append]
theorem tid_plug1 (S : Srt) {b : Nat} : ∀ (fs : List Fr) (f : Fr) (M : List RT), (∀ g ∈ fs, inL S.pr g.d = false) → b ∈ (f.up M).tid S → b ∈ (plug f fs M).tid S
 | [], f, M, _, h => h
 | g :: fs, f, M, hn, h => tid_plug1 S fs g [f.up M] (fun y hy => hn y (by simp [hy])) (by
   rw [tid_up S g _ (hn g (by simp)), RT.tidL, RT.tidL, List.append_nil]
   exact List.mem_append_left _ (List.mem_append_right _ h))
theorem tid_plug (S : Srt) {b : Nat} : ∀ (fs : List Fr) (f : Fr) (M : List RT), (∀ g ∈ f :: fs, inL S.pr g.d = false) → (∃ g ∈ f :: fs, b ∈ RT.tidL S g.L ∨ b ∈ RT.tidL S g.R) → b ∈ (plug f fs M).tid S
 | [], f, M, hn, ⟨g, hg, h⟩ => by
  obtain rfl : g = f := by simpa using hg
  show b ∈ (g.up M).tid S
  rw [tid_up S g M (hn g (by simp))]
  rcases h with h | h
  ·exact List.mem_append_left _ (List.mem_append_left _ h)
  ·exact List.mem_append_right _ h
 | g' :: fs, f, M, hn, ⟨g, hg, h⟩ => by
  rcases List.mem_cons.1 hg with e | e
  ·subst e
   refine tid_plug1 S (g' :: fs) g M (fun y hy => hn y (List.mem_cons_of_mem _ hy)) ?_
   rw [tid_up S g M (hn g (by simp))]
   rcases h with h | h
   ·exact List.mem_append_left _ (List.mem_append_left _ h)
   ·exact List.mem_append_right _ h
  ·exact tid_plug S fs g' [f.up M] (fun y hy => hn y (List.mem_cons_of_mem _ hy)) ⟨g, e, h⟩
/-- What stands while the nodes are gone through: done on the left, not yet on the right. -/
structure ColD (S : Srt) (w : World) (D : Tab) (root : Nat) (wr : World) (Dr : Tab) (f : Fr) (fs : List Fr) (s : SR) (pv : Option Nat) : Prop where
 d : Dom wr Dr
 o : Only D w wr
 sm : ∀ k, D k = none ↔ Dr k = none
 is : Is Dr none ((plug f fs []).dat S s.st)
 np : ∀ g ∈ f :: fs, inL S.pr g.d = false
 nd : (rest f fs).Nodup
 pt : ∀ b, s.pt = some b → b ∉ rest f fs ∧ ∃ g ∈ f :: fs, b ∈ RT.tidL S g.L
 byt : ∀ b, Byt (s.st b)
 len : ∀ b, (s.st b).length ≤ 2147483647
 all : ∀ g ∈ f :: fs, ∀ x ∈ g.R, RT.All okC x
 pvo : PrevOk f fs pv
 rt : rootOf f fs = root
section
variable {S : Srt} {w wr : World} {D Dr : Tab} {root : Nat} {f : Fr} {fs : List Fr} {s : SR} {pv : Option Nat}
theorem ColD.nodup (h : ColD S w D root wr Dr f fs s pv) : (plug f fs []).pre.Nodup := by
 have := Is.nodup h.d.wf _ h.is
 rw [pre_dat] at this
 exact this
/-- The frame's node in the table. -/
theorem ColD.node (h : ColD S w D root wr Dr f fs s pv) : ∃ q, Is Dr q ((f.dat S s.st).up []) ∧ (fs = [] → q = none) ∧ ∀ g fs', fs = g :: fs' → q = some g.i := by
 have hp := h.is
 rw [plug_dat S s.st fs f [] h.np] at hp
 obtain ⟨q, hq⟩ := hp.up (plug_at (fs.map (Fr.dat S s.st)) (f.dat S s.st) (RT.datL S s.st []))
 refine ⟨q, hq, fun e => ?_, fun g fs' e => ?_⟩
 ·subst e
  have h1 := hp.root
  have h2 := hq.root
  rw [show (plug (f.dat S s.st) ([].map (Fr.dat S s.st)) (RT.datL S s.st [])) = (f.dat S s.st).up (RT.datL S s.st []) from rfl] at h1
  rw [h1] at h2
  have := congrArg Info.parent (Option.some.inj h2)
  rw [info_p, info_p] at this
  exact this.symm
 ·subst e
  obtain ⟨q2, hq2⟩ := hp.up (plug_at (fs'.map (Fr.dat S s.st)) (g.dat S s.st) [(f.dat S s.st).up (RT.datL S s.st [])])
  have hk := hq2.kid (k := (f.dat S s.st).up (RT.datL S s.st [])) (by rw [up_kids]; simp)
  have h1 := hk.root
  have h2 := hq.root
  rw [h1] at h2
  have := congrArg Info.parent (Option.some.inj h2)
  rw [info_p, info_p] at this
  exact this.symm
/-- A text's cell. -/
theorem ColD.text (h : ColD S w D root wr Dr f fs s pv) {b : Nat} (hb : ∃ g ∈ f :: fs, b ∈ RT.tidL S g.L ∨ b ∈ RT.tidL S g.R) : ∃ i, Dr b = some i ∧ i.ty = 1 ∧ i.data = strOfNums (s.st b) ∧ wr.cell? ⟨b, 7, none⟩ = some (.string (strOfNums (s.st b))) ∧ wr.frozen? ⟨b, 7, none⟩ = false := by
 obtain ⟨i, h1, h2, h3⟩ := tid_info S _ h.is (tid_plug S fs f [] h.np hb)
 obtain ⟨v, hv, _⟩ := h.d.has h1
 refine ⟨i, h1, h2, h3, ?_, hv.frozen 7⟩
 rw [hv.cell 7, ← h3]
 rfl
theorem ColD.ptext (h : ColD S w D root wr Dr f fs s pv) {b : Nat} (hb : s.pt = some b) : ∃ i, Dr b = some i ∧ i.ty = 1 ∧ i.data = strOfNums (s.st b) ∧ wr.cell? ⟨b, 7, none⟩ = some (.string (strOfNums (s.st b))) ∧ wr.frozen? ⟨b, 7, none⟩ = false := by
 obtain ⟨_, g, hg, hm⟩ := h.pt b hb
 exact h.text ⟨g, hg, .inl hm⟩
theorem Only.setD {D : Tab} {w wr : World} (h : Only D w wr) {b : Nat} (hb : D b ≠ none) (j : Nat) (u : Value) : Only D w (wr.setCell ⟨b, j, none⟩ u) := Only.set h (p := ⟨b, j, none⟩) hb u
theorem put_none' {D : Tab} {b : Nat} {i : Info} (hb : D b ≠ none) (k : Nat) : D k = none ↔ put D b i k = none := by
 by_cases e : k = b
 ·subst e
  rw [put_same]
  constructor
  ·intro h; exact absurd h hb
  ·intro h; cases h
 ·rw [put_other _ _ e]
/-- A text is given another one. -/
theorem ColD.set (h : ColD S w D root wr Dr f fs s pv) {b : Nat} (hb : ∃ g ∈ f :: fs, b ∈ RT.tidL S g.L ∨ b ∈ RT.tidL S g.R) (x : List Int) : ∃ Dr', Dom (wr.setCell ⟨b, 7, none⟩ (.string (strOfNums x))) Dr' ∧ Only D w (wr.setCell ⟨b, 7, none⟩ (.string (strOfNums x))) ∧ (∀ k, D k = none ↔ Dr' k = none) ∧ Is Dr' none ((plug f fs []).dat S (upd s.st b x)) ∧ SameNav Dr Dr' := by
 obtain ⟨i, h1, h2, h3, _, _⟩ := h.text hb
 have hD : D b ≠ none := fun e => by rw [(h.sm b).1 e] at h1; cases h1
 exact ⟨_, h.d.setData h1 _, h.o.setD hD 7 _, fun k => (h.sm k).trans (put_none' (by rw [h1]; simp) k), Is.setData S x h1 _ h.is h.nodup (tid_plug S fs f [] h.np hb), put_nav h1 _⟩
theorem trimB_len (l : List Int) : (trimB l).length ≤ l.length := by
 unfold trimB
 split
 ·rw [List.length_dropLast]; omega
 ·exact Nat.le_refl _
theorem cut1_len (b : Bool) (l : List Int) : (cut1 b l).length ≤ l.length := by
 unfold cut1
 split
 ·rw [List.length_tail]; omega
 ·exact Nat.le_refl _
theorem norm_len (l : List Int) : ∀ b, (norm b l).length ≤ l.length := by
 induction l with
 | nil => intro b; exact Nat.le_refl _
 | cons c l ih =>
  intro b
  unfold norm
  split
  ·split
   ·have := ih true; rw [List.length_cons]; omega
   ·have := ih true; rw [List.length_cons, List.length_cons]; omega
  ·have := ih false; rw [List.length_cons, List.length_cons]; omega
theorem upd_len {σ : Nat → List Int} {n : Nat} (h : ∀ b, (σ b).length ≤ n) {i : Nat} {x : List Int} (hx : x.length ≤ n) : ∀ b, (upd σ i x b).length ≤ n := by
 intro b
 unfold upd
 split
 ·exact hx
 ·exact h b
/-- A block ends, or begins: the text ahead loses its blank. -/
theorem ColD.ent1 (h : ColD S w D root wr Dr f fs s pv) {b : Nat} (hb : s.pt = some b) : ∃ Dr', ColD S w D root (wr.setCell ⟨b, 7, none⟩ (.string (strOfNums (trimB (s.st b))))) Dr' f fs (s.ent 1) pv := by
 obtain ⟨_, g, hg, hm⟩ := h.pt b hb
 obtain ⟨Dr', g1, g2, g3, g4, _⟩ := h.set ⟨g, hg, .inl hm⟩ (trimB (s.st b))
 have e : s.ent 1 = ⟨upd s.st b (trimB (s.st b)), none, false⟩ := by
  unfold SR.ent SR.cutP
  rw [if_pos rfl, hb]
 rw [e]
 exact ⟨Dr', g1, g2, g3, g4, h.np, h.nd, fun _ hp => by (cases hp), upd_byt h.byt (trimB_byt (h.byt b)), upd_len h.len (Nat.le_trans (trimB_len _) (h.len b)), h.all, h.pvo, h.rt⟩
theorem ColD.ent0 (h : ColD S w D root wr Dr f fs s pv) (k : Nat) (hk : k ≠ 1 ∨ s.pt = none) : ColD S w D root wr Dr f fs (s.ent k) pv := by
 by_cases h1 : k = 1
 ·subst h1
  have hp : s.pt = none := hk.resolve_left (fun e => e rfl)
  have e : s.ent 1 = ⟨s.st, none, false⟩ := by
   unfold SR.ent SR.cutP
   rw [if_pos rfl, hp]
  rw [e]
  exact ⟨h.d, h.o, h.sm, h.is, h.np, h.nd, fun _ hp => by (cases hp), h.byt, h.len, h.all, h.pvo, h.rt⟩
 ·by_cases h2 : k = 2
  ·subst h2
   exact ⟨h.d, h.o, h.sm, h.is, h.np, h.nd, fun _ hp => by (cases hp), h.byt, h.len, h.all, h.pvo, h.rt⟩
  ·unfold SR.ent
   rw [if_neg h1, if_neg h2]
   split
   ·exact ⟨h.d, h.o, h.sm, h.is, h.np, h.nd, h.pt, h.byt, h.len, h.all, h.pvo, h.rt⟩
   ·exact h
theorem head_nodup {f : Fr} {fs : List Fr} {x : RT} {R' : List RT} (hR : f.R = x :: R') (h : (rest f fs).Nodup) : x.id ∉ RT.preL R' ++ restF fs ∧ (RT.preL R' ++ restF fs).Nodup ∧ (RT.preL x.kids ++ (RT.preL R' ++ restF fs)).Nodup := by
 unfold rest at h
 rw [hR, RT.preL] at h
 have hx : x.pre = x.id :: RT.preL x.kids := by cases x; rfl
 rw [hx, List.cons_append, List.cons_append, List.append_assoc] at h
 obtain ⟨h1, h2⟩ := List.nodup_cons.1 h
 exact ⟨fun hm => h1 (List.mem_append_right _ hm), (List.nodup_append.1 h2).2.1, h2⟩
theorem sub_rest {f : Fr} {fs : List Fr} {x : RT} {R' : List RT} (hR : f.R = x :: R') : ∀ b, b ∈ RT.preL R' ++ restF fs → b ∈ rest f fs := fun b hb => by
 unfold rest
 rw [hR, RT.preL, List.append_assoc]
 exact List.mem_append_right _ hb
theorem sub_rest2 {f : Fr} {fs : List Fr} {x : RT} {R' : List RT} (hR : f.R = x :: R') : ∀ b, b ∈ RT.preL x.kids ++ (RT.preL R' ++ restF fs) → b ∈ rest f fs := fun b hb => by
 unfold rest
 have hx : x.pre = x.id :: RT.preL x.kids := by cases x; rfl
 rw [hR, RT.preL, hx, List.cons_append, List.cons_append, List.append_assoc]
 exact List.mem_cons_of_mem _ hb
theorem skip_up {f : Fr} {x : RT} {R' : List RT} (hR : f.R = x :: R') : f.up [] = ({ f with L := f.L ++ [x], R := R' } : Fr).up [] := by
 unfold Fr.up
 rw [hR]
 simp
/-- The next one: on the same level. -/
theorem ColD.skip (h : ColD S w D root wr Dr f fs s pv) {x : RT} {R' : List RT} (hR : f.R = x :: R') : ColD S w D root wr Dr { f with L := f.L ++ [x], R := R' } fs s (some x.id) := by
 obtain ⟨n1, n2, _⟩ := head_nodup hR h.nd
 have hp := up_congr fs (skip_up hR)
 refine ⟨h.d, h.o, h.sm, hp ▸ h.is, ?_, n2, fun b hb => ?_, h.byt, h.len, ?_, .inr ⟨f.L, x, rfl, rfl⟩, ?_⟩
 ·intro g hg
  rcases List.mem_cons.1 hg with e | e
  ·rw [e]; exact h.np f (by simp)
  ·exact h.np g (List.mem_cons_of_mem _ e)
 ·obtain ⟨h1, g, hg, h2⟩ := h.pt b hb
  refine ⟨fun hm => h1 (sub_rest hR b hm), ?_⟩
  rcases List.mem_cons.1 hg with e | e
  ·refine ⟨_, List.mem_cons_self, ?_⟩
   show b ∈ RT.tidL S (f.L ++ [x])
   rw [tidL_append]
   rw [e] at h2
   exact List.mem_append_left _ h2
  ·exact ⟨g, List.mem_cons_of_mem _ e, h2⟩
 ·intro g hg y hy
  rcases List.mem_cons.1 hg with e | e
  ·rw [e] at hy
   exact h.all f (by simp) y (by rw [hR]; exact List.mem_cons_of_mem _ hy)
  ·exact h.all g (List.mem_cons_of_mem _ e) y hy
 ·rw [← h.rt]
  cases fs <;> rfl
/-- Into an element. -/
theorem ColD.push (h : ColD S w D root wr Dr f fs s pv) {i : Nat} {a : Int} {d : ByteArray} {at_ : List (ByteArray × ByteArray)} {ks R' : List RT} (hR : f.R = .node i 3 a d at_ ks :: R') (hn : inL S.pr d = false) : ColD S w D root wr Dr ⟨i, a, d, at_, [], ks⟩ ({ f with R := R' } :: fs) s (some i) := by
 obtain ⟨n1, n2, n3⟩ := head_nodup hR h.nd
 have hp : plug f fs [] = plug (⟨i, a, d, at_, [], ks⟩ : Fr) ({ f with R := R' } :: fs) [] := by
  show plug f fs [] = plug ({ f with R := R' } : Fr) fs [(⟨i, a, d, at_, [], ks⟩ : Fr).up []]
  refine up_congr fs ?_
  unfold Fr.up
  rw [hR]
  simp
 refine ⟨h.d, h.o, h.sm, hp ▸ h.is, ?_, n3, fun b hb => ?_, h.byt, h.len, ?_, .inl ⟨rfl, .inr ⟨by simp, rfl⟩⟩, ?_⟩
 ·intro g hg
  rcases List.mem_cons.1 hg with e | hg
  ·rw [e]; exact hn
  ·rcases List.mem_cons.1 hg with e | e
   ·rw [e]; exact h.np f (by simp)
   ·exact h.np g (List.mem_cons_of_mem _ e)
 ·obtain ⟨h1, g, hg, h2⟩ := h.pt b hb
  refine ⟨fun hm => h1 (sub_rest2 hR b hm), ?_⟩
  rcases List.mem_cons.1 hg with e | e
  ·exact ⟨{ f with R := R' }, by simp, by rw [e] at h2; exact h2⟩
  ·exact ⟨g, by simp [e], h2⟩
 ·intro g hg y hy
  have hx := h.all f (by simp) (.node i 3 a d at_ ks) (by rw [hR]; simp)
  rcases List.mem_cons.1 hg with e | hg
  ·rw [e] at hy
   cases hx with
   | mk _ _ hk => exact hk y hy
  ·rcases List.mem_cons.1 hg with e | e
   ·rw [e] at hy
    exact h.all f (by simp) y (by rw [hR]; exact List.mem_cons_of_mem _ hy)
   ·exact h.all g (List.mem_cons_of_mem _ e) y hy
 ·rw [← h.rt]
  cases fs <;> rfl
/-- Out of an element. -/
theorem ColD.pop {g : Fr} {fs' : List Fr} (h : ColD S w D root wr Dr f (g :: fs') s pv) (hR : f.R = []) : ColD S w D root wr Dr { g with L := g.L ++ [f.up []] } fs' s (some f.i) := by
 have hp : plug f (g :: fs') [] = plug ({ g with L := g.L ++ [f.up []] } : Fr) fs' [] := by
  show plug g fs' [f.up []] = _
  refine up_congr fs' ?_
  unfold Fr.up
  simp
 have hrest : rest f (g :: fs') = rest ({ g with L := g.L ++ [f.up []] } : Fr) fs' := by
  unfold rest
  rw [hR]
  rfl
 refine ⟨h.d, h.o, h.sm, hp ▸ h.is, ?_, hrest ▸ h.nd, fun b hb => ?_, h.byt, h.len, ?_, .inr ⟨g.L, f.up [], rfl, rfl⟩, ?_⟩
 ·intro y hy
  rcases List.mem_cons.1 hy with e | e
  ·rw [e]; exact h.np g (by simp)
  ·exact h.np y (by simp [e])
 ·obtain ⟨h1, y, hy, h2⟩ := h.pt b hb
  refine ⟨hrest ▸ h1, ?_⟩
  have hfn := h.np f (by simp)
  rcases List.mem_cons.1 hy with e | hy
  ·refine ⟨_, List.mem_cons_self, ?_⟩
   show b ∈ RT.tidL S (g.L ++ [f.up []])
   rw [tidL_append, RT.tidL, RT.tidL, List.append_nil, tid_up S f [] hfn]
   rw [e] at h2
   exact List.mem_append_right _ (List.mem_append_left _ (List.mem_append_left _ h2))
  ·rcases List.mem_cons.1 hy with e | e
   ·refine ⟨_, List.mem_cons_self, ?_⟩
    show b ∈ RT.tidL S (g.L ++ [f.up []])
    rw [tidL_append]
    rw [e] at h2
    exact List.mem_append_left _ h2
   ·exact ⟨y, List.mem_cons_of_mem _ e, h2⟩
 ·intro y hy z hz
  rcases List.mem_cons.1 hy with e | e
  ·rw [e] at hz
   exact h.all g (by simp) z hz
  ·exact h.all y (by simp [e]) z hz
 ·rw [← h.rt]
  cases fs' <;> rfl
/-- A text that stays. -/
theorem ColD.keepT (h : ColD S w D root wr Dr f fs s pv) {x : RT} {R' : List RT} (hR : f.R = x :: R') (hx : x.ty = 1) (he : (s.ct x.id).isEmpty = false) : ∃ Dr', ColD S w D root (wr.setCell ⟨x.id, 7, none⟩ (.string (strOfNums (s.ct x.id)))) Dr' { f with L := f.L ++ [x], R := R' } fs (s.txt x.id) (some x.id) ∧ SameNav Dr Dr' := by
 have htid : x.tid S = [x.id] := by cases x; obtain rfl := hx; rw [RT.tid, if_pos rfl]; rfl
 obtain ⟨n1, n2, _⟩ := head_nodup hR h.nd
 obtain ⟨Dr', g1, g2, g3, g4, g5⟩ := h.set (b := x.id) ⟨f, by simp, .inr (by rw [hR, RT.tidL, htid]; simp)⟩ (s.ct x.id)
 have e : s.txt x.id = ⟨upd s.st x.id (s.ct x.id), some x.id, s.keep⟩ := by unfold SR.txt; rw [he, if_neg (by simp)]
 rw [e]
 have h2 := h.skip hR
 refine ⟨Dr', ⟨g1, g2, g3, ?_, h2.np, h2.nd, fun b hb => ?_, upd_byt h.byt (ct_byt h.byt _), upd_len h.len ?_, h2.all, h2.pvo, h2.rt⟩, g5⟩
 ·rw [← up_congr fs (skip_up hR)]
  exact g4
 ·obtain rfl := Option.some.inj hb
  refine ⟨n1, _, List.mem_cons_self, ?_⟩
  show x.id ∈ RT.tidL S (f.L ++ [x])
  rw [tidL_append, RT.tidL, htid]
  simp
 ·exact Nat.le_trans (cut1_len _ _) (Nat.le_trans (norm_len _ _) (h.len _))
/-- A text that goes. -/
theorem ColD.dropT (h : ColD S w D root wr Dr f fs s pv) {x : RT} {R' : List RT} (hR : f.R = x :: R') (hx : x.ty = 1) (he : (s.ct x.id).isEmpty = true) :
  Calls Try.prog 83 #[ptr (some x.id)] wr fun e w' => e = .returned (ptr ((R'.head?.map RT.id).or (some f.i))) ∧ ∃ D', ColD S w D root w' D' { f with R := R' } fs (s.txt x.id) pv := by
 have hp : (plug f fs []).dat S s.st = plug ({ f.dat S s.st with R := RT.datL S s.st R' } : Fr) (fs.map (Fr.dat S s.st)) [x.dat S s.st] := by
  rw [plug_dat S s.st fs f [] h.np]
  refine up_congr _ ?_
  unfold Fr.up Fr.dat
  simp only
  rw [hR, RT.datL, RT.datL]
  simp
 have his := h.is
 rw [hp] at his
 have hc := removeNode_calls wr Dr h.d _ _ (x.dat S s.st) _ (RT.datL S s.st f.L) (RT.datL S s.st R') his (plug_at _ _ _) (by rw [up_kids]; simp [Fr.dat])
 rw [dat_id] at hc
 refine hc.mono ?_
 rintro e w' ⟨rfl, D', d1, i1, o1, s1, n1⟩
 obtain ⟨m1, m2, _⟩ := head_nodup hR h.nd
 have hpm : (plug ({ f.dat S s.st with R := RT.datL S s.st R' } : Fr) (fs.map (Fr.dat S s.st)) [x.dat S s.st]).mapAt (fun _ => RT.datL S s.st f.L ++ RT.datL S s.st R') (pth ({ f.dat S s.st with R := RT.datL S s.st R' } : Fr) (fs.map (Fr.dat S s.st))) = (plug ({ f with R := R' } : Fr) fs []).dat S s.st := by
  have := plug_mapAt (fs.map (Fr.dat S s.st)) ({ f.dat S s.st with R := RT.datL S s.st R' } : Fr) [x.dat S s.st] []
  simp only [List.append_nil] at this
  rw [plug_dat S s.st fs ({ f with R := R' } : Fr) [] (fun g hg => by
   rcases List.mem_cons.1 hg with e | e
   ·rw [e]; exact h.np f (by simp)
   ·exact h.np g (List.mem_cons_of_mem _ e))]
  exact this
 rw [hpm] at i1 n1
 have et : s.txt x.id = ⟨upd s.st x.id [], s.pt, s.keep⟩ := by unfold SR.txt; rw [if_pos he]
 refine ⟨?_, D', ?_⟩
 ·rw [← List.head?_map, ← List.head?_map, datL_ids]
  rfl
 ·rw [et]
  refine ⟨d1, h.o.trans' o1 h.sm, fun k => (h.sm k).trans (s1 k), ?_, fun g hg => ?_, m2, fun b hb => ?_, upd_byt h.byt Byt.nil, upd_len h.len (Nat.zero_le _), fun g hg y hy => ?_, ?_, ?_⟩
  ·rw [dat_congr S (upd s.st x.id []) s.st _ (fun b hb => upd_other _ _ (fun e => n1 (by rw [pre_dat, ← e]; exact tid_pre S _ b hb)))]
   exact i1
  ·rcases List.mem_cons.1 hg with e | e
   ·rw [e]; exact h.np f (by simp)
   ·exact h.np g (List.mem_cons_of_mem _ e)
  ·obtain ⟨h1, g, hg, h2⟩ := h.pt b hb
   refine ⟨fun hm => h1 (sub_rest hR b hm), ?_⟩
   rcases List.mem_cons.1 hg with e | e
   ·exact ⟨_, List.mem_cons_self, by rw [e] at h2; exact h2⟩
   ·exact ⟨g, List.mem_cons_of_mem _ e, h2⟩
  ·rcases List.mem_cons.1 hg with e | e
   ·rw [e] at hy
    exact h.all f (by simp) y (by rw [hR]; exact List.mem_cons_of_mem _ hy)
   ·exact h.all g (List.mem_cons_of_mem _ e) y hy
  ·exact h.pvo
  ·rw [← h.rt]
   cases fs <;> rfl
end
end Go.Proofs.Ytmfjbljdbkmkgaa.Dom

/- Collapse: what comes next, step by step. Plain facts on tables; what a round calls. -/
namespace Go.Proofs.Ytmfjbljdbkmkgaa.Dom
open Go.RowKit Go.Proofs.YtmfjbljdbkmkgaaW.PrintWords Go.Proofs.YtmfjbljdbkmkgaaW.PrintLast Go.Proofs.YtmfjbljdbkmkgaaW.PrintMore Go.Proofs.Ytmfjbljdbkmkgaa.PDom Go.Proofs.Ytmfjbljdbkmkgaa.Blank Go.Proofs.Ytmfjbljdbkmkgaa.Txt
set_option linter.unusedVariables false
set_option linter.unusedSimpArgs false

section
variable {S : Srt} {w wr : World} {D Dr : Tab} {root : Nat} {f : Fr} {fs : List Fr} {s : SR} {pv : Option Nat}
theorem ColD.moved (h : ColD S w D root wr Dr f fs s pv) {wx : World} (hb : Below wr.heap.size wr wx) : ColD S w D root wx Dr f fs s pv :=
 ⟨h.d.below hb, ⟨hb.os.trans h.o.os, hb.tape.trans h.o.tape, hb.output.trans h.o.output, Nat.le_trans h.o.size hb.size, fun k hk hd => (hb.block k (Nat.lt_of_lt_of_le hk h.o.size)).trans (h.o.block k hk hd)⟩, h.sm, h.is, h.np, h.nd, h.pt, h.byt, h.len, h.all, h.pvo, h.rt⟩
theorem info_ty (p : Option Nat) (r : RT) : (r.info p).ty = r.ty := by cases r; rfl
theorem info_data (p : Option Nat) (r : RT) : (r.info p).data = r.data := by cases r; rfl
theorem cur_or (f : Fr) : (f.R.head?.map RT.id).or (some f.i) = some (curId f) := by
 unfold curId
 cases f.R <;> rfl
/-- The node at the head of what is not yet done. -/
theorem ColD.head (h : ColD S w D root wr Dr f fs s pv) {x : RT} {R' : List RT} (hR : f.R = x :: R') :
  ∃ i, Dr x.id = some i ∧ i.ty = x.ty ∧ i.data = (if x.ty = 1 then strOfNums (s.st x.id) else x.data) ∧ firstD Dr x.id = x.kids.head?.map RT.id ∧ nextD Dr x.id = R'.head?.map RT.id ∧ parD Dr x.id = some f.i ∧ (pv.bind (parD Dr) == some x.id) = false ∧ x.id ≠ root ∧ ∀ p, pv = some p → Dr p ≠ none := by
 obtain ⟨q, hq, hq0, hq1⟩ := h.node
 have hk : ((f.dat S s.st).up []).kids = RT.datL S s.st f.L ++ x.dat S s.st :: RT.datL S s.st R' := by
  rw [up_kids]
  unfold Fr.dat
  simp only
  rw [hR, RT.datL]
  simp
 have hx := hq.kid (show x.dat S s.st ∈ ((f.dat S s.st).up []).kids by rw [hk]; simp)
 have hxr := hx.root
 rw [dat_id] at hxr
 have hn := zip_next h.d hq hk
 rw [dat_id] at hn
 have hpar : parD Dr x.id = some f.i := by unfold parD; rw [hxr]; exact info_p _ _
 have hroot : Dr root = some (((plug f fs []).dat S s.st).info none) := by
  have := h.is.root
  rw [dat_id, plug_id, h.rt] at this
  exact this
 have hxf : x.id ≠ f.i := by
  have := hq.proper (show x.dat S s.st ∈ ((f.dat S s.st).up []).kids by rw [hk]; simp) (RT.id_mem _)
  rw [dat_id] at this
  exact this
 refine ⟨_, hxr, ?_, ?_, ?_, ?_, hpar, ?_, fun e => ?_, ?_⟩
 ·rw [info_ty, dat_ty]
 ·rw [info_data, dat_data]
 ·unfold firstD
  rw [hxr]
  show ((x.dat S s.st).info (some f.i)).kids.head? = _
  rw [info_k, dat_kids, List.head?_map]
 ·rw [hn, ← List.head?_map, ← List.head?_map, datL_ids]
 ·rcases h.pvo with ⟨hL, ⟨e1, e2⟩ | ⟨e1, e2⟩⟩ | ⟨L0, z, e1, e2⟩
  ·rw [e2]
   rfl
  ·rw [e2, Option.bind_some]
   cases fs with
   | nil => exact absurd rfl e1
   | cons g fs' =>
    have hqg := hq1 g fs' rfl
    have hfr := hq.root
    have hpf : parD Dr f.i = some g.i := by
     unfold parD
     rw [show ((f.dat S s.st).up []).id = f.i from rfl] at hfr
     rw [hfr]
     exact (info_p _ _).trans hqg
    rw [hpf, beq_eq_false_iff_ne]
    intro e
    have e3 := Option.some.inj e
    -- x stands below g
    have hp := h.is
    rw [plug_dat S s.st (g :: fs') f [] h.np] at hp
    obtain ⟨q2, hq2⟩ := hp.up (plug_at (fs'.map (Fr.dat S s.st)) (g.dat S s.st) [(f.dat S s.st).up (RT.datL S s.st [])])
    have hpr := hq2.proper (k := (f.dat S s.st).up (RT.datL S s.st [])) (x := x.id) (by rw [up_kids]; simp) (by
     refine List.mem_cons_of_mem _ (RT.mem_preL.2 ⟨x.dat S s.st, ?_, ?_⟩)
     ·show x.dat S s.st ∈ ((f.dat S s.st).up []).kids
      rw [hk]; simp
     ·rw [← dat_id S s.st x]; exact RT.id_mem _)
    exact hpr e3.symm
  ·rw [e2, Option.bind_some]
   have hz := hq.kid (show z.dat S s.st ∈ ((f.dat S s.st).up []).kids by rw [hk, e1, datL_append]; simp [RT.datL])
   have hzr := hz.root
   rw [dat_id] at hzr
   have hpz : parD Dr z.id = some f.i := by unfold parD; rw [hzr]; exact info_p _ _
   rw [hpz, beq_eq_false_iff_ne]
   exact fun e => hxf (Option.some.inj e).symm
 ·rw [e] at hxr
  rw [hroot] at hxr
  have := congrArg Info.parent (Option.some.inj hxr)
  rw [info_p, info_p] at this
  cases this
 ·intro p hp
  rcases h.pvo with ⟨hL, ⟨e1, e2⟩ | ⟨e1, e2⟩⟩ | ⟨L0, z, e1, e2⟩
  ·rw [e2] at hp; cases hp
  ·rw [e2] at hp
   obtain rfl := Option.some.inj hp
   have := hq.root
   rw [show ((f.dat S s.st).up []).id = f.i from rfl] at this
   rw [this]; simp
  ·rw [e2] at hp
   obtain rfl := Option.some.inj hp
   have hz := hq.kid (show z.dat S s.st ∈ ((f.dat S s.st).up []).kids by rw [hk, e1, datL_append]; simp [RT.datL])
   have hzr := hz.root
   rw [dat_id] at hzr
   rw [hzr]; simp
/-- An element whose children are all done. -/
theorem ColD.last {g : Fr} {fs' : List Fr} (h : ColD S w D root wr Dr f (g :: fs') s pv) (hR : f.R = []) :
  ∃ i, Dr f.i = some i ∧ i.ty = 3 ∧ i.data = f.d ∧ f.i ≠ root ∧ (∀ p, pv = some p → Dr p ≠ none) ∧ ∀ e, nx (pv.bind (parD Dr) == some f.i) e (firstD Dr f.i) (nextD Dr f.i) (parD Dr f.i) = (g.R.head?.map RT.id).or (some g.i) := by
 obtain ⟨q, hq, _, hq1⟩ := h.node
 have hqg := hq1 g fs' rfl
 subst hqg
 have hfr := hq.root
 rw [show ((f.dat S s.st).up []).id = f.i from rfl] at hfr
 have hpf : parD Dr f.i = some g.i := by unfold parD; rw [hfr]; exact info_p _ _
 have hroot : Dr root = some (((plug f (g :: fs') []).dat S s.st).info none) := by
  have := h.is.root
  rw [dat_id, plug_id, h.rt] at this
  exact this
 have hp := h.is
 rw [plug_dat S s.st (g :: fs') f [] h.np] at hp
 obtain ⟨q2, hq2⟩ := hp.up (plug_at (fs'.map (Fr.dat S s.st)) (g.dat S s.st) [(f.dat S s.st).up (RT.datL S s.st [])])
 have hnx : nextD Dr f.i = g.R.head?.map RT.id := by
  have := zip_next h.d hq2 (k1 := RT.datL S s.st g.L) (x := (f.dat S s.st).up (RT.datL S s.st [])) (k2 := RT.datL S s.st g.R) (by rw [up_kids]; simp [Fr.dat])
  rw [show ((f.dat S s.st).up (RT.datL S s.st [])).id = f.i from rfl] at this
  rw [this, ← List.head?_map, ← List.head?_map, datL_ids]
 have hks : ((f.dat S s.st).up []).kids = RT.datL S s.st f.L := by
  rw [up_kids]
  unfold Fr.dat
  simp only
  rw [hR, RT.datL]
  simp
 refine ⟨_, hfr, rfl, rfl, fun e => ?_, ?_, fun e => ?_⟩
 ·rw [e, hroot] at hfr
  have := congrArg Info.parent (Option.some.inj hfr)
  rw [info_p, info_p] at this
  cases this
 ·intro p hp
  rcases h.pvo with ⟨hL, ⟨e1, e2⟩ | ⟨e1, e2⟩⟩ | ⟨L0, z, e1, e2⟩
  ·rw [e2] at hp; cases hp
  ·rw [e2] at hp
   obtain rfl := Option.some.inj hp
   rw [hfr]; simp
  ·rw [e2] at hp
   obtain rfl := Option.some.inj hp
   have hz := hq.kid (show z.dat S s.st ∈ ((f.dat S s.st).up []).kids by rw [hks, e1, datL_append]; simp [RT.datL])
   have hzr := hz.root
   rw [dat_id] at hzr
   rw [hzr]; simp
 ·rw [hnx, hpf]
  rcases h.pvo with ⟨hL, _⟩ | ⟨L0, z, e1, e2⟩
  ·have hf : firstD Dr f.i = none := by
    unfold firstD
    rw [hfr]
    show (((f.dat S s.st).up []).info (some g.i)).kids.head? = none
    rw [info_k, hks, hL]
    rfl
   rw [hf]
   unfold nx
   split <;> simp
  ·have hz := hq.kid (show z.dat S s.st ∈ ((f.dat S s.st).up []).kids by rw [hks, e1, datL_append]; simp [RT.datL])
   have hzr := hz.root
   rw [dat_id] at hzr
   have hpz : parD Dr z.id = some f.i := by unfold parD; rw [hzr]; exact info_p _ _
   rw [e2, Option.bind_some, hpz]
   unfold nx
   rw [if_pos (by simp)]
theorem elem_of {D : Tab} {x : Nat} {i : Info} (l : List ByteArray) (h : D x = some i) : elemD D l x = (i.ty == 3 && inL l i.data) := by
 unfold elemD
 rw [h]
 rfl
theorem msL_cons (k : RT) (ks : List RT) : RT.msL (k :: ks) = k.ms + RT.msL ks := rfl
theorem msr_cons {x : RT} {R' : List RT} (hR : f.R = x :: R') : msr f fs = x.ms + RT.msL R' + msF fs := by
 unfold msr
 rw [hR, msL_cons]
/-- The way on from the head: into it, or behind it. -/
theorem ColD.moveHead (h : ColD S w D root wr Dr f fs s pv) {x : RT} {R' : List RT} (hR : f.R = x :: R') (hty : x.ty = 3 ∨ x.ty = 4) :
  ∃ f' fs', nx (pv.bind (parD Dr) == some x.id) (elemD Dr S.pr x.id) (firstD Dr x.id) (nextD Dr x.id) (parD Dr x.id) = some (curId f') ∧ ColD S w D root wr Dr f' fs' s (some x.id) ∧ msr f' fs' < msr f fs ∧
   ∀ s0, (x.ty = 3 → s = s0.ent (S.kind x.data)) → (x.ty = 4 → s = s0) → fin S s0 f fs = fin S s f' fs' := by
 obtain ⟨i, h1, h2, h3, h4, h5, h6, h7, h8, _⟩ := h.head hR
 have hall := h.all f (by simp) x (by rw [hR]; simp)
 rw [h4, h5, h6, h7, elem_of S.pr h1, h2, h3]
 have hms := msr_cons (fs := fs) hR
 have hpos := ms_pos x
 have skip : (x.ty == 3 && inL S.pr (if x.ty = 1 then strOfNums (s.st x.id) else x.data)) = true ∨ x.kids = [] → ∃ f' fs', nx false (x.ty == 3 && inL S.pr (if x.ty = 1 then strOfNums (s.st x.id) else x.data)) (x.kids.head?.map RT.id) (R'.head?.map RT.id) (some f.i) = some (curId f') ∧ ColD S w D root wr Dr f' fs' s (some x.id) ∧ msr f' fs' < msr f fs ∧
   ∀ s0, (x.ty = 3 → s = s0.ent (S.kind x.data)) → (x.ty = 4 → s = s0) → fin S s0 f fs = fin S s f' fs' := by
  intro hc
  refine ⟨{ f with L := f.L ++ [x], R := R' }, fs, ?_, h.skip hR, ?_, fun s0 e3 e4 => ?_⟩
  ·have := cur_or ({ f with L := f.L ++ [x], R := R' } : Fr)
   rw [← this]
   unfold nx
   rcases hc with hc | hc
   ·rw [hc, if_pos (by simp)]
   ·rw [hc]
    split <;> simp
  ·rw [hms]
   unfold msr
   simp only
   omega
  ·refine fin_skip fs hR ?_
   cases x with
   | node xi ty a d at_ ks =>
    rcases hty with e | e
    ·obtain rfl : ty = 3 := e
     rw [run, if_neg (by decide), if_pos rfl]
     by_cases hp : inL S.pr d = true
     ·rw [if_pos hp, e3 rfl]
      rfl
     ·rw [if_neg hp]
      rcases hc with hc | hc
      ·have hc' : ((3 : Int) == 3 && inL S.pr (if (3 : Int) = 1 then strOfNums (s.st xi) else d)) = true := hc
       rw [if_neg (by decide)] at hc'
       exact absurd hc' hp
      ·obtain rfl : ks = [] := hc
       rw [e3 rfl]
       show ((s0.ent (S.kind d)).ent (S.kind d), _) = (s0.ent (S.kind d), _)
       rw [ent_ent]
       rfl
    ·obtain rfl : ty = 4 := e
     rw [run, if_neg (by decide), if_neg (by decide), e4 rfl]
 by_cases hp : (x.ty == 3 && inL S.pr (if x.ty = 1 then strOfNums (s.st x.id) else x.data)) = true
 ·exact skip (.inl hp)
 ·cases hks : x.kids with
  | nil => have := skip (.inr hks); rw [hks] at this; exact this
  | cons k ks =>
   have h3' : x.ty = 3 := by
    cases hall with
    | mk _ hok _ =>
     rcases hok.2 with e | e
     ·exact e
     ·rw [hks] at e; cases e
   cases x with
   | node xi ty a d at_ ks0 =>
    obtain rfl : ty = 3 := h3'
    obtain rfl : ks0 = k :: ks := hks
    have hp' : ¬ inL S.pr d = true := by
     have hp2 : ¬ ((3 : Int) == 3 && inL S.pr (if (3 : Int) = 1 then strOfNums (s.st xi) else d)) = true := hp
     rw [if_neg (by decide)] at hp2
     simpa using hp2
    have hpf : inL S.pr d = false := by simpa using hp'
    refine ⟨⟨xi, a, d, at_, [], k :: ks⟩, { f with R := R' } :: fs, ?_, h.push hR hpf, ?_, fun s0 e3 e4 => ?_⟩
    ·show nx false ((3 : Int) == 3 && inL S.pr (if (3 : Int) = 1 then strOfNums (s.st xi) else d)) _ _ _ = _
     rw [if_neg (by decide), hpf]
     rfl
    ·rw [hms]
     unfold msr
     simp only [msF]
     rw [RT.ms, if_pos rfl]
     omega
    ·rw [e3 rfl]
     exact fin_push fs hR hpf
/-- The way on from an element that is done. -/
theorem ColD.moveEnd {g : Fr} {fs' : List Fr} (h : ColD S w D root wr Dr f (g :: fs') s pv) (hR : f.R = []) :
  ∃ f' fs2, nx (pv.bind (parD Dr) == some f.i) (elemD Dr S.pr f.i) (firstD Dr f.i) (nextD Dr f.i) (parD Dr f.i) = some (curId f') ∧ ColD S w D root wr Dr f' fs2 s (some f.i) ∧ msr f' fs2 < msr f (g :: fs') ∧
   ∀ s0, s = s0.ent (S.kind f.d) → fin S s0 f (g :: fs') = fin S s f' fs2 := by
 obtain ⟨i, h1, h2, h3, _, _, h4⟩ := h.last hR
 refine ⟨{ g with L := g.L ++ [f.up []] }, fs', ?_, h.pop hR, ?_, fun s0 e => ?_⟩
 ·rw [h4]
  exact cur_or ({ g with L := g.L ++ [f.up []] } : Fr)
 ·unfold msr
  rw [hR]
  simp only [msF, RT.msL]
  omega
 ·rw [e]
  exact fin_pop fs' hR
end
end Go.Proofs.Ytmfjbljdbkmkgaa.Dom
