/- A part of the proof of FnCollapseAny: ToldX, Mapa, SurgI, Sur2, Repl, Steps, WrapX, UnwX, NameX, DomTot, NormT, AllN, SibN, Guard, Chg, Tell, RedP, FindX, NamedX, Beh, RedX, SibM, ReplX, TreeT, Put, CutP, CutX, CutY, CutZ, Keep, EDomx5, BlankL, ColP, SpcX, one behind the other. -/
import Derived.Test.YtmfjbljdbkmkgaaMFnCollapseAny2
import Derived.Deep.RegionLaw
import Derived.Deep.DeepCutAuto
import Derived.Deep.DeepMust
import Derived.BigRegion
import Derived.Tactics2
import Derived.Test.YtmfjbljdbkmkgaaMFnCollapseAny1
import Derived.Test.YtmfjbljdbkmkgaaProg
import Derived.Tactics
import Derived.Defers
import Derived.Recover
import Derived.Laws.Pointers
import Derived.Laws.EntriesVeiled
/- impl.told: a tree of nodes, as plain data. -/
namespace Go.Proofs.Ytmfjbljdbkmkgaa.Dom
open Go.RowKit Go.Proofs.YtmfjbljdbkmkgaaW.PrintWords Go.Proofs.YtmfjbljdbkmkgaaW.PrintLast Go.Proofs.YtmfjbljdbkmkgaaW.PrintMore Go.Proofs.Ytmfjbljdbkmkgaa.PDom
set_option linter.unusedVariables false
set_option linter.unusedSimpArgs false

abbrev At := S53
mutual
/-- The tree as plain data. -/
def RT.toT : RT → T
  | .node _ ty _ d at_ ks => if ty = 3 then ⟨0, d, ⟨#[]⟩, at_.map (fun a => (⟨a.1, a.2⟩ : At)), RT.toTL ks⟩ else if ty = 1 then ⟨1, ⟨#[]⟩, d, [], []⟩ else if ty = 4 then ⟨2, ⟨#[]⟩, d, [], []⟩ else ⟨3, ⟨#[]⟩, ⟨#[]⟩, [], RT.toTL ks⟩
def RT.toTL : List RT → List T
  | [] => []
  | k :: ks => k.toT :: RT.toTL ks
end
theorem RT.toTL_map (l : List RT) : RT.toTL l = l.map RT.toT := by
  induction l with
  | nil => rfl
  | cons k l ih => rw [RT.toTL, ih, List.map_cons]
/-- How many attributes and children a node has. -/
inductive RFit : RT → Prop
  | mk (i : Nat) (ty a : Int) (d : ByteArray) (at_ : List (ByteArray × ByteArray)) (ks : List RT) (h3 : at_.length ≤ 4398046510976) (h4 : ks.length ≤ 1000000000000) (hk : ∀ k ∈ ks, RFit k) : RFit (.node i ty a d at_ ks)
theorem at_A {w : World} {A : Option Addr} {n : Nat} {xs : List (ByteArray × ByteArray)} (h : Kd.C kA w A n xs) (i : Int) (h0 : 0 ≤ i) (h1 : i < n) : ∃ ad, A = some ad ∧ w.cell? (ad.add (i.toNat * 3)) = some (.string ⟨#[]⟩) ∧ w.cell? ⟨(ad.add (i.toNat * 3)).block, (ad.add (i.toNat * 3)).off + 1, none⟩ = some (.string (xs.getD i.toNat (⟨#[]⟩, ⟨#[]⟩)).1) ∧ w.cell? ⟨(ad.add (i.toNat * 3)).block, (ad.add (i.toNat * 3)).off + 2, none⟩ = some (.string (xs.getD i.toNat (⟨#[]⟩, ⟨#[]⟩)).2) := by
  obtain ⟨ad, c, e, _, hK, hc0⟩ := Kd.C_get h (⟨#[]⟩, ⟨#[]⟩) i h0 h1
  have hc : ∀ j u, c[j]? = some u → w.cell? (ad.add (i.toNat * 3 + j)) = some u := hc0
  obtain ⟨_, _, rfl, rfl, ⟨_, _, rfl, rfl, rfl⟩⟩ := hK
  exact ⟨ad, e, hc 0 _ rfl, by rw [← add_field _ _ 1 (by omega)]; exact hc 1 _ rfl, by rw [← add_field _ _ 2 (by omega)]; exact hc 2 _ rfl⟩
/-- The state of the tree that is being told: its box, its rows. -/
structure TB (w wr : World) (f0 : Int) (f1 f2 : ByteArray) (v3 v4 : Value) (l3 : List At) (l4 : List T) : Prop where
  box : wr.heap[w.heap.size + 1]? = some (.cells #[.int .i64 f0, .string f1, .string f2, v3, v4] 25 (0, 0))
  res : ∃ a0 a1 a2 a3 a4 : Value, wr.heap[w.heap.size]? = some (.cells #[a0, a1, a2, a3, a4] 25 (0, 0))
  n3 : Kd.N k53 53 wr w.heap.size (fun k => w.heap.size + 2 ≤ k ∧ some k ≠ v4.ownBlock) v3 l3
  n4 : Kd.N k25 25 wr w.heap.size (fun k => w.heap.size + 2 ≤ k ∧ some k ≠ v3.ownBlock) v4 l4
  below : Below w.heap.size w wr
theorem TB.start (w : World) (f0 : Int) (f1 f2 : ByteArray) {wr : World} (hb : wr.heap[w.heap.size + 1]? = some (.cells #[.int .i64 f0, .string f1, .string f2, .slice none 0 0, .slice none 0 0] 25 (0, 0)))
    (hr : ∃ a0 a1 a2 a3 a4 : Value, wr.heap[w.heap.size]? = some (.cells #[a0, a1, a2, a3, a4] 25 (0, 0))) (hw : Below w.heap.size w wr) : TB w wr f0 f1 f2 (.slice none 0 0) (.slice none 0 0) [] [] :=
  ⟨hb, hr, Kd.N_nil _ _ _ _ _, Kd.N_nil _ _ _ _ _, hw⟩
section
variable {w wr w1 w2 w3 : World} {f0 : Int} {f1 f2 : ByteArray} {v3 v4 v1 : Value} {l3 : List At} {l4 : List T}
theorem TB.moved (h : TB w wr f0 f1 f2 v3 v4 l3 l4) (hb : Below wr.heap.size wr w1) : TB w w1 f0 f1 f2 v3 v4 l3 l4 :=
  ⟨(hb.block _ (blk_lt h.box)).trans h.box, by obtain ⟨a0, a1, a2, a3, a4, hr⟩ := h.res; exact ⟨a0, a1, a2, a3, a4, (hb.block _ (blk_lt hr)).trans hr⟩, Kd.N_below h.n3 hb, Kd.N_below h.n4 hb, below_step h.below hb⟩
theorem TB.size (h : TB w wr f0 f1 f2 v3 v4 l3 l4) : w.heap.size + 2 ≤ wr.heap.size := blk_lt h.box
theorem TB.cells (h : TB w wr f0 f1 f2 v3 v4 l3 l4) : wr.cell? ⟨w.heap.size + 1, 0, none⟩ = some (.int .i64 f0) ∧ wr.cell? ⟨w.heap.size + 1, 1, none⟩ = some (.string f1) ∧ wr.cell? ⟨w.heap.size + 1, 2, none⟩ = some (.string f2) ∧ wr.cell? ⟨w.heap.size + 1, 3, none⟩ = some v3 ∧ wr.cell? ⟨w.heap.size + 1, 4, none⟩ = some v4 :=
  ⟨blk_cell h.box 0, blk_cell h.box 1, blk_cell h.box 2, blk_cell h.box 3, blk_cell h.box 4⟩
/-- A block that is kept through an append to an own row. -/
theorem grown_kept {r : Option Nat} (hg : w2.grownBy w3 r) {b : Nat} {x : Obj} (hb : w2.heap[b]? = some x) (hr : some b ≠ r) : w3.heap[b]? = some x :=
  (hg.block b (Array.getElem?_eq_some_iff.1 hb).1 hr).trans hb
/-- One more attribute. -/
theorem TB.attr (h : TB w wr f0 f1 f2 v3 (.slice none 0 0) l3 []) (hb : Below wr.heap.size wr w2) {p : At} (ho : Kd.N k53 53 w3 w.heap.size (fun k => w.heap.size + 2 ≤ k) v1 (l3 ++ [p])) (hb3 : Below w.heap.size w w3) (hg : w2.grownBy w3 v3.ownBlock) :
    w3.cell? ⟨w.heap.size + 1, 3, none⟩ = some v3 ∧ w3.frozen? ⟨w.heap.size + 1, 3, none⟩ = false ∧ TB w (w3.setCell ⟨w.heap.size + 1, 3, none⟩ v1) f0 f1 f2 v1 (.slice none 0 0) (l3 ++ [p]) [] := by
  have h2 := h.moved hb
  have n1 : some (w.heap.size + 1) ≠ v3.ownBlock := fun e => by have := (h2.n3.1 _ e.symm).1; omega
  have n0 : some w.heap.size ≠ v3.ownBlock := fun e => by have := (h2.n3.1 _ e.symm).1; omega
  have b3 := grown_kept hg h2.box n1
  obtain ⟨a0, a1, a2, a3, a4, hr⟩ := h2.res
  have r3 := grown_kept hg hr n0
  refine ⟨blk_cell b3 3, blk_frozen b3 3, blk_set b3 3 _, ⟨a0, a1, a2, a3, a4, (Below.heap_setCell w3 _ _ _ (by show w.heap.size ≠ w.heap.size + 1; omega)).trans r3⟩, ?_, Kd.N_nil _ _ _ _ _, ?_⟩
  · refine Kd.N_mono (Kd.N_far ho (fun k hk => ?_) _) (fun k hk => ⟨hk, by simp [Value.ownBlock]⟩)
    show k ≠ w.heap.size + 1
    omega
  · exact Below.setCell hb3 (by show w.heap.size ≤ w.heap.size + 1; omega) _
/-- One more child. -/
theorem TB.kid (h : TB w wr f0 f1 f2 v3 v4 l3 l4) (hb : Below wr.heap.size wr w2) {p : T} (ho : Kd.N k25 25 w3 w.heap.size (fun k => w.heap.size + 2 ≤ k ∧ some k ≠ v3.ownBlock) v1 (l4 ++ [p])) (hb3 : Below w.heap.size w w3) (hg : w2.grownBy w3 v4.ownBlock)
    (hat : v1.ownBlock = v4.ownBlock ∨ ∃ b, v1.ownBlock = some b ∧ w2.heap.size ≤ b) :
    w3.cell? ⟨w.heap.size + 1, 4, none⟩ = some v4 ∧ w3.frozen? ⟨w.heap.size + 1, 4, none⟩ = false ∧ TB w (w3.setCell ⟨w.heap.size + 1, 4, none⟩ v1) f0 f1 f2 v3 v1 l3 (l4 ++ [p]) := by
  have h2 := h.moved hb
  have n1 : some (w.heap.size + 1) ≠ v4.ownBlock := fun e => by have := (h2.n4.1 _ e.symm).1; omega
  have n0 : some w.heap.size ≠ v4.ownBlock := fun e => by have := (h2.n4.1 _ e.symm).1; omega
  have b3 := grown_kept hg h2.box n1
  obtain ⟨a0, a1, a2, a3, a4, hr⟩ := h2.res
  have r3 := grown_kept hg hr n0
  refine ⟨blk_cell b3 4, blk_frozen b3 4, blk_set b3 4 _, ⟨a0, a1, a2, a3, a4, (Below.heap_setCell w3 _ _ _ (by show w.heap.size ≠ w.heap.size + 1; omega)).trans r3⟩, ?_, ?_, ?_⟩
  · refine Kd.N_far (Kd.N_after h2.n3 hg hat) (fun k hk => ?_) _
    show k ≠ w.heap.size + 1
    omega
  · refine Kd.N_far ho (fun k hk => ?_) _
    show k ≠ w.heap.size + 1
    omega
  · exact Below.setCell hb3 (by show w.heap.size ≤ w.heap.size + 1; omega) _
theorem kids_step {P : Program} {ops : Array Oper} {o : Oper} {a : Act} {Q : Exit → Act → World → Prop} {K : Act → World → Prop} {E : Prop} {w0 W : World} (hgd : o.guard = none) (base : Nat) (s x : Operand) (t : TypeId) (z : Value)
    (ho : o.op = .call { callee := .builtin .append, args := #[s, x], argTypes := #[t, t] })
    (ht : P.underlying t = some (.slice 25)) (hinfo : (P.info? 25).map (fun i => (i.zero, i.size, i.bytes)) = some (some z, 5, 88)) (hz : z.cells.size = 5)
    (v : Value) (xs : List T) (p : T) (cs : List Value) (ok okp : Nat → Prop) (hs : a.eval s = v) (hx : a.eval x = .slice (some ⟨W.heap.size, 0, none⟩) 1 1) (hp : Kd.FK k25 W okp p cs) (hokp : ∀ k, okp k → ok k ∧ some k ≠ v.ownBlock) (hfresh : ∀ k, W.heap.size ≤ k → ok k)
    (HO : Kd.N k25 25 W base ok v xs) (HB : Below base w0 W) (hbase : base ≤ W.heap.size) (hl : (xs.length + 1) * 88 ≤ 140737488355328)
    (h : ∀ v1 w1, Kd.N k25 25 w1 base ok v1 (xs ++ [p]) → Below base w0 w1 → W.grownBy w1 v.ownBlock → (v1.ownBlock = v.ownBlock ∨ ∃ b, v1.ownBlock = some b ∧ W.heap.size ≤ b) → K (a.put o.dst v1) w1) :
    if Region.wanted o (yielded ops a.tmps) = true then Oper.wp P o a (W.alloc (.cells cs.toArray 25)) K Q else E := by
  have hw : Region.wanted o (yielded ops a.tmps) = true := by simp [Region.wanted, hgd]
  have := Kd.N_append_step (P := P) (ops := ops) (o := o) (a := a) (Q := Q) (Kc := K) k25 base hw s x t 25 z 88 ho ht hinfo hz (by decide) (by decide) v xs p cs ok okp hs hx hp hokp hfresh HO HB hbase hl h
  rw [if_pos hw] at this ⊢
  exact this
end
theorem infoNd : (Try.prog.info? 25).map (fun i => (i.zero, i.size, i.bytes)) = some (some (.agg #[.int .i64 0, .string ⟨#[]⟩, .string ⟨#[]⟩, .slice none 0 0, .slice none 0 0]), 5, 88) := by kernel_rfl
theorem infoAt : (Try.prog.info? 53).map (fun i => (i.zero, i.size, i.bytes)) = some (some (.agg #[.string ⟨#[]⟩, .string ⟨#[]⟩]), 2, 32) := by kernel_rfl
/-- A row of attributes leads to nothing. -/
theorem attr_R {w : World} {base : Nat} {ok : Nat → Prop} {v : Value} {l : List At} (h : Kd.N k53 53 w base ok v l) : Kd.R k53 53 w base ok v l := by
  obtain ⟨h0, rows, hlen, ⟨h1, inner, ho, hr⟩, hf⟩ := h
  refine ⟨h0, inner, by rw [← hlen]; exact ho, by rw [hr.1, hlen]; rfl, fun j p hj => ?_⟩
  have hlt : j < rows.length := by rw [hlen]; exact (List.getElem?_eq_some_iff.1 hj).1
  have e1 := List.getElem?_eq_getElem hlt
  have hc := (hr.2 j _ e1).1
  have hk := Kd.FK_now (hf j p _ hj e1)
  rw [← hc] at hk
  exact hk
/-- What impl.told returns. -/
def Told (w w' : World) (t : T) (e : Ending) : Prop := ∃ A3 c3 A4 c4, e = .returned (.agg #[.int .i64 t.f0, .string t.f1, .string t.f2, .slice A3 t.f3.length c3, .slice A4 t.f4.length c4]) ∧ t.f3.length ≤ c3 ∧ Kd.F k53 w' (fun k => w.heap.size ≤ k) A3 t.f3.length t.f3 ∧ t.f4.length ≤ c4 ∧ Kd.F k25 w' (fun k => w.heap.size ≤ k) A4 t.f4.length t.f4 ∧ Below w.heap.size w w' ∧
  Kd.R k53 53 w' w.heap.size (fun k => w.heap.size ≤ k) (.slice A3 t.f3.length c3) t.f3 ∧ Kd.N k25 25 w' w.heap.size (fun k => w.heap.size ≤ k ∧ some k ≠ (Value.slice A3 t.f3.length c3).ownBlock) (.slice A4 t.f4.length c4) t.f4
theorem told_leaf (w : World) (t : T) (h3 : t.f3 = []) (h4 : t.f4 = []) (w' : World) (hb : Below w.heap.size w w') (e : Ending) (he : e = .returned (.agg #[.int .i64 t.f0, .string t.f1, .string t.f2, .slice none 0 0, .slice none 0 0])) : Told w w' t e := by
  refine ⟨none, 0, none, 0, by rw [h3, h4]; exact he, by rw [h3]; exact Nat.le_refl _, by rw [h3]; exact Kd.F_nil _ _ _, by rw [h4]; exact Nat.le_refl _, by rw [h4]; exact Kd.F_nil _ _ _, hb, by rw [h3]; exact Kd.R_nil _ _ _ _ _, by rw [h4]; exact Kd.N_nil _ _ _ _ _⟩
theorem told_end {w wr w' : World} {t : T} {v3 v4 : Value} (h : TB w wr t.f0 t.f1 t.f2 v3 v4 t.f3 t.f4) (hw : ∀ k, w.heap.size + 2 ≤ k → k < wr.heap.size → w'.heap[k]? = wr.heap[k]?) (hb : Below w.heap.size w w') : Told w w' t (.returned (.agg #[.int .i64 t.f0, .string t.f1, .string t.f2, v3, v4])) := by
  obtain ⟨A3, c3, rfl⟩ := Kd.N_slice h.n3
  obtain ⟨A4, c4, rfl⟩ := Kd.N_slice h.n4
  have m3 := Kd.N_step h.n3 (w1 := w') (fun k hk hlt => hw k hk.1 hlt)
  have m4 := Kd.N_step h.n4 (w1 := w') (fun k hk hlt => hw k hk.1 hlt)
  exact ⟨A3, c3, A4, c4, rfl, (Kd.N_reads' m3).2.1, Kd.F_mono (Kd.N_F m3) (fun k hk => Nat.le_trans (by omega) hk.1), (Kd.N_reads' m4).2.1, Kd.F_mono (Kd.N_F m4) (fun k hk => Nat.le_trans (by omega) hk.1), hb, attr_R (Kd.N_mono m3 (fun k hk => Nat.le_trans (by omega) hk.1)), Kd.N_mono m4 (fun k hk => ⟨Nat.le_trans (by omega) hk.1, hk.2⟩)⟩
theorem sets5 (w : World) (b : Nat) (a0 a1 a2 a3 a4 : Value) (k : Nat) (hk : k ≠ b) : (((((w.setCell ⟨b, 0, none⟩ a0).setCell ⟨b, 1, none⟩ a1).setCell ⟨b, 2, none⟩ a2).setCell ⟨b, 3, none⟩ a3).setCell ⟨b, 4, none⟩ a4).heap[k]? = w.heap[k]? := by
  rw [Below.heap_setCell _ ⟨b, 4, none⟩ _ _ hk, Below.heap_setCell _ ⟨b, 3, none⟩ _ _ hk, Below.heap_setCell _ ⟨b, 2, none⟩ _ _ hk, Below.heap_setCell _ ⟨b, 1, none⟩ _ _ hk, Below.heap_setCell _ ⟨b, 0, none⟩ _ _ hk]
theorem below_sets5 {w wr : World} (h : Below w.heap.size w wr) (a0 a1 a2 a3 a4 : Value) : Below w.heap.size w (((((wr.setCell ⟨w.heap.size, 0, none⟩ a0).setCell ⟨w.heap.size, 1, none⟩ a1).setCell ⟨w.heap.size, 2, none⟩ a2).setCell ⟨w.heap.size, 3, none⟩ a3).setCell ⟨w.heap.size, 4, none⟩ a4) :=
  ((((h.setCell (p := ⟨w.heap.size, 0, none⟩) (Nat.le_refl _) a0).setCell (p := ⟨w.heap.size, 1, none⟩) (Nat.le_refl _) a1).setCell (p := ⟨w.heap.size, 2, none⟩) (Nat.le_refl _) a2).setCell (p := ⟨w.heap.size, 3, none⟩) (Nat.le_refl _) a3).setCell (p := ⟨w.heap.size, 4, none⟩) (Nat.le_refl _) a4
set_option maxHeartbeats 4000000 in
set_option maxRecDepth 100000 in
theorem told_calls (D : Tab) (r : RT) : ∀ (p : Option Nat), Is D p r → RFit r → ∀ (w : World), Dom w D → Calls Try.prog 66 #[ptr (some r.id)] w fun e w' => Told w w' r.toT e := by
  induction r using RT.induct with
  | h i ty a d at_ ks ih =>
    intro p hr hf w hdom
    have hroot : D i = some _ := hr.root
    obtain ⟨va, hHi, hA⟩ := hdom.has hroot
    have c5 : w.cell? ⟨i, 5, none⟩ = some (.int .u32 ty) := hHi.cells10.2.2.2.2.2.1
    have c7 : w.cell? ⟨i, 7, none⟩ = some (.string d) := hHi.cells10.2.2.2.2.2.2.2.1
    have c9 : w.cell? ⟨i, 9, none⟩ = some va := hHi.cells10.2.2.2.2.2.2.2.2.2
    have hl : i < w.heap.size := hHi.lt
    show Calls _ _ #[ptr (some i)] _ _
    rw [ptr_some]
    by_cases t1 : ty = 1
    · subst t1
      clear ih hr hf hdom hroot hHi hA c9
      go_enter Try.func66, Try.ntmps66
      go_wp2_with fail
      refine bodyPost_ret (v := .agg #[.int .i64 1, .string ⟨#[]⟩, .string d, .slice none 0 0, .slice none 0 0]) (by simp [results, Try.results66, go_sem]) rfl ?_
      exact told_leaf w _ rfl rfl _ (below_alloc (below_alloc (Below.refl _ _) _) _) _ rfl
    · by_cases t4 : ty = 4
      · subst t4
        clear ih hr hf hdom hroot hHi hA c9
        go_enter Try.func66, Try.ntmps66
        go_wp2_with fail
        refine bodyPost_ret (v := .agg #[.int .i64 2, .string ⟨#[]⟩, .string d, .slice none 0 0, .slice none 0 0]) (by simp [results, Try.results66, go_sem]) rfl ?_
        exact told_leaf w _ rfl rfl _ (below_alloc (below_alloc (Below.refl _ _) _) _) _ rfl
      · obtain ⟨Aa, ca, hva, hca, hCa⟩ := Kd.R_reads hA
        have hva' : va = .slice Aa at_.length ca := hva
        subst hva'
        have HC := Aside0.mk (show Kd.C kA w Aa at_.length at_ from hCa)
        have HF := Aside0.mk hf
        have HR := Aside0.mk hr
        have HD := Aside0.mk hdom
        have HI := Aside0.mk hHi
        have IH := Aside0.mk ih
        clear ih hr hf hdom hroot hHi hA hCa hva hca
        have HE : ∃ t : T, (RT.node i ty a d at_ ks).toT = t ∧ t.f4 = RT.toTL ks ∧ ((ty = 3 ∧ t.f0 = 0 ∧ t.f1 = d ∧ t.f2 = ⟨#[]⟩ ∧ t.f3 = at_.map (fun a => (⟨a.1, a.2⟩ : At))) ∨ (ty ≠ 3 ∧ t.f0 = 3 ∧ t.f1 = ⟨#[]⟩ ∧ t.f2 = ⟨#[]⟩ ∧ t.f3 = [])) := by
          refine ⟨_, rfl, ?_⟩
          simp only [RT.toT]
          by_cases t3 : ty = 3
          · rw [if_pos t3]
            exact ⟨rfl, .inl ⟨t3, rfl, rfl, rfl, rfl⟩⟩
          · rw [if_neg t3, if_neg t1, if_neg t4]
            exact ⟨rfl, .inr ⟨t3, rfl, rfl, rfl, rfl⟩⟩
        obtain ⟨t, het, hk4, hcase⟩ := HE
        rw [het]
        rcases hcase with ⟨t3, q0, q1, q2, q3⟩ | ⟨t3, q0, q1, q2, q3⟩
        · subst t3
          have HT := Aside0.mk (⟨het, hk4, q0, q1, q2, q3⟩ : _ ∧ _ ∧ _ ∧ _ ∧ _ ∧ _)
          clear het hk4 q0 q1 q2 q3 t1 t4
          go_enter Try.func66, Try.ntmps66
          go_wp2_with fail
          have hS := TB.start w 0 d ⟨#[]⟩ (two_new w (.cells #[.int .i64 0, .string ⟨#[]⟩, .string ⟨#[]⟩, .slice none 0 0, .slice none 0 0] 25) (.cells #[.int .i64 0, .string d, .string ⟨#[]⟩, .slice none 0 0, .slice none 0 0] 25)) ⟨_, _, _, _, _, two_old w _ _⟩ (below_alloc (below_alloc (Below.refl _ _) _) _)
          have HS := Aside0.mk hS
          clear hS
          generalize (w.alloc (.cells #[.int .i64 0, .string ⟨#[]⟩, .string ⟨#[]⟩, .slice none 0 0, .slice none 0 0] 25)).alloc (.cells #[.int .i64 0, .string d, .string ⟨#[]⟩, .slice none 0 0, .slice none 0 0] 25) = W0 at HS ⊢
          clear c5 c7 c9
          go_loopw [24] (fun vj wr => ∃ (j : Nat) (v3 : Value), vj = .int .i64 j ∧ j ≤ at_.length ∧ Aside0 (TB w wr 0 d ⟨#[]⟩ v3 (.slice none 0 0) ((at_.map (fun a => (⟨a.1, a.2⟩ : At))).take j) [])) (fun vj _ => at_.length - (intOf vj).toNat)
          case atStart => exact ⟨0, _, rfl, Nat.zero_le _, HS⟩
          case round =>
            obtain ⟨j, v3, rfl, hj, HB⟩ := hrel
            by_cases hlt : j < at_.length
            · obtain ⟨ad, rfl, y0, y1, y2⟩ := at_A (Kd.C_below HC.out HB.out.below) (j : Int) (by omega) (by omega)
              have he : at_.getD ((j : Int)).toNat (⟨#[]⟩, ⟨#[]⟩) = at_[j] := by simp [List.getD_eq_getElem?_getD, List.getElem?_eq_getElem hlt]
              have hsn : (at_.map (fun a => (⟨a.1, a.2⟩ : At))).take (j + 1) = (at_.map (fun a => (⟨a.1, a.2⟩ : At))).take j ++ [(⟨at_[j].1, at_[j].2⟩ : At)] := by
                rw [List.take_succ_eq_append_getElem (by rw [List.length_map]; exact hlt), List.getElem_map]
              have hlen : ((at_.map (fun a => (⟨a.1, a.2⟩ : At))).take j).length ≤ 4398046510976 := by
                cases HF.out with
                | mk _ _ _ _ _ _ h3 h4 hk => rw [List.length_take, List.length_map]; omega
              rw [he] at y1 y2
              simp only [Int.toNat_natCast] at y0 y1 y2
              generalize at_[j] = q at y1 y2 hsn
              obtain ⟨q0, q1⟩ := q
              simp only at y1 y2 hsn
              have HSN := Aside0.mk hsn
              have HLN := Aside0.mk hlen
              have HWJ := Aside0.mk (show wrap64 ((j : Int) + 1) = ((j + 1 : Nat) : Int) from by
                have := HLN.out
                have : at_.length ≤ 4398046510976 := by cases HF.out with | mk _ _ _ _ _ _ h3 h4 hk => exact h3
                unfold wrap64; omega)
              clear he hsn hlen
              go_upto_region 9 with fail
-- FILL
              have hcp : (wr.alloc (.cells #[.string ⟨#[]⟩, .string q0, .string q1] 106)).heap[wr.heap.size]? = some (.cells #[.string ⟨#[]⟩, .string q0, .string q1] 106 (0, 0)) := heap_alloc_new wr _
              have HB8 := Aside0.mk (below_alloc (Below.refl wr.heap.size wr) (.cells #[.string ⟨#[]⟩, .string q0, .string q1] 106))
              generalize wr.alloc (.cells #[.string ⟨#[]⟩, .string q0, .string q1] 106) = w8 at hcp HB8 ⊢
              have e1 : w8.cell? ⟨wr.heap.size, 1, none⟩ = some (.string q0) := by rw [blk_cell hcp]; rfl
              have e2 : w8.cell? ⟨wr.heap.size, 2, none⟩ = some (.string q1) := by rw [blk_cell hcp]; rfl
              have HM := Aside0.mk (HB.out.moved HB8.out)
              have x3 : w8.cell? ⟨w.heap.size + 1, 3, none⟩ = some v3 := HM.out.cells.2.2.2.1
              clear hcp y0 y1 y2
              go_wp2_with ((with_reducible refine gate_builtin (b := .append) (xs := #[.tmp 29, .tmp 35]) rfl ?_); at_builtin; go_must (refine Kd.N_append k53 (w0 := w) w.heap.size rfl (.tmp 29) (.tmp 35) 22 53 (.agg #[.string ⟨#[]⟩, .string ⟨#[]⟩]) 32 rfl Try.underlying22 infoAt rfl (by decide) (by decide) v3 ((at_.map (fun a => (⟨a.1, a.2⟩ : At))).take j) (⟨q0, q1⟩ : At) [.string q0, .string q1] (fun k => w.heap.size + 2 ≤ k) (fun _ => False) rfl (by go_simp) (k53_mkF w8 _ ⟨q0, q1⟩) (fun _ h => h.elim) (fun k hk => Nat.le_trans HM.out.size hk) (Kd.N_mono HM.out.n3 (fun k hk => hk.1)) HM.out.below HM.out.below.size (by have := HLN.out; omega) ?_))
              intro v1 w3 ho hb hg hat
              rw [← HSN.out] at ho
              obtain ⟨L1, hL1⟩ : ∃ L1, L1 = ((at_.map (fun a => (⟨a.1, a.2⟩ : At))).take (j + 1)).length := ⟨_, rfl⟩
              obtain ⟨A1, k1, hv1⟩ := Kd.N_slice ho
              rw [← hL1] at hv1
              subst hv1
              clear hL1
              obtain ⟨g3, gf3, ht3⟩ := HB.out.attr HB8.out (p := ⟨q0, q1⟩) (by rw [← HSN.out]; exact ho) hb hg
              rw [← HSN.out] at ht3
              have HT3 := Aside0.mk ht3
              clear ho hb hg hat ht3
              go_wp2_with fail
              go_roundw
              case rel => exact ⟨j + 1, _, by rw [HWJ.out], hlt, HT3⟩
              case measure => rw [HWJ.out]; simp [intOf]; omega
            · have hje : j = at_.length := by omega
              subst hje
              have hB := HB.out
              rw [List.take_of_length_le (by rw [List.length_map]; exact Nat.le_refl _)] at hB
              have HB0 := Aside0.mk hB
              clear hB HB hlt hj
              have c1 : wr.cell? ⟨i, 1, none⟩ = some (ptr (ks[0]?.map RT.id)) := Is.first (HD.out.below HB0.out.below) HR.out
              go_wp2_with fail
              go_loopg [6] ks.length (fun n v6 wr => ∃ (j : Nat) (v4 : Value), n = ks.length - j ∧ j ≤ ks.length ∧ v6 = ptr (ks[j]?.map RT.id) ∧ Aside0 (TB w wr 0 d ⟨#[]⟩ v3 v4 (at_.map (fun a => (⟨a.1, a.2⟩ : At))) ((ks.map RT.toT).take j)))
              case atStart => exact ⟨0, _, rfl, Nat.zero_le _, rfl, HB0⟩
              case round =>
                clear c1
                obtain ⟨j, v4, rfl, hj, rfl, HB⟩ := hrel
                by_cases hlt : j < ks.length
                · rw [List.getElem?_eq_getElem hlt]
                  have hkm : ks[j] ∈ ks := List.getElem_mem hlt
                  have HNX := Aside0.mk (show ∀ wx, Below w.heap.size w wx → wx.cell? ⟨ks[j].id, 4, none⟩ = some (ptr (ks[j + 1]?.map RT.id)) from fun wx hb => Is.next (HD.out.below hb) HR.out (j := j) hlt)
                  have HKC := Aside0.mk (fun wx hb => IH.out ks[j] hkm (some i) (HR.out.kid hkm) (by cases HF.out with | mk _ _ _ _ _ _ h3 h4 hk => exact hk _ hkm) wx (HD.out.below hb))
                  have hsn : (ks.map RT.toT).take (j + 1) = (ks.map RT.toT).take j ++ [ks[j].toT] := by rw [List.take_succ_eq_append_getElem (by rw [List.length_map]; exact hlt), List.getElem_map]
                  have hlen : ((ks.map RT.toT).take j).length ≤ 1000000000000 := by
                    cases HF.out with
                    | mk _ _ _ _ _ _ h3 h4 hk => rw [List.length_take, List.length_map]; omega
                  have HSN := Aside0.mk hsn
                  have HLN := Aside0.mk hlen
                  simp only [Option.map_some, ptr_some] at HKC ⊢
                  generalize ks[j].toT = u at HKC HSN
                  generalize ks[j].id = x at HNX HKC ⊢
                  clear hkm hsn hlen
                  have x4 : wr.cell? ⟨w.heap.size + 1, 4, none⟩ = some v4 := HB.out.cells.2.2.2.2
                  have HDW := Aside0.mk (below_drew (Below.refl wr.heap.size wr))
                  have x4d : wr.drew.cell? ⟨w.heap.size + 1, 4, none⟩ = some v4 := (HB.out.moved HDW.out).cells.2.2.2.2
                  go_upto_region 18 with fail
                  go_region_law (first
                    | (refine kids_step (w0 := w) (W := w2) rfl w.heap.size (.tmp 64) (.tmp 67) 23 (.agg #[.int .i64 0, .string ⟨#[]⟩, .string ⟨#[]⟩, .slice none 0 0, .slice none 0 0]) rfl Try.underlying23 infoNd rfl v4 ((ks.map RT.toT).take j) u [.int .i64 u.f0, .string u.f1, .string u.f2, .slice A3 u.f3.length c3, .slice A4 u.f4.length c4] (fun k => w.heap.size + 2 ≤ k ∧ some k ≠ v3.ownBlock) (fun k => wr.heap.size ≤ k) (by simp [Act.eval, Act.put]) (by simp [Act.eval, Act.put]) HFK.out HOK.out HFR.out HM2.out.n4 HM2.out.below HM2.out.below.size (by have := HLN.out; omega) ?_; intro v1 w3 ho hb hg hat; obtain ⟨L1, hL1⟩ : ∃ L1, L1 = ((ks.map RT.toT).take j ++ [u]).length := ⟨_, rfl⟩; obtain ⟨A1, k1, hv1⟩ := Kd.N_slice ho; rw [← hL1] at hv1; subst hv1; clear hL1; obtain ⟨g3, gf3, ht3⟩ := HB.out.kid HB2.out ho hb hg hat; rw [← HSN.out] at ht3; have HT3 := Aside0.mk ht3; have nx := HNX.out _ ht3.below; clear ho hb hg hat ht3)
                    | (go_simp; go_at_call 66; refine (HKC.out _ (below_step HB.out.below HDW.out)).mono ?_; rintro e w2 ⟨A3, c3, A4, c4, rfl, m3, F3, m4, F4, hb2, _, _⟩; have HB2 := Aside0.mk (below_step HDW.out hb2); have HM2 := Aside0.mk (HB.out.moved HB2.out); have HFK := Aside0.mk (k25_mkF w2 (fun k => wr.heap.size ≤ k) u m3 F3 m4 F4); have HOK := Aside0.mk (show ∀ k, wr.heap.size ≤ k → (w.heap.size + 2 ≤ k ∧ some k ≠ v3.ownBlock) ∧ some k ≠ v4.ownBlock from fun k hk => ⟨⟨Nat.le_trans HB.out.size hk, fun e => by have := Kd.N_lt HB.out.n3 k e.symm; omega⟩, fun e => by have := Kd.N_lt HB.out.n4 k e.symm; omega⟩); have HFR := Aside0.mk (show ∀ k, w2.heap.size ≤ k → w.heap.size + 2 ≤ k ∧ some k ≠ v3.ownBlock from fun k hk => ⟨Nat.le_trans HM2.out.size hk, fun e => by have := Kd.N_lt HM2.out.n3 k e.symm; omega⟩); have x42 : w2.cell? ⟨w.heap.size + 1, 4, none⟩ = some v4 := HM2.out.cells.2.2.2.2; have x43 : (w2.alloc (.cells #[.int .i64 u.f0, .string u.f1, .string u.f2, .slice A3 u.f3.length c3, .slice A4 u.f4.length c4] 25)).cell? ⟨w.heap.size + 1, 4, none⟩ = some v4 := (HM2.out.moved (below_alloc (Below.refl _ _) _)).cells.2.2.2.2; clear m3 F3 m4 F4 hb2))
                  all_goals (simp only [Exit.inBlock, Exit.then]; go_wp2_with fail; go_roundg (ks.length - (j + 1)))
                  all_goals first
                    | exact ⟨j + 1, _, rfl, hlt, rfl, HT3⟩
                    | omega
                    | trace_state
                · have hje : j = ks.length := by omega
                  subst hje
                  rw [List.getElem?_eq_none (Nat.le_refl _)]
                  simp only [Option.map_none, ptr_none]
                  have hB := HB.out
                  rw [List.take_of_length_le (by rw [List.length_map]; exact Nat.le_refl _), ← RT.toTL_map] at hB
                  obtain ⟨n3, A3, c3, e3⟩ : ∃ n A c, v3 = .slice A n c := by obtain ⟨A, c, h⟩ := Kd.N_slice hB.n3; exact ⟨_, A, c, h⟩
                  obtain ⟨n4, A4, c4, e4⟩ : ∃ n A c, v4 = .slice A n c := by obtain ⟨A, c, h⟩ := Kd.N_slice hB.n4; exact ⟨_, A, c, h⟩
                  subst e4
                  subst e3
                  obtain ⟨a0, a1, a2, a3, a4, hr⟩ := hB.res
                  obtain ⟨b0, b1, b2, b3, b4⟩ := hB.cells
                  have r0 := blk_cell hr 0
                  have r1 := blk_cell hr 1
                  have r2 := blk_cell hr 2
                  have r3 := blk_cell hr 3
                  have r4 := blk_cell hr 4
                  have f0 := blk_frozen hr 0
                  have f1 := blk_frozen hr 1
                  have f2 := blk_frozen hr 2
                  have f3 := blk_frozen hr 3
                  have f4 := blk_frozen hr 4
                  have HBB := Aside0.mk hB
                  clear hB hr HB
                  go_wp2_with fail
                  refine bodyPost_ret (v := .agg #[.int .i64 0, .string d, .string ⟨#[]⟩, .slice A3 n3 c3, .slice A4 n4 c4]) (by simp [results, Try.results66, go_sem, r0, r1, r2, r3, r4]) rfl ?_
                  obtain ⟨het, hk4, q0, q1, q2, q3⟩ := HT.out
                  have hte := told_end (t := t) (by rw [q0, q1, q2, q3, hk4]; exact HBB.out) (fun k hk _ => sets5 wr w.heap.size (.int .i64 0) (.string d) (.string ⟨#[]⟩) (.slice A3 n3 c3) (.slice A4 n4 c4) k (by omega)) (below_sets5 HBB.out.below (.int .i64 0) (.string d) (.string ⟨#[]⟩) (.slice A3 n3 c3) (.slice A4 n4 c4))
                  rw [q0, q1, q2] at hte
                  exact hte
        · have b3 : (ty == 3) = false := beq_eq_false_iff_ne.2 t3
          have b1 : (ty == 1) = false := beq_eq_false_iff_ne.2 t1
          have b4 : (ty == 4) = false := beq_eq_false_iff_ne.2 t4
          have d3 := decide_eq_false t3
          have d1 := decide_eq_false t1
          have d4 := decide_eq_false t4
          have HT := Aside0.mk (⟨het, hk4, q0, q1, q2, q3⟩ : _ ∧ _ ∧ _ ∧ _ ∧ _ ∧ _)
          clear het hk4 q0 q1 q2 q3 t1 t4 t3
          go_enter Try.func66, Try.ntmps66
          go_upto_region 15 with fail
          have HB0 := Aside0.mk (TB.start w 3 ⟨#[]⟩ ⟨#[]⟩ (two_new w (.cells #[.int .i64 0, .string ⟨#[]⟩, .string ⟨#[]⟩, .slice none 0 0, .slice none 0 0] 25) (.cells #[.int .i64 3, .string ⟨#[]⟩, .string ⟨#[]⟩, .slice none 0 0, .slice none 0 0] 25)) ⟨_, _, _, _, _, two_old w _ _⟩ (below_alloc (below_alloc (Below.refl _ _) _) _))
          generalize (w.alloc (.cells #[.int .i64 0, .string ⟨#[]⟩, .string ⟨#[]⟩, .slice none 0 0, .slice none 0 0] 25)).alloc (.cells #[.int .i64 3, .string ⟨#[]⟩, .string ⟨#[]⟩, .slice none 0 0, .slice none 0 0] 25) = W0 at HB0 ⊢
          clear c5 c7 c9
          have c1 : W0.cell? ⟨i, 1, none⟩ = some (ptr (ks[0]?.map RT.id)) := Is.first (HD.out.below HB0.out.below) HR.out
          go_wp2_with fail
          go_loopg [6] ks.length (fun n v6 wr => ∃ (j : Nat) (v4 : Value), n = ks.length - j ∧ j ≤ ks.length ∧ v6 = ptr (ks[j]?.map RT.id) ∧ Aside0 (TB w wr 3 ⟨#[]⟩ ⟨#[]⟩ (.slice none 0 0) v4 [] ((ks.map RT.toT).take j)))
          case atStart => exact ⟨0, _, rfl, Nat.zero_le _, rfl, HB0⟩
          case round =>
            clear c1
            obtain ⟨j, v4, rfl, hj, rfl, HB⟩ := hrel
            by_cases hlt : j < ks.length
            · rw [List.getElem?_eq_getElem hlt]
              have hkm : ks[j] ∈ ks := List.getElem_mem hlt
              have HNX := Aside0.mk (show ∀ wx, Below w.heap.size w wx → wx.cell? ⟨ks[j].id, 4, none⟩ = some (ptr (ks[j + 1]?.map RT.id)) from fun wx hb => Is.next (HD.out.below hb) HR.out (j := j) hlt)
              have HKC := Aside0.mk (fun wx hb => IH.out ks[j] hkm (some i) (HR.out.kid hkm) (by cases HF.out with | mk _ _ _ _ _ _ h3 h4 hk => exact hk _ hkm) wx (HD.out.below hb))
              have hsn : (ks.map RT.toT).take (j + 1) = (ks.map RT.toT).take j ++ [ks[j].toT] := by rw [List.take_succ_eq_append_getElem (by rw [List.length_map]; exact hlt), List.getElem_map]
              have hlen : ((ks.map RT.toT).take j).length ≤ 1000000000000 := by
                cases HF.out with
                | mk _ _ _ _ _ _ h3 h4 hk => rw [List.length_take, List.length_map]; omega
              have HSN := Aside0.mk hsn
              have HLN := Aside0.mk hlen
              simp only [Option.map_some, ptr_some] at HKC ⊢
              generalize ks[j].toT = u at HKC HSN
              generalize ks[j].id = x at HNX HKC ⊢
              clear hkm hsn hlen
              have x4 : wr.cell? ⟨w.heap.size + 1, 4, none⟩ = some v4 := HB.out.cells.2.2.2.2
              have HDW := Aside0.mk (below_drew (Below.refl wr.heap.size wr))
              have x4d : wr.drew.cell? ⟨w.heap.size + 1, 4, none⟩ = some v4 := (HB.out.moved HDW.out).cells.2.2.2.2
              go_upto_region 18 with fail
              go_region_law (first
                | (refine kids_step (w0 := w) (W := w2) rfl w.heap.size (.tmp 64) (.tmp 67) 23 (.agg #[.int .i64 0, .string ⟨#[]⟩, .string ⟨#[]⟩, .slice none 0 0, .slice none 0 0]) rfl Try.underlying23 infoNd rfl v4 ((ks.map RT.toT).take j) u [.int .i64 u.f0, .string u.f1, .string u.f2, .slice A3 u.f3.length c3, .slice A4 u.f4.length c4] (fun k => w.heap.size + 2 ≤ k ∧ some k ≠ (Value.slice none 0 0).ownBlock) (fun k => wr.heap.size ≤ k) (by simp [Act.eval, Act.put]) (by simp [Act.eval, Act.put]) HFK.out HOK.out HFR.out HM2.out.n4 HM2.out.below HM2.out.below.size (by have := HLN.out; omega) ?_; intro v1 w3 ho hb hg hat; obtain ⟨L1, hL1⟩ : ∃ L1, L1 = ((ks.map RT.toT).take j ++ [u]).length := ⟨_, rfl⟩; obtain ⟨A1, k1, hv1⟩ := Kd.N_slice ho; rw [← hL1] at hv1; subst hv1; clear hL1; obtain ⟨g3, gf3, ht3⟩ := HB.out.kid HB2.out ho hb hg hat; rw [← HSN.out] at ht3; have HT3 := Aside0.mk ht3; have nx := HNX.out _ ht3.below; clear ho hb hg hat ht3)
                | (go_simp; go_at_call 66; refine (HKC.out _ (below_step HB.out.below HDW.out)).mono ?_; rintro e w2 ⟨A3, c3, A4, c4, rfl, m3, F3, m4, F4, hb2, _, _⟩; have HB2 := Aside0.mk (below_step HDW.out hb2); have HM2 := Aside0.mk (HB.out.moved HB2.out); have HFK := Aside0.mk (k25_mkF w2 (fun k => wr.heap.size ≤ k) u m3 F3 m4 F4); have HOK := Aside0.mk (show ∀ k, wr.heap.size ≤ k → (w.heap.size + 2 ≤ k ∧ some k ≠ (Value.slice none 0 0).ownBlock) ∧ some k ≠ v4.ownBlock from fun k hk => ⟨⟨Nat.le_trans HB.out.size hk, fun e => by have := Kd.N_lt HB.out.n3 k e.symm; omega⟩, fun e => by have := Kd.N_lt HB.out.n4 k e.symm; omega⟩); have HFR := Aside0.mk (show ∀ k, w2.heap.size ≤ k → w.heap.size + 2 ≤ k ∧ some k ≠ (Value.slice none 0 0).ownBlock from fun k hk => ⟨Nat.le_trans HM2.out.size hk, fun e => by have := Kd.N_lt HM2.out.n3 k e.symm; omega⟩); have x42 : w2.cell? ⟨w.heap.size + 1, 4, none⟩ = some v4 := HM2.out.cells.2.2.2.2; have x43 : (w2.alloc (.cells #[.int .i64 u.f0, .string u.f1, .string u.f2, .slice A3 u.f3.length c3, .slice A4 u.f4.length c4] 25)).cell? ⟨w.heap.size + 1, 4, none⟩ = some v4 := (HM2.out.moved (below_alloc (Below.refl _ _) _)).cells.2.2.2.2; clear m3 F3 m4 F4 hb2))
              all_goals (simp only [Exit.inBlock, Exit.then]; go_wp2_with fail; go_roundg (ks.length - (j + 1)))
              all_goals first
                | exact ⟨j + 1, _, rfl, hlt, rfl, HT3⟩
                | omega
                | trace_state
            · have hje : j = ks.length := by omega
              subst hje
              rw [List.getElem?_eq_none (Nat.le_refl _)]
              simp only [Option.map_none, ptr_none]
              have hB := HB.out
              rw [List.take_of_length_le (by rw [List.length_map]; exact Nat.le_refl _), ← RT.toTL_map] at hB
              have e3 : True := trivial
              obtain ⟨n4, A4, c4, e4⟩ : ∃ n A c, v4 = .slice A n c := by obtain ⟨A, c, h⟩ := Kd.N_slice hB.n4; exact ⟨_, A, c, h⟩
              subst e4
              clear e3
              obtain ⟨a0, a1, a2, a3, a4, hr⟩ := hB.res
              obtain ⟨b0, b1, b2, b3, b4⟩ := hB.cells
              have r0 := blk_cell hr 0
              have r1 := blk_cell hr 1
              have r2 := blk_cell hr 2
              have r3 := blk_cell hr 3
              have r4 := blk_cell hr 4
              have f0 := blk_frozen hr 0
              have f1 := blk_frozen hr 1
              have f2 := blk_frozen hr 2
              have f3 := blk_frozen hr 3
              have f4 := blk_frozen hr 4
              have HBB := Aside0.mk hB
              clear hB hr HB
              go_wp2_with fail
              refine bodyPost_ret (v := .agg #[.int .i64 3, .string ⟨#[]⟩, .string ⟨#[]⟩, .slice none 0 0, .slice A4 n4 c4]) (by simp [results, Try.results66, go_sem, r0, r1, r2, r3, r4]) rfl ?_
              obtain ⟨het, hk4, q0, q1, q2, q3⟩ := HT.out
              have hte := told_end (t := t) (by rw [q0, q1, q2, q3, hk4]; exact HBB.out) (fun k hk _ => sets5 wr w.heap.size (.int .i64 3) (.string ⟨#[]⟩) (.string ⟨#[]⟩) (.slice none 0 0) (.slice A4 n4 c4) k (by omega)) (below_sets5 HBB.out.below (.int .i64 3) (.string ⟨#[]⟩) (.string ⟨#[]⟩) (.slice none 0 0) (.slice A4 n4 c4))
              rw [q0, q1, q2] at hte
              exact hte
end Go.Proofs.Ytmfjbljdbkmkgaa.Dom

/- Trees of nodes whose children change at one place: what a table holds of them. Plain facts. -/
namespace Go.Proofs.Ytmfjbljdbkmkgaa.Dom
open Go.RowKit Go.Proofs.YtmfjbljdbkmkgaaW.PrintWords Go.Proofs.YtmfjbljdbkmkgaaW.PrintLast Go.Proofs.YtmfjbljdbkmkgaaW.PrintMore Go.Proofs.Ytmfjbljdbkmkgaa.PDom
set_option linter.unusedVariables false
set_option linter.unusedSimpArgs false

theorem Is.congr {D D' : Tab} (r : RT) : ∀ {p : Option Nat}, Is D p r → (∀ b ∈ r.pre, D' b = D b) → Is D' p r := by
  induction r using RT.induct with
  | h i t a d at_ ks ih =>
    intro p h he
    have hroot : D i = some _ := h.root
    refine Is.mk p i t a d at_ ks ((he i (by simp [RT.pre])).trans hroot) (fun k hk => ih k hk (h.kid hk) (fun b hb => he b ?_))
    show b ∈ i :: RT.preL ks
    exact List.mem_cons_of_mem _ (RT.mem_preL.2 ⟨k, hk, hb⟩)
/-- A tree whose root has another parent. -/
theorem Is.reroot {D D' : Tab} {r : RT} {p q : Option Nat} (h : Is D p r) (hr : D' r.id = some (r.info q)) (he : ∀ b ∈ RT.preL r.kids, D' b = D b) : Is D' q r := by
  cases r with
  | node i t a d at_ ks =>
    refine Is.mk q i t a d at_ ks hr (fun k hk => (h.kid (r := .node i t a d at_ ks) hk).congr k (fun b hb => he b (RT.mem_preL.2 ⟨k, hk, hb⟩)))
/-- The children of the node at a place, changed. -/
def RT.mapAt (f : List RT → List RT) : RT → List Int → RT
  | .node i t a d at_ ks, [] => .node i t a d at_ (f ks)
  | .node i t a d at_ ks, j :: l => .node i t a d at_ (match ks[j.toNat]? with | some k => ks.set j.toNat (RT.mapAt f k l) | none => ks)
theorem RT.mapAt_id (f : List RT → List RT) (r : RT) (l : List Int) : (r.mapAt f l).id = r.id := by
  cases r
  cases l <;> simp [RT.mapAt, RT.id]
theorem RT.mapAt_cons (f : List RT → List RT) (i : Nat) (t a : Int) (d : ByteArray) (at_ : List (ByteArray × ByteArray)) (ks : List RT) (j : Int) (l : List Int) {k : RT} (hk : ks[j.toNat]? = some k) :
    RT.mapAt f (.node i t a d at_ ks) (j :: l) = .node i t a d at_ (ks.set j.toNat (k.mapAt f l)) := by
  simp only [RT.mapAt, hk]
theorem RT.sub_pre (l : List Int) : ∀ (r y : RT), r.at_ l = some y → ∀ b ∈ y.pre, b ∈ r.pre := by
  induction l with
  | nil =>
    intro r y h b hb
    have : r = y := by simpa [RT.at_] using h
    rw [this]; exact hb
  | cons j l ih =>
    intro r y h b hb
    simp only [RT.at_] at h
    split at h
    · obtain ⟨k, hk, h2⟩ := Option.bind_eq_some_iff.1 h
      have hkm : k ∈ r.kids := List.mem_of_getElem? hk
      have := ih k y h2 b hb
      cases r with
      | node i t a d at_ ks =>
        show b ∈ i :: RT.preL ks
        exact List.mem_cons_of_mem _ (RT.mem_preL.2 ⟨k, hkm, this⟩)
    · cases h
theorem map_set {α β : Type} (f : α → β) (l : List α) (j : Nat) (x : α) {y : α} (hy : l[j]? = some y) (h : f x = f y) : (l.set j x).map f = l.map f := by
  rw [List.map_set, h]
  apply List.ext_getElem?
  intro m
  by_cases hm : m = j
  · subst hm
    have hlt := (List.getElem?_eq_some_iff.1 hy).1
    rw [List.getElem?_set_self (by rw [List.length_map]; exact hlt), List.getElem?_map, hy]
    rfl
  · rw [List.getElem?_set_ne (fun e => hm e.symm)]
theorem nodup_kid {i : Nat} {ks : List RT} {k k' : RT} {j : Nat} (h : (i :: RT.preL ks).Nodup) (hk : ks[j]? = some k) : i ∉ k.pre ∧ k.pre.Nodup ∧ ∀ m, m ≠ j → ks[m]? = some k' → ∀ b ∈ k'.pre, b ∉ k.pre := by
  obtain ⟨h1, h2⟩ := List.nodup_cons.1 h
  have hlt := (List.getElem?_eq_some_iff.1 hk).1
  have hs : ks = ks.take j ++ k :: ks.drop (j + 1) := by
    have := (List.getElem?_eq_some_iff.1 hk).2
    rw [← this]
    exact (List.take_append_drop j ks).symm.trans (by rw [List.drop_eq_getElem_cons hlt])
  have hp : RT.preL ks = RT.preL (ks.take j) ++ (k.pre ++ RT.preL (ks.drop (j + 1))) := by
    conv => lhs; rw [hs]
    rw [RT.preL_append]
    rfl
  rw [hp] at h1 h2
  rw [List.nodup_append] at h2
  obtain ⟨n1, n2, n3⟩ := h2
  rw [List.nodup_append] at n2
  obtain ⟨m1, m2, m3⟩ := n2
  refine ⟨fun hb => h1 (by simp [hb]), m1, fun m hm hk' b hb hbk => ?_⟩
  rcases Nat.lt_or_gt_of_ne hm with hlt2 | hgt
  · refine n3 b (RT.mem_preL.2 ⟨k', ?_, hb⟩) b (by simp [hbk]) rfl
    refine List.mem_of_getElem? (i := m) ?_
    rw [List.getElem?_take, if_pos hlt2, hk']
  · refine m3 b hbk b (RT.mem_preL.2 ⟨k', ?_, hb⟩) rfl
    refine List.mem_of_getElem? (i := m - (j + 1)) ?_
    rw [List.getElem?_drop, show j + 1 + (m - (j + 1)) = m by omega, hk']
theorem Is.mapAt {D D' : Tab} (f : List RT → List RT) (l : List Int) : ∀ (r up : RT) {p : Option Nat}, Is D p r → r.at_ l = some up → r.pre.Nodup → (∃ q, D' up.id = some { up.info q with kids := (f up.kids).map RT.id } ∧ Is D q up) → (∀ k ∈ f up.kids, Is D' (some up.id) k) →
    (∀ b ∈ r.pre, b ≠ up.id → b ∉ RT.preL up.kids → D' b = D b) → Is D' p (r.mapAt f l) := by
  induction l with
  | nil =>
    intro r up p h hu hnd hD hK hO
    obtain rfl : r = up := by simpa [RT.at_] using hu
    obtain ⟨q, hD, hq⟩ := hD
    have hpq : q = p := by
      have h1 := h.root
      have h2 := hq.root
      rw [h1] at h2
      have := congrArg Info.parent (Option.some.inj h2)
      cases r
      exact this.symm
    subst hpq
    cases r with
    | node i t a d at_ ks =>
      simp only [RT.mapAt]
      exact Is.mk q i t a d at_ (f ks) hD hK
  | cons j l ih =>
    intro r up p h hu hnd hD hK hO
    cases r with
    | node i t a d at_ ks =>
      simp only [RT.at_] at hu
      split at hu
      case isFalse => cases hu
      obtain ⟨k, hk, hu⟩ := Option.bind_eq_some_iff.1 hu
      have hk' : ks[j.toNat]? = some k := hk
      rw [RT.mapAt_cons f i t a d at_ ks j l hk']
      have hkm : k ∈ ks := List.mem_of_getElem? hk'
      have hnd' : (i :: RT.preL ks).Nodup := hnd
      obtain ⟨d1, d2, _⟩ := nodup_kid (k' := k) hnd' hk'
      have hsub := RT.sub_pre l k up hu
      have upk : up.id ∈ k.pre := hsub _ (RT.id_mem up)
      have kidsk : ∀ b ∈ RT.preL up.kids, b ∈ k.pre := fun b hb => hsub b (by cases up; exact List.mem_cons_of_mem _ hb)
      have hroot : D i = some _ := h.root
      refine Is.mk p i t a d at_ _ ?_ ?_
      · rw [hO i (by simp [RT.pre]) (fun e => d1 (by rw [e]; exact upk)) (fun hb => d1 (kidsk _ hb)), hroot, map_set RT.id ks _ _ hk' (RT.mapAt_id f k l)]
        rfl
      · intro x hx
        obtain ⟨m, hm, rfl⟩ := List.getElem_of_mem hx
        by_cases hmj : m = j.toNat
        · subst hmj
          rw [List.getElem_set_self]
          refine ih k up (h.kid hkm) hu d2 hD hK (fun b hb h1 h2 => hO b ?_ h1 h2)
          show b ∈ i :: RT.preL ks
          exact List.mem_cons_of_mem _ (RT.mem_preL.2 ⟨k, hkm, hb⟩)
        · rw [List.getElem_set_ne (fun e => hmj e.symm)]
          have hml : m < ks.length := by simpa using hm
          have hks : ks[m]? = some ks[m] := List.getElem?_eq_getElem hml
          obtain ⟨_, _, d3⟩ := nodup_kid (k' := ks[m]) hnd' hk'
          have hd := d3 m hmj hks
          refine (h.kid (r := .node i t a d at_ ks) (List.getElem_mem hml)).congr _ (fun b hb => hO b ?_ ?_ ?_)
          · show b ∈ i :: RT.preL ks
            exact List.mem_cons_of_mem _ (RT.mem_preL.2 ⟨_, List.getElem_mem hml, hb⟩)
          · exact fun e => hd b hb (by rw [e]; exact upk)
          · exact fun h2 => hd b hb (kidsk b h2)
/-- A node that may have children. -/
def Opens (r : RT) : Prop := r.ty ≠ 1 ∧ r.ty ≠ 4
end Go.Proofs.Ytmfjbljdbkmkgaa.Dom

/- A subtree taken out of a tree, and a tree put in. Plain facts on tables. -/
namespace Go.Proofs.Ytmfjbljdbkmkgaa.Dom
open Go.RowKit Go.Proofs.YtmfjbljdbkmkgaaW.PrintWords Go.Proofs.YtmfjbljdbkmkgaaW.PrintLast Go.Proofs.YtmfjbljdbkmkgaaW.PrintMore Go.Proofs.Ytmfjbljdbkmkgaa.PDom
set_option linter.unusedVariables false
set_option linter.unusedSimpArgs false

theorem Is.up {D : Tab} {r up : RT} {p : Option Nat} {l : List Int} (h : Is D p r) (hu : r.at_ l = some up) : ∃ q, Is D q up := by
  induction l generalizing r p with
  | nil =>
    have : r = up := by simpa [RT.at_] using hu
    exact ⟨p, this ▸ h⟩
  | cons j l ih =>
    simp only [RT.at_] at hu
    split at hu
    · obtain ⟨k, hk, h2⟩ := Option.bind_eq_some_iff.1 hu
      exact ih (h.kid (List.mem_of_getElem? hk)) h2
    · cases hu
theorem info_k (p : Option Nat) (r : RT) : (r.info p).kids = r.kids.map RT.id := by cases r; rfl
theorem info_p (p : Option Nat) (r : RT) : (r.info p).parent = p := by cases r; rfl
theorem info_set (p q : Option Nat) (r : RT) : { r.info p with parent := q } = r.info q := by cases r; rfl
def RT.withKids : RT → List RT → RT
  | .node i t a d at_ _, ks => .node i t a d at_ ks
/-- What a node's children have for themselves. -/
theorem kids_apart {D : Tab} (wf : WF D) {up x : RT} {q : Option Nat} (hu : Is D q up) {k1 k2 : List RT} (hk : up.kids = k1 ++ x :: k2) :
    (∀ k ∈ k1 ++ k2, ∀ b ∈ k.pre, b ≠ up.id ∧ b ≠ x.id) ∧ (∀ b ∈ RT.preL x.kids, b ≠ up.id ∧ b ≠ x.id) ∧ x.id ≠ up.id ∧ x.id ∈ RT.preL up.kids := by
  have hnd := Is.nodup wf up hu
  cases up with
  | node i t a d at_ ks =>
    obtain rfl : ks = k1 ++ x :: k2 := hk
    obtain ⟨n1, n2⟩ := List.nodup_cons.1 (show (i :: RT.preL (k1 ++ x :: k2)).Nodup from hnd)
    have hp : RT.preL (k1 ++ x :: k2) = RT.preL k1 ++ (x.pre ++ RT.preL k2) := by rw [RT.preL_append]; rfl
    rw [hp] at n1 n2
    obtain ⟨m1, m2, m3⟩ := List.nodup_append.1 n2
    obtain ⟨o1, o2, o3⟩ := List.nodup_append.1 m2
    have hxm := RT.id_mem x
    refine ⟨fun k hkm b hb => ⟨fun e => n1 (by rw [← show b = i from e]; rcases List.mem_append.1 hkm with h | h; exact List.mem_append_left _ (RT.mem_preL.2 ⟨k, h, hb⟩); exact List.mem_append_right _ (List.mem_append_right _ (RT.mem_preL.2 ⟨k, h, hb⟩))), fun e => ?_⟩, fun b hb => ⟨fun e => n1 (by rw [← show b = i from e]; exact List.mem_append_right _ (List.mem_append_left _ (by cases x; exact List.mem_cons_of_mem _ hb))), fun e => ?_⟩, fun e => n1 (by rw [← show x.id = i from e]; exact List.mem_append_right _ (List.mem_append_left _ hxm)), ?_⟩
    · rcases List.mem_append.1 hkm with h | h
      · exact m3 b (RT.mem_preL.2 ⟨k, h, hb⟩) x.id (List.mem_append_left _ hxm) e
      · exact o3 x.id hxm b (RT.mem_preL.2 ⟨k, h, hb⟩) e.symm
    · cases x with
      | node i2 t2 a2 d2 at2 ks2 =>
        obtain ⟨p1, _⟩ := List.nodup_cons.1 (show (i2 :: RT.preL ks2).Nodup from o1)
        exact p1 (by rw [← show b = i2 from e]; exact hb)
    · show x.id ∈ RT.preL (k1 ++ x :: k2)
      rw [hp]
      exact List.mem_append_right _ (List.mem_append_left _ hxm)
theorem rt_remove {D : Tab} (wf : WF D) {r up x : RT} {l : List Int} (hr : Is D none r) (hu : r.at_ l = some up) {k1 k2 : List RT} (hk : up.kids = k1 ++ x :: k2) {q : Option Nat} (hq : Is D q up) :
    Is (relink D up.id x.id (up.info q) (x.info (some up.id)) (k1.map RT.id ++ k2.map RT.id) none) none (r.mapAt (fun _ => k1 ++ k2) l) ∧ Is (relink D up.id x.id (up.info q) (x.info (some up.id)) (k1.map RT.id ++ k2.map RT.id) none) none x := by
  obtain ⟨a1, a2, a3, a4⟩ := kids_apart wf hq hk
  have hxm : x ∈ up.kids := by rw [hk]; simp
  have hx := hq.kid hxm
  have hne : up.id ≠ x.id := fun e => a3 e.symm
  refine ⟨hr.mapAt (fun _ => k1 ++ k2) l r up hu (Is.nodup wf r hr) ⟨q, ?_, hq⟩ (fun k hkm => ?_) (fun b hb h1 h2 => relink_o h1 (fun e => h2 (e ▸ a4))), ?_⟩
  · rw [relink_n hne, List.map_append]
  · refine (hq.kid (k := k) (by rw [hk]; rcases List.mem_append.1 hkm with h | h <;> simp [h])).congr k (fun b hb => ?_)
    exact relink_o (a1 k hkm b hb).1 (a1 k hkm b hb).2
  · refine hx.reroot ?_ (fun b hb => relink_o (a2 b hb).1 (a2 b hb).2)
    rw [relink_c, info_set]
end Go.Proofs.Ytmfjbljdbkmkgaa.Dom

/- dom.ReplaceNode: its contract over a tree. -/
namespace Go.Proofs.Ytmfjbljdbkmkgaa.Dom
open Go.RowKit Go.Proofs.YtmfjbljdbkmkgaaW.PrintWords Go.Proofs.YtmfjbljdbkmkgaaW.PrintLast Go.Proofs.YtmfjbljdbkmkgaaW.PrintMore Go.Proofs.Ytmfjbljdbkmkgaa.PDom
set_option linter.unusedVariables false
set_option linter.unusedSimpArgs false

theorem Is.selfless {D : Tab} (wf : WF D) {q : Option Nat} {up : RT} (h : Is D q up) : q ≠ some up.id := fun e => by
  subst e
  obtain ⟨ip, h1, h2⟩ := wf.up h.root (info_p _ _)
  rw [h.root] at h1
  obtain rfl := Option.some.inj h1
  rw [info_k] at h2
  obtain ⟨k, hk, hkid⟩ := List.mem_map.1 h2
  exact h.proper hk (RT.id_mem k) hkid
theorem Is.parent_eq {D : Tab} {p q : Option Nat} {r y : RT} (h : Is D p r) (h' : Is D q y) (e : r.id = y.id) : p = q := by
  have h1 := h.root
  have h2 := h'.root
  rw [e, h2] at h1
  have := congrArg Info.parent (Option.some.inj h1)
  rw [info_p, info_p] at this
  exact this.symm
/-- Which blocks a change leaves in the table: the same. -/
theorem relink_same {D : Tab} {n c : Nat} {i ic : Info} {K : List Nat} {pc : Option Nat} (hn : D n ≠ none) (hc : D c ≠ none) (k : Nat) : relink D n c i ic K pc k = none ↔ D k = none := by
  unfold relink put
  by_cases h1 : k = c
  · subst h1; simp [hc]
  · by_cases h2 : k = n
    · subst h2; simp [h1, hn]
    · simp [h1, h2]
theorem Only.trans' {D D' : Tab} {w w' w'' : World} (h : Only D w w') (h' : Only D' w' w'') (hD : ∀ k, D k = none ↔ D' k = none) : Only D w w'' := h.trans h' (fun k hk _ => (hD k).1 hk)
end Go.Proofs.Ytmfjbljdbkmkgaa.Dom

/- The steps of a tree surgery, one by one, over trees: InsertBefore, RemoveChild, AppendChild. -/
namespace Go.Proofs.Ytmfjbljdbkmkgaa.Dom
open Go.RowKit Go.Proofs.YtmfjbljdbkmkgaaW.PrintWords Go.Proofs.YtmfjbljdbkmkgaaW.PrintLast Go.Proofs.YtmfjbljdbkmkgaaW.PrintMore Go.Proofs.Ytmfjbljdbkmkgaa.PDom
set_option linter.unusedVariables false
set_option linter.unusedSimpArgs false

theorem Is.below_root {D : Tab} (r : RT) : ∀ {p : Option Nat}, Is D p r → ∀ b ∈ RT.preL r.kids, ∃ q i, D b = some i ∧ i.parent = some q := by
  induction r using RT.induct with
  | h i t a d at_ ks ih =>
    intro p h b hb
    obtain ⟨k, hk, hbk⟩ := RT.mem_preL.1 hb
    have hkd := h.kid (show k ∈ (RT.node i t a d at_ ks).kids from hk)
    by_cases e : b = k.id
    · subst e
      exact ⟨_, _, hkd.root, info_p _ _⟩
    · refine ih k hk hkd b ?_
      cases k with
      | node i2 t2 a2 d2 at2 ks2 =>
        simp only [RT.pre, List.mem_cons] at hbk
        rcases hbk with hbk | hbk
        · exact absurd hbk e
        · exact hbk
/-- A root that is not this tree's own stands outside of it. -/
theorem Is.outside {D : Tab} {p : Option Nat} {r x : RT} (h : Is D p r) (hx : Is D none x) (hne : x.id ≠ r.id) : x.id ∉ r.pre := fun hm => by
  have hb : x.id ∈ RT.preL r.kids := by
    cases r with
    | node i t a d at_ ks =>
      simp only [RT.pre, List.mem_cons] at hm
      exact hm.resolve_left hne
  obtain ⟨q, i, h1, h2⟩ := h.below_root r _ hb
  rw [hx.root] at h1
  obtain rfl := Option.some.inj h1
  rw [info_p] at h2
  cases h2
theorem remove_step {w : World} {D : Tab} (hdom : Dom w D) {r x up : RT} {l : List Int} {k1 k2 : List RT} (hr : Is D none r) (hu : r.at_ l = some up) (hk : up.kids = k1 ++ x :: k2) :
    ∃ D1, (Calls Try.prog 98 #[ptr (some up.id), ptr (some x.id)] w fun e w1 => e = .returned (.tuple #[]) ∧ Dom w1 D1 ∧ Only D w w1) ∧
      Is D1 none (r.mapAt (fun _ => k1 ++ k2) l) ∧ Is D1 none x ∧ x.id ∉ (r.mapAt (fun _ => k1 ++ k2) l).pre ∧ (∀ k, D k = none ↔ D1 k = none) := by
  obtain ⟨q, hq⟩ := hr.up hu
  have hself := hq.selfless hdom.wf
  have hxm : x ∈ up.kids := by rw [hk]; simp
  have hx := hq.kid hxm
  obtain ⟨h1, h2⟩ := rt_remove hdom.wf hr hu hk hq
  refine ⟨_, remove_calls w D up.id x.id (up.info q) (x.info (some up.id)) (k1.map RT.id) (k2.map RT.id) hdom hq.root hx.root (by rw [info_k, hk, List.map_append]; rfl) (by rw [info_p]; exact hself), h1, h2, h1.outside h2 ?_, fun k => (relink_same (by rw [hq.root]; simp) (by rw [hx.root]; simp) k).symm⟩
  rw [RT.mapAt_id]
  intro e
  have := Is.parent_eq hx hr e
  cases this
/-- A child's place, below its parent's. -/
theorem at_kid {l : List Int} {k1 k2 : List RT} {y : RT} : ∀ {r up : RT}, r.at_ l = some up → up.kids = k1 ++ y :: k2 → r.at_ (l ++ [(k1.length : Int)]) = some y := by
  induction l with
  | nil =>
    intro r up h hk
    obtain rfl : r = up := by simpa [RT.at_] using h
    cases r with
    | node i t a d at_ ks =>
      have hk' : ks = k1 ++ y :: k2 := hk
      simp [RT.at_, RT.kids, hk']
  | cons j l ih =>
    intro r up h hk
    cases r with
    | node i t a d at_ ks =>
      simp only [RT.at_, List.cons_append, show (RT.node i t a d at_ ks).kids = ks from rfl] at h ⊢
      split at h
      · rename_i h0
        rw [if_pos h0]
        cases e : ks[j.toNat]? with
        | none => rw [e] at h; simp at h
        | some k =>
          rw [e] at h
          exact ih h hk
      · cases h
theorem mapAt_kid {f : List RT → List RT} {l : List Int} {k1 k2 : List RT} {y : RT} : ∀ {r up : RT}, r.at_ l = some up → up.kids = k1 ++ y :: k2 → r.mapAt f (l ++ [(k1.length : Int)]) = r.mapAt (fun _ => k1 ++ y.withKids (f y.kids) :: k2) l := by
  induction l with
  | nil =>
    intro r up h hk
    obtain rfl : r = up := by simpa [RT.at_] using h
    cases r with
    | node i t a d at_ ks =>
      have hk' : ks = k1 ++ y :: k2 := hk
      subst hk'
      cases y
      simp [RT.mapAt, RT.withKids, RT.kids]
  | cons j l ih =>
    intro r up h hk
    cases r with
    | node i t a d at_ ks =>
      simp only [RT.at_, List.cons_append, show (RT.node i t a d at_ ks).kids = ks from rfl] at h ⊢
      split at h
      · cases e : ks[j.toNat]? with
        | none => rw [e] at h; simp at h
        | some k =>
          rw [e] at h
          rw [RT.mapAt_cons _ _ _ _ _ _ _ _ _ e, RT.mapAt_cons _ _ _ _ _ _ _ _ _ e, ih h hk]
      · cases h
end Go.Proofs.Ytmfjbljdbkmkgaa.Dom

/- The guards of the laws on trees always tell something: zzFits2, name29, size29 right29, tree29. Plain facts. -/
namespace Go.Proofs.Ytmfjbljdbkmkgaa.PDom
open Go.RowKit Go.Proofs.YtmfjbljdbkmkgaaW.PrintWords Go.Proofs.YtmfjbljdbkmkgaaW.PrintLast Go.Proofs.YtmfjbljdbkmkgaaW.PrintMore Go.Proofs.Ytmfjbljdbkmkgaa.Dom
set_option linter.unusedVariables false
set_option linter.unusedSimpArgs false

theorem up {α : Type} {g : Nat → Option α} (hm : ∀ k, LeO (g k) (g (k + 1))) {k m : Nat} (h : k ≤ m) {r : α} (hk : g k = some r) : g m = some r := by
  induction h with
  | refl => exact hk
  | step _ ih => exact hm _ _ ih

theorem succ_wrap (j : Nat) (h : j ≤ 4611686018427387904) : wrap64 ((j : Int) + 1) = ((j + 1 : Nat) : Int) := by
  rw [wrap_same (by omega) (by omega)]
  omega

theorem fits3_loop (l : List S53) (hl : l.length ≤ 4611686018427387904) : ∀ (n j k : Nat), j + n = l.length → n < k → ∃ b, laws_zzFits3.l0 k l (l.length : Int) (j : Int) = some b
  | 0, j, k + 1, h, hk => by
    rw [laws_zzFits3.l0, if_neg (by omega)]
    exact ⟨_, rfl⟩
  | n + 1, j, k + 1, h, hk => by
    obtain ⟨b, hb⟩ := fits3_loop l hl n (j + 1) k (by omega) (by omega)
    rw [laws_zzFits3.l0, if_pos (by omega), if_pos (by omega), if_pos (by omega), succ_wrap j (by omega), hb]
    obtain ⟨c, hc⟩ : ∃ c, laws_zzFits4.f (rd_T53 l (j : Int)).f0 (rd_T53 l (j : Int)).f1 = some c := by
      unfold laws_zzFits4.f
      repeat' split
      all_goals exact ⟨_, rfl⟩
    rw [hc, Option.bind_some]
    split
    · exact ⟨_, rfl⟩
    · exact ⟨_, rfl⟩
  | n, j, 0, h, hk => absurd hk (Nat.not_lt_zero _)
theorem fits2_tot (f0 : Int) (f1 f2 : ByteArray) (f3 : List S53) (f4 : List S25) (hl : f3.length ≤ 4611686018427387904) (k : Nat) (hk : f3.length < k) : ∃ b, laws_zzFits2.f k f0 f1 f2 f3 f4 = some b := by
  obtain ⟨c, hc⟩ : ∃ c, laws_zzFits3.f k f3 = some c := by
    unfold laws_zzFits3.f
    split
    · exact ⟨_, rfl⟩
    · exact fits3_loop f3 hl f3.length 0 k (by omega) hk
  unfold laws_zzFits2.f
  rw [hc]
  simp only [Option.bind_some]
  repeat' split
  all_goals exact ⟨_, rfl⟩

inductive FitS : T → Prop
  | mk (t : T) (hn : t.f1.size ≤ 140737488351232) (ha : t.f3.length ≤ 4398046510976) (hk : t.f4.length ≤ 4398046510976) (h : ∀ y ∈ t.f4, FitS y) : FitS t
theorem FitS.fit {t : T} (h : FitS t) : Fit t := by
  induction h with
  | mk t hn ha hk h ih => exact Fit.mk t ha hk ih

end Go.Proofs.Ytmfjbljdbkmkgaa.PDom

/- What the laws' guards on a tree tell: it is in normal form, of 300 nodes at most, as deep as that. Plain facts. -/
namespace Go.Proofs.Ytmfjbljdbkmkgaa.PDom
open Go.RowKit Go.Proofs.YtmfjbljdbkmkgaaW.PrintWords Go.Proofs.YtmfjbljdbkmkgaaW.PrintLast Go.Proofs.YtmfjbljdbkmkgaaW.PrintMore Go.Proofs.Ytmfjbljdbkmkgaa.Dom
set_option linter.unusedVariables false
set_option linter.unusedSimpArgs false

theorem rd_at (l : List S25) {j : Nat} (h : j < l.length) : rd_T25 l (j : Int) = l[j] := by simp [rd_T25, List.getD_eq_getElem?_getD, List.getElem?_eq_getElem h]
def NodeOk (root : Bool) (t : T) : Prop :=
  ((t.f0 = 1 ∨ t.f0 = 2) ∧ t.f1 = ⟨#[]⟩ ∧ t.f3 = [] ∧ t.f4 = []) ∨ (t.f0 = 3 ∧ root = true ∧ t.f1 = ⟨#[]⟩ ∧ t.f2 = ⟨#[]⟩ ∧ t.f3 = []) ∨ (t.f0 = 0 ∧ t.f2 = ⟨#[]⟩)
inductive Norm : Bool → T → Prop
  | mk (root : Bool) (t : T) (h : NodeOk root t) (hk : ∀ y ∈ t.f4, Norm false y) : Norm root t
/-! ### How many nodes -/
mutual
def countT : T → Nat
  | ⟨_, _, _, _, ks⟩ => 1 + countTL ks
def countTL : List T → Nat
  | [] => 0
  | k :: ks => countT k + countTL ks
end
theorem countT_eq (t : T) : countT t = 1 + countTL t.f4 := by cases t; rfl
end Go.Proofs.Ytmfjbljdbkmkgaa.PDom

/- impl.AllNodes of a tree in normal form: the places of its nodes, in order. -/
namespace Go.Proofs.Ytmfjbljdbkmkgaa.PDom
open Go.RowKit Go.Proofs.YtmfjbljdbkmkgaaW.PrintWords Go.Proofs.YtmfjbljdbkmkgaaW.PrintLast Go.Proofs.YtmfjbljdbkmkgaaW.PrintMore Go.Proofs.Ytmfjbljdbkmkgaa.Dom
set_option linter.unusedVariables false
set_option linter.unusedSimpArgs false

mutual
/-- The places of a tree's nodes, each ahead of those in it. -/
def pathsT (p : List Int) : T → List (List Int)
  | ⟨_, _, _, _, ks⟩ => p :: pathsTL p 0 ks
def pathsTL (p : List Int) (j : Nat) : List T → List (List Int)
  | [] => []
  | k :: ks => pathsT (p ++ [(j : Int)]) k ++ pathsTL p (j + 1) ks
end
theorem pathsT_eq (p : List Int) (t : T) : pathsT p t = p :: pathsTL p 0 t.f4 := by cases t; rfl
theorem kids_norm {root : Bool} {t : T} (h : Norm root t) : kidsT t = t.f4 := by
  obtain ⟨_, _, h1, _⟩ := h
  unfold kidsT
  by_cases hf : flat t
  · rw [if_pos hf]
    rcases h1 with ⟨_, _, _, h4⟩ | ⟨h3, _⟩ | ⟨h0, _⟩
    · exact h4.symm
    · unfold flat at hf; omega
    · unfold flat at hf; omega
  · rw [if_neg hf]
theorem Norm.kid {root : Bool} {t y : T} (h : Norm root t) (hy : y ∈ t.f4) : Norm false y := by
  obtain ⟨_, _, _, hk⟩ := h
  exact hk y hy
theorem told_open {t : T} {i : Nat} {ty a : Int} {d : ByteArray} {at_ : List (ByteArray × ByteArray)} {ks : List RT} (h : TellsT t (.node i ty a d at_ ks)) {root : Bool} (hn : Norm root t) :
    t.f4.length = ks.length ∧ ∀ j (h1 : j < t.f4.length) (h2 : j < ks.length), TellsT t.f4[j] ks[j] := by
  cases h with
  | mk _ _ _ _ ha hl hk =>
    have e := kids_norm hn
    simp only [e] at hl hk
    exact ⟨hl, hk⟩
theorem told_paths (r : RT) : ∀ (t : T) (root : Bool), Norm root t → TellsT t r → (∀ p, r.paths p = pathsT p t) ∧ r.pre.length = countT t := by
  induction r using RT.induct with
  | h i ty a d at_ ks ih =>
    intro t root hn ht
    obtain ⟨hl, hk⟩ := told_open ht hn
    have key : ∀ (n j : Nat), ks.length = j + n → (∀ p, RT.pathsL p j (ks.drop j) = pathsTL p j (t.f4.drop j)) ∧ (RT.preL (ks.drop j)).length = countTL (t.f4.drop j) := by
      intro n
      induction n with
      | zero =>
        intro j hj
        rw [List.drop_eq_nil_of_le (by omega), List.drop_eq_nil_of_le (by omega)]
        exact ⟨fun _ => rfl, rfl⟩
      | succ n ihn =>
        intro j hj
        have h1 : j < ks.length := by omega
        have h2 : j < t.f4.length := by omega
        obtain ⟨e1, e2⟩ := ihn (j + 1) (by omega)
        obtain ⟨e3, e4⟩ := ih ks[j] (List.getElem_mem h1) t.f4[j] false (hn.kid (List.getElem_mem h2)) (hk j h2 h1)
        rw [List.drop_eq_getElem_cons h1, List.drop_eq_getElem_cons h2]
        refine ⟨fun p => ?_, ?_⟩
        · simp only [RT.pathsL, pathsTL]
          rw [e1, e3]
        · simp only [RT.preL, countTL, List.length_append]
          rw [e2, e4]
    obtain ⟨e1, e2⟩ := key ks.length 0 (by omega)
    simp only [List.drop_zero] at e1 e2
    refine ⟨fun p => ?_, ?_⟩
    · rw [pathsT_eq]
      simp only [RT.paths]
      rw [e1]
    · rw [countT_eq]
      simp only [RT.pre, List.length_cons]
      omega
end Go.Proofs.Ytmfjbljdbkmkgaa.PDom

/- Places in a tree as plain data and among its nodes; first children and siblings at places. Plain facts. -/
namespace Go.Proofs.Ytmfjbljdbkmkgaa.PDom
open Go.RowKit Go.Proofs.YtmfjbljdbkmkgaaW.PrintWords Go.Proofs.YtmfjbljdbkmkgaaW.PrintLast Go.Proofs.YtmfjbljdbkmkgaaW.PrintMore Go.Proofs.Ytmfjbljdbkmkgaa.Dom
set_option linter.unusedVariables false
set_option linter.unusedSimpArgs false

theorem at_append (r : RT) (l m : List Int) : r.at_ (l ++ m) = (r.at_ l).bind fun y => y.at_ m := by
  induction l generalizing r with
  | nil => rfl
  | cons k l ih =>
    simp only [List.cons_append, RT.at_]
    by_cases h : 0 ≤ k
    · rw [if_pos h, if_pos h]
      cases r.kids[k.toNat]? with
      | none => rfl
      | some y => simp only [Option.bind_some]; exact ih y
    · rw [if_neg h, if_neg h]; rfl
/-! ### Which one is found -/
/-- A tree and its node, at the same place in two rows. -/
structure Beside (D : Tab) (t : T) (k : RT) : Prop where
  told : TellsT t k
  is : ∃ p, Is D p k
  norm : Norm false t
theorem Beside.el {D : Tab} {t : T} {k : RT} (h : Beside D t k) : isE D k.id = (t.f0 == 0) := by
  obtain ⟨p, hi⟩ := h.is
  have ht := h.told
  have hn := h.norm
  obtain ⟨_, _, hok, _⟩ := hn
  cases ht with
  | mk _ i a ks ha hl hk =>
    have e : tyAt D i = tyOf t.f0 := by
      have := hi.root
      unfold tyAt
      show (match D i with | some i => i.ty | none => 0) = _
      rw [show D i = some _ from this]
      rfl
    show (tyAt D i == 3) = _
    rw [e]
    unfold tyOf
    rcases hok with ⟨h1 | h1, _⟩ | ⟨h1, _⟩ | ⟨h1, _⟩ <;> (rw [h1]; rfl)
end Go.Proofs.Ytmfjbljdbkmkgaa.PDom

/- impl.guarded, over a function that returns: false, and what that function left. -/
namespace Go.Proofs.Ytmfjbljdbkmkgaa.Guard
open Go.RowKit Go.Proofs.YtmfjbljdbkmkgaaW.PrintWords Go.Proofs.YtmfjbljdbkmkgaaW.PrintLast Go.Proofs.YtmfjbljdbkmkgaaW.PrintMore
set_option linter.unusedVariables false
set_option linter.unusedSimpArgs false

theorem catch_idle (p : Addr) (w : World) :
    CallsD Try.prog 94 #[.pointer (some p)] .returning w fun e u' w' => e = .returned (.tuple #[]) ∧ u' = .returning ∧ w' = w := by
  refine callsD_of_wpS Try.func94 rfl fun c₀ cs hu => ?_
  apply wpS_seq
  apply wpS_region
  simp [wpOpsS, go_sem, recoverD, hu, Try.ntmps94, Exit.thenS]
  refine wpS_cond (t := false) (by simp [Act.eval, Array.replicate]) ?_
  simp only [Bool.false_eq_true, if_false]
  refine wpS_of_wp (wp_skip ?_)
  cases c₀
  simp_all [bodyPostS, results, Try.results94]
theorem guarded_calls (F : Nat) (cap : Array Value) (w : World) (Q : World → Prop) (hF : ∀ (args : Array Value) (w : World), (callFunc F args).run Try.prog w = .ok (.enter F args) w)
    (HC : Calls Try.prog F cap (w.alloc (.cells #[.bool false] 4)) fun e w' => e = .returned (.tuple #[]) ∧ w'.heap[w.heap.size]? = some (.cells #[.bool false] 4 (0, 0)) ∧ Q w') :
    Calls Try.prog 63 #[.func (.func F) #[] cap] w fun e w' => e = .returned (.bool false) ∧ ∃ w2, Q w2 ∧ w2.heap[w.heap.size]? = some (.cells #[.bool false] 4 (0, 0)) ∧ w' = w2.setCell ⟨w.heap.size, 0, none⟩ (.bool false) := by
  have hmf : ∀ (fn : Fn) (first cap : Array Value) (w : World), (Instr.makeFunc fn first cap).run Try.prog w = .ok (.func fn first cap) w := fun _ _ _ _ => rfl
  have HC0 := Aside0.mk HC
  clear HC
  go_enter_defers Try.func63, Try.ntmps63
  go_wp2_with fail
  refine HC0.out.mono ?_
  rintro e w2 ⟨rfl, hb, hq⟩
  have c2 := blk_cell hb 0
  have f2 := blk_frozen hb 0
  have HB := Aside0.mk hb
  have HQ := Aside0.mk hq
  clear hb hq
  go_wp2_with fail
  refine leaves_cons (f := 94) (args := #[.pointer (some ⟨w.heap.size, 0, none⟩)]) (by simp) (by simp [go_sem]) ?_
  refine (catch_idle ⟨w.heap.size, 0, none⟩ _).mono ?_
  rintro e u' w'' ⟨rfl, rfl, rfl⟩
  have c3 : (w2.setCell ⟨w.heap.size, 0, none⟩ (.bool false)).cell? ⟨w.heap.size, 0, none⟩ = some (.bool false) := by rw [blk_cell (blk_set HB.out 0 (.bool false))]; rfl
  simp [Leaves, settle, results, Try.results63, go_sem, c3]
  exact ⟨w2, HQ.out, HB.out, rfl⟩
end Go.Proofs.Ytmfjbljdbkmkgaa.Guard

/- impl.changedAt, over a function that changes a tree: what it returns. -/
namespace Go.Proofs.Ytmfjbljdbkmkgaa.Dom
open Go.RowKit Go.Proofs.YtmfjbljdbkmkgaaW.PrintWords Go.Proofs.YtmfjbljdbkmkgaaW.PrintLast Go.Proofs.YtmfjbljdbkmkgaaW.PrintMore Go.Proofs.Ytmfjbljdbkmkgaa.PDom
set_option linter.unusedVariables false
set_option linter.unusedSimpArgs false

theorem Dom.far {w : World} {D : Tab} (h : Dom w D) {g t : Nat} {cells : Array Value} (hb : w.heap[g]? = some (.cells cells t (0, 0))) (hD : D g = none) (ht : 106 ≠ t) (j : Nat) (u : Value) : Dom (w.setCell ⟨g, j, none⟩ u) D :=
  ⟨h.wf, fun {b i} hd => by
    obtain ⟨v, h1, h2⟩ := h.has hd
    refine ⟨v, h1.far (p := ⟨g, j, none⟩) (fun e => by rw [show b = g from e, hD] at hd; cases hd) u, ?_⟩
    exact Kd.R_set h2 hb (fun q hq => by
      have : q = 106 := by simpa [kA, Kd.iso, Kd.pair, Kd.string, Kd.scalar] using hq
      rw [this]
      exact ht) j u⟩
/-- What a tree becomes. -/
def Turns (w w' : World) (D : Tab) (r : RT) (u : T) : Prop := ∃ D' r', Dom w' D' ∧ Is D' none r' ∧ r'.id = r.id ∧ RFit r' ∧ r'.toT = u ∧ Only D w w' ∧ (∀ k, k < w.heap.size → D k = none → D' k = none)
theorem push_size (w : World) (o : Obj) : (w.alloc o).heap.size = w.heap.size + 1 := Array.size_push _
end Go.Proofs.Ytmfjbljdbkmkgaa.Dom

/- What is told of a tree that was made: the tree itself. Plain facts. -/
namespace Go.Proofs.Ytmfjbljdbkmkgaa.PDom
open Go.RowKit Go.Proofs.YtmfjbljdbkmkgaaW.PrintWords Go.Proofs.YtmfjbljdbkmkgaaW.PrintLast Go.Proofs.YtmfjbljdbkmkgaaW.PrintMore Go.Proofs.Ytmfjbljdbkmkgaa.Dom
set_option linter.unusedVariables false
set_option linter.unusedSimpArgs false

theorem toT_norm (r : RT) : ∀ (t : T) (root : Bool), Norm root t → TellsT t r → r.toT = t := by
  induction r using RT.induct with
  | h i ty a d at_ ks ih =>
    intro t root hn ht
    obtain ⟨hl, hk⟩ := told_open ht hn
    have hkids : RT.toTL ks = t.f4 := by
      rw [RT.toTL_map]
      apply List.ext_getElem (by rw [List.length_map]; exact hl.symm)
      intro j h1 h2
      rw [List.getElem_map]
      have h3 : j < ks.length := by rw [List.length_map] at h1; exact h1
      exact ih ks[j] (List.getElem_mem h3) _ false (hn.kid (List.getElem_mem h2)) (hk j h2 h3)
    cases ht with
    | mk _ _ _ _ ha hl2 hk2 =>
      cases hn with
      | mk _ _ h _ =>
        obtain ⟨f0, f1, f2, f3, f4⟩ := t
        simp only at hkids
        simp only [RT.toT, tyOf, dataOf, attrsOf, flat]
        rcases h with ⟨h0, h1, h3, h4⟩ | ⟨h0, hr, h1, h2, h3⟩ | ⟨h0, h2⟩
        · simp only at h0 h1 h3 h4
          subst h1 h3 h4
          rcases h0 with rfl | rfl
          · simp
          · simp
        · simp only at h0 h1 h2 h3
          subst h0 h1 h2 h3
          simp [hkids]
        · simp only at h0 h2
          subst h0 h2
          simp [hkids, List.map_map, Function.comp_def]
theorem RFit.mapAt {f : List RT → List RT} (l : List Int) : ∀ (r up : RT), r.at_ l = some up → RFit r → (f up.kids).length ≤ 1000000000000 → (∀ k ∈ f up.kids, RFit k) → RFit (r.mapAt f l) := by
  induction l with
  | nil =>
    intro r up hu hr hl hk
    obtain rfl : r = up := by simpa [RT.at_] using hu
    cases hr with
    | mk i ty a d at_ ks h3 h4 h5 => exact RFit.mk _ _ _ _ _ _ h3 hl hk
  | cons j l ih =>
    intro r up hu hr hl hk
    cases hr with
    | mk i ty a d at_ ks h3 h4 h5 =>
      simp only [RT.at_] at hu
      split at hu
      case isFalse => cases hu
      obtain ⟨k, hkj, hu⟩ := Option.bind_eq_some_iff.1 hu
      have hk' : ks[j.toNat]? = some k := hkj
      rw [RT.mapAt_cons f i ty a d at_ ks j l hk']
      refine RFit.mk _ _ _ _ _ _ h3 (by rw [List.length_set]; exact h4) (fun x hx => ?_)
      rcases List.mem_or_eq_of_mem_set hx with hx | rfl
      · exact h5 x hx
      · exact ih k up hu (h5 k (List.mem_of_getElem? hk')) hl hk
theorem RFit.at {l : List Int} : ∀ {r up : RT}, r.at_ l = some up → RFit r → RFit up := by
  induction l with
  | nil =>
    intro r up hu hr
    obtain rfl : r = up := by simpa [RT.at_] using hu
    exact hr
  | cons j l ih =>
    intro r up hu hr
    simp only [RT.at_] at hu
    split at hu
    case isFalse => cases hu
    obtain ⟨k, hkj, hu2⟩ := Option.bind_eq_some_iff.1 hu
    have hkm : k ∈ r.kids := List.mem_of_getElem? hkj
    refine ih hu2 ?_
    cases hr with
    | mk i ty a d at_ ks h3 h4 h5 => exact h5 k hkm
end Go.Proofs.Ytmfjbljdbkmkgaa.PDom

/- Who stands within whom in a tree of nodes, and what becomes of it when a node's children come up into its place. Plain facts. -/
namespace Go.Proofs.Ytmfjbljdbkmkgaa.Dom
open Go.RowKit Go.Proofs.YtmfjbljdbkmkgaaW.PrintWords Go.Proofs.YtmfjbljdbkmkgaaW.PrintLast Go.Proofs.YtmfjbljdbkmkgaaW.PrintMore Go.Proofs.Ytmfjbljdbkmkgaa.PDom
set_option linter.unusedVariables false
set_option linter.unusedSimpArgs false

/-- A property of a node in which its children have no part. -/
def Own (m : RT → Bool) : Prop := ∀ r K, m (r.withKids K) = m r
/-- One of the nodes above a place has it. -/
def RT.anyUp (m : RT → Bool) : RT → List Int → Bool
  | _, [] => false
  | r, j :: l => m r || (match r.kids[j.toNat]? with | some k => RT.anyUp m k l | none => false)
theorem at_cons {r y : RT} {j : Int} {l : List Int} (h : r.at_ (j :: l) = some y) : 0 ≤ j ∧ ∃ k, r.kids[j.toNat]? = some k ∧ k.at_ l = some y := by
  simp only [RT.at_] at h
  split at h
  · rename_i h0
    obtain ⟨k, hk, e⟩ := Option.bind_eq_some_iff.1 h
    exact ⟨h0, k, hk, e⟩
  · cases h
theorem at_cons_mk {r y k : RT} {j : Nat} {l : List Int} (hk : r.kids[j]? = some k) (h : k.at_ l = some y) : r.at_ ((j : Int) :: l) = some y := by
  simp only [RT.at_]
  rw [if_pos (by omega), show ((j : Int).toNat) = j from by omega, hk]
  exact h
theorem anyUp_cons {m : RT → Bool} {r k : RT} {j : Int} {l : List Int} (hk : r.kids[j.toNat]? = some k) : r.anyUp m (j :: l) = (m r || k.anyUp m l) := by
  simp only [RT.anyUp, hk]
theorem anyUp_append {m : RT → Bool} (p : List Int) : ∀ (r k : RT) (l : List Int), r.at_ p = some k → r.anyUp m (p ++ l) = (r.anyUp m p || k.anyUp m l) := by
  induction p with
  | nil =>
    intro r k l h
    obtain rfl : r = k := by simpa [RT.at_] using h
    simp [RT.anyUp]
  | cons j p ih =>
    intro r k l h
    obtain ⟨_, c, hc, e⟩ := at_cons h
    rw [List.cons_append, anyUp_cons hc, anyUp_cons hc, ih c k l e, Bool.or_assoc]
/-- Each node of the one tree is one of the other, where it stands below at least as many. -/
structure Emb (m : RT → Bool) (r' r : RT) : Prop where
  idd : r'.id = r.id
  own : m r' = m r
  way : ∀ l' y', r'.at_ l' = some y' → ∃ l y, r.at_ l = some y ∧ y.id = y'.id ∧ m y = m y' ∧ (r'.anyUp m l' = true → r.anyUp m l = true)
theorem Emb.refl (m : RT → Bool) (r : RT) : Emb m r r := ⟨rfl, rfl, fun l y h => ⟨l, y, h, rfl, rfl, fun h => h⟩⟩
theorem Emb.node {m : RT → Bool} {r' r : RT} (hid : r'.id = r.id) (hm : m r' = m r) (h : ∀ (j : Nat) k', r'.kids[j]? = some k' → ∃ (j0 : Nat) (p : List Int) (k : RT), r.at_ ((j0 : Int) :: p) = some k ∧ Emb m k' k) : Emb m r' r := by
  refine ⟨hid, hm, fun l' y' hy => ?_⟩
  cases l' with
  | nil =>
    obtain rfl : r' = y' := by simpa [RT.at_] using hy
    exact ⟨[], r, rfl, hid.symm, hm.symm, fun h => by simp [RT.anyUp] at h⟩
  | cons j l' =>
    obtain ⟨_, k', hk', e⟩ := at_cons hy
    obtain ⟨j0, p, k, hp, E⟩ := h _ _ hk'
    obtain ⟨l, y, h1, h2, h3, h4⟩ := E.way _ _ e
    refine ⟨((j0 : Int) :: p) ++ l, y, by rw [at_append, hp]; exact h1, h2, h3, fun hu => ?_⟩
    rw [anyUp_cons hk'] at hu
    rw [anyUp_append _ _ _ _ hp]
    obtain ⟨_, c, hc, _⟩ := at_cons hp
    rw [anyUp_cons hc, ← hm]
    cases hmr : m r' with
    | true => simp
    | false =>
      rw [hmr, Bool.false_or] at hu
      rw [h4 hu]
      simp
theorem Emb.mapAt {m : RT → Bool} (hO : Own m) {f : List RT → List RT} : ∀ (l : List Int) (r up : RT), r.at_ l = some up → Emb m (up.withKids (f up.kids)) up → Emb m (r.mapAt f l) r := by
  intro l
  induction l with
  | nil =>
    intro r up h E
    obtain rfl : r = up := by simpa [RT.at_] using h
    cases r
    exact E
  | cons j l ih =>
    intro r up h E
    obtain ⟨h0, k, hk, e⟩ := at_cons h
    cases r with
    | node i t a d at_ ks =>
      rw [RT.mapAt_cons _ _ _ _ _ _ _ _ _ (show ks[j.toNat]? = some k from hk)]
      have e1 := ih k up e E
      refine Emb.node rfl (hO (.node i t a d at_ ks) _) (fun i' k' h' => ?_)
      have h'' : (ks.set j.toNat (k.mapAt f l))[i']? = some k' := h'
      by_cases hi : j.toNat = i'
      · subst hi
        have hlt : j.toNat < ks.length := (List.getElem?_eq_some_iff.1 hk).1
        rw [List.getElem?_set_self hlt] at h''
        obtain rfl := Option.some.inj h''
        exact ⟨j.toNat, [], k, at_cons_mk (l := []) hk rfl, e1⟩
      · rw [List.getElem?_set_ne hi] at h''
        exact ⟨i', [], k', at_cons_mk (l := []) h'' rfl, Emb.refl _ _⟩
/-! ### Which nodes a changed tree has -/
/-- Each node of a tree has a place, and one alone. -/
theorem place_of (r : RT) : ∀ b ∈ r.pre, ∃ l y, r.at_ l = some y ∧ y.id = b := by
  induction r using RT.induct with
  | h i t a d at_ ks ih =>
    intro b hb
    rcases List.mem_cons.1 hb with h1 | h1
    · exact ⟨[], _, rfl, h1.symm⟩
    · obtain ⟨k, hk, hbk⟩ := RT.mem_preL.1 h1
      obtain ⟨l, y, h2, h3⟩ := ih k hk b hbk
      obtain ⟨n, hn, rfl⟩ := List.mem_iff_getElem.1 hk
      exact ⟨(n : Int) :: l, y, at_cons_mk (List.getElem?_eq_getElem hn) h2, h3⟩
theorem at_mem {l : List Int} {r y : RT} (h : r.at_ l = some y) : y.id ∈ r.pre := RT.sub_pre l r y h _ (RT.id_mem y)
theorem place_one : ∀ (l1 l2 : List Int) (r y1 y2 : RT), r.pre.Nodup → r.at_ l1 = some y1 → r.at_ l2 = some y2 → y1.id = y2.id → l1 = l2 := by
  intro l1
  induction l1 with
  | nil =>
    intro l2 r y1 y2 hn h1 h2 e
    cases l2 with
    | nil => rfl
    | cons j l2 =>
      obtain rfl : r = y1 := by simpa [RT.at_] using h1
      obtain ⟨_, k, hk, e2⟩ := at_cons h2
      cases r with
      | node i t a d at_ ks =>
        have := (nodup_kid (k' := k) hn hk).1
        exact absurd (by rw [show i = y2.id from e]; exact at_mem e2) this
  | cons j1 l1 ih =>
    intro l2 r y1 y2 hn h1 h2 e
    obtain ⟨p1, k1, hk1, e1⟩ := at_cons h1
    cases l2 with
    | nil =>
      obtain rfl : r = y2 := by simpa [RT.at_] using h2
      cases r with
      | node i t a d at_ ks =>
        have := (nodup_kid (k' := k1) hn hk1).1
        exact absurd (by rw [show i = y1.id from e.symm]; exact at_mem e1) this
    | cons j2 l2 =>
      obtain ⟨p2, k2, hk2, e2⟩ := at_cons h2
      cases r with
      | node i t a d at_ ks =>
        obtain ⟨_, q2, q3⟩ := nodup_kid (k' := k2) hn hk1
        by_cases hj : j2.toNat = j1.toNat
        · have hjj : j2 = j1 := by omega
          subst hjj
          rw [hk1] at hk2
          obtain rfl := Option.some.inj hk2
          rw [ih l2 k1 y1 y2 q2 e1 e2 e]
        · exact absurd (by rw [e]; exact at_mem e2 : y1.id ∈ k2.pre) (fun hm => q3 _ hj hk2 _ hm (at_mem e1))
/-! ### A property of all nodes -/
inductive RT.All (P : RT → Prop) : RT → Prop
  | mk (r : RT) (h : P r) (hk : ∀ k ∈ r.kids, RT.All P k) : RT.All P r
theorem RT.All.at {P : RT → Prop} {l : List Int} : ∀ {r y : RT}, r.at_ l = some y → RT.All P r → RT.All P y := by
  induction l with
  | nil =>
    intro r y h ha
    obtain rfl : r = y := by simpa [RT.at_] using h
    exact ha
  | cons j l ih =>
    intro r y h ha
    obtain ⟨_, k, hk, e⟩ := at_cons h
    cases ha with
    | mk _ _ hks => exact ih e (hks k (List.mem_of_getElem? hk))
theorem RT.All.mapAt {P : RT → Prop} (hO : ∀ r K, P r → P (r.withKids K)) {f : List RT → List RT} : ∀ (l : List Int) (r up : RT), r.at_ l = some up → RT.All P r → (∀ k ∈ f up.kids, RT.All P k) → RT.All P (r.mapAt f l) := by
  intro l
  induction l with
  | nil =>
    intro r up h ha hf
    obtain rfl : r = up := by simpa [RT.at_] using h
    cases r with
    | node i t a d at_ ks =>
      cases ha with
      | mk _ hp hks => exact ⟨_, hO _ (f ks) hp, hf⟩
  | cons j l ih =>
    intro r up h ha hf
    obtain ⟨_, k, hk, e⟩ := at_cons h
    cases r with
    | node i t a d at_ ks =>
      rw [RT.mapAt_cons _ _ _ _ _ _ _ _ _ (show ks[j.toNat]? = some k from hk)]
      cases ha with
      | mk _ hp hks =>
        refine ⟨_, hO _ (ks.set j.toNat (k.mapAt f l)) hp, fun y hy => ?_⟩
        rcases List.mem_or_eq_of_mem_set hy with h2 | h2
        · exact hks y h2
        · subst h2
          exact ih k up e (hks k (List.mem_of_getElem? hk)) hf
/-! ### The text -/
mutual
def RT.tx : RT → List UInt8
  | .node _ t _ d _ ks => if t = 1 then d.data.toList else if t = 4 then [] else RT.txL ks
def RT.txL : List RT → List UInt8
  | [] => []
  | k :: ks => k.tx ++ RT.txL ks
end
/-! ### One within another -/
mutual
def RT.within (m : RT → Bool) (b : Bool) : RT → Bool
  | .node i t a d at_ ks => (m (.node i t a d at_ []) && b) || RT.withinL m (b || m (.node i t a d at_ [])) ks
def RT.withinL (m : RT → Bool) (b : Bool) : List RT → Bool
  | [] => false
  | k :: ks => RT.within m b k || RT.withinL m b ks
end
/-! ### What stands while the nodes of a tree are gone through -/
structure Red (m : RT → Bool) (r0 r : RT) (j : Nat) : Prop where
  id : r.id = r0.id
  text : r.tx = r0.tx
  left : ∀ x ∈ r0.pre.drop j, x ∈ r.pre
  sub : ∀ x ∈ r.pre, x ∈ r0.pre
  done : ∀ l y, r.at_ l = some y → y.id ∈ r0.pre.take j → ¬ (m y = true ∧ r.anyUp m l = true)
  same : RT.within m false r0 = false → r = r0
  len : r.pre.length ≤ r0.pre.length
theorem Red.start (m : RT → Bool) (r : RT) : Red m r r 0 := ⟨rfl, rfl, fun x h => by simpa using h, fun x h => h, fun l y _ h => by simp at h, fun _ => rfl, Nat.le_refl _⟩
theorem take_mem {l : List Nat} {j : Nat} (h : j < l.length) {x : Nat} (hx : x ∈ l.take (j + 1)) : x ∈ l.take j ∨ x = l[j] := by
  rw [List.take_succ_eq_append_getElem h] at hx
  rcases List.mem_append.1 hx with h1 | h1
  · exact .inl h1
  · exact .inr (List.mem_singleton.1 h1)
/-- The node isn't one within another. -/
theorem Red.keep {m : RT → Bool} {r0 r : RT} {j : Nat} (h : Red m r0 r j) (hj : j < r0.pre.length) (hn : r.pre.Nodup) {l : List Int} {y : RT} (hy : r.at_ l = some y) (hid : y.id = r0.pre[j]) (hb : ¬ (m y = true ∧ r.anyUp m l = true)) : Red m r0 r (j + 1) :=
  ⟨h.id, h.text, fun x hx => h.left x (by
    have : x ∈ (r0.pre.drop j).drop 1 := by rw [List.drop_drop]; exact hx
    exact List.mem_of_mem_drop this), h.sub, fun l' y' hy' hm => by
    rcases take_mem hj hm with h1 | h1
    · exact h.done l' y' hy' h1
    · obtain rfl := place_one l' l r y' y hn hy' hy (h1.trans hid.symm)
      rw [hy] at hy'
      obtain rfl := Option.some.inj hy'
      exact hb, h.same, h.len⟩
/-- Attributes that can be counted, and a kind that is known. -/
def okN (r : RT) : Prop := r.attrs.length ≤ 4398046510976 ∧ (r.ty = 1 ∨ r.ty = 3 ∨ r.ty = 4)
theorem rfit_all (r : RT) : RT.All okN r → r.pre.length ≤ 1000000000000 → RFit r := by
  induction r using RT.induct with
  | h i t a d at_ ks ih =>
    intro ha hl
    cases ha with
    | mk _ hp hk =>
      have h1 := RT.kids_lt (.node i t a d at_ ks)
      refine .mk i t a d at_ ks hp.1 ?_ (fun k hkm => ih k hkm (hk k hkm) ?_)
      · have : ks.length < (RT.node i t a d at_ ks).pre.length := h1
        omega
      · have := RT.kid_pre (r := .node i t a d at_ ks) hkm
        omega
end Go.Proofs.Ytmfjbljdbkmkgaa.Dom

/- dom.FindFirstNode, FindAllNodes, ContainsNode: the first node, and all nodes, below a node of which a function is true. -/
namespace Go.Proofs.Ytmfjbljdbkmkgaa.Dom
open Go.RowKit Go.Proofs.YtmfjbljdbkmkgaaW.PrintWords Go.Proofs.YtmfjbljdbkmkgaaW.PrintLast Go.Proofs.YtmfjbljdbkmkgaaW.PrintMore Go.Proofs.Ytmfjbljdbkmkgaa.PDom
set_option linter.unusedVariables false
set_option linter.unusedSimpArgs false

def firstD (D : Tab) (x : Nat) : Option Nat := match D x with
  | some i => i.kids.head?
  | none => none
def nextD (D : Tab) (x : Nat) : Option Nat := match D x with
  | some i => nextIn (sibs D i) x
  | none => none
theorem nav_all {D : Tab} (wf : WF D) : Nav D (firstD D) (nextD D) (fun _ => true) := by
  constructor
  · intro p i t a d at_ ks h
    have e : D i = some _ := h.root
    unfold firstD
    rw [e]
    show (ks.map RT.id).head? = _
    cases ks <;> rfl
  · intro p i t a d at_ l1 k l2 h
    have hk := h.kid (r := .node i t a d at_ (l1 ++ k :: l2)) (k := k) (by simp [RT.kids])
    have hroot : D i = some _ := h.root
    have hp : (k.info (some i)).parent = some i := by cases k; rfl
    have hnd := wf.nodup hroot
    have e1 : ((RT.node i t a d at_ (l1 ++ k :: l2)).info p).kids = l1.map RT.id ++ k.id :: l2.map RT.id := by simp [RT.info]
    rw [e1] at hnd
    unfold nextD
    rw [hk.root]
    show nextIn (sibs D (k.info (some i))) k.id = _
    rw [sibs_some hp, kidsOf_some hroot, e1, nextIn_split (nodup_split hnd).1]
    cases l2 <;> rfl
end Go.Proofs.Ytmfjbljdbkmkgaa.Dom

/- impl.named: a function that tells whether a node is an element of one of some names. -/
namespace Go.Proofs.Ytmfjbljdbkmkgaa.Dom
open Go.RowKit Go.Proofs.YtmfjbljdbkmkgaaW.PrintWords Go.Proofs.YtmfjbljdbkmkgaaW.PrintLast Go.Proofs.YtmfjbljdbkmkgaaW.PrintMore Go.Proofs.Ytmfjbljdbkmkgaa.PDom
set_option linter.unusedVariables false
set_option linter.unusedSimpArgs false

def elemD (D : Tab) (names : List ByteArray) (x : Nat) : Bool := match D x with
  | some i => i.ty == 3 && names.any fun s => i.data.toList == s.toList
  | none => false
theorem any_dropN {α : Type} {l : List α} {P : α → Bool} {m : Nat} (h : m < l.length) : (l.drop m).any P = if P l[m] = true then true else (l.drop (m + 1)).any P := by
  rw [List.drop_eq_getElem_cons h, List.any_cons]
  cases P l[m] <;> rfl
set_option maxHeartbeats 400000 in
set_option maxRecDepth 100000 in
theorem named1_calls (w : World) (D : Tab) (hdom : Dom w D) (b : Nat) (A : Option Addr) (c : Nat) (names : List ByteArray) (hb : w.heap[b]? = some (.cells #[.slice A names.length c] 28 (0, 0))) (hr : Kd.string.C w A names.length names) (hl : names.length ≤ 4611686018427387904) :
    TellsB w D 61 #[.pointer (some ⟨b, 0, none⟩)] (elemD D names) := by
  intro x hx
  cases hi : D x with
  | none => exact absurd hi hx
  | some i =>
    have e : elemD D names x = (i.ty == 3 && names.any fun s => i.data.toList == s.toList) := by unfold elemD; rw [hi]
    rw [e]
    have HN := Aside0.mk (node_calls w D x i hdom hi)
    have c5 := ty_cell hdom hi
    have e5 : tyAt D x = i.ty := by unfold tyAt; rw [hi]
    rw [e5] at c5
    have HR := Aside0.mk hr
    have c0 : w.cell? ⟨b, 0, none⟩ = some (.slice A names.length c) := by rw [blk_cell hb]; rfl
    clear hx hi hb hr e e5 hdom
    obtain ⟨p, ks, ty, at_, d, as_⟩ := i
    by_cases t3 : ty = 3
    · subst t3
      have hn : nameOf ⟨p, ks, 3, at_, d, as_⟩ = d := rfl
      rw [hn] at HN
      simp only at c5 ⊢
      clear hn
      show Calls _ _ #[ptr (some x), .pointer (some ⟨b, 0, none⟩)] _ _
      simp only [ptr_some] at HN ⊢
      go_enter Try.func61, Try.ntmps61
      go_wp2_with fail
      go_loop [8] (fun vi => ∃ j : Nat, j ≤ names.length ∧ vi = .int .i64 j ∧ Aside0 ((names.any fun s => d.toList == s.toList) = (names.drop j).any fun s => d.toList == s.toList)) (fun vi => names.length - (intOf vi).toNat)
      case atStart => exact ⟨0, Nat.zero_le _, rfl, ⟨by rw [List.drop_zero]⟩⟩
      case round =>
        obtain ⟨j, hj, rfl, HF⟩ := hrel
        by_cases hlt : j < names.length
        · obtain ⟨ad, rfl, hcell⟩ := Kd.at_string HR.out (j : Int) (by omega) (by omega)
          have he : rdOf ByteArray.empty names (j : Int) = names[j] := by simp [rdOf, List.getD_eq_getElem?_getD, List.getElem?_eq_getElem hlt]
          rw [he, Int.toNat_natCast] at hcell
          have HD := Aside0.mk (any_dropN (P := fun s => d.toList == s.toList) hlt)
          clear he
          generalize names[j] = s at *
          cases hq : (d.toList == s.toList) with
          | true =>
            have HQ := Aside0.mk hq
            go_wp2_with (go_at_call 62; go_must (refine HN.out.mono ?_; rintro e w' ⟨rfl, rfl⟩))
            go_ret
            refine ⟨?_, rfl⟩
            rw [HF.out, HD.out, HQ.out]
            rfl
          | false =>
            have HQ := Aside0.mk hq
            go_wp2_with (go_at_call 62; go_must (refine HN.out.mono ?_; rintro e w' ⟨rfl, rfl⟩))
            go_round
            case rel => exact ⟨j + 1, by omega, by go_num, ⟨by rw [HF.out, HD.out, HQ.out]; rfl⟩⟩
            case measure => simp [intOf]; omega
        · have hje : j = names.length := by omega
          subst hje
          go_wp2_with fail
          go_ret
          refine ⟨?_, rfl⟩
          rw [HF.out, List.drop_length]
          rfl
    · have b3 : (ty == 3) = false := beq_eq_false_iff_ne.2 t3
      simp only at c5 ⊢
      rw [b3]
      show Calls _ _ #[ptr (some x), .pointer (some ⟨b, 0, none⟩)] _ _
      simp only [ptr_some] at HN ⊢
      clear HN t3
      go_enter Try.func61, Try.ntmps61
      go_wp2_with fail
      go_loop [8] (fun vi => ∃ j : Nat, j ≤ names.length ∧ vi = .int .i64 j) (fun vi => names.length - (intOf vi).toNat)
      case atStart => exact ⟨0, Nat.zero_le _, rfl⟩
      case round =>
        obtain ⟨j, hj, rfl⟩ := hrel
        by_cases hlt : j < names.length
        · obtain ⟨ad, rfl, hcell⟩ := Kd.at_string HR.out (j : Int) (by omega) (by omega)
          have he : rdOf ByteArray.empty names (j : Int) = names[j] := by simp [rdOf, List.getD_eq_getElem?_getD, List.getElem?_eq_getElem hlt]
          rw [he, Int.toNat_natCast] at hcell
          clear he
          generalize names[j] = s at *
          go_wp2_with fail
          go_round
          case rel => exact ⟨j + 1, by omega, by go_num⟩
          case measure => simp [intOf]; omega
        · have hje : j = names.length := by omega
          subst hje
          go_wp2_with fail
          go_ret
          exact ⟨rfl, rfl⟩
theorem named_calls (w : World) (A : Option Addr) (n c : Nat) :
    Calls Try.prog 32 #[.slice A n c] w fun e w' => e = .returned (.func (Fn.func 61) #[] #[.pointer (some ⟨w.heap.size, 0, none⟩)]) ∧ w' = w.alloc (.cells #[.slice A n c] 28) := by
  have hmf : ∀ (fn : Fn) (first cap : Array Value) (w : World), (Instr.makeFunc fn first cap).run Try.prog w = .ok (.func fn first cap) w := fun _ _ _ _ => rfl
  go_enter Try.func32, Try.ntmps32
  go_wp2
  go_ret
  exact ⟨rfl, rfl⟩
end Go.Proofs.Ytmfjbljdbkmkgaa.Dom

/- impl.behind, over a function that changes a tree: what it returns. -/
namespace Go.Proofs.Ytmfjbljdbkmkgaa.Dom
open Go.RowKit Go.Proofs.YtmfjbljdbkmkgaaW.PrintWords Go.Proofs.YtmfjbljdbkmkgaaW.PrintLast Go.Proofs.YtmfjbljdbkmkgaaW.PrintMore Go.Proofs.Ytmfjbljdbkmkgaa.PDom
set_option linter.unusedVariables false
set_option linter.unusedSimpArgs false

def dumI : Info := ⟨none, [], 0, 0, ⟨#[]⟩, []⟩
/-- What the closure leaves in the box b. -/
def Boxed (w w' : World) (b : Nat) (u : T) : Prop := ∃ A3 c3 A4 c4, w'.heap[b]? = some (.cells #[.int .i64 u.f0, .string u.f1, .string u.f2, .slice A3 u.f3.length c3, .slice A4 u.f4.length c4] 25 (0, 0)) ∧ u.f3.length ≤ c3 ∧ Kd.F k53 w' (fun k => w.heap.size ≤ k) A3 u.f3.length u.f3 ∧ u.f4.length ≤ c4 ∧ Kd.F k25 w' (fun k => w.heap.size ≤ k) A4 u.f4.length u.f4 ∧ Only (put none_ b dumI) w w' ∧
  Kd.R k53 53 w' w.heap.size (fun k => w.heap.size ≤ k) (.slice A3 u.f3.length c3) u.f3 ∧ Kd.N k25 25 w' w.heap.size (fun k => w.heap.size ≤ k ∧ some k ≠ (Value.slice A3 u.f3.length c3).ownBlock) (.slice A4 u.f4.length c4) u.f4
theorem only_box {w w' : World} {b : Nat} (hb : ∀ k, k < w.heap.size → k ≠ b → w'.heap[k]? = w.heap[k]?) (h1 : w'.os = w.os) (h2 : w'.tape = w.tape) (h3 : w'.output = w.output) (h4 : w.heap.size ≤ w'.heap.size) : Only (put none_ b dumI) w w' :=
  ⟨h1, h2, h3, h4, fun k hk hd => hb k hk (fun e => by subst e; rw [put_same] at hd; cases hd)⟩
theorem put_none (b k : Nat) (h : k ≠ b) : put none_ b dumI k = none := put_other _ _ h
theorem sets5_box {w : World} {b : Nat} {x0 x1 x2 x3 x4 : Value} (h : w.heap[b]? = some (.cells #[x0, x1, x2, x3, x4] 25 (0, 0))) (a0 a1 a2 a3 a4 : Value) :
    (((((w.setCell ⟨b, 0, none⟩ a0).setCell ⟨b, 1, none⟩ a1).setCell ⟨b, 2, none⟩ a2).setCell ⟨b, 3, none⟩ a3).setCell ⟨b, 4, none⟩ a4).heap[b]? = some (.cells #[a0, a1, a2, a3, a4] 25 (0, 0)) :=
  blk_set (blk_set (blk_set (blk_set (blk_set h 0 a0) 1 a1) 2 a2) 3 a3) 4 a4
theorem boxed_end {w w4 : World} {b : Nat} {u : T} {x0 x1 x2 x3 x4 : Value} {A5 A6 : Option Addr} {c5 c6 : Nat} (hb : b < w.heap.size) (h : w4.heap[b]? = some (.cells #[x0, x1, x2, x3, x4] 25 (0, 0))) (hB : Below w.heap.size w w4)
    (m5 : u.f3.length ≤ c5) (F5 : Kd.F k53 w4 (fun k => w.heap.size ≤ k) A5 u.f3.length u.f3) (m6 : u.f4.length ≤ c6) (F6 : Kd.F k25 w4 (fun k => w.heap.size ≤ k) A6 u.f4.length u.f4) (R5 : Kd.R k53 53 w4 w.heap.size (fun k => w.heap.size ≤ k) (.slice A5 u.f3.length c5) u.f3) (N6 : Kd.N k25 25 w4 w.heap.size (fun k => w.heap.size ≤ k ∧ some k ≠ (Value.slice A5 u.f3.length c5).ownBlock) (.slice A6 u.f4.length c6) u.f4) :
    Boxed w (((((w4.setCell ⟨b, 0, none⟩ (.int .i64 u.f0)).setCell ⟨b, 1, none⟩ (.string u.f1)).setCell ⟨b, 2, none⟩ (.string u.f2)).setCell ⟨b, 3, none⟩ (.slice A5 u.f3.length c5)).setCell ⟨b, 4, none⟩ (.slice A6 u.f4.length c6)) b u := by
  have hs := fun k (hk : k ≠ b) => sets5 w4 b (.int .i64 u.f0) (.string u.f1) (.string u.f2) (.slice A5 u.f3.length c5) (.slice A6 u.f4.length c6) k hk
  have hbb : Below 0 w4 (((((w4.setCell ⟨b, 0, none⟩ (.int .i64 u.f0)).setCell ⟨b, 1, none⟩ (.string u.f1)).setCell ⟨b, 2, none⟩ (.string u.f2)).setCell ⟨b, 3, none⟩ (.slice A5 u.f3.length c5)).setCell ⟨b, 4, none⟩ (.slice A6 u.f4.length c6)) :=
    Below.setCell (Below.setCell (Below.setCell (Below.setCell (Below.setCell (Below.refl 0 w4) (p := ⟨b, 0, none⟩) (Nat.zero_le _) _) (p := ⟨b, 1, none⟩) (Nat.zero_le _) _) (p := ⟨b, 2, none⟩) (Nat.zero_le _) _) (p := ⟨b, 3, none⟩) (Nat.zero_le _) _) (p := ⟨b, 4, none⟩) (Nat.zero_le _) _
  refine ⟨A5, c5, A6, c6, sets5_box h _ _ _ _ _, m5, Kd.F_step F5 (fun k hk _ => hs k (by omega)), m6, Kd.F_step F6 (fun k hk _ => hs k (by omega)), ?_, Kd.R_step R5 (fun k hk _ => hs k (by omega)), Kd.N_step N6 (fun k hk _ => hs k (by have := hk.1; omega))⟩
  exact only_box (fun k hk hne => (hs k hne).trans (hB.block k hk)) (hbb.os.trans hB.os) (hbb.tape.trans hB.tape) (hbb.output.trans hB.output) (Nat.le_trans hB.size hbb.size)
set_option maxHeartbeats 1000000 in
set_option maxRecDepth 100000 in
theorem beh1_calls (F : Nat) (cap : Array Value) (hF : ∀ (args : Array Value) (w : World), (callFunc F args).run Try.prog w = .ok (.enter F args) w) (P : T → Prop) (t : T) (ht : Fit t) (w : World) (b0 b1 b2 : Nat) (A3 : Option Addr) (c3 : Nat) (A4 : Option Addr) (c4 : Nat)
    (hb0 : w.heap[b0]? = some (.cells #[.int .i64 t.f0, .string t.f1, .string t.f2, .slice A3 t.f3.length c3, .slice A4 t.f4.length c4] 25 (0, 0))) (hb1 : w.heap[b1]? = some (.cells #[.func (.func F) #[] cap] 50 (0, 0))) (hb2 : w.heap[b2]? = some (.cells #[.int .i64 0, .string ⟨#[]⟩, .string ⟨#[]⟩, .slice none 0 0, .slice none 0 0] 25 (0, 0)))
    (h3 : Kd.C k53 w A3 t.f3.length t.f3) (l3 : t.f3.length ≤ c3) (h4 : Kd.C k25 w A4 t.f4.length t.f4) (l4 : t.f4.length ≤ c4)
    (hdo : ∀ W D r, Below w.heap.size w W → (∀ k, k < w.heap.size → D k = none) → Dom W D → Is D none r → TellsT t r → Calls Try.prog F (#[.pointer (some ⟨r.id, 0, none⟩)] ++ cap) W fun e w' => e = .returned (.tuple #[]) ∧ ∃ u, P u ∧ Turns W w' D r u) :
    Calls Try.prog 64 #[.pointer (some ⟨b0, 0, none⟩), .pointer (some ⟨b1, 0, none⟩), .pointer (some ⟨b2, 0, none⟩)] w fun e w' => e = .returned (.tuple #[]) ∧ ∃ u, P u ∧ Boxed w w' b2 u := by
  have HM := Aside0.mk (made_calls _ t (Nat.le_refl _) ht w A3 c3 A4 c4 h3 l3 h4 l4)
  have HDO := Aside0.mk hdo
  have HB1 := Aside0.mk hb1
  have HB2 := Aside0.mk hb2
  have a0 := blk_cell hb0 0
  have a1 := blk_cell hb0 1
  have a2 := blk_cell hb0 2
  have a3 := blk_cell hb0 3
  have a4 := blk_cell hb0 4
  have d0 := blk_cell hb1 0
  clear hdo hb0 hb1 hb2 h3 h4 l3 l4 ht
  go_enter Try.func64, Try.ntmps64
  go_wp2_with fail
  refine HM.out.mono ?_
  rintro e w1 ⟨b, D, rfl, hm⟩
  obtain ⟨i0, hi0⟩ : ∃ i, D b = some i := by
    obtain ⟨_, _, i, h, _⟩ := hm.tree
    exact ⟨i, h⟩
  obtain ⟨r, rfl, hr, hto⟩ := hm.tree.rt hm.dom.wf i0 hi0
  have hroot := hm.root i0 hi0
  rw [hroot] at hr
  have hnone : ∀ k, k < w.heap.size → D k = none := fun k hk => by
    cases hd : D k with
    | none => rfl
    | some i => have := hm.fresh k (by rw [hd]; simp); omega
  have HF := Aside0.mk (HDO.out w1 D r hm.below hnone hm.dom hr hto)
  have HBL := Aside0.mk hm.below
  have HNO := Aside0.mk hnone
  have d1 := blk_cell ((hm.below.block _ (blk_lt HB1.out)).trans HB1.out) 0
  clear HM HDO hm hi0 hroot hr hto hnone d0 a0 a1 a2 a3 a4
  generalize hri : r.id = ri at *
  have HRI := Aside0.mk hri
  clear hri
  simp only [ptr_some] at HF ⊢
  go_wp2_with fail
  refine HF.out.mono ?_
  rintro e w3 ⟨rfl, u, hu, D', r', hd', hr', hid, hfit, hto, hon, hnn⟩
  have HT := Aside0.mk (told_calls D' r' none hr' hfit w3 hd')
  rw [hid, HRI.out, hto] at HT
  have HB3 := Aside0.mk (HBL.out.trans (hon.below HBL.out.size (fun k hk => HNO.out k hk)))
  have HU := Aside0.mk hu
  clear hd' hr' hid hfit hto hon hnn HF d1 hu
  simp only [ptr_some] at HT
  go_wp2_with fail
  refine HT.out.mono ?_
  rintro e w4 ⟨A5, c5, A6, c6, rfl, m5, F5, m6, F6, hb4, R5, N6⟩
  have HB4 := Aside0.mk (below_step HB3.out hb4)
  have hb64 := (HB4.out.block _ (blk_lt HB2.out)).trans HB2.out
  have HB64 := Aside0.mk hb64
  have HE := Aside0.mk (boxed_end (blk_lt HB2.out) hb64 HB4.out m5 (Kd.F_mono F5 (fun k hk => Nat.le_trans HB3.out.size hk)) m6 (Kd.F_mono F6 (fun k hk => Nat.le_trans HB3.out.size hk)) (Kd.R_lower (Kd.R_mono R5 (fun k hk => Nat.le_trans HB3.out.size hk)) HB3.out.size) (Kd.N_lower (Kd.N_mono N6 (fun k hk => ⟨Nat.le_trans HB3.out.size hk.1, hk.2⟩)) HB3.out.size))
  have r0 := blk_cell hb64 0
  have r1 := blk_cell hb64 1
  have r2 := blk_cell hb64 2
  have r3 := blk_cell hb64 3
  have r4 := blk_cell hb64 4
  have f0 := blk_frozen hb64 0
  have f1 := blk_frozen hb64 1
  have f2 := blk_frozen hb64 2
  have f3 := blk_frozen hb64 3
  have f4 := blk_frozen hb64 4
  clear m5 F5 m6 F6 R5 N6 hb4 hb64 HT
  go_wp2_with fail
  go_end0
  exact ⟨rfl, u, HU.out, HE.out⟩
theorem enters_beh1 : ∀ (args : Array Value) (w : World), (callFunc 64 args).run Try.prog w = .ok (.enter 64 args) w := fun _ _ => by kernel_rfl
theorem four_boxes (w : World) (o0 o1 o2 o3 : Obj) : ((((w.alloc o0).alloc o1).alloc o2).alloc o3).heap.size = w.heap.size + 4 ∧ Below w.heap.size w ((((w.alloc o0).alloc o1).alloc o2).alloc o3) ∧ ((((w.alloc o0).alloc o1).alloc o2).alloc o3).heap[w.heap.size]? = some o0 ∧
    ((((w.alloc o0).alloc o1).alloc o2).alloc o3).heap[w.heap.size + 1]? = some o1 ∧ ((((w.alloc o0).alloc o1).alloc o2).alloc o3).heap[w.heap.size + 2]? = some o2 ∧ ((((w.alloc o0).alloc o1).alloc o2).alloc o3).heap[w.heap.size + 3]? = some o3 := by
  have e : ((((w.alloc o0).alloc o1).alloc o2).alloc o3).heap = (((w.heap.push o0).push o1).push o2).push o3 := rfl
  refine ⟨by rw [e]; simp, below_alloc (below_alloc (below_alloc (below_alloc (Below.refl _ _) _) _) _) _, ?_, ?_, ?_, ?_⟩ <;> rw [e] <;> simp only [Array.getElem?_push, Array.size_push] <;> repeat (first | rfl | rw [if_pos trivial] | rw [if_pos (by omega)] | rw [if_neg (by omega)])
set_option maxHeartbeats 1000000 in
set_option maxRecDepth 100000 in
theorem behind_calls (F : Nat) (cap : Array Value) (hF : ∀ (args : Array Value) (w : World), (callFunc F args).run Try.prog w = .ok (.enter F args) w) (P : T → Prop) (t : T) (ht : Fit t) (w : World) (A3 : Option Addr) (c3 : Nat) (A4 : Option Addr) (c4 : Nat)
    (h3 : Kd.C k53 w A3 t.f3.length t.f3) (l3 : t.f3.length ≤ c3) (h4 : Kd.C k25 w A4 t.f4.length t.f4) (l4 : t.f4.length ≤ c4)
    (hdo : ∀ W D r, Below w.heap.size w W → (∀ k, k < w.heap.size → D k = none) → Dom W D → Is D none r → TellsT t r → Calls Try.prog F (#[.pointer (some ⟨r.id, 0, none⟩)] ++ cap) W fun e w' => e = .returned (.tuple #[]) ∧ ∃ u, P u ∧ Turns W w' D r u) :
    Calls Try.prog 33 #[.agg #[.int .i64 t.f0, .string t.f1, .string t.f2, .slice A3 t.f3.length c3, .slice A4 t.f4.length c4], .func (.func F) #[] cap] w fun e w' => ∃ u, P u ∧ Told w w' u e := by
  have hmf : ∀ (fn : Fn) (first cap : Array Value) (w : World), (Instr.makeFunc fn first cap).run Try.prog w = .ok (.func fn first cap) w := fun _ _ _ _ => rfl
  obtain ⟨W0, hW0⟩ : ∃ W0, W0 = (((w.alloc (.cells #[.int .i64 t.f0, .string t.f1, .string t.f2, .slice A3 t.f3.length c3, .slice A4 t.f4.length c4] 25)).alloc (.cells #[.func (.func F) #[] cap] 50)).alloc (.cells #[.int .i64 0, .string ⟨#[]⟩, .string ⟨#[]⟩, .slice none 0 0, .slice none 0 0] 25)).alloc (.cells #[.int .i64 0, .string ⟨#[]⟩, .string ⟨#[]⟩, .slice none 0 0, .slice none 0 0] 25) := ⟨_, rfl⟩
  obtain ⟨hsz, hB0, hk0, hk1, hk2, hk3⟩ := four_boxes w (.cells #[.int .i64 t.f0, .string t.f1, .string t.f2, .slice A3 t.f3.length c3, .slice A4 t.f4.length c4] 25) (.cells #[.func (.func F) #[] cap] 50) (.cells #[.int .i64 0, .string ⟨#[]⟩, .string ⟨#[]⟩, .slice none 0 0, .slice none 0 0] 25) (.cells #[.int .i64 0, .string ⟨#[]⟩, .string ⟨#[]⟩, .slice none 0 0, .slice none 0 0] 25)
  rw [← hW0] at hsz hB0 hk0 hk1 hk2 hk3
  have hB1 : Below W0.heap.size W0 (W0.alloc (.cells #[.bool false] 4)) := below_alloc (Below.refl _ _) _
  have hB01 := below_step hB0 hB1
  have HG := Aside0.mk (Guard.guarded_calls 64 #[.pointer (some ⟨w.heap.size, 0, none⟩), .pointer (some ⟨w.heap.size + 1, 0, none⟩), .pointer (some ⟨w.heap.size + 3, 0, none⟩)] W0 (fun w' => ∃ u, P u ∧ Boxed (W0.alloc (.cells #[.bool false] 4)) w' (w.heap.size + 3) u) enters_beh1
    ((beh1_calls F cap hF P t ht _ w.heap.size (w.heap.size + 1) (w.heap.size + 3) A3 c3 A4 c4 ((hB1.block _ (by omega)).trans hk0) ((hB1.block _ (by omega)).trans hk1) ((hB1.block _ (by omega)).trans hk3) (Kd.C_below h3 hB01) l3 (Kd.C_below h4 hB01) l4
      (fun W D r hW hno hd hr hto => hdo W D r (by refine below_step hB0 (Below.trans hB1 ?_); exact hW.mono (by rw [push_size]; omega)) (fun k hk => hno k (by rw [push_size]; omega)) hd hr hto)).mono fun e w' h => by
        obtain ⟨rfl, u, hu, hx⟩ := h
        refine ⟨rfl, ?_, u, hu, hx⟩
        obtain ⟨_, _, _, _, _, _, _, _, _, ho, _, _⟩ := hx
        exact (ho.block _ (by rw [push_size]; omega) (put_none _ _ (by omega))).trans (heap_alloc_new W0 _)))
  have HZ := Aside0.mk hsz
  have HB0 := Aside0.mk hB0
  have K2 := Aside0.mk hk2
  clear hdo ht h3 h4 l3 l4 hB1 hB01 hk0 hk1 hk2 hk3 hsz hB0
  go_enter Try.func33, Try.ntmps33
  go_wp2_with fail
  rw [← hW0]
  refine HG.out.mono ?_
  rintro e w2 ⟨rfl, w3, ⟨u, hu, A5, c5, A6, c6, hbx, m5, F5, m6, F6, ho, R5, N6⟩, hbad, rfl⟩
  have hz := HZ.out
  have hbx2 : (w3.setCell ⟨W0.heap.size, 0, none⟩ (.bool false)).heap[w.heap.size + 3]? = _ := (Below.heap_setCell w3 ⟨W0.heap.size, 0, none⟩ _ (w.heap.size + 3) (by show _ ≠ W0.heap.size; omega)).trans hbx
  have r0 := blk_cell hbx2 0
  have r1 := blk_cell hbx2 1
  have r2 := blk_cell hbx2 2
  have r3 := blk_cell hbx2 3
  have r4 := blk_cell hbx2 4
  have hk2 : (w3.setCell ⟨W0.heap.size, 0, none⟩ (.bool false)).heap[w.heap.size + 2]? = _ := (Below.heap_setCell w3 ⟨W0.heap.size, 0, none⟩ _ (w.heap.size + 2) (by show _ ≠ W0.heap.size; omega)).trans ((ho.block _ (by rw [push_size]; omega) (put_none _ _ (by omega))).trans ((heap_alloc_old W0 _ (by omega)).trans K2.out))
  have f0 := blk_frozen hk2 0
  have f1 := blk_frozen hk2 1
  have f2 := blk_frozen hk2 2
  have f3 := blk_frozen hk2 3
  have f4 := blk_frozen hk2 4
  have q0 := blk_cell hk2 0
  have q1 := blk_cell hk2 1
  have q2 := blk_cell hk2 2
  have q3 := blk_cell hk2 3
  have q4 := blk_cell hk2 4
  have hon : Below w.heap.size w w3 := HB0.out.trans ⟨ho.os, ho.tape, ho.output, by have := ho.size; rw [push_size] at this; omega, fun k hk => (ho.block k (by rw [push_size]; omega) (put_none _ _ (by omega))).trans (heap_alloc_old W0 _ (by omega))⟩
  have hw4 : ∃ w4, w4 = w3.setCell ⟨W0.heap.size, 0, none⟩ (.bool false) := ⟨_, rfl⟩
  obtain ⟨w4, hw4⟩ := hw4
  have hs4 : ∀ k, k ≠ W0.heap.size → w4.heap[k]? = w3.heap[k]? := fun k hk => by rw [hw4]; exact Below.heap_setCell w3 ⟨W0.heap.size, 0, none⟩ _ k hk
  have hon4 : Below w.heap.size w w4 := by rw [hw4]; exact hon.setCell (p := ⟨W0.heap.size, 0, none⟩) (by show _ ≤ W0.heap.size; omega) _
  rw [← hw4] at r0 r1 r2 r3 r4 f0 f1 f2 f3 f4 q0 q1 q2 q3 q4 ⊢
  clear hw4
  have HTO := Aside0.mk (show Told w (((((w4.setCell ⟨w.heap.size + 2, 0, none⟩ (.int .i64 u.f0)).setCell ⟨w.heap.size + 2, 1, none⟩ (.string u.f1)).setCell ⟨w.heap.size + 2, 2, none⟩ (.string u.f2)).setCell ⟨w.heap.size + 2, 3, none⟩ (.slice A5 u.f3.length c5)).setCell ⟨w.heap.size + 2, 4, none⟩ (.slice A6 u.f4.length c6)) u (.returned (.agg #[.int .i64 u.f0, .string u.f1, .string u.f2, .slice A5 u.f3.length c5, .slice A6 u.f4.length c6])) from
    ⟨A5, c5, A6, c6, rfl, m5, Kd.F_mono (Kd.F_step F5 (fun k hk _ => (sets5 w4 _ _ _ _ _ _ k (by rw [push_size] at hk; omega)).trans (hs4 k (by rw [push_size] at hk; omega)))) (fun k hk => by rw [push_size] at hk; omega), m6, Kd.F_mono (Kd.F_step F6 (fun k hk _ => (sets5 w4 _ _ _ _ _ _ k (by rw [push_size] at hk; omega)).trans (hs4 k (by rw [push_size] at hk; omega)))) (fun k hk => by rw [push_size] at hk; omega),
      ((((hon4.setCell (p := ⟨w.heap.size + 2, 0, none⟩) (by show _ ≤ w.heap.size + 2; omega) _).setCell (p := ⟨w.heap.size + 2, 1, none⟩) (by show _ ≤ w.heap.size + 2; omega) _).setCell (p := ⟨w.heap.size + 2, 2, none⟩) (by show _ ≤ w.heap.size + 2; omega) _).setCell (p := ⟨w.heap.size + 2, 3, none⟩) (by show _ ≤ w.heap.size + 2; omega) _).setCell (p := ⟨w.heap.size + 2, 4, none⟩) (by show _ ≤ w.heap.size + 2; omega) _,
      Kd.R_lower (Kd.R_mono (Kd.R_step R5 (fun k hk _ => (sets5 w4 _ _ _ _ _ _ k (by rw [push_size] at hk; omega)).trans (hs4 k (by rw [push_size] at hk; omega)))) (fun k hk => by rw [push_size] at hk; omega)) (by rw [push_size]; omega), Kd.N_lower (Kd.N_mono (Kd.N_step N6 (fun k hk _ => (sets5 w4 _ _ _ _ _ _ k (by have h1 := hk.1; rw [push_size] at h1; omega)).trans (hs4 k (by have h1 := hk.1; rw [push_size] at h1; omega)))) (fun k hk => ⟨by have h1 := hk.1; rw [push_size] at h1; omega, hk.2⟩)) (by rw [push_size]; omega)⟩)
  have HU := Aside0.mk hu
  clear hbx hbx2 F5 F6 R5 N6 m5 m6 ho hbad hon hon4 hs4 hz HG hu hk2
  go_wp2_with fail
  refine bodyPost_ret (v := .agg #[.int .i64 u.f0, .string u.f1, .string u.f2, .slice A5 u.f3.length c5, .slice A6 u.f4.length c6]) (by simp [results, Try.results33, go_sem, q0, q1, q2, q3, q4]) rfl ?_
  exact ⟨u, HU.out, HTO.out⟩
/-- The result, stored in a box of the caller's and read back. -/
theorem told_box {w W0 w2 : World} {u : T} {b : Nat} {A5 A6 : Option Addr} {c5 c6 : Nat} (hb0 : Below w.heap.size w W0) (hb : w.heap.size ≤ b) (hlt : b < W0.heap.size) (m5 : u.f3.length ≤ c5) (F5 : Kd.F k53 w2 (fun k => W0.heap.size ≤ k) A5 u.f3.length u.f3) (m6 : u.f4.length ≤ c6) (F6 : Kd.F k25 w2 (fun k => W0.heap.size ≤ k) A6 u.f4.length u.f4) (hB : Below W0.heap.size W0 w2)
    (R5 : Kd.R k53 53 w2 W0.heap.size (fun k => W0.heap.size ≤ k) (.slice A5 u.f3.length c5) u.f3) (N6 : Kd.N k25 25 w2 W0.heap.size (fun k => W0.heap.size ≤ k ∧ some k ≠ (Value.slice A5 u.f3.length c5).ownBlock) (.slice A6 u.f4.length c6) u.f4) (a0 a1 a2 a3 a4 : Value) :
    Told w (((((w2.setCell ⟨b, 0, none⟩ a0).setCell ⟨b, 1, none⟩ a1).setCell ⟨b, 2, none⟩ a2).setCell ⟨b, 3, none⟩ a3).setCell ⟨b, 4, none⟩ a4) u (.returned (.agg #[.int .i64 u.f0, .string u.f1, .string u.f2, .slice A5 u.f3.length c5, .slice A6 u.f4.length c6])) := by
  have hs := fun k (hk : k ≠ b) => sets5 w2 b a0 a1 a2 a3 a4 k hk
  have hle := hb0.size
  exact ⟨A5, c5, A6, c6, rfl, m5, Kd.F_mono (Kd.F_step F5 (fun k hk _ => hs k (by omega))) (fun k hk => by omega), m6, Kd.F_mono (Kd.F_step F6 (fun k hk _ => hs k (by omega))) (fun k hk => by omega),
    (((((below_step hb0 hB).setCell (p := ⟨b, 0, none⟩) hb _).setCell (p := ⟨b, 1, none⟩) hb _).setCell (p := ⟨b, 2, none⟩) hb _).setCell (p := ⟨b, 3, none⟩) hb _).setCell (p := ⟨b, 4, none⟩) hb _,
    Kd.R_lower (Kd.R_mono (Kd.R_step R5 (fun k hk _ => hs k (by omega))) (fun k hk => by omega)) hle, Kd.N_lower (Kd.N_mono (Kd.N_step N6 (fun k hk _ => hs k (by have := hk.1; omega))) (fun k hk => ⟨by have := hk.1; omega, hk.2⟩)) hle⟩
end Go.Proofs.Ytmfjbljdbkmkgaa.Dom

/- domutils.RemoveRedundant over a tree. -/
namespace Go.Proofs.Ytmfjbljdbkmkgaa.Dom
open Go.RowKit Go.Proofs.YtmfjbljdbkmkgaaW.PrintWords Go.Proofs.YtmfjbljdbkmkgaaW.PrintLast Go.Proofs.YtmfjbljdbkmkgaaW.PrintMore Go.Proofs.Ytmfjbljdbkmkgaa.PDom
set_option linter.unusedVariables false
set_option linter.unusedSimpArgs false

/-- An element of one of some names. -/
def mt (names : List ByteArray) (r : RT) : Bool := r.ty == 3 && names.any fun s => r.data.toList == s.toList
/-! ### Up from a node -/
end Go.Proofs.Ytmfjbljdbkmkgaa.Dom

/- impl.neighbor at the kinds of first children and siblings. Printed in part by the program gen_sibm.py of this session. -/
namespace Go.Proofs.Ytmfjbljdbkmkgaa.PDom
open Go.RowKit Go.Proofs.YtmfjbljdbkmkgaaW.PrintWords Go.Proofs.YtmfjbljdbkmkgaaW.PrintLast Go.Proofs.YtmfjbljdbkmkgaaW.PrintMore Go.Proofs.Ytmfjbljdbkmkgaa.Dom
set_option linter.unusedVariables false
set_option linter.unusedSimpArgs false

theorem last_split (path : List Int) (j : Int) (h : path.getLast? = some j) : path = path.dropLast ++ [j] := by
  obtain ⟨l, rfl⟩ := List.getLast?_eq_some_iff.1 h
  simp
/-- The node at a place that isn't the root: its parent, and its number among the children. -/
theorem at_last {r x : RT} {path : List Int} {j : Int} (hx : r.at_ path = some x) (hj : path.getLast? = some j) : ∃ up, r.at_ path.dropLast = some up ∧ 0 ≤ j ∧ ∃ h : j.toNat < up.kids.length, up.kids[j.toNat] = x := by
  have e := last_split path j hj
  rw [e, at_append] at hx
  obtain ⟨up, h1, h2⟩ := Option.bind_eq_some_iff.1 hx
  refine ⟨up, h1, ?_⟩
  simp only [RT.at_] at h2
  by_cases h0 : 0 ≤ j
  · rw [if_pos h0] at h2
    obtain ⟨y, h3, h4⟩ := Option.bind_eq_some_iff.1 h2
    obtain rfl := Option.some.inj h4
    obtain ⟨h5, h6⟩ := List.getElem?_eq_some_iff.1 h3
    exact ⟨h0, h5, h6⟩
  · rw [if_neg h0] at h2
    cases h2
end Go.Proofs.Ytmfjbljdbkmkgaa.PDom

/- impl.Replaced: a tree with another one in a node's place. -/
namespace Go.Proofs.Ytmfjbljdbkmkgaa.PDom
open Go.RowKit Go.Proofs.YtmfjbljdbkmkgaaW.PrintWords Go.Proofs.YtmfjbljdbkmkgaaW.PrintLast Go.Proofs.YtmfjbljdbkmkgaaW.PrintMore Go.Proofs.Ytmfjbljdbkmkgaa.Dom
set_option linter.unusedVariables false
set_option linter.unusedSimpArgs false

theorem is_into {D D' : Tab} {p : Option Nat} {r : RT} (hs : ∀ b i, D b = some i → D' b = some i) (h : Is D p r) : Is D' p r := by
  induction h with
  | mk p i t a d at_ ks h hk ih => exact Is.mk p i t a d at_ ks (hs _ _ h) ih
theorem is_mem {D : Tab} (r : RT) : ∀ {p : Option Nat}, Is D p r → ∀ b ∈ r.pre, D b ≠ none := by
  induction r using RT.induct with
  | h i t a d at_ ks ih =>
    intro p h b hb
    have hroot : D i = some _ := h.root
    rcases List.mem_cons.1 (show b ∈ i :: RT.preL ks from hb) with rfl | hb
    · rw [hroot]; simp
    · obtain ⟨k, hk, hbk⟩ := RT.mem_preL.1 hb
      exact ih k hk (h.kid hk) b hbk
/-- A tree that has been made beside a table. -/
theorem beside {W W1 : World} {D D2 : Tab} {b : Nat} {t tw : T} {r : RT} (hdom : Dom W D) (hr : Is D none r) (hm : Made W W1 b D2 tw) :
    ∃ y, y.id = b ∧ TellsT tw y ∧ Dom W1 (uni D D2) ∧ Is (uni D D2) none r ∧ Is (uni D D2) none y ∧ y.id ∉ r.pre ∧ (∀ k, k < W.heap.size → D k = none → uni D D2 k = none) := by
  have hge : ∀ y, D2 y ≠ none → W.heap.size ≤ y := hm.fresh
  have hd : ∀ y, D y ≠ none → D2 y = none := by
    intro y hy
    cases hc : D2 y with
    | none => rfl
    | some q =>
      have := hge y (by rw [hc]; simp)
      have := hdom.lt hy
      omega
  have hd' : ∀ y, D2 y ≠ none → D y = none := by
    intro y hy
    cases hc : D y with
    | none => rfl
    | some q => exact absurd (hd y (by rw [hc]; simp)) hy
  obtain ⟨i0, hi0⟩ : ∃ i, D2 b = some i := by
    obtain ⟨_, _, i, h, _⟩ := hm.tree
    exact ⟨i, h⟩
  obtain ⟨y, rfl, hy, hto⟩ := hm.tree.rt hm.dom.wf i0 hi0
  rw [hm.root i0 hi0] at hy
  refine ⟨y, rfl, hto, (hdom.below hm.below).union hm.dom hd, is_into (fun b i h => uni_left h) hr, is_into (fun b i h => by rw [uni_right (hd' b (by rw [h]; simp)), h]) hy, fun hmem => ?_, fun k hk hn => ?_⟩
  · have h1 := hdom.lt (is_mem r hr _ hmem)
    have h2 := hge y.id (by rw [hi0]; simp)
    omega
  · rw [uni_right hn]
    cases hc : D2 k with
    | none => rfl
    | some q => have := hge k (by rw [hc]; simp); omega
/-- The parts of a tree at a place below its root. -/
theorem place_parts {r x : RT} {path : List Int} {j : Int} (hx : r.at_ path = some x) (hj : path.getLast? = some j) : ∃ up k1 k2, r.at_ path.dropLast = some up ∧ up.kids = k1 ++ x :: k2 ∧ k1.length = j.toNat := by
  obtain ⟨up, hu, h0, hlt, he⟩ := at_last hx hj
  refine ⟨up, up.kids.take j.toNat, up.kids.drop (j.toNat + 1), hu, ?_, by rw [List.length_take]; omega⟩
  rw [← he]
  exact (List.take_append_drop j.toNat up.kids).symm.trans (by rw [List.drop_eq_getElem_cons hlt])
end Go.Proofs.Ytmfjbljdbkmkgaa.PDom

/- Trees as plain data: their text, which of their nodes stand within one another, whether they are plain (elements, texts, comments); and the same of trees of nodes. Plain facts. -/
namespace Go.Proofs.Ytmfjbljdbkmkgaa.Dom
open Go.RowKit Go.Proofs.YtmfjbljdbkmkgaaW.PrintWords Go.Proofs.YtmfjbljdbkmkgaaW.PrintLast Go.Proofs.YtmfjbljdbkmkgaaW.PrintMore Go.Proofs.Ytmfjbljdbkmkgaa.PDom
set_option linter.unusedVariables false
set_option linter.unusedSimpArgs false

mutual
def txT : T → List UInt8
  | ⟨k, _, x, _, ks⟩ => if k = 1 then x.data.toList else txTL ks
def txTL : List T → List UInt8
  | [] => []
  | k :: ks => txT k ++ txTL ks
end
/-! ### Taken out, all at once -/
theorem own_nil {m : RT → Bool} (hO : Own m) (i : Nat) (t a : Int) (d : ByteArray) (at_ : List (ByteArray × ByteArray)) (ks : List RT) : m (.node i t a d at_ []) = m (.node i t a d at_ ks) := hO (.node i t a d at_ ks) []
/-! ### Plain trees -/
mutual
def okT : T → Bool
  | ⟨k, n, x, as_, ks⟩ => ((((k == 1 || k == 2) && (n.size == 0 && (as_.isEmpty && ks.isEmpty))) || (k == 0 && x.size == 0)) && (decide (as_.length ≤ 4398046510976) && decide (ks.length ≤ 4398046510976))) && okTL ks
def okTL : List T → Bool
  | [] => true
  | k :: ks => okT k && okTL ks
end
theorem okTL_iff : ∀ {l : List T}, okTL l = true ↔ ∀ k ∈ l, okT k = true
  | [] => by simp [okTL]
  | k :: ks => by
    rw [okTL, Bool.and_eq_true, okTL_iff (l := ks)]
    simp
theorem size_zero {a : ByteArray} (h : a.size = 0) : a = ⟨#[]⟩ := by
  cases a with
  | mk d =>
    have : d = #[] := Array.eq_empty_of_size_eq_zero h
    rw [this]
theorem okT_open {t : T} (h : okT t = true) : NodeOk false t ∧ t.f3.length ≤ 4398046510976 ∧ t.f4.length ≤ 4398046510976 ∧ ∀ k ∈ t.f4, okT k = true := by
  cases t with
  | mk k n x as_ ks =>
    rw [okT] at h
    simp only [Bool.and_eq_true, Bool.or_eq_true, beq_iff_eq, decide_eq_true_eq, List.isEmpty_iff] at h
    obtain ⟨⟨h1, h2, h3⟩, h4⟩ := h
    refine ⟨?_, h2, h3, okTL_iff.1 h4⟩
    rcases h1 with ⟨h5, h6, h7, h8⟩ | ⟨h5, h6⟩
    · exact .inl ⟨h5, size_zero h6, h7, h8⟩
    · exact .inr (.inr ⟨h5, size_zero h6⟩)
theorem okT_mk {t : T} (h : NodeOk false t) (h3 : t.f3.length ≤ 4398046510976) (h4 : t.f4.length ≤ 4398046510976) (hk : ∀ k ∈ t.f4, okT k = true) : okT t = true := by
  cases t with
  | mk k n x as_ ks =>
    rw [okT]
    simp only [Bool.and_eq_true, Bool.or_eq_true, beq_iff_eq, decide_eq_true_eq, List.isEmpty_iff]
    refine ⟨⟨?_, h3, h4⟩, okTL_iff.2 hk⟩
    rcases h with ⟨a, b, c, d⟩ | ⟨_, b, _⟩ | ⟨a, b⟩
    · exact .inl ⟨a, by rw [show n = ⟨#[]⟩ from b]; rfl, c, d⟩
    · cases b
    · exact .inr ⟨a, by rw [show x = ⟨#[]⟩ from b]; rfl⟩
theorem T_induct {P : T → Prop} (h : ∀ t : T, (∀ k ∈ t.f4, P k) → P t) : ∀ t, P t := by
  intro t
  generalize hn : SizeOf.sizeOf t = n
  induction n using Nat.strongRecOn generalizing t with
  | _ n ih =>
    refine h t (fun k hk => ih _ ?_ k rfl)
    rw [← hn]
    exact kid_lt hk
theorem ok_norm (t : T) : okT t = true → Norm false t := by
  induction t using T_induct with
  | h t ih =>
    intro h
    obtain ⟨h1, _, _, h4⟩ := okT_open h
    exact ⟨false, t, h1, fun y hy => ih y hy (h4 y hy)⟩
theorem ok_fit (t : T) : okT t = true → Fit t := by
  induction t using T_induct with
  | h t ih =>
    intro h
    obtain ⟨_, h2, h3, h4⟩ := okT_open h
    exact ⟨t, h2, h3, fun y hy => ih y hy (h4 y hy)⟩
theorem Norm.up {t : T} (h : Norm false t) : Norm true t := by
  cases h with
  | mk _ _ h hk =>
    refine ⟨true, t, ?_, hk⟩
    rcases h with h | ⟨_, h, _⟩ | h
    · exact .inl h
    · cases h
    · exact .inr (.inr h)
/-- The nodes of a plain tree. -/
theorem ok_all (r : RT) : ∀ t : T, okT t = true → TellsT t r → RT.All okN r := by
  induction r using RT.induct with
  | h i ty a d at_ ks ih =>
    intro t ht h
    have hn := ok_norm t ht
    obtain ⟨h1, h3, _, h4⟩ := okT_open ht
    obtain ⟨hl, hk⟩ := told_open h hn
    have hty : (ty = 1 ∨ ty = 3 ∨ ty = 4) ∧ at_.length ≤ 4398046510976 := by
      cases h with
      | mk _ _ _ _ ha hl hk =>
        refine ⟨?_, ?_⟩
        · rcases h1 with ⟨(e | e), _⟩ | ⟨_, e, _⟩ | ⟨e, _⟩
          · rw [e]; simp [tyOf]
          · rw [e]; simp [tyOf]
          · cases e
          · rw [e]; simp [tyOf]
        · unfold attrsOf
          split
          · rw [List.length_map]; exact h3
          · simp
    refine ⟨_, ⟨hty.2, hty.1⟩, fun k hk2 => ?_⟩
    obtain ⟨n, hn2, rfl⟩ := List.mem_iff_getElem.1 (show k ∈ ks from hk2)
    exact ih _ hk2 _ (h4 _ (List.getElem_mem (by rw [hl]; exact hn2))) (hk n (by rw [hl]; exact hn2) hn2)
end Go.Proofs.Ytmfjbljdbkmkgaa.Dom

/- spec.Put29: the tree with others in a node's place. -/
namespace Go.Proofs.Ytmfjbljdbkmkgaa.PDom
open Go.RowKit Go.Proofs.YtmfjbljdbkmkgaaW.PrintWords Go.Proofs.YtmfjbljdbkmkgaaW.PrintLast Go.Proofs.YtmfjbljdbkmkgaaW.PrintMore Go.Proofs.Ytmfjbljdbkmkgaa.Dom
set_option linter.unusedVariables false
set_option linter.unusedSimpArgs false

section
variable {w w1 w2 w3 : World} {P : Nat → Prop} {v v1 : Value} {xs ys : List T}
/-- Footprints of what came in are none of an own row. -/
theorem in_apart (hP : ∀ k, P k → k < w.heap.size) (hN : Kd.N k25 25 w1 w.heap.size (fun k => P k ∨ w.heap.size + 2 ≤ k) v xs) : ∀ k, P k → (P k ∨ w.heap.size + 2 ≤ k) ∧ some k ≠ v.ownBlock :=
  fun k hk => ⟨.inl hk, fun e => by have := Kd.N_base hN k e.symm; have := hP k hk; omega⟩
end
/-- An element of a row of trees that is only read. -/
theorem at_F {w : World} {P : Nat → Prop} {A : Option Addr} {n : Nat} {xs : List T} (h : Kd.F k25 w P A n xs) (i : Int) (h0 : 0 ≤ i) (h1 : i < n) : ∃ ad A3 c3 A4 c4, A = some ad ∧ w.cell? (ad.add (i.toNat * 5)) = some (.int .i64 (xs.getD i.toNat z25).f0) ∧ w.cell? ⟨(ad.add (i.toNat * 5)).block, (ad.add (i.toNat * 5)).off + 1, none⟩ = some (.string (xs.getD i.toNat z25).f1) ∧ w.cell? ⟨(ad.add (i.toNat * 5)).block, (ad.add (i.toNat * 5)).off + 2, none⟩ = some (.string (xs.getD i.toNat z25).f2) ∧
    w.cell? ⟨(ad.add (i.toNat * 5)).block, (ad.add (i.toNat * 5)).off + 3, none⟩ = some (.slice A3 (xs.getD i.toNat z25).f3.length c3) ∧ w.cell? ⟨(ad.add (i.toNat * 5)).block, (ad.add (i.toNat * 5)).off + 4, none⟩ = some (.slice A4 (xs.getD i.toNat z25).f4.length c4) ∧
    (xs.getD i.toNat z25).f3.length ≤ c3 ∧ Kd.F k53 w P A3 (xs.getD i.toNat z25).f3.length (xs.getD i.toNat z25).f3 ∧ (xs.getD i.toNat z25).f4.length ≤ c4 ∧ Kd.F k25 w P A4 (xs.getD i.toNat z25).f4.length (xs.getD i.toNat z25).f4 := by
  obtain ⟨ad, cs, rfl, hcl, hK, hcc, _⟩ := Kd.F_get h z25 i h0 h1
  have hc : ∀ j u, cs[j]? = some u → w.cell? (ad.add (i.toNat * 5 + j)) = some u := hcc
  obtain ⟨A3, c3, A4, c4, rfl, l3, g3, l4, g4⟩ := k25_openF hK
  exact ⟨ad, A3, c3, A4, c4, rfl, hc 0 _ rfl, by rw [← add_field _ _ 1 (by omega)]; exact hc 1 _ rfl, by rw [← add_field _ _ 2 (by omega)]; exact hc 2 _ rfl, by rw [← add_field _ _ 3 (by omega)]; exact hc 3 _ rfl, by rw [← add_field _ _ 4 (by omega)]; exact hc 4 _ rfl, l3, g3, l4, g4⟩
/-- The tree's box, the result's box, and the row that is being made. -/
structure PB (w wr : World) (P : Nat → Prop) (c0 : Array Value) (v : Value) (xs : List T) : Prop where
  box : wr.heap[w.heap.size]? = some (.cells c0 25 (0, 0))
  res : wr.heap[w.heap.size + 1]? = some (.cells #[.int .i64 0, .string ⟨#[]⟩, .string ⟨#[]⟩, .slice none 0 0, .slice none 0 0] 25 (0, 0))
  row : Kd.N k25 25 wr w.heap.size (fun k => P k ∨ w.heap.size + 2 ≤ k) v xs
  below : Below w.heap.size w wr
section
variable {w wr w1 w2 w3 : World} {P : Nat → Prop} {c0 : Array Value} {v v1 : Value} {xs ys : List T}
theorem PB.size (h : PB w wr P c0 v xs) : w.heap.size + 2 ≤ wr.heap.size := blk_lt h.res
theorem PB.moved (h : PB w wr P c0 v xs) (hb : Below wr.heap.size wr w1) : PB w w1 P c0 v xs :=
  ⟨(hb.block _ (blk_lt h.box)).trans h.box, (hb.block _ (blk_lt h.res)).trans h.res, Kd.N_below h.row hb, below_step h.below hb⟩
theorem PB.grow (h : PB w wr P c0 v xs) (hP : ∀ k, P k → k < w.heap.size) (ho : Kd.N k25 25 w3 w.heap.size (fun k => P k ∨ w.heap.size + 2 ≤ k) v1 ys) (hb3 : Below w.heap.size w w3) (hg : wr.grownBy w3 v.ownBlock) : PB w w3 P c0 v1 ys := by
  have n0 : some w.heap.size ≠ v.ownBlock := fun e => by
    rcases h.row.1 _ e.symm with h | h
    · have := hP _ h; omega
    · omega
  have n1 : some (w.heap.size + 1) ≠ v.ownBlock := fun e => by
    rcases h.row.1 _ e.symm with h | h
    · have := hP _ h; omega
    · omega
  exact ⟨grown_kept hg h.box n0, grown_kept hg h.res n1, ho, hb3⟩
theorem PB.apart (h : PB w wr P c0 v xs) (hP : ∀ k, P k → k < w.heap.size) : ∀ k, P k → (P k ∨ w.heap.size + 2 ≤ k) ∧ some k ≠ v.ownBlock := in_apart hP h.row
end
end Go.Proofs.Ytmfjbljdbkmkgaa.PDom

/- What laws.inlineTree makes of a tree: its nodes in order, as many as may come, so deep; texts of printed ASCII, names of some. Plain facts. -/
namespace Go.Proofs.Ytmfjbljdbkmkgaa.Dom
open Go.RowKit Go.Proofs.YtmfjbljdbkmkgaaW.PrintWords Go.Proofs.YtmfjbljdbkmkgaaW.PrintLast Go.Proofs.YtmfjbljdbkmkgaaW.PrintMore Go.Proofs.Ytmfjbljdbkmkgaa.PDom Go.Proofs.Ytmfjbljdbkmkgaa.Txt
set_option linter.unusedVariables false
set_option linter.unusedSimpArgs false

/-! ### Names -/
theorem named_some (l : List ByteArray) (hl : l.length ≤ 4611686018427387904) (s : ByteArray) : ∀ (n j k : Nat), j + n = l.length → n < k → spec_Named.l0 k s l (l.length : Int) (j : Int) = some ((l.drop j).any fun x => x.toList == s.toList)
  | 0, j, k, hj, hk => by
    obtain ⟨k, rfl⟩ : ∃ m, k = m + 1 := ⟨k - 1, by omega⟩
    rw [spec_Named.l0, if_neg (by omega), List.drop_eq_nil_of_le (by omega)]
    rfl
  | n + 1, j, k, hj, hk => by
    obtain ⟨k, rfl⟩ : ∃ m, k = m + 1 := ⟨k - 1, by omega⟩
    have hlt : j < l.length := by omega
    have hr : rdOf ByteArray.empty l (j : Int) = l[j] := by simp [rdOf, List.getD_eq_getElem?_getD, List.getElem?_eq_getElem hlt]
    have hw : wrap64 ((j : Int) + 1) = ((j + 1 : Nat) : Int) := by unfold wrap64; omega
    rw [spec_Named.l0, if_pos (by omega), if_pos (by omega), if_pos (by omega), hr, hw, any_dropN hlt]
    by_cases e : l[j].toList = s.toList
    · rw [if_pos e, if_pos (beq_iff_eq.2 e)]
    · rw [if_neg e, if_neg (fun h => e (beq_iff_eq.1 h))]
      exact named_some l hl s n (j + 1) k (by omega) (by omega)
theorem named_f (l : List ByteArray) (hl : l.length ≤ 4611686018427387904) (s : ByteArray) (k : Nat) (hk : l.length < k) : spec_Named.f k l s = some (l.any fun x => x.toList == s.toList) := by
  have := named_some l hl s l.length 0 k (by omega) hk
  rw [List.drop_zero] at this
  exact this
def names14 : List ByteArray := [(⟨#[100, 105, 118]⟩ : ByteArray), (⟨#[112]⟩ : ByteArray), (⟨#[115, 112, 97, 110]⟩ : ByteArray), (⟨#[98]⟩ : ByteArray), (⟨#[115, 116, 114, 111, 110, 103]⟩ : ByteArray), (⟨#[101, 109]⟩ : ByteArray), (⟨#[105]⟩ : ByteArray), (⟨#[97]⟩ : ByteArray), (⟨#[99, 111, 100, 101]⟩ : ByteArray), (⟨#[112, 114, 101]⟩ : ByteArray), (⟨#[98, 114]⟩ : ByteArray), (⟨#[105, 109, 103]⟩ : ByteArray), (⟨#[117, 108]⟩ : ByteArray), (⟨#[108, 105]⟩ : ByteArray)]
def nmC (s : ByteArray) : ByteArray := if (names14.any fun x => x.toList == s.toList) = true then s else rdOf ByteArray.empty names14 ((s.size : Int) % 14)
theorem name_f (s : ByteArray) (k : Nat) (hk : 14 < k) : laws_inlineName.f k s = some (nmC s) := by
  have h1 := named_f names14 (by decide) s k hk
  have h0 : laws_inlineNames.f = some names14 := rfl
  rw [laws_inlineName.f, h0, Option.bind_some, h1, Option.bind_some]
  have hlen : (names14.length : Int) = 14 := rfl
  rw [hlen, if_neg (show ¬ (14 : Int) = 0 by decide), if_pos (show 0 ≤ (s.size : Int) % 14 by omega), if_pos (show (s.size : Int) % 14 < 14 by omega)]
  unfold nmC
  split <;> rfl
theorem nmC_mem (s : ByteArray) : nmC s ∈ names14 := by
  unfold nmC
  split
  · rename_i h
    obtain ⟨x, hx, e⟩ := List.any_eq_true.1 h
    rw [← toList_inj (beq_iff_eq.1 e)]
    exact hx
  · have h1 : ((s.size : Int) % 14).toNat < names14.length := by show _ < 14; omega
    simp only [rdOf, List.getD_eq_getElem?_getD, List.getElem?_eq_getElem h1, Option.getD_some]
    exact List.getElem_mem h1
/-! ### Texts -/
def ascB (s : ByteArray) : ByteArray := (laws_inlineASCII.f 400 s).getD ⟨#[]⟩
theorem asc_f (s : ByteArray) (hs : s.size ≤ 140737488351232) : ∃ r, ascB s = strOfNums r ∧ (∀ k, 301 < k → laws_inlineASCII.f k s = some (ascB s)) ∧ r.length ≤ 300 ∧ Asc r := by
  obtain ⟨r, h1, h2, h3⟩ := ascii s hs
  have e : ascB s = strOfNums r := by unfold ascB; rw [h1 400 (by omega)]; rfl
  exact ⟨r, e, fun k hk => by rw [e]; exact h1 k hk, h2, h3⟩
/-! ### The tree, cut -/
def brN : ByteArray := ⟨#[98, 114]⟩
def imgN : ByteArray := ⟨#[105, 109, 103]⟩
mutual
def cutT (d l : Int) : T → T × Int
  | ⟨k, n, x, _, ks⟩ => if k = 1 then (⟨1, ⟨#[]⟩, ascB x, [], []⟩, l - 1) else if k = 2 then (⟨2, ⟨#[]⟩, ascB x, [], []⟩, l - 1) else
    if nmC n = brN ∨ nmC n = imgN then (⟨0, nmC n, ⟨#[]⟩, [], []⟩, l - 1) else (⟨0, nmC n, ⟨#[]⟩, [], (cutL d (l - 1) ks).1⟩, (cutL d (l - 1) ks).2)
def cutL (d l : Int) : List T → List T × Int
  | [] => ([], l)
  | k :: ks => if 0 < l ∧ 0 < d then ((cutT (d - 1) l k).1 :: (cutL d (cutT (d - 1) l k).2 ks).1, (cutL d (cutT (d - 1) l k).2 ks).2) else cutL d l ks
end
/-- Up to a place, and from there on. -/
theorem cutL_append (d : Int) (a b : List T) : ∀ l, cutL d l (a ++ b) = ((cutL d l a).1 ++ (cutL d (cutL d l a).2 b).1, (cutL d (cutL d l a).2 b).2) := by
  induction a with
  | nil => intro l; rfl
  | cons k a ih =>
    intro l
    rw [List.cons_append, cutL, cutL]
    split
    · rw [ih]
      rfl
    · exact ih l
theorem cutL_one (d l : Int) (k : T) : cutL d l [k] = if 0 < l ∧ 0 < d then ([(cutT (d - 1) l k).1], (cutT (d - 1) l k).2) else ([], l) := by
  rw [cutL]
  split <;> rfl
/-- How many nodes there are, and how many may still come. -/
theorem cut_count (t : T) : ∀ (d l : Int), 0 < l → (countT (cutT d l t).1 : Int) + (cutT d l t).2 = l ∧ 0 ≤ (cutT d l t).2 ∧ (cutT d l t).2 < l := by
  induction t using T_induct with
  | h t ih =>
    intro d l hl
    cases t with
    | mk k n x as_ ks =>
      have hL : ∀ (c : List T), (∀ y ∈ c, y ∈ ks) → ∀ l : Int, 0 ≤ l → (countTL (cutL d l c).1 : Int) + (cutL d l c).2 = l ∧ 0 ≤ (cutL d l c).2 ∧ (cutL d l c).2 ≤ l := by
        intro c
        induction c with
        | nil => intro _ l hl; simp [cutL, countTL]; exact hl
        | cons y c ih2 =>
          intro hm l hl
          rw [cutL]
          split
          · rename_i h0
            obtain ⟨a1, a2, a3⟩ := ih y (hm y (by simp)) (d - 1) l h0.1
            obtain ⟨b1, b2, b3⟩ := ih2 (fun z hz => hm z (by simp [hz])) (cutT (d - 1) l y).2 a2
            simp only [countTL]
            refine ⟨?_, b2, by omega⟩
            push_cast
            omega
          · exact ih2 (fun z hz => hm z (by simp [hz])) l hl
      rw [cutT]
      split
      · simp [countT, countTL]; omega
      · split
        · simp [countT, countTL]; omega
        · split
          · simp [countT, countTL]; omega
          · obtain ⟨a1, a2, a3⟩ := hL ks (fun y hy => hy) (l - 1) (by omega)
            simp only [countT]
            refine ⟨?_, a2, by omega⟩
            push_cast
            omega
theorem cutL_le (d : Int) (c : List T) : ∀ l : Int, 0 ≤ l → 0 ≤ (cutL d l c).2 ∧ (cutL d l c).2 ≤ l := by
  induction c with
  | nil => intro l hl; exact ⟨hl, Int.le_refl _⟩
  | cons y c ih =>
    intro l hl
    rw [cutL]
    split
    · rename_i h0
      obtain ⟨_, a2, a3⟩ := cut_count y (d - 1) l h0.1
      obtain ⟨b2, b3⟩ := ih (cutT (d - 1) l y).2 a2
      exact ⟨b2, by omega⟩
    · exact ih l hl
theorem cutL_len (d : Int) (c : List T) : ∀ l : Int, 0 ≤ l → ((cutL d l c).1.length : Int) ≤ l := by
  induction c with
  | nil => intro l hl; simpa [cutL] using hl
  | cons y c ih =>
    intro l hl
    rw [cutL]
    split
    · rename_i h0
      obtain ⟨_, a2, a3⟩ := cut_count y (d - 1) l h0.1
      have := ih (cutT (d - 1) l y).2 a2
      simp only [List.length_cons]
      push_cast
      omega
    · exact ih l hl
/-- Trees whose texts and rows can be counted. -/
inductive FitX : T → Prop
  | mk (t : T) (h1 : t.f1.size ≤ 140737488351232) (h2 : t.f2.size ≤ 140737488351232) (h3 : t.f3.length ≤ 4398046510976) (h4 : t.f4.length ≤ 4398046510976) (hk : ∀ y ∈ t.f4, FitX y) : FitX t
theorem FitX.fit {t : T} (h : FitX t) : Fit t := by
  induction h with
  | mk t _ _ h3 h4 _ ih => exact ⟨t, h3, h4, ih⟩
/-- What a cut tree is like: plain, its names some of these, its texts ASCII's, none of them long. -/
inductive CutOk : T → Prop
  | text (k : Int) (r : List Int) (hk : k = 1 ∨ k = 2) (hr : Asc r) (hl : r.length ≤ 300) : CutOk ⟨k, ⟨#[]⟩, strOfNums r, [], []⟩
  | elem (n : ByteArray) (ks : List T) (hn : n ∈ names14) (hv : n = brN ∨ n = imgN → ks = []) (hk : ∀ y ∈ ks, CutOk y) : CutOk ⟨0, n, ⟨#[]⟩, [], ks⟩
theorem cut_ok (t : T) : FitX t → ∀ d l, CutOk (cutT d l t).1 := by
  induction t using T_induct with
  | h t ih =>
    intro hf d l
    cases t with
    | mk k n x as_ ks =>
      obtain ⟨_, _, h2, _, _, hk⟩ := hf
      obtain ⟨r, e1, _, e3, e4⟩ := asc_f x h2
      rw [cutT]
      split
      · rw [e1]; exact .text 1 r (.inl rfl) e4 e3
      · split
        · rw [e1]; exact .text 2 r (.inr rfl) e4 e3
        · split
          · exact .elem _ _ (nmC_mem n) (fun _ => rfl) (fun y hy => by simp at hy)
          · rename_i hv
            have hL : ∀ (c : List T), (∀ y ∈ c, y ∈ ks) → ∀ l, ∀ y ∈ (cutL d l c).1, CutOk y := by
              intro c
              induction c with
              | nil => intro _ l y hy; simp [cutL] at hy
              | cons z c ih2 =>
                intro hm l y hy
                rw [cutL] at hy
                split at hy
                · rcases List.mem_cons.1 hy with e | e
                  · rw [e]
                    exact ih z (hm z (by simp)) (hk z (hm z (by simp))) _ _
                  · exact ih2 (fun q hq => hm q (by simp [hq])) _ y e
                · exact ih2 (fun q hq => hm q (by simp [hq])) _ y hy
            exact .elem _ _ (nmC_mem n) (fun h => absurd h hv) (hL ks (fun y hy => hy) _)
theorem countTL_ge (l : List T) : l.length ≤ countTL l := by
  induction l with
  | nil => exact Nat.le_refl _
  | cons k l ih =>
    have := countT_eq k
    rw [countTL, List.length_cons]
    omega
theorem cutOk_ok {t : T} (h : CutOk t) : countT t ≤ 1000000 → okT t = true := by
  induction h with
  | text k r hk hr hl => exact fun _ => okT_mk (.inl ⟨hk, rfl, rfl, rfl⟩) (Nat.zero_le _) (Nat.zero_le _) (fun y hy => by simp at hy)
  | elem n ks hn hv hk ih =>
    intro hc
    rw [countT] at hc
    have h1 := countTL_ge ks
    refine okT_mk (.inr (.inr ⟨rfl, rfl⟩)) (Nat.zero_le _) (by show ks.length ≤ _; omega) (fun y hy => ih y hy ?_)
    have : countT y ≤ countTL ks := by
      clear h1 hc ih hv hk
      have hy' : y ∈ ks := hy
      induction ks with
      | nil => simp at hy'
      | cons z ks ih =>
        rw [countTL]
        rcases List.mem_cons.1 hy' with e | e
        · rw [e]; omega
        · have := ih e e; omega
    omega
end Go.Proofs.Ytmfjbljdbkmkgaa.Dom

/- laws.inlineTree: its contract. -/
namespace Go.Proofs.Ytmfjbljdbkmkgaa.Dom
open Go.RowKit Go.Proofs.YtmfjbljdbkmkgaaW.PrintWords Go.Proofs.YtmfjbljdbkmkgaaW.PrintLast Go.Proofs.YtmfjbljdbkmkgaaW.PrintMore Go.Proofs.Ytmfjbljdbkmkgaa.PDom Go.Proofs.Ytmfjbljdbkmkgaa.Txt
set_option linter.unusedVariables false
set_option linter.unusedSimpArgs false

/-- All is as it was, but for the box of the number that is left. -/
abbrev OnL (lb : Nat) (w w' : World) : Prop := Only (put none_ lb dumI) w w'
theorem OnL.at {lb : Nat} {w w' : World} (h : OnL lb w w') {k : Nat} (hk : k < w.heap.size) (hne : k ≠ lb) : w'.heap[k]? = w.heap[k]? := h.block k hk (put_none lb k hne)
theorem OnL.then {lb : Nat} {w w1 w2 : World} (h : OnL lb w w1) (h2 : OnL lb w1 w2) : OnL lb w w2 := h.trans h2 (fun k hk _ => hk)
theorem OnL.below {lb : Nat} {w w1 w2 : World} (h : OnL lb w w1) (h2 : Below w.heap.size w1 w2) : OnL lb w w2 :=
  ⟨h2.os.trans h.os, h2.tape.trans h.tape, h2.output.trans h.output, Nat.le_trans h.size h2.size, fun k hk hd => (h2.block k hk).trans (h.block k hk hd)⟩
theorem OnL.of {lb : Nat} {w w1 : World} (h : Below w.heap.size w w1) : OnL lb w w1 := ⟨h.os, h.tape, h.output, h.size, fun k hk _ => h.block k hk⟩
theorem OnL.set {lb : Nat} {w w1 : World} (h : OnL lb w w1) (j : Nat) (u : Value) : OnL lb w (w1.setCell ⟨lb, j, none⟩ u) := Only.set h (p := ⟨lb, j, none⟩) (by show put none_ lb dumI lb ≠ none; rw [put_same]; simp) u
def zeroN : Array Value := #[.int .i64 0, .string ⟨#[]⟩, .string ⟨#[]⟩, .slice none 0 0, .slice none 0 0]
/-- The tree that is being made: its box, its row; the result's box; what is left. -/
structure TC (w wr : World) (lb : Nat) (L : Int) (nm : ByteArray) (v4 : Value) (l4 : List T) : Prop where
  box : wr.heap[w.heap.size + 2]? = some (.cells #[.int .i64 0, .string nm, .string ⟨#[]⟩, .slice none 0 0, v4] 25 (0, 0))
  res : wr.heap[w.heap.size + 1]? = some (.cells zeroN 25 (0, 0))
  lbx : wr.heap[lb]? = some (.cells #[.int .i64 L] 3 (0, 0))
  n4 : Kd.N k25 25 wr w.heap.size (fun k => w.heap.size + 3 ≤ k) v4 l4
  on : OnL lb w wr
section
variable {w wr w1 w2 w3 : World} {lb : Nat} {L L' : Int} {nm : ByteArray} {v4 v1 : Value} {l4 : List T}
theorem TC.size (h : TC w wr lb L nm v4 l4) : w.heap.size + 3 ≤ wr.heap.size := blk_lt h.box
theorem TC.moved (h : TC w wr lb L nm v4 l4) (hb : Below wr.heap.size wr w1) : TC w w1 lb L nm v4 l4 :=
  ⟨(hb.block _ (blk_lt h.box)).trans h.box, (hb.block _ (blk_lt h.res)).trans h.res, (hb.block _ (blk_lt h.lbx)).trans h.lbx, Kd.N_below h.n4 hb, h.on.below (hb.mono (by have := h.size; omega))⟩
theorem TC.call (h : TC w w1 lb L nm v4 l4) (hlb : lb < w.heap.size) (ho : OnL lb w1 w2) (hl : w2.heap[lb]? = some (.cells #[.int .i64 L'] 3 (0, 0))) : TC w w2 lb L' nm v4 l4 :=
  ⟨(ho.at (blk_lt h.box) (by omega)).trans h.box, (ho.at (blk_lt h.res) (by omega)).trans h.res, hl, Kd.N_step h.n4 (fun k hk hk2 => ho.at hk2 (by omega)), h.on.then ho⟩
theorem TC.kid (h : TC w w2 lb L nm v4 l4) (hlb : lb < w.heap.size) {p : T} (ho : Kd.N k25 25 w3 w.heap.size (fun k => w.heap.size + 3 ≤ k) v1 (l4 ++ [p])) (hb3 : Below w.heap.size w2 w3) (hg : w2.grownBy w3 v4.ownBlock) :
    w3.cell? ⟨w.heap.size + 2, 4, none⟩ = some v4 ∧ w3.frozen? ⟨w.heap.size + 2, 4, none⟩ = false ∧ TC w (w3.setCell ⟨w.heap.size + 2, 4, none⟩ v1) lb L nm v1 (l4 ++ [p]) := by
  have n2 : some (w.heap.size + 2) ≠ v4.ownBlock := fun e => by have := h.n4.1 _ e.symm; omega
  have n1 : some (w.heap.size + 1) ≠ v4.ownBlock := fun e => by have := h.n4.1 _ e.symm; omega
  have n0 : some lb ≠ v4.ownBlock := fun e => by have := h.n4.1 _ e.symm; omega
  have b3 := grown_kept hg h.box n2
  refine ⟨blk_cell b3 4, blk_frozen b3 4, blk_set b3 4 _, (Below.heap_setCell w3 _ _ _ (by show w.heap.size + 1 ≠ w.heap.size + 2; omega)).trans (grown_kept hg h.res n1), (Below.heap_setCell w3 _ _ _ (by show lb ≠ w.heap.size + 2; omega)).trans (grown_kept hg h.lbx n0), ?_, ?_⟩
  · refine Kd.N_far ho (fun k hk => ?_) _
    show k ≠ w.heap.size + 2
    omega
  · exact h.on.below (Below.setCell hb3 (p := ⟨w.heap.size + 2, 4, none⟩) (by show w.heap.size ≤ w.heap.size + 2; omega) _)
end
/-- What inlineTree returns. -/
def ToldC (w w' : World) (lb : Nat) (L : Int) (u : T) (e : Ending) : Prop := ∃ A4 c4, e = .returned (.agg #[.int .i64 u.f0, .string u.f1, .string u.f2, .slice none 0 0, .slice A4 u.f4.length c4]) ∧ u.f3 = [] ∧ u.f4.length ≤ c4 ∧ Kd.N k25 25 w' w.heap.size (fun k => w.heap.size ≤ k) (.slice A4 u.f4.length c4) u.f4 ∧ OnL lb w w' ∧ w'.heap[lb]? = some (.cells #[.int .i64 L] 3 (0, 0))
theorem cut_end {w w3 : World} {lb : Nat} {L : Int} {u : T} {A4 : Option Addr} {c4 : Nat} (hlb : lb < w.heap.size) (h3 : u.f3 = []) (hr : w.heap.size + 1 < w3.heap.size) (hl : w3.heap[lb]? = some (.cells #[.int .i64 L] 3 (0, 0))) (hon : OnL lb w w3)
    (h4 : Kd.N k25 25 w3 w.heap.size (fun k => w.heap.size + 3 ≤ k) (.slice A4 u.f4.length c4) u.f4) (a0 a1 a2 a3 a4 : Value) :
    ToldC w (((((w3.setCell ⟨w.heap.size + 1, 0, none⟩ a0).setCell ⟨w.heap.size + 1, 1, none⟩ a1).setCell ⟨w.heap.size + 1, 2, none⟩ a2).setCell ⟨w.heap.size + 1, 3, none⟩ a3).setCell ⟨w.heap.size + 1, 4, none⟩ a4) lb L u (.returned (.agg #[.int .i64 u.f0, .string u.f1, .string u.f2, .slice none 0 0, .slice A4 u.f4.length c4])) := by
  have hs := fun k (hk : k ≠ w.heap.size + 1) => sets5 w3 (w.heap.size + 1) a0 a1 a2 a3 a4 k hk
  have hb : Below w.heap.size w3 (((((w3.setCell ⟨w.heap.size + 1, 0, none⟩ a0).setCell ⟨w.heap.size + 1, 1, none⟩ a1).setCell ⟨w.heap.size + 1, 2, none⟩ a2).setCell ⟨w.heap.size + 1, 3, none⟩ a3).setCell ⟨w.heap.size + 1, 4, none⟩ a4) :=
    Below.setCell (Below.setCell (Below.setCell (Below.setCell (Below.setCell (Below.refl _ w3) (p := ⟨w.heap.size + 1, 0, none⟩) (Nat.le_succ _) _) (p := ⟨w.heap.size + 1, 1, none⟩) (Nat.le_succ _) _) (p := ⟨w.heap.size + 1, 2, none⟩) (Nat.le_succ _) _) (p := ⟨w.heap.size + 1, 3, none⟩) (Nat.le_succ _) _) (p := ⟨w.heap.size + 1, 4, none⟩) (Nat.le_succ _) _
  exact ⟨A4, c4, rfl, h3, (Kd.N_reads' h4).2.1, Kd.N_mono (Kd.N_step h4 (fun k hk _ => hs k (by omega))) (fun k hk => by omega), hon.below hb, (hs lb (by omega)).trans hl⟩
theorem fk_cut {W : World} {ok : Nat → Prop} {u : T} {A4 : Option Addr} {c4 : Nat} (h3 : u.f3 = []) (l4 : u.f4.length ≤ c4) (g4 : Kd.F k25 W ok A4 u.f4.length u.f4) : Kd.FK k25 W ok u [.int .i64 u.f0, .string u.f1, .string u.f2, .slice none 0 0, .slice A4 u.f4.length c4] := by
  have := k25_mkF W ok u (A3 := none) (c3 := 0) (by rw [h3]; exact Nat.le_refl _) (by rw [h3]; exact Kd.F_nil _ _ _) l4 g4
  rw [h3] at this
  exact this
/-- The three boxes, and one less left. -/
theorem cut_start {w : World} {lb : Nat} {l l' : Int} (hlb : w.heap[lb]? = some (.cells #[.int .i64 l] 3 (0, 0))) (c0 c1 c2 : Array Value) (W : World) (hW : W = (((w.setCell ⟨lb, 0, none⟩ (.int .i64 l')).alloc (.cells c0 25)).alloc (.cells c1 25)).alloc (.cells c2 25)) :
    W.heap.size = w.heap.size + 3 ∧ W.heap[w.heap.size]? = some (.cells c0 25 (0, 0)) ∧ W.heap[w.heap.size + 1]? = some (.cells c1 25 (0, 0)) ∧ W.heap[w.heap.size + 2]? = some (.cells c2 25 (0, 0)) ∧ W.heap[lb]? = some (.cells #[.int .i64 l'] 3 (0, 0)) ∧ OnL lb w W := by
  have hlt := blk_lt hlb
  obtain ⟨W3, hW3⟩ : ∃ W3, W3 = w.setCell ⟨lb, 0, none⟩ (.int .i64 l') := ⟨_, rfl⟩
  have kl3 : W3.heap[lb]? = some (.cells #[.int .i64 l'] 3 (0, 0)) := by rw [hW3]; exact blk_set hlb 0 _
  have hs3 : W3.heap.size = w.heap.size := by rw [hW3]; simp [World.setCell]
  have o3 : OnL lb w W3 := by rw [hW3]; exact (OnL.of (Below.refl _ w)).set 0 _
  rw [← hW3] at hW
  have e : W.heap = ((W3.heap.push (.cells c0 25 (0, 0))).push (.cells c1 25 (0, 0))).push (.cells c2 25 (0, 0)) := by rw [hW]; rfl
  have b4 : Below W3.heap.size W3 W := by rw [hW]; exact below_alloc (below_alloc (below_alloc (Below.refl _ _) _) _) _
  refine ⟨by rw [e]; simp [hs3], ?_, ?_, ?_, (b4.block _ (by omega)).trans kl3, o3.below (b4.mono (by omega))⟩ <;> rw [e] <;> simp only [Array.getElem?_push, Array.size_push, hs3] <;> repeat (first | rfl | rw [if_pos trivial] | rw [if_pos (by omega)] | rw [if_neg (by omega)])
end Go.Proofs.Ytmfjbljdbkmkgaa.Dom

/- laws.inlineTree: its walk. -/
namespace Go.Proofs.Ytmfjbljdbkmkgaa.Dom
open Go.RowKit Go.Proofs.YtmfjbljdbkmkgaaW.PrintWords Go.Proofs.YtmfjbljdbkmkgaaW.PrintLast Go.Proofs.YtmfjbljdbkmkgaaW.PrintMore Go.Proofs.Ytmfjbljdbkmkgaa.PDom Go.Proofs.Ytmfjbljdbkmkgaa.Txt
set_option linter.unusedVariables false
set_option linter.unusedSimpArgs false

set_option maxHeartbeats 4000000 in
set_option maxRecDepth 100000 in
theorem cut_calls : ∀ (n : Nat) (t : T), SizeOf.sizeOf t ≤ n → FitX t → ∀ (d l : Int), 0 ≤ d → d ≤ 8 → 0 < l → l ≤ 60 → ∀ (w : World) (lb : Nat) (P : Nat → Prop) (A3 : Option Addr) (c3 : Nat) (A4 : Option Addr) (c4 : Nat), w.heap[lb]? = some (.cells #[.int .i64 l] 3 (0, 0)) → (∀ k, P k → k ≠ lb ∧ k < w.heap.size) → Kd.F k25 w P A4 t.f4.length t.f4 → t.f4.length ≤ c4 →
    Calls Try.prog 31 #[.agg #[.int .i64 t.f0, .string t.f1, .string t.f2, .slice A3 t.f3.length c3, .slice A4 t.f4.length c4], .int .i64 d, .pointer (some ⟨lb, 0, none⟩)] w fun e w' => ToldC w w' lb (cutT d l t).2 (cutT d l t).1 e := by
  intro n
  induction n with
  | zero =>
    intro t h
    cases t
    simp at h
  | succ n ih =>
    intro t hsz hfit d l hd0 hd8 hl0 hl60 w lb P A3 c3 A4 c4 hlb hP h4 l4
    obtain ⟨f0, f1, f2, f3, f4⟩ := t
    simp only at h4 l4 ⊢
    have hlt := blk_lt hlb
    have HSZ := Aside0.mk hsz
    have HFIT := Aside0.mk hfit
    have HP := Aside0.mk hP
    have H4 := Aside0.mk h4
    have L4 := Aside0.mk l4
    have IH := Aside0.mk ih
    have HLB := Aside0.mk hlb
    have hw1 : wrap64 (l - 1) = l - 1 := by unfold wrap64; omega
    have q0 : w.cell? ⟨lb, 0, none⟩ = some (.int .i64 l) := by rw [blk_cell hlb]; rfl
    have qf : w.frozen? ⟨lb, 0, none⟩ = false := blk_frozen hlb 0
    by_cases k1 : f0 = 1 ∨ f0 = 2
    · obtain ⟨W, hW⟩ : ∃ W, W = (((w.setCell ⟨lb, 0, none⟩ (.int .i64 (l - 1))).alloc (.cells #[.int .i64 f0, .string f1, .string f2, .slice A3 f3.length c3, .slice A4 f4.length c4] 25)).alloc (.cells #[.int .i64 0, .string ⟨#[]⟩, .string ⟨#[]⟩, .slice none 0 0, .slice none 0 0] 25)).alloc (.cells #[.int .i64 f0, .string f1, .string f2, .slice none 0 0, .slice none 0 0] 25) := ⟨_, rfl⟩
      obtain ⟨z0, z1, z2, z3, z4, z5⟩ := cut_start (l' := l - 1) hlb _ _ _ W hW
      obtain ⟨r, e1, e2, _, _⟩ := asc_f f2 (by cases hfit with | mk _ h1 h2 h3 h4 hk => exact h2)
      have HA := Aside0.mk (laws_inlineASCII.calls 400 f2 (ascB f2) W (e2 400 (by omega)))
      have Z0 := Aside0.mk z0
      have Z2 := Aside0.mk z2
      have Z4 := Aside0.mk z4
      have Z5 := Aside0.mk z5
      clear hsz hfit h4 l4 ih hP z0 z1 z2 z3 z4 z5 e1 e2 HSZ HFIT HP H4 L4 IH hd0 hd8 hl0 hl60
      rcases k1 with rfl | rfl
      · rw [show (cutT d l ⟨1, f1, f2, f3, f4⟩).2 = l - 1 by rw [cutT, if_pos rfl], show (cutT d l ⟨1, f1, f2, f3, f4⟩).1 = ⟨1, ⟨#[]⟩, ascB f2, [], []⟩ by rw [cutT, if_pos rfl]]
        clear hlb
        go_enter Try.func31, Try.ntmps31
        go_wp2_with fail
        rw [← hW]
        clear hW
        refine HA.out.mono ?_
        rintro e w3 ⟨rfl, hB⟩
        have hb2 := (hB.block _ (blk_lt Z2.out)).trans Z2.out
        have HE := Aside0.mk (fun a0 a1 a2 a3 a4 => cut_end (w := w) (w3 := w3) (u := ⟨1, ⟨#[]⟩, ascB f2, [], []⟩) (A4 := none) (c4 := 0) hlt rfl (blk_lt hb2) ((hB.block _ (blk_lt Z4.out)).trans Z4.out) (Z5.out.below (hB.mono (by have := Z0.out; omega))) (Kd.N_nil _ _ _ _ _) a0 a1 a2 a3 a4)
        have g0 := blk_frozen hb2 0
        have g1 := blk_frozen hb2 1
        have g2 := blk_frozen hb2 2
        have g3 := blk_frozen hb2 3
        have g4 := blk_frozen hb2 4
        have p0 := blk_cell hb2 0
        have p1 := blk_cell hb2 1
        have p2 := blk_cell hb2 2
        have p3 := blk_cell hb2 3
        have p4 := blk_cell hb2 4
        clear hb2 hB HA
        go_wp2_with fail
        refine bodyPost_ret (v := .agg #[.int .i64 1, .string ⟨#[]⟩, .string (ascB f2), .slice none 0 0, .slice none 0 0]) (by simp [results, Try.results31, go_sem, p0, p1, p2, p3, p4]) rfl ?_
        exact HE.out _ _ _ _ _
      · rw [show (cutT d l ⟨2, f1, f2, f3, f4⟩).2 = l - 1 by rw [cutT, if_neg (by decide), if_pos rfl], show (cutT d l ⟨2, f1, f2, f3, f4⟩).1 = ⟨2, ⟨#[]⟩, ascB f2, [], []⟩ by rw [cutT, if_neg (by decide), if_pos rfl]]
        clear hlb
        go_enter Try.func31, Try.ntmps31
        go_wp2_with fail
        rw [← hW]
        clear hW
        refine HA.out.mono ?_
        rintro e w3 ⟨rfl, hB⟩
        have hb2 := (hB.block _ (blk_lt Z2.out)).trans Z2.out
        have HE := Aside0.mk (fun a0 a1 a2 a3 a4 => cut_end (w := w) (w3 := w3) (u := ⟨2, ⟨#[]⟩, ascB f2, [], []⟩) (A4 := none) (c4 := 0) hlt rfl (blk_lt hb2) ((hB.block _ (blk_lt Z4.out)).trans Z4.out) (Z5.out.below (hB.mono (by have := Z0.out; omega))) (Kd.N_nil _ _ _ _ _) a0 a1 a2 a3 a4)
        have g0 := blk_frozen hb2 0
        have g1 := blk_frozen hb2 1
        have g2 := blk_frozen hb2 2
        have g3 := blk_frozen hb2 3
        have g4 := blk_frozen hb2 4
        have p0 := blk_cell hb2 0
        have p1 := blk_cell hb2 1
        have p2 := blk_cell hb2 2
        have p3 := blk_cell hb2 3
        have p4 := blk_cell hb2 4
        clear hb2 hB HA
        go_wp2_with fail
        refine bodyPost_ret (v := .agg #[.int .i64 2, .string ⟨#[]⟩, .string (ascB f2), .slice none 0 0, .slice none 0 0]) (by simp [results, Try.results31, go_sem, p0, p1, p2, p3, p4]) rfl ?_
        exact HE.out _ _ _ _ _
    · have kk1 : f0 ≠ 1 := fun e => k1 (.inl e)
      have kk2 : f0 ≠ 2 := fun e => k1 (.inr e)
      have d1 : decide (f0 = 1) = false := decide_eq_false kk1
      have d2 : decide (f0 = 2) = false := decide_eq_false kk2
      have b1 : (f0 == 1) = false := beq_eq_false_iff_ne.2 kk1
      have b2 : (f0 == 2) = false := beq_eq_false_iff_ne.2 kk2
      obtain ⟨W, hW⟩ : ∃ W, W = (((w.setCell ⟨lb, 0, none⟩ (.int .i64 (l - 1))).alloc (.cells #[.int .i64 f0, .string f1, .string f2, .slice A3 f3.length c3, .slice A4 f4.length c4] 25)).alloc (.cells #[.int .i64 0, .string ⟨#[]⟩, .string ⟨#[]⟩, .slice none 0 0, .slice none 0 0] 25)).alloc (.cells #[.int .i64 f0, .string f1, .string f2, .slice none 0 0, .slice none 0 0] 25) := ⟨_, rfl⟩
      obtain ⟨z0, z1, z2, z3, z4, z5⟩ := cut_start (l' := l - 1) hlb _ _ _ W hW
      have HA := Aside0.mk (laws_inlineName.calls 20 f1 (nmC f1) W (name_f f1 20 (by omega)))
      have Z0 := Aside0.mk z0
      have Z1 := Aside0.mk z1
      have Z2 := Aside0.mk z2
      have Z3 := Aside0.mk z3
      have Z4 := Aside0.mk z4
      have Z5 := Aside0.mk z5
      have HC := Aside0.mk (show (cutT d l ⟨f0, f1, f2, f3, f4⟩).1 = (if nmC f1 = brN ∨ nmC f1 = imgN then ⟨0, nmC f1, ⟨#[]⟩, [], []⟩ else ⟨0, nmC f1, ⟨#[]⟩, [], (cutL d (l - 1) f4).1⟩) ∧ (cutT d l ⟨f0, f1, f2, f3, f4⟩).2 = (if nmC f1 = brN ∨ nmC f1 = imgN then l - 1 else (cutL d (l - 1) f4).2) from by
        rw [cutT, if_neg kk1, if_neg kk2]
        split <;> exact ⟨rfl, rfl⟩)
      have HD0 := Aside0.mk hd0
      have HD8 := Aside0.mk hd8
      have HL60 := Aside0.mk hl60
      have HL0 := Aside0.mk hl0
      clear hsz hfit h4 l4 ih hP hlb z0 z1 z2 z3 z4 z5 k1 kk1 kk2 hd0 hd8 hl0 hl60
      go_enter Try.func31, Try.ntmps31
      go_wp2_with fail
      rw [← hW]
      clear hW
      refine HA.out.mono ?_
      rintro e w3 ⟨rfl, hB⟩
      have hb2 := (hB.block _ (blk_lt Z3.out)).trans Z3.out
      have HT := Aside0.mk (show TC w (((((w3.setCell ⟨w.heap.size + 1 + 1, 0, none⟩ (.int .i64 0)).setCell ⟨w.heap.size + 1 + 1, 1, none⟩ (.string (nmC f1))).setCell ⟨w.heap.size + 1 + 1, 2, none⟩ (.string ⟨#[]⟩)).setCell ⟨w.heap.size + 1 + 1, 3, none⟩ (.slice none 0 0)).setCell ⟨w.heap.size + 1 + 1, 4, none⟩ (.slice none 0 0)) lb (l - 1) (nmC f1) (.slice none 0 0) [] from by
        have hs := fun k (hk : k ≠ w.heap.size + 2) => sets5 w3 (w.heap.size + 2) (.int .i64 0) (.string (nmC f1)) (.string ⟨#[]⟩) (.slice none 0 0) (.slice none 0 0) k hk
        have hz := Z0.out
        refine ⟨sets5_box hb2 _ _ _ _ _, (hs _ (by omega)).trans ((hB.block _ (blk_lt Z2.out)).trans Z2.out), (hs _ (by omega)).trans ((hB.block _ (blk_lt Z4.out)).trans Z4.out), Kd.N_nil _ _ _ _ _, (Z5.out.below (hB.mono (by omega))).below ?_⟩
        exact Below.setCell (Below.setCell (Below.setCell (Below.setCell (Below.setCell (Below.refl _ w3) (p := ⟨w.heap.size + 2, 0, none⟩) (by show _ ≤ w.heap.size + 2; omega) _) (p := ⟨w.heap.size + 2, 1, none⟩) (by show _ ≤ w.heap.size + 2; omega) _) (p := ⟨w.heap.size + 2, 2, none⟩) (by show _ ≤ w.heap.size + 2; omega) _) (p := ⟨w.heap.size + 2, 3, none⟩) (by show _ ≤ w.heap.size + 2; omega) _) (p := ⟨w.heap.size + 2, 4, none⟩) (by show _ ≤ w.heap.size + 2; omega) _)
      have hbN := (hB.block _ (blk_lt Z1.out)).trans Z1.out
      have HBN := Aside0.mk hbN
      have g0 := blk_frozen hb2 0
      have g1 := blk_frozen hb2 1
      have g2 := blk_frozen hb2 2
      have g3 := blk_frozen hb2 3
      have g4 := blk_frozen hb2 4
      have p0 := blk_cell hb2 0
      have p1 := blk_cell hb2 1
      have p2 := blk_cell hb2 2
      have p3 := blk_cell hb2 3
      have p4 := blk_cell hb2 4
      have r4 := blk_cell hbN 4
      clear hb2 hbN hB HA
      go_upto_region 8 with fail
      have HR4 := Aside0.mk (show (((((w3.setCell ⟨w.heap.size + 1 + 1, 0, none⟩ (.int .i64 0)).setCell ⟨w.heap.size + 1 + 1, 1, none⟩ (.string (nmC f1))).setCell ⟨w.heap.size + 1 + 1, 2, none⟩ (.string ⟨#[]⟩)).setCell ⟨w.heap.size + 1 + 1, 3, none⟩ (.slice none 0 0)).setCell ⟨w.heap.size + 1 + 1, 4, none⟩ (.slice none 0 0)).cell? ⟨w.heap.size, 4, none⟩ = some (.slice A4 f4.length c4) from
        blk_cell ((sets5 w3 (w.heap.size + 2) (.int .i64 0) (.string (nmC f1)) (.string ⟨#[]⟩) (.slice none 0 0) (.slice none 0 0) _ (by omega)).trans HBN.out) 4)
      clear g0 g1 g2 g3 g4 p0 p1 p2 p3 p4 r4 HBN Z0 Z1 Z2 Z3 Z4 Z5
      generalize hW4 : ((((w3.setCell ⟨w.heap.size + 1 + 1, 0, none⟩ (.int .i64 0)).setCell ⟨w.heap.size + 1 + 1, 1, none⟩ (.string (nmC f1))).setCell ⟨w.heap.size + 1 + 1, 2, none⟩ (.string ⟨#[]⟩)).setCell ⟨w.heap.size + 1 + 1, 3, none⟩ (.slice none 0 0)).setCell ⟨w.heap.size + 1 + 1, 4, none⟩ (.slice none 0 0) = W4 at HT HR4 ⊢
      clear hW4
      have r4 := HR4.out
      have o1 : W4.cell? ⟨w.heap.size + 1 + 1, 1, none⟩ = some (.string (nmC f1)) := blk_cell HT.out.box 1
      by_cases hv : nmC f1 = brN ∨ nmC f1 = imgN
      · have hc := HC.out
        rw [if_pos hv, if_pos hv] at hc
        have HC2 := Aside0.mk hc
        clear hc HC
        have o0 : W4.cell? ⟨w.heap.size + 1 + 1, 0, none⟩ = some (.int .i64 0) := blk_cell HT.out.box 0
        have o2 : W4.cell? ⟨w.heap.size + 1 + 1, 2, none⟩ = some (.string ⟨#[]⟩) := blk_cell HT.out.box 2
        have o3 : W4.cell? ⟨w.heap.size + 1 + 1, 3, none⟩ = some (.slice none 0 0) := blk_cell HT.out.box 3
        have o4 : W4.cell? ⟨w.heap.size + 1 + 1, 4, none⟩ = some (.slice none 0 0) := blk_cell HT.out.box 4
        have hr := HT.out.res
        have g0 := blk_frozen hr 0
        have g1 := blk_frozen hr 1
        have g2 := blk_frozen hr 2
        have g3 := blk_frozen hr 3
        have g4 := blk_frozen hr 4
        have p0 := blk_cell hr 0
        have p1 := blk_cell hr 1
        have p2 := blk_cell hr 2
        have p3 := blk_cell hr 3
        have p4 := blk_cell hr 4
        simp only [zeroN] at p0 p1 p2 p3 p4
        have HE := Aside0.mk (fun a0 a1 a2 a3 a4 => cut_end (w := w) (w3 := W4) (u := ⟨0, nmC f1, ⟨#[]⟩, [], []⟩) (A4 := none) (c4 := 0) hlt rfl (blk_lt hr) HT.out.lbx HT.out.on HT.out.n4 a0 a1 a2 a3 a4)
        clear hr HT HR4
        generalize nmC f1 = nm at *
        rcases hv with rfl | rfl
        · simp only [brN] at *
          go_wp2_with fail
          refine bodyPost_ret (v := .agg #[.int .i64 0, .string ⟨#[98, 114]⟩, .string ⟨#[]⟩, .slice none 0 0, .slice none 0 0]) (by simp [results, Try.results31, go_sem, p0, p1, p2, p3, p4]) rfl ?_
          rw [HC2.out.1, HC2.out.2]
          exact HE.out _ _ _ _ _
        · simp only [imgN] at *
          go_wp2_with fail
          refine bodyPost_ret (v := .agg #[.int .i64 0, .string ⟨#[105, 109, 103]⟩, .string ⟨#[]⟩, .slice none 0 0, .slice none 0 0]) (by simp [results, Try.results31, go_sem, p0, p1, p2, p3, p4]) rfl ?_
          rw [HC2.out.1, HC2.out.2]
          exact HE.out _ _ _ _ _
      · have hc := HC.out
        rw [if_neg hv, if_neg hv] at hc
        have HC2 := Aside0.mk hc
        clear hc HC
        have m1 : ((nmC f1).toList == (⟨#[98, 114]⟩ : ByteArray).toList) = false := beq_eq_false_iff_ne.2 (fun e => hv (.inl (toList_inj e)))
        have m2 : ((nmC f1).toList == (⟨#[105, 109, 103]⟩ : ByteArray).toList) = false := beq_eq_false_iff_ne.2 (fun e => hv (.inr (toList_inj e)))
        clear hv
        have x1 : (⟨#[98, 114]⟩ : ByteArray).toList = [98, 114] := (ByteArray.toList_eq _).trans rfl
        have x2 : (⟨#[105, 109, 103]⟩ : ByteArray).toList = [105, 109, 103] := (ByteArray.toList_eq _).trans rfl
        rw [x1] at m1
        rw [x2] at m2
        generalize nmC f1 = nm at *
        clear x1 x2
        go_wp2_with fail
        go_loopw [54] (fun vi wr => ∃ (j : Nat) (v4 : Value), vi = .int .i64 j ∧ j ≤ f4.length ∧ Aside0 (TC w wr lb (cutL d (l - 1) (f4.take j)).2 nm v4 (cutL d (l - 1) (f4.take j)).1)) (fun vi _ => f4.length - (intOf vi).toNat)
        case atStart => exact ⟨0, _, rfl, Nat.zero_le _, HT⟩
        case round =>
          clear HT HR4 r4 m1 m2
          obtain ⟨j, v4, rfl, hj, HT⟩ := hrel
          by_cases hlt2 : j < f4.length
          · have hF := Kd.F_step H4.out (fun k hk hk2 => HT.out.on.at hk2 (HP.out k hk).1)
            obtain ⟨ad, A5, c5, A6, c6, rfl, y0, y1, y2, y3, y4, m3, g3, m4, g4⟩ := at_F hF (j : Int) (by omega) (by omega)
            have he : f4.getD (j : Int).toNat z25 = f4[j] := by simp [List.getD_eq_getElem?_getD, List.getElem?_eq_getElem hlt2]
            rw [he] at y0 y1 y2 y3 y4 m3 g3 m4 g4
            simp only [Int.toNat_natCast] at y0 y1 y2 y3 y4
            have hq : f4[j] ∈ f4 := List.getElem_mem _
            have hfq : FitX f4[j] := by obtain ⟨_, _, _, _, _, hk⟩ := HFIT.out; exact hk _ hq
            have hsq : SizeOf.sizeOf f4[j] ≤ n := by have h1 := kid_lt (t := ⟨f0, f1, f2, f3, f4⟩) hq; have h2 := HSZ.out; omega
            have hsn : cutL d (l - 1) (f4.take (j + 1)) = if 0 < (cutL d (l - 1) (f4.take j)).2 ∧ 0 < d then ((cutL d (l - 1) (f4.take j)).1 ++ [(cutT (d - 1) (cutL d (l - 1) (f4.take j)).2 f4[j]).1], (cutT (d - 1) (cutL d (l - 1) (f4.take j)).2 f4[j]).2) else ((cutL d (l - 1) (f4.take j)).1, (cutL d (l - 1) (f4.take j)).2) := by
              rw [List.take_succ_eq_append_getElem hlt2, cutL_append, cutL_one]
              split <;> simp
            have hL := cutL_le d (f4.take j) (l - 1) (by have := HL0.out; omega)
            have hlen : (cutL d (l - 1) (f4.take j)).1.length ≤ 1000000 := by
              have := cutL_len d (f4.take j) (l - 1) (by have := HL0.out; omega)
              have := HL60.out
              omega
            generalize f4[j] = q at *
            generalize (cutL d (l - 1) (f4.take j)).1 = la at *
            generalize (cutL d (l - 1) (f4.take j)).2 = L at *
            have HWJ := Aside0.mk (wrap_succ j (by obtain ⟨_, _, _, _, ha, _⟩ := HFIT.out; simp only at ha; omega))
            have ql := blk_cell HT.out.lbx 0
            have HSN := Aside0.mk hsn
            have HKC := Aside0.mk (fun (hL0 : 0 < L) (hd1 : 0 < d) wx (hb : Below wr.heap.size wr wx) => IH.out q hsq hfq (d - 1) L (by omega) (by have := HD8.out; omega) hL0 (by have := HL60.out; omega) wx lb P A5 c5 A6 c6 ((hb.block _ (blk_lt HT.out.lbx)).trans HT.out.lbx) (fun k hk => ⟨(HP.out k hk).1, by have h1 := (HP.out k hk).2; have h2 := HT.out.size; have h3 := hb.size; omega⟩) (Kd.F_below g4 hb) m4)
            have HLN := Aside0.mk hlen
            clear he hq hfq hsq hsn hL hF m3 g3 m4 g4 hlen
            have hwd : wrap64 (d - 1) = d - 1 := by have := HD0.out; have := HD8.out; unfold wrap64; omega
            go_upto_region 13 with fail
            have hcp : (wr.alloc (.cells #[.int .i64 q.f0, .string q.f1, .string q.f2, .slice A5 q.f3.length c5, .slice A6 q.f4.length c6] 25)).heap[wr.heap.size]? = some (.cells #[.int .i64 q.f0, .string q.f1, .string q.f2, .slice A5 q.f3.length c5, .slice A6 q.f4.length c6] 25 (0, 0)) := heap_alloc_new wr _
            have HB8 := Aside0.mk (below_alloc (Below.refl wr.heap.size wr) (.cells #[.int .i64 q.f0, .string q.f1, .string q.f2, .slice A5 q.f3.length c5, .slice A6 q.f4.length c6] 25))
            have HTP := Aside0.mk HT.out
            clear HT ql
            generalize wr.alloc (.cells #[.int .i64 q.f0, .string q.f1, .string q.f2, .slice A5 q.f3.length c5, .slice A6 q.f4.length c6] 25) = w8 at hcp HB8 ⊢
            have HT := Aside0.mk (HTP.out.moved HB8.out)
            have ql := blk_cell HT.out.lbx 0
            have HCP := Aside0.mk hcp
            clear hcp y0 y1 y2 y3 y4
            have hwk : IntKind.i64.wrap (d - 1) = d - 1 := by have := HD0.out; have := HD8.out; simp [IntKind.wrap, IntKind.bits, IntKind.signed]; omega
            by_cases hp : 0 < L ∧ 0 < d
            · obtain ⟨hp1, hp2⟩ := hp
              have HSN2 := Aside0.mk (HSN.out.trans (if_pos ⟨hp1, hp2⟩))
              have HKC2 := Aside0.mk (HKC.out hp1 hp2)
              clear HSN HKC
              go_upto_region 14 with fail
              have HDW := Aside0.mk (below_drew (Below.refl w8.heap.size w8))
              have hcd := (HDW.out.block _ (blk_lt HCP.out)).trans HCP.out
              have y0 := blk_cell HCP.out 0
              have y1 := blk_cell HCP.out 1
              have y2 := blk_cell HCP.out 2
              have y3 := blk_cell HCP.out 3
              have y4 := blk_cell HCP.out 4
              have yd0 := blk_cell hcd 0
              have yd1 := blk_cell hcd 1
              have yd2 := blk_cell hcd 2
              have yd3 := blk_cell hcd 3
              have yd4 := blk_cell hcd 4
              have x4 : w8.cell? ⟨w.heap.size + 1 + 1, 4, none⟩ = some v4 := blk_cell HT.out.box 4
              have x4d : w8.drew.cell? ⟨w.heap.size + 1 + 1, 4, none⟩ = some v4 := blk_cell (HT.out.moved HDW.out).box 4
              have HKW := Aside0.mk (HKC2.out _ (below_step HB8.out HDW.out))
              have HTD := Aside0.mk (HT.out.moved HDW.out)
              clear hcd HKC2
              generalize (cutT (d - 1) L q).1 = u at HKW HSN2
              generalize (cutT (d - 1) L q).2 = L2 at HKW HSN2
              have HOK := Aside0.mk (show ∀ k, wr.heap.size ≤ k → w.heap.size + 3 ≤ k ∧ some k ≠ v4.ownBlock from fun k hk => ⟨Nat.le_trans HTP.out.size hk, fun e => by have := Kd.N_lt HTP.out.n4 k e.symm; omega⟩)
              have HAF := Aside0.mk (show ∀ (w2 : World) (A7 : Option Addr) (c7 : Nat), u.f3 = [] → u.f4.length ≤ c7 → Kd.N k25 25 w2 w8.drew.heap.size (fun k => w8.drew.heap.size ≤ k) (.slice A7 u.f4.length c7) u.f4 → OnL lb w8.drew w2 → w2.heap[lb]? = some (.cells #[.int .i64 L2] 3 (0, 0)) →
                  Aside0 (TC w w2 lb L2 nm v4 la) ∧ Aside0 (w.heap.size ≤ w2.heap.size) ∧ Aside0 (Kd.FK k25 w2 (fun k => wr.heap.size ≤ k) u [.int .i64 u.f0, .string u.f1, .string u.f2, .slice none 0 0, .slice A7 u.f4.length c7]) ∧ Aside0 (∀ k, w2.heap.size ≤ k → w.heap.size + 3 ≤ k) ∧ w2.cell? ⟨w.heap.size + 1 + 1, 4, none⟩ = some v4 ∧ (w2.alloc (.cells #[.int .i64 u.f0, .string u.f1, .string u.f2, .slice none 0 0, .slice A7 u.f4.length c7] 25)).cell? ⟨w.heap.size + 1 + 1, 4, none⟩ = some v4 from fun w2 A7 c7 hu3 m7 N7 ho2 hl2 => by
                have h2 := HTD.out.call hlt ho2 hl2
                refine ⟨⟨h2⟩, ⟨by have := h2.size; omega⟩, ⟨Kd.FK_mono (fk_cut (W := w2) hu3 m7 (Kd.N_F N7)) (fun k hk => show wr.heap.size ≤ k from Nat.le_trans (Nat.le_trans HB8.out.size HDW.out.size) hk)⟩, ⟨fun k hk => Nat.le_trans h2.size hk⟩, blk_cell h2.box 4, blk_cell (h2.moved (below_alloc (Below.refl _ _) _)).box 4⟩)
              go_region_law (first
                | (refine kids_step (w0 := w2) (W := w2) rfl w.heap.size (.tmp 67) (.tmp 73) 23 (.agg #[.int .i64 0, .string ⟨#[]⟩, .string ⟨#[]⟩, .slice none 0 0, .slice none 0 0]) rfl Try.underlying23 infoNd rfl v4 la u [.int .i64 u.f0, .string u.f1, .string u.f2, .slice none 0 0, .slice A7 u.f4.length c7] (fun k => w.heap.size + 3 ≤ k) (fun k => wr.heap.size ≤ k) (by simp [Act.eval, Act.put]) (by simp [Act.eval, Act.put]) HFK.out HOK.out HFR.out HT2.out.n4 (Below.refl _ _) HSZ2.out (by have := HLN.out; omega) ?_; intro v1 w3 ho hb hg hat; obtain ⟨L1, hL1⟩ : ∃ L1, L1 = (la ++ [u]).length := ⟨_, rfl⟩; obtain ⟨A1, k1, hv1⟩ := Kd.N_slice ho; rw [← hL1] at hv1; subst hv1; clear hL1; obtain ⟨g3, gf3, ht3⟩ := HT2.out.kid hlt ho hb hg; have HT3 := Aside0.mk ht3; clear ho hb hg hat ht3)
                | (go_simp; go_at_call 31; (try simp only [hwk]); refine HKW.out.mono ?_; rintro e w2 ⟨A7, c7, rfl, hu3, m7, N7, ho2, hl2⟩; obtain ⟨HT2, HSZ2, HFK, HFR, x42, x43⟩ := HAF.out w2 A7 c7 hu3 m7 N7 ho2 hl2; clear hu3 m7 N7 ho2 hl2))
              all_goals (simp only [Exit.inBlock, Exit.then]; go_wp2_with fail; go_roundw)
              all_goals first
                | exact ⟨j + 1, _, by rw [HWJ.out], hlt2, by rw [HSN2.out]; exact HT3⟩
                | (rw [HWJ.out]; simp [intOf]; omega)
            · have HSN2 := Aside0.mk (HSN.out.trans (if_neg hp))
              clear HSN HKC
              by_cases hp1 : 0 < L
              · have hp2 : ¬ 0 < d := fun h => hp ⟨hp1, h⟩
                clear hp
                go_wp2_with fail
                go_roundw
                case rel => exact ⟨j + 1, _, by rw [HWJ.out], hlt2, by rw [HSN2.out]; exact HT⟩
                case measure => rw [HWJ.out]; simp [intOf]; omega
              · clear hp
                go_wp2_with fail
                go_roundw
                case rel => exact ⟨j + 1, _, by rw [HWJ.out], hlt2, by rw [HSN2.out]; exact HT⟩
                case measure => rw [HWJ.out]; simp [intOf]; omega
          · have hje : j = f4.length := by omega
            subst hje
            have hT := HT.out
            rw [List.take_of_length_le (Nat.le_refl _)] at hT
            generalize (cutL d (l - 1) f4).1 = la at *
            generalize (cutL d (l - 1) f4).2 = L at *
            obtain ⟨A7, c7, e4⟩ := Kd.N_slice hT.n4
            obtain ⟨n7, hn7⟩ : ∃ n7, n7 = la.length := ⟨_, rfl⟩
            rw [← hn7] at e4
            subst e4
            have o0 : wr.cell? ⟨w.heap.size + 1 + 1, 0, none⟩ = some (.int .i64 0) := blk_cell hT.box 0
            have o1 : wr.cell? ⟨w.heap.size + 1 + 1, 1, none⟩ = some (.string nm) := blk_cell hT.box 1
            have o2 : wr.cell? ⟨w.heap.size + 1 + 1, 2, none⟩ = some (.string ⟨#[]⟩) := blk_cell hT.box 2
            have o3 : wr.cell? ⟨w.heap.size + 1 + 1, 3, none⟩ = some (.slice none 0 0) := blk_cell hT.box 3
            have o4 : wr.cell? ⟨w.heap.size + 1 + 1, 4, none⟩ = some (.slice A7 n7 c7) := blk_cell hT.box 4
            have hr := hT.res
            have g0 := blk_frozen hr 0
            have g1 := blk_frozen hr 1
            have g2 := blk_frozen hr 2
            have g3 := blk_frozen hr 3
            have g4 := blk_frozen hr 4
            have p0 := blk_cell hr 0
            have p1 := blk_cell hr 1
            have p2 := blk_cell hr 2
            have p3 := blk_cell hr 3
            have p4 := blk_cell hr 4
            simp only [zeroN] at p0 p1 p2 p3 p4
            have HE := Aside0.mk (fun a0 a1 a2 a3 a4 => cut_end (w := w) (w3 := wr) (u := ⟨0, nm, ⟨#[]⟩, [], la⟩) (A4 := A7) (c4 := c7) hlt rfl (blk_lt hr) hT.lbx hT.on (by rw [hn7] at hT; exact hT.n4) a0 a1 a2 a3 a4)
            rw [← hn7] at HE
            clear hr hT HT hn7
            go_wp2_with fail
            refine bodyPost_ret (v := .agg #[.int .i64 0, .string nm, .string ⟨#[]⟩, .slice none 0 0, .slice A7 n7 c7]) (by simp [results, Try.results31, go_sem, p0, p1, p2, p3, p4]) rfl ?_
            rw [HC2.out.1, HC2.out.2]
            exact HE.out _ _ _ _ _
end Go.Proofs.Ytmfjbljdbkmkgaa.Dom

/- laws.inlineCutTree: its contract. -/
namespace Go.Proofs.Ytmfjbljdbkmkgaa.Dom
open Go.RowKit Go.Proofs.YtmfjbljdbkmkgaaW.PrintWords Go.Proofs.YtmfjbljdbkmkgaaW.PrintLast Go.Proofs.YtmfjbljdbkmkgaaW.PrintMore Go.Proofs.Ytmfjbljdbkmkgaa.PDom Go.Proofs.Ytmfjbljdbkmkgaa.Txt
set_option linter.unusedVariables false
set_option linter.unusedSimpArgs false

def divN : ByteArray := ⟨#[100, 105, 118]⟩
/-- A tree, cut: its root is a div. -/
def cutR (t : T) : T := ⟨0, divN, ⟨#[]⟩, [], (cutT 8 60 ⟨0, t.f1, t.f2, t.f3, t.f4⟩).1.f4⟩
theorem cutT_0 (t : T) : (cutT 8 60 ⟨0, t.f1, t.f2, t.f3, t.f4⟩).1.f0 = 0 ∧ (cutT 8 60 ⟨0, t.f1, t.f2, t.f3, t.f4⟩).1.f2 = ⟨#[]⟩ ∧ (cutT 8 60 ⟨0, t.f1, t.f2, t.f3, t.f4⟩).1.f3 = [] := by
  rw [cutT, if_neg (by decide), if_neg (by decide)]
  split <;> exact ⟨rfl, rfl, rfl⟩
mutual
def fitXB : T → Bool
  | ⟨_, n, x, as_, ks⟩ => (decide (n.size ≤ 140737488351232) && (decide (x.size ≤ 140737488351232) && (decide (as_.length ≤ 4398046510976) && decide (ks.length ≤ 4398046510976)))) && fitXBL ks
def fitXBL : List T → Bool
  | [] => true
  | k :: ks => fitXB k && fitXBL ks
end
theorem fitXBL_iff : ∀ {l : List T}, fitXBL l = true ↔ ∀ k ∈ l, fitXB k = true
  | [] => by simp [fitXBL]
  | k :: ks => by
    rw [fitXBL, Bool.and_eq_true, fitXBL_iff (l := ks)]
    simp
theorem fitXB_iff (t : T) : fitXB t = true ↔ FitX t := by
  induction t using T_induct with
  | h t ih =>
    cases t with
    | mk k n x as_ ks =>
      rw [fitXB]
      simp only [Bool.and_eq_true, decide_eq_true_eq]
      constructor
      · rintro ⟨⟨h1, h2, h3, h4⟩, h5⟩
        exact ⟨_, h1, h2, h3, h4, fun y hy => (ih y hy).1 (fitXBL_iff.1 h5 y hy)⟩
      · rintro ⟨_, h1, h2, h3, h4, h5⟩
        exact ⟨⟨h1, h2, h3, h4⟩, fitXBL_iff.2 (fun y hy => (ih y hy).2 (h5 y hy))⟩
theorem three_new (w : World) (o0 o1 o2 : Obj) : (((w.alloc o0).alloc o1).alloc o2).heap.size = w.heap.size + 3 ∧ Below w.heap.size w (((w.alloc o0).alloc o1).alloc o2) ∧ (((w.alloc o0).alloc o1).alloc o2).heap[w.heap.size]? = some o0 ∧ (((w.alloc o0).alloc o1).alloc o2).heap[w.heap.size + 1]? = some o1 ∧ (((w.alloc o0).alloc o1).alloc o2).heap[w.heap.size + 2]? = some o2 := by
  have e : (((w.alloc o0).alloc o1).alloc o2).heap = ((w.heap.push o0).push o1).push o2 := rfl
  refine ⟨by rw [e]; simp, below_alloc (below_alloc (below_alloc (Below.refl _ _) _) _) _, ?_, ?_, ?_⟩ <;> rw [e] <;> simp only [Array.getElem?_push, Array.size_push] <;> repeat (first | rfl | rw [if_pos trivial] | rw [if_pos (by omega)] | rw [if_neg (by omega)])
set_option maxHeartbeats 1000000 in
set_option maxRecDepth 100000 in
theorem cutR_calls (t : T) (hf : FitX t) (w : World) (A3 : Option Addr) (c3 : Nat) (A4 : Option Addr) (c4 : Nat) (h3 : Kd.C k53 w A3 t.f3.length t.f3) (l3 : t.f3.length ≤ c3) (h4 : Kd.C k25 w A4 t.f4.length t.f4) (l4 : t.f4.length ≤ c4) :
    Calls Try.prog 10 #[.agg #[.int .i64 t.f0, .string t.f1, .string t.f2, .slice A3 t.f3.length c3, .slice A4 t.f4.length c4]] w fun e w' => ∃ A5 c5, e = .returned (.agg #[.int .i64 0, .string divN, .string ⟨#[]⟩, .slice none 0 0, .slice A5 (cutR t).f4.length c5]) ∧ Kd.N k25 25 w' w.heap.size (fun k => w.heap.size ≤ k) (.slice A5 (cutR t).f4.length c5) (cutR t).f4 ∧ Below w.heap.size w w' := by
  obtain ⟨W, hW⟩ : ∃ W, W = ((w.alloc (.cells #[.int .i64 0, .string t.f1, .string t.f2, .slice A3 t.f3.length c3, .slice A4 t.f4.length c4] 25)).alloc (.cells #[.int .i64 0, .string ⟨#[]⟩, .string ⟨#[]⟩, .slice none 0 0, .slice none 0 0] 25)).alloc (.cells #[.int .i64 60] 3) := ⟨_, rfl⟩
  obtain ⟨z0, z1, z2, z3, z4⟩ := three_new w (.cells #[.int .i64 0, .string t.f1, .string t.f2, .slice A3 t.f3.length c3, .slice A4 t.f4.length c4] 25) (.cells #[.int .i64 0, .string ⟨#[]⟩, .string ⟨#[]⟩, .slice none 0 0, .slice none 0 0] 25) (.cells #[.int .i64 60] 3)
  rw [← hW] at z0 z1 z2 z3 z4
  have hfx : FitX ⟨0, t.f1, t.f2, t.f3, t.f4⟩ := by obtain ⟨_, h1, h2, h3, h4, h5⟩ := hf; exact ⟨_, h1, h2, h3, h4, h5⟩
  have HC := Aside0.mk (cut_calls _ ⟨0, t.f1, t.f2, t.f3, t.f4⟩ (Nat.le_refl _) hfx 8 60 (by decide) (by decide) (by decide) (by decide) W (w.heap.size + 1 + 1) (fun k => k < w.heap.size) A3 c3 A4 c4 z4 (fun k hk => ⟨by omega, by omega⟩) (Kd.F_below (Kd.C_F k25_heap h4) z1) l4)
  obtain ⟨e0, e2, e3⟩ := cutT_0 t
  have hcr : cutR t = ⟨0, divN, ⟨#[]⟩, [], (cutT 8 60 ⟨0, t.f1, t.f2, t.f3, t.f4⟩).1.f4⟩ := rfl
  have HCR := Aside0.mk hcr
  generalize (cutT 8 60 ⟨0, t.f1, t.f2, t.f3, t.f4⟩).1 = u at *
  generalize (cutT 8 60 ⟨0, t.f1, t.f2, t.f3, t.f4⟩).2 = L at *
  obtain ⟨u0, u1, u2, u3, u4⟩ := u
  simp only at e0 e2 e3
  subst e0
  subst e2
  subst e3
  have Z0 := Aside0.mk z0
  have Z1 := Aside0.mk z1
  have Z3 := Aside0.mk z3
  clear h3 l3 h4 l4 hf hfx z0 z1 z2 z3 z4 hcr
  go_enter Try.func10, Try.ntmps10
  go_wp2_with fail
  rw [← hW]
  clear hW
  refine HC.out.mono ?_
  rintro e w2 ⟨A5, c5, rfl, _, m5, N5, ho, hl⟩
  have HR := Aside0.mk ((ho.at (blk_lt Z3.out) (by omega)).trans Z3.out)
  have HB := Aside0.mk (show Below w.heap.size w w2 from Z1.out.trans ⟨ho.os, ho.tape, ho.output, by have := ho.size; have := Z0.out; omega, fun k hk => ho.at (by have := Z0.out; omega) (by omega)⟩)
  have N5' := Aside0.mk N5
  have HZ := Aside0.mk (show w.heap.size + 3 ≤ w2.heap.size by have := ho.size; have := Z0.out; omega)
  clear m5 N5 ho hl HC
  go_upto_region 5 with fail
  have K9 := heap_alloc_new w2 (.cells #[.int .i64 0, .string ⟨#[100, 105, 118]⟩, .string ⟨#[]⟩, .slice none 0 0, .slice A5 u4.length c5] 25)
  have HB9 := Aside0.mk (below_alloc (Below.refl w2.heap.size w2) (.cells #[.int .i64 0, .string ⟨#[100, 105, 118]⟩, .string ⟨#[]⟩, .slice none 0 0, .slice A5 u4.length c5] 25))
  generalize w2.alloc (.cells #[.int .i64 0, .string ⟨#[100, 105, 118]⟩, .string ⟨#[]⟩, .slice none 0 0, .slice A5 u4.length c5] 25) = w9 at K9 HB9 ⊢
  have hb2 := (HB9.out.block _ (blk_lt HR.out)).trans HR.out
  have o0 := blk_cell K9 0
  have o1 := blk_cell K9 1
  have o2 := blk_cell K9 2
  have o3 := blk_cell K9 3
  have o4 := blk_cell K9 4
  have f0 := blk_frozen hb2 0
  have f1 := blk_frozen hb2 1
  have f2 := blk_frozen hb2 2
  have f3 := blk_frozen hb2 3
  have f4 := blk_frozen hb2 4
  have q0 := blk_cell hb2 0
  have q1 := blk_cell hb2 1
  have q2 := blk_cell hb2 2
  have q3 := blk_cell hb2 3
  have q4 := blk_cell hb2 4
  have HE := Aside0.mk (fun a0 a1 a2 a3 a4 => sets5 w9 (w.heap.size + 1) a0 a1 a2 a3 a4)
  have HE2 := Aside0.mk (fun (a0 a1 a2 a3 a4 : Value) => (Below.setCell (Below.setCell (Below.setCell (Below.setCell (Below.setCell (below_step HB.out HB9.out) (p := ⟨w.heap.size + 1, 0, none⟩) (Nat.le_succ _) a0) (p := ⟨w.heap.size + 1, 1, none⟩) (Nat.le_succ _) a1) (p := ⟨w.heap.size + 1, 2, none⟩) (Nat.le_succ _) a2) (p := ⟨w.heap.size + 1, 3, none⟩) (Nat.le_succ _) a3) (p := ⟨w.heap.size + 1, 4, none⟩) (Nat.le_succ _) a4))
  clear K9 hb2
  go_wp2_with fail
  refine bodyPost_ret (v := .agg #[.int .i64 0, .string ⟨#[100, 105, 118]⟩, .string ⟨#[]⟩, .slice none 0 0, .slice A5 u4.length c5]) (by simp [results, Try.results10, go_sem, q0, q1, q2, q3, q4]) rfl ?_
  rw [HCR.out]
  refine ⟨A5, c5, rfl, ?_, HE2.out _ _ _ _ _⟩
  have hz := Z0.out
  exact Kd.N_lower (Kd.N_mono (Kd.N_step (Kd.N_below N5'.out HB9.out) (fun k hk _ => HE.out _ _ _ _ _ k (by omega))) (fun k hk => by omega)) Z1.out.size
end Go.Proofs.Ytmfjbljdbkmkgaa.Dom
namespace Go.Proofs.Ytmfjbljdbkmkgaa.PDom
open Go.RowKit Go.Proofs.YtmfjbljdbkmkgaaW.PrintWords Go.Proofs.YtmfjbljdbkmkgaaW.PrintLast Go.Proofs.YtmfjbljdbkmkgaaW.PrintMore Go.Proofs.Ytmfjbljdbkmkgaa.Dom
set_option linter.unusedVariables false
set_option linter.unusedSimpArgs false
/-! ### As the printed walks take it -/
def laws_inlineCutTree.f (_k : Nat) (a0_0 : Int) (a0_1 : ByteArray) (a0_2 : ByteArray) (l0_3 : List (S53)) (l0_4 : List (S25)) : Option (Int × ByteArray × ByteArray × List S53 × List S25) :=
  if fitXB ⟨a0_0, a0_1, a0_2, l0_3, l0_4⟩ = true then some (let u := cutR ⟨a0_0, a0_1, a0_2, l0_3, l0_4⟩; (u.f0, u.f1, u.f2, u.f3, u.f4)) else none
theorem laws_inlineCutTree.mono : ∀ a0 a1 a2 a3 a4 k, LeO (laws_inlineCutTree.f k a0 a1 a2 a3 a4) (laws_inlineCutTree.f (k + 1) a0 a1 a2 a3 a4) := fun _ _ _ _ _ _ => LeO.refl _
theorem laws_inlineCutTree.calls (k : Nat) (a0_0 : Int) (a0_1 : ByteArray) (a0_2 : ByteArray) (A0_3 : Option Addr) (c0_3 : Nat) (l0_3 : List (S53)) (A0_4 : Option Addr) (c0_4 : Nat) (l0_4 : List (S25)) (r1 : Int) (r2 r3 : ByteArray) (r4 : List S53) (r5 : List S25) (w : World)
    (hr0_3 : Kd.C k53 w A0_3 l0_3.length l0_3) (hc0_3 : l0_3.length ≤ c0_3) (hr0_4 : Kd.C k25 w A0_4 l0_4.length l0_4) (hc0_4 : l0_4.length ≤ c0_4) (h : laws_inlineCutTree.f k a0_0 a0_1 a0_2 l0_3 l0_4 = some (r1, r2, r3, r4, r5)) :
    Calls Try.prog 10 #[.agg #[.int .i64 a0_0, .string a0_1, .string a0_2, .slice A0_3 l0_3.length c0_3, .slice A0_4 l0_4.length c0_4]] w fun e w' => ∃ v3_ v4_ : Value, e = .returned (.agg #[.int .i64 r1, .string r2, .string r3, v3_, v4_]) ∧ Kd.R k53 53 w' w.heap.size (fun k_ => w.heap.size ≤ k_) v3_ r4 ∧ Kd.N k25 25 w' w.heap.size (fun k_ => w.heap.size ≤ k_ ∧ some k_ ≠ (v3_ : Value).ownBlock) v4_ r5 ∧ Below w.heap.size w w' := by
  unfold laws_inlineCutTree.f at h
  split at h
  · rename_i hg
    have hh := Option.some.inj h
    simp only [Prod.mk.injEq] at hh
    obtain ⟨rfl, rfl, rfl, rfl, rfl⟩ := hh
    refine (cutR_calls ⟨a0_0, a0_1, a0_2, l0_3, l0_4⟩ ((fitXB_iff _).1 hg) w A0_3 c0_3 A0_4 c0_4 hr0_3 hc0_3 hr0_4 hc0_4).mono ?_
    rintro e w' ⟨A5, c5, rfl, N5, hB⟩
    exact ⟨_, _, rfl, Kd.R_nil _ _ _ _ _, Kd.N_mono N5 (fun k hk => ⟨hk, by simp [Value.ownBlock]⟩), hB⟩
  · cases h
end Go.Proofs.Ytmfjbljdbkmkgaa.PDom

/- An append to a row of the call's own leaves the elder, shorter row as it was, too: its elements can still be read. For rows of one call. -/
namespace Go.Proofs.Ytmfjbljdbkmkgaa.Keep
open Go.RowKit Go.Proofs.YtmfjbljdbkmkgaaW.PrintWords Go.Proofs.YtmfjbljdbkmkgaaW.PrintLast Go.Proofs.YtmfjbljdbkmkgaaW.PrintMore
set_option linter.unusedVariables false
set_option linter.unusedSimpArgs false

theorem run_append_keep {P : Program} (w : World) (base : Nat) (t ty e : TypeId) (i : TypeInfo) (z : Value) (size bytes : Nat) (ht : P.underlying t = some (.slice e)) (hi : P.info? e = some i) (hz : i.zero = some z)
    (hsize : i.size = size) (hby : i.bytes = bytes) (hzs : z.cells.size = size) (hsz : 0 < size)
    (v : Value) (n : Nat) (xs : List Value) (hown : w.ownsRow base e size v n xs)
    (a : Addr) (m c : Nat) (news : List Value) (hl : news.length = m * size) (hnews : ∀ j u, news[j]? = some u → w.cell? (a.add j) = some u) (h1 : ∀ u ∈ news, u.oneCell' = true)
    (h63 : n + m ≤ maxLen) (hbytes : (n + m) * bytes ≤ 140737488355328) (hbase : base ≤ w.heap.size) :
    ∃ v' w', (Builtin.append_ #[t, t] ty #[v, .slice (some a) m c]).run P w = .ok v' w' ∧ w'.ownsRow base e size v' (n + m) (xs ++ news) ∧ w'.ownsRow base e size v n xs ∧ w.grownBy w' v.ownBlock ∧
      (v'.ownBlock = v.ownBlock ∨ v'.ownBlock = some w.heap.size) := by
  obtain ⟨v', w', hr, h2, h3, _, h5⟩ := run_append_own_at (P := P) w base t ty e i z size bytes ht hi hz hsize hby hzs hsz v n xs hown a m c news hl hnews h1 h63 hbytes hbase
  refine ⟨v', w', hr, h2, ?_, h3, h5⟩
  refine ⟨hown.1, ?_⟩
  rcases hown.2 with hn | ⟨g, cap, cur, rfl, hbg, hg, hnc, hcm, hcs, htake⟩
  · exact .inl hn
  · subst hsize
    by_cases hroom : n + m ≤ cap
    · have hfit : n * i.size + news.length ≤ cur.size := by rw [hl, hcs, ← Nat.add_mul]; exact Nat.mul_le_mul_right _ hroom
      have hr2 := run_append_room (P := P) w t ty e i ht hi g n cap cur hg a m c news hl hnews h1 hroom hfit
      rw [hr] at hr2
      injection hr2 with he hw
      subst hw
      refine .inr ⟨g, cap, _, rfl, hbg, setRow_heap w g cur _ e _ hg, hnc, hcm, ?_, ?_⟩
      · simp only [List.size_toArray, List.length_append, List.length_take, List.length_drop, Array.length_toList]
        omega
      · have hlx : (cur.toList.take (n * i.size)).length = n * i.size := by rw [htake]; exact hown.1
        rw [List.append_assoc, List.take_append_of_le_length (by omega), List.take_take, Nat.min_self]
        exact htake
    · have holds : ∀ j u, xs[j]? = some u → w.cell? ((⟨g, 0, none⟩ : Addr).add j) = some u := hown.cells (g := g) rfl
      have hsmall : n + m ≤ 9223372036854775807 := by simp only [maxLen] at h63; omega
      subst hby
      have hr2 := run_append_grow (P := P) w t ty e i z ht hi hz ⟨g, 0, none⟩ n cap xs hown.1 holds a m c news hl hnews (by omega) (by omega) (growslice_fits (by omega) hbytes)
      rw [hr] at hr2
      injection hr2 with he hw
      subst hw
      refine .inr ⟨g, cap, cur, rfl, hbg, ?_, hnc, hcm, hcs, htake⟩
      exact (Below.heap_alloc w.drew _ g (Array.getElem?_eq_some_iff.1 hg).1).trans hg

section
variable {P : Program} {ops : Array Oper} {rest : List Oper} {o : Oper} {a : Act} {Q : Exit → Act → World → Prop}
/-- append(v, ys...) of bytes or other whole numbers: the elder row stays. -/
theorem append_row_keep {w0 W : World} (base : Nat) (hgd : o.guard = none) (s x : Operand) (t e : TypeId) (k : IntKind) (bytes : Nat)
    (ho : o.op = .call { callee := .builtin .append, args := #[s, x], argTypes := #[t, t] })
    (ht : P.underlying t = some (.slice e)) (hinfo : (P.info? e).map (fun i => (i.zero, i.size, i.bytes)) = some (some (.int k 0), 1, bytes)) (hb0 : 0 < bytes)
    (v : Value) (xs ys : List Int) (A : Option Addr) (m c : Nat) (hs : a.eval s = v) (hx : a.eval x = .slice A m c)
    (HO : W.ownsRow base e 1 v xs.length (nums k xs)) (HR : ReadsInt W k A m ys) (HB : Below base w0 W) (hbase : base ≤ W.heap.size) (hl : (xs.length + m) * bytes ≤ 140737488355328)
    (h : ∀ v1 w1, w1.ownsRow base e 1 v1 (xs ++ ys).length (nums k (xs ++ ys)) → w1.ownsRow base e 1 v xs.length (nums k xs) → Below base w0 w1 → W.grownBy w1 v.ownBlock → (v1.ownBlock = v.ownBlock ∨ ∃ b, v1.ownBlock = some b ∧ W.heap.size ≤ b) → wpList P ops Q rest (a.put o.dst v1) w1) :
    wpList P ops Q (o :: rest) a W := by
  obtain ⟨i0, hi, hzz⟩ := Option.map_eq_some_iff.1 hinfo
  simp only [Prod.mk.injEq] at hzz
  obtain ⟨hz0, hz1, hz2⟩ := hzz
  have hm : ys.length = m := HR.1
  have hlen : xs.length + m ≤ 140737488355328 := Nat.le_trans (Nat.le_mul_of_pos_right _ hb0) hl
  have hrun : ∃ v1 w1, (Builtin.append_ #[t, t] o.type #[v, .slice A m c]).run P W = .ok v1 w1 ∧ w1.ownsRow base e 1 v1 (xs ++ ys).length (nums k (xs ++ ys)) ∧ w1.ownsRow base e 1 v xs.length (nums k xs) ∧ W.grownBy w1 v.ownBlock ∧ (v1.ownBlock = v.ownBlock ∨ v1.ownBlock = some W.heap.size) := by
    rcases A with _ | ad
    · have h0 : m = 0 := by
        rcases Nat.eq_zero_or_pos m with h0 | h0
        · exact h0
        · obtain ⟨ad, h, _⟩ := HR.2.2 h0
          cases h
      subst h0
      obtain rfl : ys = [] := List.eq_nil_of_length_eq_zero hm
      refine ⟨v, W, ?_, by simpa using HO, HO, World.grownBy.refl W _, .inl rfl⟩
      rcases HO.2 with ⟨rfl, hn⟩ | ⟨g, cap, cur, rfl, _, _, hnc, _⟩
      · simp [Builtin.append_, run_underlying ht, sizeOf, typeInfo, hi, Builtin.lenOf, Builtin.firstCells]
      · simp [Builtin.append_, run_underlying ht, sizeOf, typeInfo, hi, Builtin.lenOf, Builtin.firstCells, hnc, storeCells]
    · have hcells : ∀ j u, (nums k ys)[j]? = some u → W.cell? (ad.add j) = some u := by
        intro j u hu
        have hj : j < ys.length := by
          rcases Nat.lt_or_ge j ys.length with h | h
          · exact h
          · simp [nums, List.getElem?_eq_none h] at hu
        obtain ⟨ad', h', hc⟩ := HR.2.2 (by omega)
        injection h' with h'
        subst h'
        have hcj := hc j (by omega)
        simp [nums, List.getElem?_eq_getElem hj] at hu
        subst hu
        rw [hcj]
        simp [List.getD_eq_getElem?_getD, List.getElem?_eq_getElem hj]
      obtain ⟨v1, w1, hr, h2, h3, h4, h5⟩ := run_append_keep (P := P) W base t o.type e i0 (.int k 0) 1 bytes ht hi hz0 hz1 hz2 rfl (by omega) v xs.length (nums k xs) HO ad m c (nums k ys) (by simp [nums, hm]) hcells
        (by intro u hu; simp only [nums, List.mem_map] at hu; obtain ⟨q, _, rfl⟩ := hu; rfl) (by simp only [maxLen]; omega) hl hbase
      exact ⟨v1, w1, hr, by simpa [nums, hm] using h2, h3, h4, h5⟩
  obtain ⟨v1, w1, hr, h2, h3, h4, h5⟩ := hrun
  refine wpList_plain hgd fun K hK => ?_
  unfold Oper.wp execOp
  simp only [ho, resolve, invoke, builtin, Sem.run_bind, Sem.run_pure, Result.andThen_ok, List.map_toArray, List.map_cons, List.map_nil, hs, hx, hr]
  refine hK _ _ (h v1 w1 h2 h3 (HB.grown h4 hbase (own_base HO)) h4 ?_)
  rcases h5 with hat | hat
  · exact .inl hat
  · exact .inr ⟨_, hat, Nat.le_refl _⟩
/-- append(v, ys...) where v has no room: v is only read, the row is new. -/
theorem append_new {W : World} (hgd : o.guard = none) (s x : Operand) (t e : TypeId) (k : IntKind) (bytes : Nat)
    (ho : o.op = .call { callee := .builtin .append, args := #[s, x], argTypes := #[t, t] })
    (ht : P.underlying t = some (.slice e)) (hinfo : (P.info? e).map (fun i => (i.zero, i.size, i.bytes)) = some (some (.int k 0), 1, bytes)) (hb0 : 0 < bytes)
    (A B : Option Addr) (n m c c' : Nat) (xs ys : List Int) (hs : a.eval s = .slice A n c') (hx : a.eval x = .slice B m c)
    (HX : ReadsInt W k A n xs) (HR : ReadsInt W k B m ys) (hn : 0 < n) (hm0 : 0 < m) (hc : c' < n + m) (hl : (n + m) * bytes ≤ 140737488355328)
    (h : ∀ v1 w1, w1.ownsRow W.heap.size e 1 v1 (n + m) (nums k (xs ++ ys)) → W.grownBy w1 none → wpList P ops Q rest (a.put o.dst v1) w1) :
    wpList P ops Q (o :: rest) a W := by
  obtain ⟨i0, hi, hzz⟩ := Option.map_eq_some_iff.1 hinfo
  simp only [Prod.mk.injEq] at hzz
  obtain ⟨hz0, hz1, hz2⟩ := hzz
  have hxl : xs.length = n := HX.1
  have hyl : ys.length = m := HR.1
  have hlen : n + m ≤ 140737488355328 := Nat.le_trans (Nat.le_mul_of_pos_right _ hb0) hl
  have cellsOf : ∀ {D : Option Addr} {q : Nat} {zs : List Int}, ReadsInt W k D q zs → 0 < q → ∃ ad, D = some ad ∧ ∀ j u, (nums k zs)[j]? = some u → W.cell? (ad.add j) = some u := by
    intro D q zs H hq
    obtain ⟨ad, rfl, hc⟩ := H.2.2 hq
    refine ⟨ad, rfl, fun j u hu => ?_⟩
    have hj : j < zs.length := by
      rcases Nat.lt_or_ge j zs.length with h | h
      · exact h
      · simp [nums, List.getElem?_eq_none h] at hu
    have hq2 := H.1
    have hcj := hc j (by omega)
    simp [nums, List.getElem?_eq_getElem hj] at hu
    subst hu
    rw [hcj]
    simp [List.getD_eq_getElem?_getD, List.getElem?_eq_getElem hj]
  obtain ⟨ad, rfl, hca⟩ := cellsOf HX hn
  obtain ⟨bd, rfl, hcb⟩ := cellsOf HR hm0
  subst hz2
  have hr := run_append_grow (P := P) W t o.type e i0 (.int k 0) ht hi hz0 ad n c' (nums k xs) (by rw [hz1]; simp [nums, hxl]) hca bd m c (nums k ys) (by rw [hz1]; simp [nums, hyl]) hcb hc (by omega) (growslice_fits hc hl)
  refine wpList_plain hgd fun K hK => ?_
  unfold Oper.wp execOp
  simp only [ho, resolve, invoke, builtin, Sem.run_bind, Sem.run_pure, Result.andThen_ok, List.map_toArray, List.map_cons, List.map_nil, hs, hx, hr]
  refine hK _ _ (h _ _ ?_ ⟨rfl, rfl, rfl, by simp, fun i hi _ => heap_alloc_old W.drew _ hi⟩)
  have hge := grownCap_ge W (n + m) c' e
  have hcm : grownCap W (n + m) c' e ≤ maxLen := grownCap_le_maxLen W (n + m) c' e (by simp only [maxLen]; omega)
  have hlx : (nums k (xs ++ ys)).length = n + m := by simp [nums, hxl, hyl]
  refine ⟨by rw [hlx, Nat.mul_one], .inr ⟨W.heap.size, _, _, rfl, Nat.le_refl _, heap_alloc_new W.drew _, hge, hcm, ?_, ?_⟩⟩
  · simp only [Array.size_append, List.size_toArray, size_zeroCells, nums_length, hxl, hyl, show (Value.int k 0).cells.size = 1 from rfl]
    omega
  · simp only [Array.toList_append, Nat.mul_one, ← nums_append]
    rw [← hlx]
    exact List.take_left
end

end Go.Proofs.Ytmfjbljdbkmkgaa.Keep

/- Printed by the program extprint.py of this session, out of the kit's print and contracts of this session's own; Lean checks it. -/
namespace Go.Proofs.Ytmfjbljdbkmkgaa.PDom
open Go.Proofs.Ytmfjbljdbkmkgaa.Keep Go.RowKit Go.Proofs.YtmfjbljdbkmkgaaW.PrintWords Go.Proofs.YtmfjbljdbkmkgaaW.PrintLast Go.Proofs.YtmfjbljdbkmkgaaW.PrintMore
attribute [local go_sem] max2_int min2_int max_two min_two max_three min_three max_four min_four   -- for this text's walks alone
set_option linter.unusedVariables false
set_option linter.unusedSimpArgs false

-- NOT PRINTED: function 81 (collapse_replaceAnyWhitespaceWithSpace)

-- NOT PRINTED: function 70 (collapse_ZzBlanks)

-- NOT PRINTED: function 38 (impl_Blanks)


/-! ### textutils_zzHas: function 100 -/
def textutils_zzHas.l0 : Nat → List Int → Int → Int → Option (Bool)
  | 0, _, _, _ => none
  | k + 1, x0, x1, x5 => if x5 < (x0.length : Int) then (if 0 ≤ x5 then (if (rd x0 x5) = x1 then (some true) else (textutils_zzHas.l0 k x0 x1 (wrap64 (x5 + 1)))) else (none)) else (some false)
def textutils_zzHas.f (k : Nat) (l0 : List Int) (a1 : Int) : Option (Bool) := textutils_zzHas.l0 k l0 a1 0
theorem textutils_zzHas.mono_l : ∀ k, (∀ y0 y1 y2, LeO (textutils_zzHas.l0 k y0 y1 y2) (textutils_zzHas.l0 (k + 1) y0 y1 y2))
  | 0 => fun _ _ _ r h => by simp [textutils_zzHas.l0] at h
  | k + 1 => by
    have ih0 := textutils_zzHas.mono_l k
    · intro y0 y1 y2
      unfold textutils_zzHas.l0
      repeat' first
      | (with_reducible exact ih0 _ _ _)
      | (with_reducible exact LeO.refl _)
      | (with_reducible exact LeO.none _)
      | (with_reducible refine LeO.ite ?_ ?_)
      | (with_reducible refine LeO.bind ?_ (fun _ => ?_))
      | exact ih0 _ _ _
      | exact LeO.none _
      | refine LeO.ite ?_ ?_
      | refine LeO.bind ?_ (fun _ => ?_)
theorem textutils_zzHas.mono : ∀ a0 a1 k, LeO (textutils_zzHas.f k a0 a1) (textutils_zzHas.f (k + 1) a0 a1) := by
  intro a0 a1 k
  have ih0 := textutils_zzHas.mono_l k
  unfold textutils_zzHas.f
  repeat' first
      | (with_reducible exact ih0 _ _ _)
      | (with_reducible exact LeO.refl _)
      | (with_reducible exact LeO.none _)
      | (with_reducible refine LeO.ite ?_ ?_)
      | (with_reducible refine LeO.bind ?_ (fun _ => ?_))
      | exact ih0 _ _ _
      | exact LeO.none _
      | refine LeO.ite ?_ ?_
      | refine LeO.bind ?_ (fun _ => ?_)
set_option maxHeartbeats 8000000 in
set_option maxRecDepth 100000 in
theorem textutils_zzHas.calls (k : Nat) (A0 : Option Addr) (c0 : Nat) (l0 : List Int) (a1 : Int) (r : Bool) (w : World) (hr0 : Kd.C (Kd.int .u8) w A0 l0.length l0) (hc0 : l0.length ≤ c0) (h : textutils_zzHas.f k l0 a1 = some r) :
    Calls Try.prog 100 #[.slice A0 l0.length c0, .int .u8 a1] w fun e w' => e = .returned (.bool r) ∧ Drawn0 w w' := by
  have HR0 := Aside0.mk hr0
  have HC0 := Aside0.mk hc0
  clear hr0 hc0
  have H : (textutils_zzHas.l0 k l0 a1 0) = some r := h
  clear h
  have H' := Aside0.mk H
  clear H
  go_enter Try.func100, Try.ntmps100
  go_wp2
  go_loopg [5] k (fun kq v5 w' => ∃ (x5_1 : Int), v5 = .int .i64 x5_1 ∧ Aside0 (textutils_zzHas.l0 kq l0 a1 x5_1 = some r) ∧ Aside0 (kq ≤ k) ∧ Drawn0 w w')
  case atStart => exact ⟨(0), (by first | rfl | (simp; done) | (simp [*]; done)), H', ⟨Nat.le_refl _⟩, by repeat (first | exact Drawn0.refl _ | apply Drawn0.step)⟩
  case round =>
    clear H'
    try clear c1
    try clear p2
    obtain ⟨x5_1, rfl, HA, HK1, ⟨m1, rfl⟩⟩ := hrel
    cases gk with
    | zero => exact absurd HA.out (by simp [textutils_zzHas.l0])
    | succ k1 =>
      have H := HA.out
      clear HA
      simp only [textutils_zzHas.l0] at H
      by_cases c3 : x5_1 < (l0.length : Int)
      · rw [if_pos c3] at H
        have c3b0 : decide (x5_1 < (l0.length : Int)) = true := decide_eq_true c3
        clear c3
        by_cases c4 : 0 ≤ x5_1
        · rw [if_pos c4] at H
          have c4b0 : decide (0 ≤ x5_1) = true := decide_eq_true c4
          clear c4
          by_cases c5 : (rd l0 x5_1) = a1
          · rw [if_pos c5] at H
            have c5b0 : ((rd l0 x5_1) == a1) = true := beq_iff_eq.mpr c5
            have c5b1 : ((rd l0 x5_1) != a1) = false := bne_eq_false_iff_eq.mpr c5
            clear c5
            obtain rfl := Option.some.inj H
            have p158 : 0 ≤ (x5_1 : Int) := of_decide_eq_true (by first | (with_reducible assumption) | assumption)
            have q158 : x5_1 < (l0.length : Int) := of_decide_eq_true (by first | (with_reducible assumption) | assumption)
            obtain ⟨ad158, e158, hx158_0⟩ := Kd.at_int HR0.out x5_1 p158 q158
            cases e158
            replace p158 := eq_true p158
            replace q158 := eq_true q158
            go_wp2
            go_ret
            exact ⟨by first | rfl | (simp; done) | (simp [*]; done), by repeat (first | exact Drawn0.refl _ | apply Drawn0.step)⟩
          · rw [if_neg c5] at H
            have c5b0 : ((rd l0 x5_1) == a1) = false := beq_eq_false_iff_ne.mpr c5
            have c5b1 : ((rd l0 x5_1) != a1) = true := bne_iff_ne.mpr c5
            have H' := Aside0.mk H
            clear H
            have p158 : 0 ≤ (x5_1 : Int) := of_decide_eq_true (by first | (with_reducible assumption) | assumption)
            have q158 : x5_1 < (l0.length : Int) := of_decide_eq_true (by first | (with_reducible assumption) | assumption)
            obtain ⟨ad158, e158, hx158_0⟩ := Kd.at_int HR0.out x5_1 p158 q158
            cases e158
            replace p158 := eq_true p158
            replace q158 := eq_true q158
            go_wp2
            go_roundg k1
            case measure => have := HK1.out; omega
            case rel => exact ⟨(wrap64 (x5_1 + 1)), (by first | rfl | (simp; done) | (simp [*]; done)), H', ⟨by have := HK1.out; omega⟩, by repeat (first | exact Drawn0.refl _ | apply Drawn0.step)⟩
        · rw [if_neg c4] at H
          exact absurd H (by simp)
      · rw [if_neg c3] at H
        have c3b0 : decide (x5_1 < (l0.length : Int)) = false := decide_eq_false c3
        clear c3
        obtain rfl := Option.some.inj H
        go_wp2
        go_ret
        exact ⟨by first | rfl | (simp; done) | (simp [*]; done), by repeat (first | exact Drawn0.refl _ | apply Drawn0.step)⟩
/-! ### textutils_zzReplaceAll: function 101 -/
def textutils_zzReplaceAll.l0 : Nat → List Int → ByteArray → ByteArray → List Int → Int → Option (List Int)
  | 0, _, _, _, _, _ => none
  | k + 1, x0, x1, x2, x7, x8 => if x8 < (x0.length : Int) then (if (wrap64 (x8 + (x1.size : Int))) ≤ (x0.length : Int) then (if 0 ≤ x8 then (if x8 ≤ (wrap64 (x8 + (x1.size : Int))) then (if (strOfNums ((x0.take ((wrap64 (x8 + (x1.size : Int))) : Int).toNat).drop (x8 : Int).toNat)).toList = x1.toList then (if x7.length + x2.size < 140737488355328 then (textutils_zzReplaceAll.l0 k x0 x1 x2 (x7 ++ bytesOf x2) (wrap64 (x8 + (x1.size : Int)))) else (none)) else (if x7.length < 140737488355328 then (textutils_zzReplaceAll.l0 k x0 x1 x2 (x7 ++ [rd x0 x8]) (wrap64 (x8 + 1))) else (none))) else (none)) else (none)) else (if 0 ≤ x8 then (if x7.length < 140737488355328 then (textutils_zzReplaceAll.l0 k x0 x1 x2 (x7 ++ [rd x0 x8]) (wrap64 (x8 + 1))) else (none)) else (none))) else (some x7)
def textutils_zzReplaceAll.f (k : Nat) (l0 : List Int) (a1 : ByteArray) (a2 : ByteArray) : Option (List Int) := textutils_zzReplaceAll.l0 k l0 a1 a2 ([] : List Int) 0
theorem textutils_zzReplaceAll.mono_l : ∀ k, (∀ y0 y1 y2 y3 y4, LeO (textutils_zzReplaceAll.l0 k y0 y1 y2 y3 y4) (textutils_zzReplaceAll.l0 (k + 1) y0 y1 y2 y3 y4))
  | 0 => fun _ _ _ _ _ r h => by simp [textutils_zzReplaceAll.l0] at h
  | k + 1 => by
    have ih0 := textutils_zzReplaceAll.mono_l k
    · intro y0 y1 y2 y3 y4
      unfold textutils_zzReplaceAll.l0
      repeat' first
      | (with_reducible exact ih0 _ _ _ _ _)
      | (with_reducible exact LeO.refl _)
      | (with_reducible exact LeO.none _)
      | (with_reducible refine LeO.ite ?_ ?_)
      | (with_reducible refine LeO.bind ?_ (fun _ => ?_))
      | exact ih0 _ _ _ _ _
      | exact LeO.none _
      | refine LeO.ite ?_ ?_
      | refine LeO.bind ?_ (fun _ => ?_)
theorem textutils_zzReplaceAll.mono : ∀ a0 a1 a2 k, LeO (textutils_zzReplaceAll.f k a0 a1 a2) (textutils_zzReplaceAll.f (k + 1) a0 a1 a2) := by
  intro a0 a1 a2 k
  have ih0 := textutils_zzReplaceAll.mono_l k
  unfold textutils_zzReplaceAll.f
  repeat' first
      | (with_reducible exact ih0 _ _ _ _ _)
      | (with_reducible exact LeO.refl _)
      | (with_reducible exact LeO.none _)
      | (with_reducible refine LeO.ite ?_ ?_)
      | (with_reducible refine LeO.bind ?_ (fun _ => ?_))
      | exact ih0 _ _ _ _ _
      | exact LeO.none _
      | refine LeO.ite ?_ ?_
      | refine LeO.bind ?_ (fun _ => ?_)
set_option maxHeartbeats 8000000 in
set_option maxRecDepth 100000 in
theorem textutils_zzReplaceAll.calls (k : Nat) (A0 : Option Addr) (c0 : Nat) (l0 : List Int) (a1 : ByteArray) (a2 : ByteArray) (r : List Int) (w : World) (hr0 : Kd.C (Kd.int .u8) w A0 l0.length l0) (hc0 : l0.length ≤ c0) (h : textutils_zzReplaceAll.f k l0 a1 a2 = some r) :
    Calls Try.prog 101 #[.slice A0 l0.length c0, .string a1, .string a2] w fun e w' => ∃ v0_ : Value, e = .returned (v0_) ∧ Kd.R (Kd.int .u8) 5 w' w.heap.size (fun _ => True) v0_ r ∧ Below w.heap.size w w' := by
  have HR0 := Aside0.mk hr0
  have HC0 := Aside0.mk hc0
  clear hr0 hc0
  have HB := Aside0.mk (Below.refl w.heap.size w)
  have H : (textutils_zzReplaceAll.l0 k l0 a1 a2 ([] : List Int) 0) = some r := h
  clear h
  have H' := Aside0.mk H
  clear H
  go_enter Try.func101, Try.ntmps101
  go_wp2
  go_loopg [7, 8] k (fun kq v7 v8 w' => ∃ (x7_1 : List Int) (x8_1 : Int), v8 = .int .i64 x8_1 ∧ Aside0 (textutils_zzReplaceAll.l0 kq l0 a1 a2 x7_1 x8_1 = some r) ∧ Aside0 (kq ≤ k) ∧ Aside0 (Kd.R (Kd.int .u8) 5 w' w.heap.size (fun _ => True) v7 x7_1) ∧ Aside0 (Below w.heap.size w w'))
  case atStart => exact ⟨(([] : List Int)), (0), (by first | rfl | (simp; done) | (simp [*]; done)), H', ⟨Nat.le_refl _⟩, ⟨by first | exact Kd.R_nil _ _ _ _ _ | exact Kd.N_nil _ _ _ _ _ | exact Kd.V_nil _ _ _ _ _ | exact Kd.Q_nil _ _ _ _ _ | exact Kd.S_nil _ _ _ _ _⟩, ⟨by repeat (first | (with_reducible first | exact HB.out | apply below_alloc | apply pw_below_drewN | apply below_drew1) | exact HB.out)⟩⟩
  case round =>
    clear H'
    try clear c1
    try clear p2
    obtain ⟨x7_1, x8_1, rfl, HA, HK1, HO_7, HB⟩ := hrel
    cases gk with
    | zero => exact absurd HA.out (by simp [textutils_zzReplaceAll.l0])
    | succ k1 =>
      have H := HA.out
      clear HA
      simp only [textutils_zzReplaceAll.l0] at H
      by_cases c4 : x8_1 < (l0.length : Int)
      · rw [if_pos c4] at H
        have c4b0 : decide (x8_1 < (l0.length : Int)) = true := decide_eq_true c4
        clear c4
        by_cases c5 : (wrap64 (x8_1 + (a1.size : Int))) ≤ (l0.length : Int)
        · rw [if_pos c5] at H
          have c5b0 : decide ((wrap64 (x8_1 + (a1.size : Int))) ≤ (l0.length : Int)) = true := decide_eq_true c5
          clear c5
          by_cases c6 : 0 ≤ x8_1
          · rw [if_pos c6] at H
            have c6b0 := eq_true c6
            have c6b1 : decide (0 ≤ x8_1) = true := decide_eq_true c6
            clear c6
            by_cases c7 : x8_1 ≤ (wrap64 (x8_1 + (a1.size : Int)))
            · rw [if_pos c7] at H
              have c7b0 := eq_true c7
              have c7b1 : decide (x8_1 ≤ (wrap64 (x8_1 + (a1.size : Int)))) = true := decide_eq_true c7
              have c8b0 := eq_true (of_decide_eq_true (by first | (with_reducible assumption) | assumption) : (wrap64 (x8_1 + (a1.size : Int))) ≤ (l0.length : Int))
              by_cases c9 : (strOfNums ((l0.take ((wrap64 (x8_1 + (a1.size : Int))) : Int).toNat).drop (x8_1 : Int).toNat)).toList = a1.toList
              · rw [if_pos c9] at H
                have c9b0 : ((strOfNums ((l0.take ((wrap64 (x8_1 + (a1.size : Int))) : Int).toNat).drop (x8_1 : Int).toNat)).toList == a1.toList) = true := beq_iff_eq.mpr c9
                have c9b1 : ((strOfNums ((l0.take ((wrap64 (x8_1 + (a1.size : Int))) : Int).toNat).drop (x8_1 : Int).toNat)).toList != a1.toList) = false := bne_eq_false_iff_eq.mpr c9
                clear c9
                by_cases c10 : x7_1.length + a2.size < 140737488355328
                · rw [if_pos c10] at H
                  have LMc10 := Aside0.mk c10
                  clear c10
                  obtain ⟨y160, hy160⟩ : ∃ y_ : List Int, y_ = (x7_1 ++ bytesOf a2) := ⟨_, rfl⟩
                  replace H : (textutils_zzReplaceAll.l0 k1 l0 a1 a2 y160 (wrap64 (x8_1 + (a1.size : Int)))) = some r := by first | (rw [hy160]; with_reducible exact H) | (have H2_ := (Option.bind_some _ _).symm.trans H; rw [hy160]; with_reducible exact H2_) | (have H2_ := (Option.bind_some _ _).symm.trans H; with_reducible exact H2_) | with_reducible exact H | (rw [hy160]; exact H) | exact H
                  have Ny160 := Aside0.mk hy160
                  clear hy160
                  have H' := Aside0.mk H
                  clear H
                  obtain ⟨i011, hi011, _, hsz11, _⟩ := info_parts info5
                  obtain ⟨A11, hcut11, hA11, hC11⟩ := print_mid_of (P := Try.prog) (Value.int .u8) 0 58 5 .i64 .i64 Try.underlying58 hi011 hsz11 A0 c0 l0 x8_1 (wrap64 (x8_1 + (a1.size : Int))) (of_decide_eq_true (by first | (with_reducible assumption) | assumption)) (by first | omega | exact of_decide_eq_true (by first | (with_reducible assumption) | assumption)) (of_decide_eq_true (by first | (with_reducible assumption) | assumption)) HC0.out
                  have HR159 := Aside0.mk (Kd.C_of_reads (h1 := fun _ => rfl) (hA11 _ (Kd.reads_of_C HR0.out)))
                  have HC159 := Aside0.mk hC11
                  clear hA11 hC11 hi011 hsz11
                  have hcv12 := Kd.C_string (P := Try.prog) (A := A11) (c := (c0 - x8_1.toNat)) Try.underlying58 Try.underlying5 Try.underlying9 (Kd.C_below HR159.out HB.out)
                  have hl12_ : ((l0.take (wrap64 (x8_1 + (a1.size : Int))).toNat).drop x8_1.toNat).length = (wrap64 (x8_1 + (a1.size : Int))).toNat - x8_1.toNat := by
                    have q_ : (wrap64 (x8_1 + (a1.size : Int))) ≤ (l0.length : Int) := of_decide_eq_true (by assumption)
                    rw [List.length_drop, List.length_take]; omega
                  rw [hl12_] at hcv12
                  clear hl12_
                  go_wp2_with (first | (at_builtin; refine print_append_str (w0 := w) w.heap.size rfl (.tmp 32) _ 58 9 5 rfl Try.underlying58 Try.underlying9 info5 u7 x7_1 a2 rfl rfl ?aO ?aB ?aS ?aL ?_; (case aB => exact (by repeat (first | (with_reducible first | exact HB.out | apply below_alloc | apply pw_below_drewN | apply below_drew1) | exact HB.out))); (case aO => exact (Kd.own_of_R (by (with_reducible repeat (first | apply Kd.R_alloc | apply Kd.R_drewN | apply Kd.R_drew)); exact HO_7.out))); (case aS => exact (below_size (by repeat (first | (with_reducible first | exact HB.out | apply below_alloc | apply pw_below_drewN | apply below_drew1) | exact HB.out)))); (case aL => have := LMc10.out; omega); intro v161 w13 ho0 hb hg; have ho := Kd.R_of_own (h1 := fun _ => rfl) (ok := fun _ => True) ho0 (fun _ _ => trivial); clear ho0; have hat := True.intro; rw [← Ny160.out] at ho; change Kd.R (Kd.int .u8) 5 w13 w.heap.size (fun _ => True) v161 y160 at ho; have n0_ := Aside0.mk (hb); have n1_ := Aside0.mk (ho); clear HB; clear HO_7; have HB := n0_; have HO162 := n1_; clear n0_ n1_; clear ho hb hg hat))
                  go_roundg k1
                  case measure => have := HK1.out; omega
                  case rel => exact ⟨(y160), (wrap64 (x8_1 + (a1.size : Int))), (by first | rfl | (simp; done) | (simp [*]; done)), H', ⟨by have := HK1.out; omega⟩, ⟨by (with_reducible repeat (first | apply Kd.R_alloc | apply Kd.R_drewN | apply Kd.R_drew)); exact HO162.out⟩, ⟨by repeat (first | (with_reducible first | exact HB.out | apply below_alloc | apply pw_below_drewN | apply below_drew1) | exact HB.out)⟩⟩
                · rw [if_neg c10] at H
                  exact absurd H (by simp)
              · rw [if_neg c9] at H
                have c9b0 : ((strOfNums ((l0.take ((wrap64 (x8_1 + (a1.size : Int))) : Int).toNat).drop (x8_1 : Int).toNat)).toList == a1.toList) = false := beq_eq_false_iff_ne.mpr c9
                have c9b1 : ((strOfNums ((l0.take ((wrap64 (x8_1 + (a1.size : Int))) : Int).toNat).drop (x8_1 : Int).toNat)).toList != a1.toList) = true := bne_iff_ne.mpr c9
                by_cases c14 : x7_1.length < 140737488355328
                · rw [if_pos c14] at H
                  have LMc14 := Aside0.mk c14
                  clear c14
                  obtain ⟨y164, hy164⟩ : ∃ y_ : List Int, y_ = (x7_1 ++ [rd l0 x8_1]) := ⟨_, rfl⟩
                  replace H : (textutils_zzReplaceAll.l0 k1 l0 a1 a2 y164 (wrap64 (x8_1 + 1))) = some r := by first | (rw [hy164]; with_reducible exact H) | (have H2_ := (Option.bind_some _ _).symm.trans H; rw [hy164]; with_reducible exact H2_) | (have H2_ := (Option.bind_some _ _).symm.trans H; with_reducible exact H2_) | with_reducible exact H | (rw [hy164]; exact H) | exact H
                  have Ny164 := Aside0.mk hy164
                  clear hy164
                  have H' := Aside0.mk H
                  clear H
                  obtain ⟨i015, hi015, _, hsz15, _⟩ := info_parts info5
                  obtain ⟨A15, hcut15, hA15, hC15⟩ := print_mid_of (P := Try.prog) (Value.int .u8) 0 58 5 .i64 .i64 Try.underlying58 hi015 hsz15 A0 c0 l0 x8_1 (wrap64 (x8_1 + (a1.size : Int))) (of_decide_eq_true (by first | (with_reducible assumption) | assumption)) (by first | omega | exact of_decide_eq_true (by first | (with_reducible assumption) | assumption)) (of_decide_eq_true (by first | (with_reducible assumption) | assumption)) HC0.out
                  have HR159 := Aside0.mk (Kd.C_of_reads (h1 := fun _ => rfl) (hA15 _ (Kd.reads_of_C HR0.out)))
                  have HC159 := Aside0.mk hC15
                  clear hA15 hC15 hi015 hsz15
                  have hcv16 := Kd.C_string (P := Try.prog) (A := A15) (c := (c0 - x8_1.toNat)) Try.underlying58 Try.underlying5 Try.underlying9 (Kd.C_below HR159.out HB.out)
                  have hl16_ : ((l0.take (wrap64 (x8_1 + (a1.size : Int))).toNat).drop x8_1.toNat).length = (wrap64 (x8_1 + (a1.size : Int))).toNat - x8_1.toNat := by
                    have q_ : (wrap64 (x8_1 + (a1.size : Int))) ≤ (l0.length : Int) := of_decide_eq_true (by assumption)
                    rw [List.length_drop, List.length_take]; omega
                  rw [hl16_] at hcv16
                  clear hl16_
                  have p163 : 0 ≤ (x8_1 : Int) := of_decide_eq_true (by first | (with_reducible assumption) | assumption)
                  have q163 : x8_1 < (l0.length : Int) := of_decide_eq_true (by first | (with_reducible assumption) | assumption)
                  obtain ⟨ad163, e163, hx163_0⟩ := Kd.at_int HR0.out x8_1 p163 q163
                  cases e163
                  replace hx163_0 := (HB.out.cell (World.block_lt_of_cell? w _ hx163_0)).trans hx163_0
                  replace p163 := eq_true p163
                  replace q163 := eq_true q163
                  go_wp2_with (first | ((with_reducible refine gate_builtin (b := .append) (xs := #[.tmp 39, .tmp 44]) rfl ?_); (try (refine gate_guard (by rfl) ?_; dsimp only)); at_builtin; refine Kd.R_append (Kd.int .u8) (w0 := w) w.heap.size rfl (.tmp 39) (.tmp 44) 58 5 (.int .u8 0) 1 rfl Try.underlying58 info5 rfl (by decide) (by omega) u7 x7_1 (rd l0 x8_1) [.int .u8 (rd l0 x8_1)] (fun _ => True) (fun _ => False) rfl rfl ?aP (fun _ hk => hk.elim) ?aF ?aO ?aB ?aS ?aL ?_; (case aP => exact rfl); (case aB => exact (by repeat (first | (with_reducible first | exact HB.out | apply below_alloc | apply pw_below_drewN | apply below_drew1) | exact HB.out))); (case aF => exact (fun _ _ => trivial)); (case aO => exact (by (with_reducible repeat (first | apply Kd.R_alloc | apply Kd.R_drewN | apply Kd.R_drew)); exact HO_7.out)); (case aS => exact (below_size (by repeat (first | (with_reducible first | exact HB.out | apply below_alloc | apply pw_below_drewN | apply below_drew1) | exact HB.out)))); (case aL => have := LMc14.out; omega); intro v165 w17 ho hb hg hat; rw [← Ny164.out] at ho; have n0_ := Aside0.mk (hb); have n1_ := Aside0.mk (ho); clear HB; clear HO_7; have HB := n0_; have HO166 := n1_; clear n0_ n1_; clear ho hb hg hat))
                  go_roundg k1
                  case measure => have := HK1.out; omega
                  case rel => exact ⟨(y164), (wrap64 (x8_1 + 1)), (by first | rfl | (simp; done) | (simp [*]; done)), H', ⟨by have := HK1.out; omega⟩, ⟨by (with_reducible repeat (first | apply Kd.R_alloc | apply Kd.R_drewN | apply Kd.R_drew)); exact HO166.out⟩, ⟨by repeat (first | (with_reducible first | exact HB.out | apply below_alloc | apply pw_below_drewN | apply below_drew1) | exact HB.out)⟩⟩
                · rw [if_neg c14] at H
                  exact absurd H (by simp)
            · rw [if_neg c7] at H
              exact absurd H (by simp)
          · rw [if_neg c6] at H
            exact absurd H (by simp)
        · rw [if_neg c5] at H
          have c5b0 : decide ((wrap64 (x8_1 + (a1.size : Int))) ≤ (l0.length : Int)) = false := decide_eq_false c5
          clear c5
          by_cases c18 : 0 ≤ x8_1
          · rw [if_pos c18] at H
            have c18b0 : decide (0 ≤ x8_1) = true := decide_eq_true c18
            clear c18
            by_cases c19 : x7_1.length < 140737488355328
            · rw [if_pos c19] at H
              have LMc19 := Aside0.mk c19
              clear c19
              obtain ⟨y168, hy168⟩ : ∃ y_ : List Int, y_ = (x7_1 ++ [rd l0 x8_1]) := ⟨_, rfl⟩
              replace H : (textutils_zzReplaceAll.l0 k1 l0 a1 a2 y168 (wrap64 (x8_1 + 1))) = some r := by first | (rw [hy168]; with_reducible exact H) | (have H2_ := (Option.bind_some _ _).symm.trans H; rw [hy168]; with_reducible exact H2_) | (have H2_ := (Option.bind_some _ _).symm.trans H; with_reducible exact H2_) | with_reducible exact H | (rw [hy168]; exact H) | exact H
              have Ny168 := Aside0.mk hy168
              clear hy168
              have H' := Aside0.mk H
              clear H
              have p167 : 0 ≤ (x8_1 : Int) := of_decide_eq_true (by first | (with_reducible assumption) | assumption)
              have q167 : x8_1 < (l0.length : Int) := of_decide_eq_true (by first | (with_reducible assumption) | assumption)
              obtain ⟨ad167, e167, hx167_0⟩ := Kd.at_int HR0.out x8_1 p167 q167
              cases e167
              replace hx167_0 := (HB.out.cell (World.block_lt_of_cell? w _ hx167_0)).trans hx167_0
              replace p167 := eq_true p167
              replace q167 := eq_true q167
              go_wp2_with (first | ((with_reducible refine gate_builtin (b := .append) (xs := #[.tmp 39, .tmp 44]) rfl ?_); (try (refine gate_guard (by rfl) ?_; dsimp only)); at_builtin; refine Kd.R_append (Kd.int .u8) (w0 := w) w.heap.size rfl (.tmp 39) (.tmp 44) 58 5 (.int .u8 0) 1 rfl Try.underlying58 info5 rfl (by decide) (by omega) u7 x7_1 (rd l0 x8_1) [.int .u8 (rd l0 x8_1)] (fun _ => True) (fun _ => False) rfl rfl ?aP (fun _ hk => hk.elim) ?aF ?aO ?aB ?aS ?aL ?_; (case aP => exact rfl); (case aB => exact (by repeat (first | (with_reducible first | exact HB.out | apply below_alloc | apply pw_below_drewN | apply below_drew1) | exact HB.out))); (case aF => exact (fun _ _ => trivial)); (case aO => exact (by (with_reducible repeat (first | apply Kd.R_alloc | apply Kd.R_drewN | apply Kd.R_drew)); exact HO_7.out)); (case aS => exact (below_size (by repeat (first | (with_reducible first | exact HB.out | apply below_alloc | apply pw_below_drewN | apply below_drew1) | exact HB.out)))); (case aL => have := LMc19.out; omega); intro v169 w20 ho hb hg hat; rw [← Ny168.out] at ho; have n0_ := Aside0.mk (hb); have n1_ := Aside0.mk (ho); clear HB; clear HO_7; have HB := n0_; have HO170 := n1_; clear n0_ n1_; clear ho hb hg hat))
              go_roundg k1
              case measure => have := HK1.out; omega
              case rel => exact ⟨(y168), (wrap64 (x8_1 + 1)), (by first | rfl | (simp; done) | (simp [*]; done)), H', ⟨by have := HK1.out; omega⟩, ⟨by (with_reducible repeat (first | apply Kd.R_alloc | apply Kd.R_drewN | apply Kd.R_drew)); exact HO170.out⟩, ⟨by repeat (first | (with_reducible first | exact HB.out | apply below_alloc | apply pw_below_drewN | apply below_drew1) | exact HB.out)⟩⟩
            · rw [if_neg c19] at H
              exact absurd H (by simp)
          · rw [if_neg c18] at H
            exact absurd H (by simp)
      · rw [if_neg c4] at H
        have c4b0 : decide (x8_1 < (l0.length : Int)) = false := decide_eq_false c4
        clear c4
        obtain rfl := Option.some.inj H
        go_wp2
        go_ret
        exact ⟨_, by first | rfl | (simp [errW_none, errW_some] <;> rfl) | (simp [*, errW_none, errW_some] <;> rfl), by (with_reducible repeat (first | apply Kd.R_alloc | apply Kd.R_drewN | apply Kd.R_drew)); exact HO_7.out, by repeat (first | (with_reducible first | exact HB.out | apply below_alloc | apply pw_below_drewN | apply below_drew1) | exact HB.out)⟩
/-! ### spec_Blank: function 43 -/
def spec_Blank.f (a0 : Int) : Option (Bool) := if a0 = 32 then (some true) else (if a0 = 9 then (some true) else (if a0 = 10 then (some true) else (some (a0 == 13))))
set_option maxHeartbeats 8000000 in
set_option maxRecDepth 100000 in
theorem spec_Blank.calls (a0 : Int) (r : Bool) (w : World) (h : spec_Blank.f a0 = some r) :
    Calls Try.prog 43 #[.int .u8 a0] w fun e w' => e = .returned (.bool r) ∧ Drawn0 w w' := by
  have H : (if a0 = 32 then (some true) else (if a0 = 9 then (some true) else (if a0 = 10 then (some true) else (some (a0 == 13))))) = some r := h
  clear h
  by_cases c2 : a0 = 32
  · rw [if_pos c2] at H
    have c2b0 : (a0 == 32) = true := beq_iff_eq.mpr c2
    have c2b1 : (a0 != 32) = false := bne_eq_false_iff_eq.mpr c2
    clear c2
    obtain rfl := Option.some.inj H
    go_enter Try.func43, Try.ntmps43
    go_wp2
    go_ret
    exact ⟨by first | rfl | (simp; done) | (simp [*]; done), by repeat (first | exact Drawn0.refl _ | apply Drawn0.step)⟩
  · rw [if_neg c2] at H
    have c2b0 : (a0 == 32) = false := beq_eq_false_iff_ne.mpr c2
    have c2b1 : (a0 != 32) = true := bne_iff_ne.mpr c2
    by_cases c3 : a0 = 9
    · rw [if_pos c3] at H
      have c3b0 : (a0 == 9) = true := beq_iff_eq.mpr c3
      have c3b1 : (a0 != 9) = false := bne_eq_false_iff_eq.mpr c3
      clear c3
      obtain rfl := Option.some.inj H
      go_enter Try.func43, Try.ntmps43
      go_wp2
      go_ret
      exact ⟨by first | rfl | (simp; done) | (simp [*]; done), by repeat (first | exact Drawn0.refl _ | apply Drawn0.step)⟩
    · rw [if_neg c3] at H
      have c3b0 : (a0 == 9) = false := beq_eq_false_iff_ne.mpr c3
      have c3b1 : (a0 != 9) = true := bne_iff_ne.mpr c3
      by_cases c4 : a0 = 10
      · rw [if_pos c4] at H
        have c4b0 : (a0 == 10) = true := beq_iff_eq.mpr c4
        have c4b1 : (a0 != 10) = false := bne_eq_false_iff_eq.mpr c4
        clear c4
        obtain rfl := Option.some.inj H
        go_enter Try.func43, Try.ntmps43
        go_wp2
        go_ret
        exact ⟨by first | rfl | (simp; done) | (simp [*]; done), by repeat (first | exact Drawn0.refl _ | apply Drawn0.step)⟩
      · rw [if_neg c4] at H
        have c4b0 : (a0 == 10) = false := beq_eq_false_iff_ne.mpr c4
        have c4b1 : (a0 != 10) = true := bne_iff_ne.mpr c4
        obtain rfl := Option.some.inj H
        go_enter Try.func43, Try.ntmps43
        go_wp2
        go_ret
        exact ⟨by first | rfl | (simp; done) | (simp [*]; done), by repeat (first | exact Drawn0.refl _ | apply Drawn0.step)⟩
end Go.Proofs.Ytmfjbljdbkmkgaa.PDom

/- White space to one blank a run, as plain data. -/
namespace Go.Proofs.Ytmfjbljdbkmkgaa.Blank
set_option linter.unusedVariables false
set_option linter.unusedSimpArgs false

def ws (c : Int) : Bool := decide (c = 32) || decide (c = 13) || decide (c = 10) || decide (c = 9)
/-- Runs of white space are one blank; b: whether white space stands right ahead. -/
def norm : Bool → List Int → List Int
  | _, [] => []
  | b, c :: l => if ws c = true then (if b = true then norm true l else 32 :: norm true l) else c :: norm false l
def endW : Bool → List Int → Bool
  | b, [] => b
  | _, c :: l => endW (ws c) l
theorem norm_append (l m : List Int) : ∀ b, norm b (l ++ m) = norm b l ++ norm (endW b l) m := by
  induction l with
  | nil => intro b; rfl
  | cons c l ih =>
    intro b
    rw [List.cons_append]
    simp only [norm, endW]
    cases hw : ws c with
    | true =>
      simp only [if_true]
      rw [ih true]
      cases b with
      | true => simp
      | false => simp
    | false => simp [ih false]
theorem endW_append (l m : List Int) : ∀ b, endW b (l ++ m) = endW (endW b l) m := by
  induction l with
  | nil => intro b; rfl
  | cons c l ih => intro b; exact ih _
theorem norm_ws (l : List Int) (h : ∀ c ∈ l, ws c = true) : norm true l = [] := by
  induction l with
  | nil => rfl
  | cons c l ih =>
    simp only [norm]
    rw [if_pos (h c List.mem_cons_self), if_pos trivial]
    exact ih (fun x hx => h x (List.mem_cons_of_mem _ hx))
theorem norm_run (l : List Int) (h : ∀ c ∈ l, ws c = true) (hne : l ≠ []) : norm false l = [32] := by
  cases l with
  | nil => exact absurd rfl hne
  | cons c l =>
    simp only [norm]
    rw [if_pos (h c List.mem_cons_self), if_neg (by simp), norm_ws l (fun x hx => h x (List.mem_cons_of_mem _ hx))]
theorem endW_run (l : List Int) (h : ∀ c ∈ l, ws c = true) (hne : l ≠ []) : ∀ b, endW b l = true := by
  induction l with
  | nil => exact absurd rfl hne
  | cons c l ih =>
    intro b
    show endW (ws c) l = true
    rw [h c List.mem_cons_self]
    cases l with
    | nil => rfl
    | cons d l => exact ih (fun x hx => h x (List.mem_cons_of_mem _ hx)) (by simp) true
open Go.Proofs.YtmfjbljdbkmkgaaW.PrintWords in
theorem bt_nth (s : ByteArray) (j : Nat) (h : j < s.size) : (bytesOf s)[j]? = some (bt s (j : Int)) := by
  have h2 : j < s.data.toList.length := by rw [Array.length_toList]; exact h
  unfold bytesOf
  rw [List.getElem?_map, List.getElem?_eq_getElem h2, ← bt_at s (j : Int) (by simpa using h)]
  simp
  rfl
end Go.Proofs.Ytmfjbljdbkmkgaa.Blank

/- White space of a tree, collapsed: text by text with a store of texts, and all at once. Plain facts. -/
namespace Go.Proofs.Ytmfjbljdbkmkgaa.Dom
open Go.RowKit Go.Proofs.YtmfjbljdbkmkgaaW.PrintWords Go.Proofs.YtmfjbljdbkmkgaaW.PrintLast Go.Proofs.YtmfjbljdbkmkgaaW.PrintMore Go.Proofs.Ytmfjbljdbkmkgaa.PDom Go.Proofs.Ytmfjbljdbkmkgaa.Blank Go.Proofs.Ytmfjbljdbkmkgaa.Txt
set_option linter.unusedVariables false
set_option linter.unusedSimpArgs false

/-- Which elements are blocks, void, preformatted. -/
structure Srt where
  bk : List ByteArray
  vd : List ByteArray
  pr : List ByteArray
def inL (l : List ByteArray) (n : ByteArray) : Bool := l.any fun s => n.toList == s.toList
def brB : ByteArray := ⟨#[98, 114]⟩
def codeB : ByteArray := ⟨#[99, 111, 100, 101]⟩
def Srt.kind (S : Srt) (n : ByteArray) : Nat := if (inL S.bk n || n.toList == brB.toList) = true then 1 else if (inL S.vd n || (inL S.pr n || n.toList == codeB.toList)) = true then 2 else 3
theorem kind_cases (S : Srt) (n : ByteArray) : S.kind n = 1 ∨ S.kind n = 2 ∨ S.kind n = 3 := by
  unfold Srt.kind
  split
  · exact .inl rfl
  · split
    · exact .inr (.inl rfl)
    · exact .inr (.inr rfl)
/-- A text without the blank ahead, if it is to be cut; without the one behind. -/
def cut1 (b : Bool) (l : List Int) : List Int := if (b && l.head? == some 32) = true then l.tail else l
def trimB (l : List Int) : List Int := if (l.getLast? == some 32) = true then l.dropLast else l
/-- What is known of the text ahead (whether it ends in a blank), and whether a blank ahead is kept. -/
structure Bt where
  pt : Option Bool
  keep : Bool
def Bt.ent (k : Nat) (b : Bt) : Bt := if k = 1 then ⟨none, false⟩ else if k = 2 then ⟨none, true⟩ else if b.pt.isSome = true then ⟨b.pt, false⟩ else b
def Bt.ct (b : Bt) (x : List Int) : List Int := cut1 (b.pt.getD true && !b.keep) (norm false x)
def Bt.txt (b : Bt) (x : List Int) : Bt := if (b.ct x).isEmpty = true then b else ⟨some ((b.ct x).getLast? == some 32), b.keep⟩
/-! ### All at once: ahead, then back -/
mutual
def p1 (S : Srt) (b : Bt) : T → Bt × List T
  | ⟨k, n, x, as_, ks⟩ =>
    if k = 1 then (b.txt (bytesOf x), if (b.ct (bytesOf x)).isEmpty = true then [] else [⟨k, n, strOfNums (b.ct (bytesOf x)), as_, ks⟩])
    else if k = 0 then
      if inL S.pr n = true then (b.ent (S.kind n), [⟨k, n, x, as_, ks⟩])
      else ((p1L S (b.ent (S.kind n)) ks).1.ent (S.kind n), [⟨k, n, x, as_, (p1L S (b.ent (S.kind n)) ks).2⟩])
    else (b, [⟨k, n, x, as_, ks⟩])
def p1L (S : Srt) (b : Bt) : List T → Bt × List T
  | [] => (b, [])
  | k :: ks => ((p1L S (p1 S b k).1 ks).1, (p1 S b k).2 ++ (p1L S (p1 S b k).1 ks).2)
end
def aft (k : Nat) (tr : Nat) : Nat := if k = 1 then 1 else if k = 2 then 0 else tr
mutual
/-- tr: 0: the last text stays, 1: it loses a blank at its end, 2: and is taken out, if nothing is left of it. -/
def p2 (S : Srt) (tr : Nat) : T → Nat × List T
  | ⟨k, n, x, as_, ks⟩ =>
    if k = 1 then (0, if tr = 0 then [⟨k, n, x, as_, ks⟩] else if tr = 2 ∧ trimB (bytesOf x) = [] then [] else [⟨k, n, strOfNums (trimB (bytesOf x)), as_, ks⟩])
    else if k = 0 then
      if inL S.pr n = true then (aft (S.kind n) tr, [⟨k, n, x, as_, ks⟩])
      else (aft (S.kind n) (p2L S (aft (S.kind n) tr) ks).1, [⟨k, n, x, as_, (p2L S (aft (S.kind n) tr) ks).2⟩])
    else (tr, [⟨k, n, x, as_, ks⟩])
def p2L (S : Srt) (tr : Nat) : List T → Nat × List T
  | [] => (tr, [])
  | k :: ks => ((p2 S (p2L S tr ks).1 k).1, (p2 S (p2L S tr ks).1 k).2 ++ (p2L S tr ks).2)
end
theorem p2L_append (S : Srt) (tr : Nat) (a b : List T) : p2L S tr (a ++ b) = ((p2L S (p2L S tr b).1 a).1, (p2L S (p2L S tr b).1 a).2 ++ (p2L S tr b).2) := by
  induction a with
  | nil => rfl
  | cons k a ih => rw [List.cons_append, p2L, p2L, ih, List.append_assoc]
def colT (S : Srt) : T → T
  | ⟨k, n, x, as_, ks⟩ => if inL S.pr n = true then ⟨k, n, x, as_, ks⟩ else ⟨k, n, x, as_, (p2L S 2 (p1L S ⟨none, false⟩ ks).2).2⟩
/-! ### Text by text -/
structure SR where
  st : Nat → List Int
  pt : Option Nat
  keep : Bool
def upd (σ : Nat → List Int) (i : Nat) (x : List Int) : Nat → List Int := fun j => if j = i then x else σ j
theorem upd_same (σ : Nat → List Int) (i : Nat) (x : List Int) : upd σ i x i = x := if_pos rfl
theorem upd_other (σ : Nat → List Int) {i j : Nat} (x : List Int) (h : j ≠ i) : upd σ i x j = σ j := if_neg h
def SR.bits (s : SR) : Bt := ⟨s.pt.map fun p => (s.st p).getLast? == some 32, s.keep⟩
def SR.ct (s : SR) (i : Nat) : List Int := s.bits.ct (s.st i)
def SR.txt (s : SR) (i : Nat) : SR := if (s.ct i).isEmpty = true then ⟨upd s.st i [], s.pt, s.keep⟩ else ⟨upd s.st i (s.ct i), some i, s.keep⟩
def SR.cutP (s : SR) : Nat → List Int := match s.pt with
  | some p => upd s.st p (trimB (s.st p))
  | none => s.st
def SR.ent (k : Nat) (s : SR) : SR := if k = 1 then ⟨s.cutP, none, false⟩ else if k = 2 then ⟨s.st, none, true⟩ else if s.pt.isSome = true then ⟨s.st, s.pt, false⟩ else s
mutual
def run (S : Srt) (s : SR) : RT → SR × List RT
  | .node i ty a d at_ ks =>
    if ty = 1 then (s.txt i, if (s.ct i).isEmpty = true then [] else [.node i ty a d at_ ks])
    else if ty = 3 then
      if inL S.pr d = true then (s.ent (S.kind d), [.node i ty a d at_ ks])
      else ((runL S (s.ent (S.kind d)) ks).1.ent (S.kind d), [.node i ty a d at_ (runL S (s.ent (S.kind d)) ks).2])
    else (s, [.node i ty a d at_ ks])
def runL (S : Srt) (s : SR) : List RT → SR × List RT
  | [] => (s, [])
  | k :: ks => ((runL S (run S s k).1 ks).1, (run S s k).2 ++ (runL S (run S s k).1 ks).2)
end
mutual
/-- The tree with the store's texts; what is preformatted stays. -/
def RT.dat (S : Srt) (σ : Nat → List Int) : RT → RT
  | .node i ty a d at_ ks => if ty = 1 then .node i ty a (strOfNums (σ i)) at_ ks else if (ty == 3 && !inL S.pr d) = true then .node i ty a d at_ (RT.datL S σ ks) else .node i ty a d at_ ks
def RT.datL (S : Srt) (σ : Nat → List Int) : List RT → List RT
  | [] => []
  | k :: ks => k.dat S σ :: RT.datL S σ ks
end
mutual
/-- The texts of it. -/
def RT.tid (S : Srt) : RT → List Nat
  | .node i ty a d at_ ks => if ty = 1 then [i] else if (ty == 3 && !inL S.pr d) = true then RT.tidL S ks else []
def RT.tidL (S : Srt) : List RT → List Nat
  | [] => []
  | k :: ks => k.tid S ++ RT.tidL S ks
end
mutual
/-- Some of them taken out. -/
def RT.rm (S : Srt) (q : Nat → Bool) : RT → List RT
  | .node i ty a d at_ ks => if ty = 1 then (if q i = true then [] else [.node i ty a d at_ ks]) else if (ty == 3 && !inL S.pr d) = true then [.node i ty a d at_ (RT.rmL S q ks)] else [.node i ty a d at_ ks]
def RT.rmL (S : Srt) (q : Nat → Bool) : List RT → List RT
  | [] => []
  | k :: ks => k.rm S q ++ RT.rmL S q ks
end
theorem datL_append (S : Srt) (σ : Nat → List Int) (a b : List RT) : RT.datL S σ (a ++ b) = RT.datL S σ a ++ RT.datL S σ b := by
  induction a with
  | nil => rfl
  | cons k a ih => rw [List.cons_append, RT.datL, RT.datL, ih]; rfl
theorem datL_map (S : Srt) (σ : Nat → List Int) (a : List RT) : RT.datL S σ a = a.map (RT.dat S σ) := by
  induction a with
  | nil => rfl
  | cons k a ih => rw [RT.datL, ih]; rfl
theorem tidL_append (S : Srt) (a b : List RT) : RT.tidL S (a ++ b) = RT.tidL S a ++ RT.tidL S b := by
  induction a with
  | nil => rfl
  | cons k a ih => rw [List.cons_append, RT.tidL, RT.tidL, ih, List.append_assoc]
theorem rmL_append (S : Srt) (q : Nat → Bool) (a b : List RT) : RT.rmL S q (a ++ b) = RT.rmL S q a ++ RT.rmL S q b := by
  induction a with
  | nil => rfl
  | cons k a ih => rw [List.cons_append, RT.rmL, RT.rmL, ih, List.append_assoc]
theorem toTL_append (a b : List RT) : RT.toTL (a ++ b) = RT.toTL a ++ RT.toTL b := by
  rw [RT.toTL_map, RT.toTL_map, RT.toTL_map, List.map_append]
theorem mem_tidL {S : Srt} {x : Nat} {l : List RT} : x ∈ RT.tidL S l ↔ ∃ k ∈ l, x ∈ k.tid S := by
  induction l with
  | nil => simp [RT.tidL]
  | cons k l ih => simp [RT.tidL, ih]
/-- The store counts at the texts alone. -/
theorem dat_congr (S : Srt) (σ τ : Nat → List Int) (r : RT) : (∀ b ∈ r.tid S, σ b = τ b) → r.dat S σ = r.dat S τ := by
  induction r using RT.induct with
  | h i ty a d at_ ks ih =>
    intro h
    rw [RT.tid] at h
    rw [RT.dat, RT.dat]
    split
    · rename_i h1
      rw [if_pos h1] at h
      rw [h i (by simp)]
    · rename_i h1
      rw [if_neg h1] at h
      split
      · rename_i h2
        rw [if_pos h2] at h
        rw [datL_map, datL_map]
        congr 1
        exact List.map_congr_left (fun k hk => ih k hk (fun b hb => h b (mem_tidL.2 ⟨k, hk, hb⟩)))
      · rfl
theorem datL_congr (S : Srt) (σ τ : Nat → List Int) (l : List RT) (h : ∀ b ∈ RT.tidL S l, σ b = τ b) : RT.datL S σ l = RT.datL S τ l := by
  rw [datL_map, datL_map]
  exact List.map_congr_left (fun k hk => dat_congr S σ τ k (fun b hb => h b (mem_tidL.2 ⟨k, hk, hb⟩)))
/-- How the store may differ later on: the last text may lose its blank. -/
structure Agr (s : SR) (I : List Nat) (tr : Nat) (τ : Nat → List Int) (q : Nat → Bool) : Prop where
  t : ∀ b ∈ I, τ b = if s.pt = some b ∧ tr ≠ 0 then trimB (s.st b) else s.st b
  q : ∀ b ∈ I, q b = decide (s.pt = some b ∧ tr = 2 ∧ trimB (s.st b) = [])
/-- What is done between two stores: the texts I, of which I' are left; what becomes of the text ahead. -/
structure Snd (s : SR) (I : List Nat) (s' : SR) (I' : List Nat) (f : Nat → Nat) (X : Nat → (Nat → List Int) → (Nat → Bool) → Prop) : Prop where
  sub : ∀ b ∈ I', b ∈ I
  ptin : ∀ p, s'.pt = some p → p ∈ I' ∨ s.pt = some p
  far : ∀ b, b ∉ I → s.pt ≠ some b → s'.st b = s.st b
  old : ∀ p, s.pt = some p → p ∉ I → (s'.pt = some p → s'.st p = s.st p ∧ ∀ tr, f tr = tr) ∧ (s'.pt ≠ some p → ∀ tr, f tr ≠ 2 ∧ s'.st p = if f tr = 0 then s.st p else trimB (s.st p))
  out : ∀ tr τ q, Agr s' I' tr τ q → X tr τ q
theorem Snd.refl (s : SR) : Snd s [] s [] (fun tr => tr) (fun _ _ _ => True) :=
  ⟨fun b h => (by cases h), fun p h => .inr h, fun b _ _ => rfl, fun p h _ => ⟨fun _ => ⟨rfl, fun _ => rfl⟩, fun h2 => absurd h h2⟩, fun _ _ _ _ => trivial⟩
theorem Snd.comp {s s1 s2 : SR} {I1 I1' I2 I2' : List Nat} {f1 f2 : Nat → Nat} {X1 X2 : Nat → (Nat → List Int) → (Nat → Bool) → Prop} (h1 : Snd s I1 s1 I1' f1 X1) (h2 : Snd s1 I2 s2 I2' f2 X2) (hd : ∀ b ∈ I1, b ∉ I2) :
    Snd s (I1 ++ I2) s2 (I1' ++ I2') (fun tr => f1 (f2 tr)) (fun tr τ q => X1 (f2 tr) τ q ∧ X2 tr τ q) := by
  refine ⟨?_, ?_, ?_, ?_, ?_⟩
  · intro b hb
    rcases List.mem_append.1 hb with h | h
    · exact List.mem_append_left _ (h1.sub b h)
    · exact List.mem_append_right _ (h2.sub b h)
  · intro p hp
    rcases h2.ptin p hp with h | h
    · exact .inl (List.mem_append_right _ h)
    · rcases h1.ptin p h with h | h
      · exact .inl (List.mem_append_left _ h)
      · exact .inr h
  · intro b hb hp
    have n1 : b ∉ I1 := fun h => hb (List.mem_append_left _ h)
    have n2 : b ∉ I2 := fun h => hb (List.mem_append_right _ h)
    have hp1 : s1.pt ≠ some b := fun e => by
      rcases h1.ptin b e with h | h
      · exact n1 (h1.sub b h)
      · exact hp h
    exact (h2.far b n2 hp1).trans (h1.far b n1 hp)
  · intro p hp hI
    have n1 : p ∉ I1 := fun h => hI (List.mem_append_left _ h)
    have n2 : p ∉ I2 := fun h => hI (List.mem_append_right _ h)
    obtain ⟨a1, a2⟩ := h1.old p hp n1
    by_cases e : s1.pt = some p
    · obtain ⟨b1, b2⟩ := a1 e
      obtain ⟨c1, c2⟩ := h2.old p e n2
      refine ⟨fun h => ?_, fun h tr => ?_⟩
      · obtain ⟨d1, d2⟩ := c1 h
        exact ⟨d1.trans b1, fun tr => (b2 _).trans (d2 tr)⟩
      · obtain ⟨d1, d2⟩ := c2 h tr
        refine ⟨by rw [b2]; exact d1, ?_⟩
        show _ = if f1 (f2 tr) = 0 then _ else _
        rw [b2, d2, b1]
    · have e2 : s2.pt ≠ some p := fun h => by
        rcases h2.ptin p h with h | h
        · exact n2 (h2.sub p h)
        · exact e h
      refine ⟨fun h => absurd h e2, fun _ tr => ?_⟩
      obtain ⟨d1, d2⟩ := a2 e (f2 tr)
      exact ⟨d1, (h2.far p n2 e).trans d2⟩
  · intro tr τ q hA
    refine ⟨h1.out _ τ q ?_, h2.out tr τ q ⟨fun b hb => hA.t b (List.mem_append_right _ hb), fun b hb => hA.q b (List.mem_append_right _ hb)⟩⟩
    have key : ∀ b ∈ I1', (if s2.pt = some b ∧ tr ≠ 0 then trimB (s2.st b) else s2.st b) = (if s1.pt = some b ∧ f2 tr ≠ 0 then trimB (s1.st b) else s1.st b) ∧ ((s2.pt = some b ∧ tr = 2 ∧ trimB (s2.st b) = []) ↔ (s1.pt = some b ∧ f2 tr = 2 ∧ trimB (s1.st b) = [])) := by
      intro b hb
      have n2 := hd b (h1.sub b hb)
      by_cases e : s1.pt = some b
      · obtain ⟨c1, c2⟩ := h2.old b e n2
        by_cases e2 : s2.pt = some b
        · obtain ⟨d1, d2⟩ := c1 e2
          rw [d1, d2 tr]
          simp [e, e2]
        · obtain ⟨d1, d2⟩ := c2 e2 tr
          constructor
          · rw [if_neg (fun h => e2 h.1), d2]
            by_cases h0 : f2 tr = 0
            · rw [if_pos h0, if_neg (fun h => h.2 h0)]
            · rw [if_neg h0, if_pos ⟨e, h0⟩]
          · exact ⟨fun h => absurd h.1 e2, fun h => absurd h.2.1 d1⟩
      · have e2 : s2.pt ≠ some b := fun h => by
          rcases h2.ptin b h with h | h
          · exact n2 (h2.sub b h)
          · exact e h
        rw [if_neg (fun h => e2 h.1), if_neg (fun h => e h.1), h2.far b n2 e]
        exact ⟨rfl, ⟨fun h => absurd h.1 e2, fun h => absurd h.1 e⟩⟩
    exact ⟨fun b hb => (hA.t b (List.mem_append_left _ hb)).trans (key b hb).1, fun b hb => (hA.q b (List.mem_append_left _ hb)).trans (decide_eq_decide.2 (key b hb).2)⟩
theorem Snd.imp {s s1 : SR} {I I' : List Nat} {f g : Nat → Nat} {X Y : Nat → (Nat → List Int) → (Nat → Bool) → Prop} (h : Snd s I s1 I' f X) (hf : ∀ tr, f tr = g tr) (hx : ∀ tr τ q, X tr τ q → Y tr τ q) : Snd s I s1 I' g Y := by
  obtain rfl : f = g := funext hf
  exact ⟨h.sub, h.ptin, h.far, h.old, fun tr τ q hA => hx _ _ _ (h.out tr τ q hA)⟩
theorem snd_ent (k : Nat) (s : SR) (hk : k = 1 ∨ k = 2 ∨ k = 3) : Snd s [] (s.ent k) [] (aft k) (fun _ _ _ => True) := by
  refine ⟨fun b h => (by cases h), fun p h => .inr ?_, fun b _ hp => ?_, fun p hp _ => ?_, fun _ _ _ _ => trivial⟩
  · rcases hk with rfl | rfl | rfl
    · cases h
    · cases h
    · unfold SR.ent at h
      rw [if_neg (by decide), if_neg (by decide)] at h
      split at h <;> exact h
  · rcases hk with rfl | rfl | rfl
    · show s.cutP b = _
      unfold SR.cutP
      cases e : s.pt with
      | some p => exact upd_other _ _ (fun e2 => hp (by rw [e, e2]))
      | none => rfl
    · rfl
    · unfold SR.ent
      rw [if_neg (by decide), if_neg (by decide)]
      split <;> rfl
  · rcases hk with rfl | rfl | rfl
    · refine ⟨fun h => (by cases h), fun _ tr => ⟨(show (1 : Nat) ≠ 2 by decide), ?_⟩⟩
      show s.cutP p = _
      unfold SR.cutP
      rw [hp]
      exact upd_same _ _ _
    · exact ⟨fun h => (by cases h), fun _ tr => ⟨(show (0 : Nat) ≠ 2 by decide), rfl⟩⟩
    · have e : s.ent 3 = ⟨s.st, s.pt, false⟩ := by
        unfold SR.ent
        rw [if_neg (by decide), if_neg (by decide), if_pos (by rw [hp]; rfl)]
      rw [e]
      exact ⟨fun _ => ⟨rfl, fun _ => rfl⟩, fun h => absurd hp h⟩
theorem bits_ent (k : Nat) (s : SR) : (s.ent k).bits = s.bits.ent k := by
  unfold SR.ent Bt.ent SR.bits
  split
  · rfl
  · split
    · rfl
    · simp only [Option.isSome_map]
      split <;> rfl
theorem bits_txt (s : SR) (i : Nat) (hp : s.pt ≠ some i) : (s.txt i).bits = s.bits.txt (s.st i) := by
  unfold SR.txt Bt.txt
  show (if (s.ct i).isEmpty = true then _ else _ : SR).bits = if (s.ct i).isEmpty = true then _ else (⟨some ((s.ct i).getLast? == some 32), s.keep⟩ : Bt)
  split
  · unfold SR.bits
    show (⟨s.pt.map fun p => (upd s.st i [] p).getLast? == some 32, s.keep⟩ : Bt) = _
    cases e : s.pt with
    | none => rfl
    | some p =>
      rw [Option.map_some, Option.map_some, upd_other _ _ (fun e2 => hp (by rw [e, e2]))]
  · unfold SR.bits
    show (⟨some ((upd s.st i (s.ct i) i).getLast? == some 32), s.keep⟩ : Bt) = _
    rw [upd_same]
end Go.Proofs.Ytmfjbljdbkmkgaa.Dom

/- laws.inlineSpaced: its contract. -/
namespace Go.Proofs.Ytmfjbljdbkmkgaa.Dom
open Go.RowKit Go.Proofs.YtmfjbljdbkmkgaaW.PrintWords Go.Proofs.YtmfjbljdbkmkgaaW.PrintLast Go.Proofs.YtmfjbljdbkmkgaaW.PrintMore Go.Proofs.Ytmfjbljdbkmkgaa.PDom Go.Proofs.Ytmfjbljdbkmkgaa.Txt Go.Proofs.Ytmfjbljdbkmkgaa.Blank
set_option linter.unusedVariables false
set_option linter.unusedSimpArgs false

def blkN (c : Int) : Int := if ws c = true then 32 else c
def blkB (x : ByteArray) : ByteArray := strOfNums ((bytesOf x).map blkN)
mutual
def spcT : T → T
  | ⟨k, n, x, as_, ks⟩ => ⟨k, n, if k = 1 then blkB x else x, as_, spcTL ks⟩
def spcTL : List T → List T
  | [] => []
  | k :: ks => spcT k :: spcTL ks
end
theorem spcTL_map (l : List T) : spcTL l = l.map spcT := by
  induction l with
  | nil => rfl
  | cons k l ih => rw [spcTL, ih]; rfl
mutual
/-- No attributes in it. -/
def naT : T → Bool
  | ⟨_, _, _, as_, ks⟩ => as_.isEmpty && naTL ks
def naTL : List T → Bool
  | [] => true
  | k :: ks => naT k && naTL ks
end
theorem naTL_iff : ∀ {l : List T}, naTL l = true ↔ ∀ k ∈ l, naT k = true
  | [] => by simp [naTL]
  | k :: ks => by
    rw [naTL, Bool.and_eq_true, naTL_iff (l := ks)]
    simp
theorem naT_open {t : T} (h : naT t = true) : t.f3 = [] ∧ ∀ k ∈ t.f4, naT k = true := by
  cases t with
  | mk k n x as_ ks =>
    rw [naT, Bool.and_eq_true] at h
    exact ⟨List.isEmpty_iff.1 h.1, naTL_iff.1 h.2⟩
theorem blank_f (c : Int) : spec_Blank.f c = some (ws c) := by
  unfold spec_Blank.f ws
  by_cases h1 : c = 32
  · rw [if_pos h1]; simp [h1]
  · rw [if_neg h1]
    by_cases h2 : c = 9
    · rw [if_pos h2]; simp [h2]
    · rw [if_neg h2]
      by_cases h3 : c = 10
      · rw [if_pos h3]; simp [h3]
      · rw [if_neg h3]
        by_cases h4 : c = 13
        · simp [h4]
        · simp [h1, h2, h3, h4]
/-- What a function that makes a tree anew returns. -/
def ToldK (w w' : World) (u : T) (e : Ending) : Prop := ∃ A3 c3 A4 c4, e = .returned (.agg #[.int .i64 u.f0, .string u.f1, .string u.f2, .slice A3 0 c3, .slice A4 u.f4.length c4]) ∧ u.f3 = [] ∧ u.f4.length ≤ c4 ∧ Kd.N k25 25 w' w.heap.size (fun k => w.heap.size ≤ k) (.slice A4 u.f4.length c4) u.f4 ∧ Below w.heap.size w w'
/-- The tree that is being made: its box, its row; the result's box. -/
structure KB (w wr : World) (k : Int) (nm tx : ByteArray) (A3 : Option Addr) (c3 : Nat) (v4 : Value) (l4 : List T) : Prop where
  box : wr.heap[w.heap.size + 2]? = some (.cells #[.int .i64 k, .string nm, .string tx, .slice A3 0 c3, v4] 25 (0, 0))
  res : wr.heap[w.heap.size + 1]? = some (.cells zeroN 25 (0, 0))
  n4 : Kd.N k25 25 wr w.heap.size (fun k => w.heap.size + 3 ≤ k) v4 l4
  on : Below w.heap.size w wr
section
variable {w wr w1 w2 w3 : World} {k : Int} {nm tx : ByteArray} {A3 : Option Addr} {c3 : Nat} {v4 v1 : Value} {l4 : List T}
theorem KB.size (h : KB w wr k nm tx A3 c3 v4 l4) : w.heap.size + 3 ≤ wr.heap.size := blk_lt h.box
theorem KB.moved (h : KB w wr k nm tx A3 c3 v4 l4) (hb : Below wr.heap.size wr w1) : KB w w1 k nm tx A3 c3 v4 l4 :=
  ⟨(hb.block _ (blk_lt h.box)).trans h.box, (hb.block _ (blk_lt h.res)).trans h.res, Kd.N_below h.n4 hb, h.on.trans (hb.mono (by have := h.size; omega))⟩
theorem KB.kid (h : KB w w2 k nm tx A3 c3 v4 l4) {p : T} (ho : Kd.N k25 25 w3 w.heap.size (fun k => w.heap.size + 3 ≤ k) v1 (l4 ++ [p])) (hb3 : Below w.heap.size w2 w3) (hg : w2.grownBy w3 v4.ownBlock) :
    w3.cell? ⟨w.heap.size + 2, 4, none⟩ = some v4 ∧ w3.frozen? ⟨w.heap.size + 2, 4, none⟩ = false ∧ KB w (w3.setCell ⟨w.heap.size + 2, 4, none⟩ v1) k nm tx A3 c3 v1 (l4 ++ [p]) := by
  have n2 : some (w.heap.size + 2) ≠ v4.ownBlock := fun e => by have := h.n4.1 _ e.symm; omega
  have n1 : some (w.heap.size + 1) ≠ v4.ownBlock := fun e => by have := h.n4.1 _ e.symm; omega
  have b3 := grown_kept hg h.box n2
  refine ⟨blk_cell b3 4, blk_frozen b3 4, blk_set b3 4 _, (Below.heap_setCell w3 _ _ _ (by show w.heap.size + 1 ≠ w.heap.size + 2; omega)).trans (grown_kept hg h.res n1), ?_, ?_⟩
  · refine Kd.N_far ho (fun k hk => ?_) _
    show k ≠ w.heap.size + 2
    omega
  · exact h.on.trans (Below.setCell hb3 (p := ⟨w.heap.size + 2, 4, none⟩) (by show w.heap.size ≤ w.heap.size + 2; omega) _)
end
theorem F_nilA {α : Type} (d : Kd α) (W : World) (ok : Nat → Prop) (A : Option Addr) : Kd.F d W ok A 0 [] := fun W' _ => ⟨rfl, by simp, fun h => absurd h (Nat.lt_irrefl 0)⟩
theorem fk_na {W : World} {ok : Nat → Prop} {u : T} {A3 A4 : Option Addr} {c3 c4 : Nat} (h3 : u.f3 = []) (l4 : u.f4.length ≤ c4) (g4 : Kd.F k25 W ok A4 u.f4.length u.f4) : Kd.FK k25 W ok u [.int .i64 u.f0, .string u.f1, .string u.f2, .slice A3 0 c3, .slice A4 u.f4.length c4] := by
  have := k25_mkF W ok u (A3 := A3) (c3 := c3) (by rw [h3]; exact Nat.zero_le _) (by rw [h3]; exact F_nilA _ _ _ _) l4 g4
  rw [h3] at this
  exact this
/-- How such a function ends. -/
theorem na_end {w w3 : World} {u : T} {A3 A4 : Option Addr} {c3 c4 : Nat} (h : KB w w3 u.f0 u.f1 u.f2 A3 c3 (.slice A4 u.f4.length c4) u.f4) (h3 : u.f3 = []) (a0 a1 a2 a3 a4 : Value) :
    ToldK w (((((w3.setCell ⟨w.heap.size + 1, 0, none⟩ a0).setCell ⟨w.heap.size + 1, 1, none⟩ a1).setCell ⟨w.heap.size + 1, 2, none⟩ a2).setCell ⟨w.heap.size + 1, 3, none⟩ a3).setCell ⟨w.heap.size + 1, 4, none⟩ a4) u (.returned (.agg #[.int .i64 u.f0, .string u.f1, .string u.f2, .slice A3 0 c3, .slice A4 u.f4.length c4])) := by
  have hs := fun k (hk : k ≠ w.heap.size + 1) => sets5 w3 (w.heap.size + 1) a0 a1 a2 a3 a4 k hk
  have hb : Below w.heap.size w3 (((((w3.setCell ⟨w.heap.size + 1, 0, none⟩ a0).setCell ⟨w.heap.size + 1, 1, none⟩ a1).setCell ⟨w.heap.size + 1, 2, none⟩ a2).setCell ⟨w.heap.size + 1, 3, none⟩ a3).setCell ⟨w.heap.size + 1, 4, none⟩ a4) :=
    Below.setCell (Below.setCell (Below.setCell (Below.setCell (Below.setCell (Below.refl _ w3) (p := ⟨w.heap.size + 1, 0, none⟩) (Nat.le_succ _) _) (p := ⟨w.heap.size + 1, 1, none⟩) (Nat.le_succ _) _) (p := ⟨w.heap.size + 1, 2, none⟩) (Nat.le_succ _) _) (p := ⟨w.heap.size + 1, 3, none⟩) (Nat.le_succ _) _) (p := ⟨w.heap.size + 1, 4, none⟩) (Nat.le_succ _) _
  exact ⟨A3, c3, A4, c4, rfl, h3, (Kd.N_reads' h.n4).2.1, Kd.N_mono (Kd.N_step h.n4 (fun k hk _ => hs k (by omega))) (fun k hk => by omega), h.on.trans hb⟩
/-- A row of bytes that is being written over. -/
structure BB (w wr : World) (gb z n : Nat) (xs : List Int) (C : Array Value) : Prop where
  blk : wr.heap[gb]? = some (.cells C 5 (z, z + 1))
  zc : C.size = z
  nz : n ≤ z
  len : xs.length = n
  cs : ∀ j, j < n → C[j]? = some (.int .u8 (xs.getD j 0))
theorem BB.cell {w wr : World} {gb z n : Nat} {xs : List Int} {C : Array Value} (h : BB w wr gb z n xs C) {j : Nat} (hj : j < n) : wr.cell? ⟨gb, j, none⟩ = some (.int .u8 (xs.getD j 0)) := (cell_of_row wr gb j C 5 (z, z + 1) h.blk).trans (h.cs j hj)
theorem BB.frozen {w wr : World} {gb z n : Nat} {xs : List Int} {C : Array Value} (h : BB w wr gb z n xs C) {j : Nat} (hj : j < n) : wr.frozen? ⟨gb, j, none⟩ = false := by
  have := h.nz
  simp [World.frozen?, h.blk]
  omega
theorem BB.put {w wr : World} {gb z n : Nat} {xs : List Int} {C : Array Value} (h : BB w wr gb z n xs C) {j : Nat} (hj : j < n) (x : Int) : BB w (wr.setCell ⟨gb, j, none⟩ (.int .u8 x)) gb z n (xs.set j x) (C.setIfInBounds j (.int .u8 x)) := by
  refine ⟨by simp [World.setCell, Array.getElem?_modify, h.blk], by rw [Array.size_setIfInBounds]; exact h.zc, h.nz, by rw [List.length_set]; exact h.len, fun m hm => ?_⟩
  have hz := h.zc
  have hn := h.nz
  by_cases e : j = m
  · subst e
    rw [Array.getElem?_setIfInBounds_self_of_lt (by omega), List.getD_eq_getElem?_getD, List.getElem?_set_self (by rw [h.len]; exact hm)]
    rfl
  · rw [Array.getElem?_setIfInBounds_ne e, h.cs m hm, List.getD_eq_getElem?_getD, List.getD_eq_getElem?_getD, List.getElem?_set_ne e]
theorem BB.below {w wr w1 : World} {gb z n : Nat} {xs : List Int} {C : Array Value} (h : BB w wr gb z n xs C) (hb : Below wr.heap.size wr w1) : BB w w1 gb z n xs C :=
  ⟨(hb.block _ (blk_lt h.blk)).trans h.blk, h.zc, h.nz, h.len, h.cs⟩
theorem BB.start (w W : World) (x : ByteArray) : BB w (Lib.bytesWorld W 5 x) W.heap.size (Lib.bytesCells W 5 x).size x.size (bytesOf x) (Lib.bytesCells W 5 x) := by
  have hsz : (Lib.bytesCells W 5 x).size = x.size + (grownCap W x.size 0 5 - x.size) := by
    unfold Lib.bytesCells
    rw [Array.size_append, Array.size_map, Array.size_replicate]
    rfl
  refine ⟨Lib.bytesWorld_at_new W 5 x, rfl, by rw [hsz]; omega, bytesOf_length x, fun j hj => ?_⟩
  have h1 := Lib.bytesWorld_cell W 5 x j hj
  rw [cell_of_row _ _ j _ 5 _ (Lib.bytesWorld_at_new W 5 x)] at h1
  rw [h1]
  have h' : j < x.data.toList.length := by rw [Array.length_toList]; exact hj
  simp [bytesOf, List.getD_eq_getElem?_getD, List.getElem?_eq_getElem h']
theorem BB.reads {w wr : World} {gb z n : Nat} {xs : List Int} {C : Array Value} (h : BB w wr gb z n xs C) (hn : n ≤ 9223372036854775807) : ReadsInt wr .u8 (some ⟨gb, 0, none⟩) n xs :=
  ⟨h.len, hn, fun _ => ⟨_, rfl, fun j hj => by rw [add_plain]; exact h.cell hj⟩⟩
/-- Up to a place written over. -/
def over (l : List Int) (i : Nat) : List Int := (l.take i).map blkN ++ l.drop i
theorem over_get {l : List Int} {i : Nat} (h : i < l.length) : (over l i).getD i 0 = l[i] := by
  unfold over
  rw [List.getD_eq_getElem?_getD, List.getElem?_append_right (by simp; omega)]
  have : i - (List.map blkN (l.take i)).length = 0 := by simp; omega
  rw [this, List.getElem?_drop, Nat.add_zero, List.getElem?_eq_getElem h]
  rfl
theorem over_succ {l : List Int} {i : Nat} (h : i < l.length) : over l (i + 1) = (over l i).set i (blkN l[i]) := by
  unfold over
  have hl : (List.map blkN (l.take i)).length = i := by simp; omega
  rw [List.set_append_right _ _ (by omega), hl, Nat.sub_self, List.drop_eq_getElem_cons h, List.set_cons_zero, List.take_succ_eq_append_getElem h, List.map_append]
  simp
theorem over_same {l : List Int} {i : Nat} (h : i < l.length) (hw : ws l[i] = false) : over l (i + 1) = over l i := by
  rw [over_succ h]
  have e : blkN l[i] = l[i] := by unfold blkN; rw [hw]; rfl
  rw [e]
  unfold over
  have hl : (List.map blkN (l.take i)).length = i := by simp; omega
  rw [List.set_append_right _ _ (by omega), hl, Nat.sub_self, List.drop_eq_getElem_cons h, List.set_cons_zero]
theorem over_end (l : List Int) : over l l.length = l.map blkN := by
  unfold over
  rw [List.take_length, List.drop_length, List.append_nil]
end Go.Proofs.Ytmfjbljdbkmkgaa.Dom
