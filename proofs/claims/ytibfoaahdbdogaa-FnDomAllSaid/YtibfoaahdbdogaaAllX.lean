/- dom.AllNodes: the nodes of a tree, in order. -/
import Derived.Test.YtibfoaahdbdogaaPathX
import Derived.Deep.LoopGhost
import Derived.Laws.EntriesVeiled
namespace Go.Proofs.Ytibfoaahdbdogaa.Dom
open Go.RowKit Go.Proofs.YtibfoaahdbdogaaW.PrintWords Go.Proofs.YtibfoaahdbdogaaW.PrintLast Go.Proofs.YtibfoaahdbdogaaW.PrintMore Go.Proofs.Ytibfoaahdbdogaa.PDom
set_option linter.unusedVariables false
set_option linter.unusedSimpArgs false

theorem ptr_some (x : Nat) : ptr (some x) = .pointer (some ⟨x, 0, none⟩) := rfl
theorem ptr_none : ptr none = .pointer none := rfl
/-- A pointer to a node. -/
abbrev kP : Kd Nat := Kd.scalar (fun b => ptr (some b)) (fun _ => rfl)
theorem infoP : (Try.prog.info? 59).map (fun i => (i.zero, i.size, i.bytes)) = some (some (.pointer none), 1, 8) := by kernel_rfl
/-- What a node's block tells of its first child; what a child's block tells of the next one. -/
theorem Is.first {w : World} {D : Tab} (h : Dom w D) {p : Option Nat} {r : RT} (hr : Is D p r) : w.cell? ⟨r.id, 1, none⟩ = some (ptr (r.kids[0]?.map RT.id)) := by
  obtain ⟨v, hv, _⟩ := h.has hr.root
  rw [hv.cells10.2.1]
  show some (ptr ((r.info p).kids.head?)) = _
  cases r with
  | node i t a d at_ ks =>
    show some (ptr ((ks.map RT.id).head?)) = some (ptr (ks[0]?.map RT.id))
    cases ks <;> rfl
theorem Is.next {w : World} {D : Tab} (h : Dom w D) {p : Option Nat} {r : RT} (hr : Is D p r) {j : Nat} (hj : j < r.kids.length) : w.cell? ⟨r.kids[j].id, 4, none⟩ = some (ptr (r.kids[j + 1]?.map RT.id)) := by
  have hi := hr.root
  have hk : (r.info p).kids = r.kids.map RT.id := by cases r; rfl
  have hl : j < (r.info p).kids.length := by rw [hk, List.length_map]; exact hj
  have h1 := (kid_cells h hi hl).2.2
  simpa only [hk, List.getElem_map, List.getElem?_map] using h1
def funcAll (g f : Nat) : Value := .func (Fn.func 59) #[] #[.pointer (some ⟨g, 0, none⟩), .pointer (some ⟨f, 0, none⟩)]
/-- What the finder keeps: the row of nodes so far in the box g, itself in the box f; below these all is as it was. -/
structure AllI (w0 : World) (g f : Nat) (w : World) (acc : List Nat) : Prop where
  row : ∃ v, w.heap[g]? = some (.cells #[v] 61 (0, 0)) ∧ kP.R 59 w w0.heap.size (fun _ => True) v acc
  fn : w.heap[f]? = some (.cells #[funcAll g f] 76 (0, 0))
  below : Below w0.heap.size w0 w
theorem AllI.push {w0 w w1 : World} {g f i : Nat} {v v1 : Value} {acc : List Nat} (hgb : w0.heap.size ≤ g) (hv : w.heap[g]? = some (.cells #[v] 61 (0, 0))) (hr : kP.R 59 w w0.heap.size (fun _ => True) v acc)
    (hf : w.heap[f]? = some (.cells #[funcAll g f] 76 (0, 0))) (h1 : kP.R 59 w1 w0.heap.size (fun _ => True) v1 (acc ++ [i])) (hb : Below w0.heap.size w0 w1) (hg : w.grownBy w1 v.ownBlock) :
    w1.heap[g]? = some (.cells #[v] 61 (0, 0)) ∧ AllI w0 g f (w1.setCell ⟨g, 0, none⟩ v1) (acc ++ [i]) := by
  have hg1 := blk_grown hv hg (Kd.R_ne hr hv (by decide))
  have hf1 := blk_grown hf hg (Kd.R_ne hr hf (by decide))
  refine ⟨hg1, ⟨v1, blk_set hg1 0 v1, ?_⟩, ?_, ?_⟩
  · exact Kd.R_set h1 hg1 (fun q hq => by
      have : q = 59 := by simpa [kP, Kd.scalar] using hq
      rw [this]
      decide) 0 v1
  · refine blk_far hf1 (p := ⟨g, 0, none⟩) ?_ v1
    exact blk_ne hf1 hg1 (by decide)
  · exact hb.setCell (p := ⟨g, 0, none⟩) hgb v1
set_option maxHeartbeats 4000000 in
set_option maxRecDepth 100000 in
theorem finder_calls (w0 : World) (D : Tab) (hdom : Dom w0 D) (g f bound : Nat) (hbd : bound ≤ 4398046510976) (hgb : w0.heap.size ≤ g) (r : RT) : ∀ (p : Option Nat) (hr : Is D p r) (w : World) (acc : List Nat) (h : AllI w0 g f w acc) (hl : acc.length + r.pre.length ≤ bound),
    Calls Try.prog 59 #[ptr (some r.id), .pointer (some ⟨g, 0, none⟩), .pointer (some ⟨f, 0, none⟩)] w fun e w' => e = .returned (.tuple #[]) ∧ AllI w0 g f w' (acc ++ r.pre) := by
  induction r using RT.induct with
  | h i t a d at_ ks ih =>
    intro p hr w acc h hl
    have IH := Aside0.mk ih
    clear ih
    obtain ⟨v, hv, ho⟩ := h.row
    have HR := Aside0.mk hr
    have HD := Aside0.mk hdom
    have HO := Aside0.mk ho
    have HL := Aside0.mk hl
    have HV := Aside0.mk hv
    have HF := Aside0.mk h.fn
    have HB := Aside0.mk h.below
    have hszw := h.below.size
    have cg : w.cell? ⟨g, 0, none⟩ = some v := by rw [blk_cell hv]; rfl
    have hla : (acc.length + 1) * 8 ≤ 140737488355328 := by
      have : 0 < (RT.node i t a d at_ ks).pre.length := by simp [RT.pre]
      omega
    clear hr hdom ho hl hv h
    show Calls _ _ #[ptr (some i), _, _] _ _
    unfold ptr
    go_enter Try.func59, Try.ntmps59
    go_wp2_with ((with_reducible refine gate_builtin (b := .append) (xs := #[.tmp 5, .tmp 7]) rfl ?_); at_builtin; go_must (refine Kd.R_append kP (w0 := w0) w0.heap.size rfl (.tmp 5) (.tmp 7) 61 59 (.pointer none) 8 rfl Try.underlying61 infoP rfl (by decide) (by decide) v acc i [ptr (some i)] (fun _ => True) (fun _ => False) rfl rfl rfl (fun _ h => h.elim) (fun _ _ => trivial) HO.out HB.out ?aS ?aL ?_; (case aS => exact hszw); (case aL => exact hla); intro v1 w1 ho hb hg _; obtain ⟨A1, c1, hv1, hc1, hC1⟩ := Kd.R_reads ho; rw [List.length_append, List.length_singleton] at hv1; subst hv1; clear hc1 hC1; have HI := Aside0.mk (AllI.push hgb HV.out HO.out HF.out ho hb hg); have cg1 := blk_cell HI.out.1 0; have fg1 := blk_frozen HI.out.1 0; have cf : (w1.setCell ⟨g, 0, none⟩ (.slice A1 (acc.length + 1) c1)).cell? ⟨i, 1, none⟩ = some (ptr (ks[0]?.map RT.id)) := Is.first (HD.out.below HI.out.2.below) HR.out; clear ho hb hg))
    have hi0 := HI.out.2
    generalize hwg : w1.setCell ⟨g, 0, none⟩ (Value.slice A1 (acc.length + 1) c1) = wg at *
    clear hwg HI cg1 fg1
    have HI := Aside0.mk hi0
    clear hi0
    go_loopg [4] ks.length (fun n vc wr => ∃ j, n = ks.length - j ∧ j ≤ ks.length ∧ vc = ptr (ks[j]?.map RT.id) ∧ Aside0 (AllI w0 g f wr (acc ++ [i] ++ RT.preL (ks.take j))))
    case atStart => exact ⟨0, rfl, Nat.zero_le _, rfl, ⟨by simpa [RT.preL] using HI.out⟩⟩
    case round =>
      obtain ⟨j, rfl, hj, rfl, HI⟩ := hrel
      by_cases hlt : j < ks.length
      · rw [List.getElem?_eq_getElem hlt]
        have hkm := Aside0.mk (List.getElem_mem hlt)
        have hnx : ∀ wx, Below w0.heap.size w0 wx → wx.cell? ⟨ks[j].id, 4, none⟩ = some (ptr (ks[j + 1]?.map RT.id)) := fun wx hb => Is.next (HD.out.below hb) HR.out (j := j) hlt
        have HNX := Aside0.mk hnx
        clear hnx
        have cf0 : wr.cell? ⟨f, 0, none⟩ = some (funcAll g f) := by rw [blk_cell HI.out.fn]; rfl
        have hpl : (RT.preL (ks.take (j + 1))) = RT.preL (ks.take j) ++ ks[j].pre := by rw [List.take_succ_eq_append_getElem hlt, RT.preL_append]; simp [RT.preL]
        have HPL := Aside0.mk hpl
        clear hpl
        have hlen : (acc ++ [i] ++ RT.preL (ks.take j)).length + ks[j].pre.length ≤ bound := by
          have h1 := HL.out
          have h2 : RT.preL ks = RT.preL (ks.take (j + 1)) ++ RT.preL (ks.drop (j + 1)) := by rw [← RT.preL_append, List.take_append_drop]
          have h3 := congrArg List.length h2
          rw [HPL.out] at h3
          simp only [RT.pre, List.length_append, List.length_cons, List.length_nil] at h1 h3 ⊢
          omega
        have HC := Aside0.mk (IH.out ks[j] hkm.out (some i) (HR.out.kid hkm.out) wr _ HI.out hlen)
        have HE := Aside0.mk (congrArg RT.id (Eq.refl ks[j]))
        clear hlen
        simp only [Option.map_some, ptr_some, funcAll] at HC cf0 ⊢
        clear cf
        generalize ks[j].id = x at *
        go_wp2_with (go_at_call 59; refine HC.out.mono ?_; rintro e w2 ⟨rfl, hi2⟩; have HI2 := Aside0.mk hi2; have nx2 := HNX.out w2 hi2.below; clear hi2)
        go_roundg (ks.length - (j + 1))
        case rel => exact ⟨j + 1, rfl, by omega, rfl, ⟨by rw [HPL.out, ← List.append_assoc]; exact HI2.out⟩⟩
        case measure => omega
      · have hje : j = ks.length := by omega
        subst hje
        rw [List.getElem?_eq_none (Nat.le_refl _)]
        simp only [Option.map_none, ptr_none]
        go_wp2_with fail
        go_end0
        refine ⟨rfl, ?_⟩
        have := HI.out
        rw [List.take_length] at this
        simpa [RT.pre] using this
theorem all_calls (w : World) (D : Tab) (hdom : Dom w D) (p : Option Nat) (r : RT) (hr : Is D p r) (bound : Nat) (hbd : bound ≤ 4398046510976) (hl : r.pre.length ≤ bound) :
    Calls Try.prog 38 #[ptr (some r.id)] w fun e w' => ∃ v, e = .returned v ∧ kP.R 59 w' w.heap.size (fun _ => True) v r.pre ∧ Below w.heap.size w w' := by
  have h0 : AllI w w.heap.size (w.heap.size + 1) (((w.alloc (.cells #[.slice none 0 0] 61)).alloc (.cells #[funcAll w.heap.size (w.heap.size + 1)] 76))) [] := by
    refine ⟨⟨_, two_old w _ _, Kd.R_nil _ _ _ _ _⟩, two_new w _ _, below_alloc (below_alloc (Below.refl _ _) _) _⟩
  have HC := Aside0.mk (finder_calls w D hdom w.heap.size (w.heap.size + 1) bound hbd (Nat.le_refl _) r p hr _ [] h0 (by simpa using hl))
  clear h0 hl hr
  generalize r.id = x at *
  simp only [ptr_some, funcAll] at HC ⊢
  have hmf : ∀ (fn : Fn) (first cap : Array Value) (w : World), (Instr.makeFunc fn first cap).run Try.prog w = .ok (.func fn first cap) w := fun _ _ _ _ => rfl
  go_enter Try.func38, Try.ntmps38
  go_wp2_with (go_at_call 59; go_must (refine HC.out.mono ?_; rintro e w2 ⟨rfl, hi2⟩; obtain ⟨v2, hv2, ho2⟩ := hi2.row; obtain ⟨A2, c2, rfl, hc2, hC2⟩ := Kd.R_reads ho2; have cg2 := blk_cell hv2 0; have fg2 := blk_frozen hv2 0; have HI2 := Aside0.mk hi2; have HO2 := Aside0.mk ho2; have HV2 := Aside0.mk hv2; clear hi2 hv2 ho2 hc2 hC2))
  have hs := blk_set HV2.out 0 (Value.slice A2 r.pre.length c2)
  have hx : (w2.setCell ⟨w.heap.size, 0, none⟩ (Value.slice A2 r.pre.length c2)).cell? ⟨w.heap.size, 0, none⟩ = some (Value.slice A2 r.pre.length c2) := by rw [blk_cell hs]; rfl
  refine bodyPost_ret (v := .slice A2 r.pre.length c2) (by simp [results, Try.results38, go_sem, hx]) rfl ⟨_, rfl, ?_, ?_⟩
  · have := HO2.out
    rw [List.nil_append] at this
    exact Kd.R_set this HV2.out (fun q hq => by
      have : q = 59 := by simpa [kP, Kd.scalar] using hq
      rw [this]
      decide) 0 _
  · exact HI2.out.below.setCell (p := ⟨w.heap.size, 0, none⟩) (Nat.le_refl _) _
end Go.Proofs.Ytibfoaahdbdogaa.Dom
