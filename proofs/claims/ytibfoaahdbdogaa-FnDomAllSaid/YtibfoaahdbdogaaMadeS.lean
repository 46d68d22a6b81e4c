/- What impl.made rests on: leaves, one more attribute. Plain facts and one law. -/
import Derived.Test.YtibfoaahdbdogaaDomT
import Derived.Deep.DeepAppendWide
import Derived.Deep.RegionWith
import Derived.Deep.RegionLaw
import Derived.BigRegion
import Derived.Deep.DeepCutAuto
namespace Go.Proofs.Ytibfoaahdbdogaa.Dom
open Go.RowKit Go.Proofs.YtibfoaahdbdogaaW.PrintWords Go.Proofs.YtibfoaahdbdogaaW.PrintLast Go.Proofs.YtibfoaahdbdogaaW.PrintMore Go.Proofs.Ytibfoaahdbdogaa.PDom
set_option linter.unusedVariables false
set_option linter.unusedSimpArgs false

theorem kid_lt {t x : T} (h : x ∈ t.f4) : SizeOf.sizeOf x < SizeOf.sizeOf t := by
  have := List.sizeOf_lt_of_mem h
  cases t
  simp only [S25.mk.sizeOf_spec] at this ⊢
  omega
inductive Fit : T → Prop
  | mk (t : T) (ha : t.f3.length ≤ 4398046510976) (hk : t.f4.length ≤ 4398046510976) (h : ∀ y ∈ t.f4, Fit y) : Fit t

theorem atom_some (s : ByteArray) : atom_ZzAtom.f s = some ((atom_ZzAtom.f s).getD 0) := by
  unfold atom_ZzAtom.f
  repeat' split
  all_goals rfl

/-- One more attribute, as long as a row may come in. -/
theorem attr_step {P : Program} {ops : Array Oper} {o : Oper} {a : Act} {Q : Exit → Act → World → Prop} {K : Act → World → Prop} {E : Prop} {W : World} (hgd : o.guard = none) (s x : Operand) (t : TypeId) (z : Value)
    (ho : o.op = .call { callee := .builtin .append, args := #[s, x], argTypes := #[t, t] })
    (ht : P.underlying t = some (.slice 89)) (hinfo : (P.info? 89).map (fun i => (i.zero, i.size, i.bytes)) = some (some z, 3, 48)) (hz : z.cells.size = 3)
    (B : Nat) (hB : B ≤ W.heap.size) (v : Value) (l : List (ByteArray × ByteArray)) (k u : ByteArray) (bk : Nat) (hs : a.eval s = v) (hx : a.eval x = .slice (some ⟨bk, 0, none⟩) 1 1) (hnew : W.heap[bk]? = some (.cells #[.string ⟨#[]⟩, .string k, .string u] 89 (0, 0))) (HO : kA.R 89 W B (fun _ => True) v l) (hl : l.length ≤ 4398046510976)
    (h : ∀ v1 w1, kA.R 89 w1 B (fun _ => True) v1 (l ++ [(k, u)]) → W.grownBy w1 v.ownBlock → K (a.put o.dst v1) w1) :
    if Region.wanted o (yielded ops a.tmps) = true then Oper.wp P o a W K Q else E := by
  obtain ⟨i0, hi, hzz⟩ := Option.map_eq_some_iff.1 hinfo
  simp only [Prod.mk.injEq] at hzz
  obtain ⟨hz0, hz1, hz2⟩ := hzz
  rw [if_pos (show Region.wanted o (yielded ops a.tmps) = true by simp [Region.wanted, hgd])]
  obtain ⟨h0, inner, hown, hr⟩ := HO
  have hsz : kA.sz = 3 := rfl
  rw [hsz] at hown hr
  refine wp_append_own_wide _ s x t ho B 89 i0 z 3 48 ht hi hz0 hz1 hz2 hz (by omega) v l.length inner hs hown ⟨bk, 0, none⟩ 1 1 [.string ⟨#[]⟩, .string k, .string u] hx rfl
    (by simpa using World.news_of_block (cs := #[.string ⟨#[]⟩, .string k, .string u]) (t := 89) (fr := (0, 0)) hnew)
    (by intro y hy; rcases List.mem_cons.1 hy with rfl | hy; rfl; rcases List.mem_cons.1 hy with rfl | hy; rfl; rcases List.mem_cons.1 hy with rfl | hy; rfl; cases hy) (by simp only [maxLen]; omega) (by omega) hB ?_
  intro v1 w1 hown1 hg _
  refine h v1 w1 ⟨fun _ _ => trivial, inner ++ [.string ⟨#[]⟩, .string k, .string u], by rw [List.length_append, List.length_singleton]; exact hown1, ?_⟩ hg
  exact (hr.imp_ (fun _ _ hq => hq)).snoc ⟨[.string ⟨#[]⟩], [.string k, .string u], rfl, rfl, ⟨[.string k], [.string u], rfl, rfl, rfl⟩⟩ rfl
theorem kept {w8 w9 : World} {o : Obj} {r : Option Nat} (hg : (w8.alloc o).drew.grownBy w9 r) {g : Nat} {x : Obj} (h : w8.heap[g]? = some x) (hne : some g ≠ r) : w9.heap[g]? = some x := by
  have hlt := (Array.getElem?_eq_some_iff.1 h).1
  have h1 := hg.block g (by show g < (w8.heap.push o).size; rw [Array.size_push]; omega) hne
  exact h1.trans ((heap_alloc_old w8 o hlt).trans h)
theorem kept_below {w w8 w9 : World} {o : Obj} {B : Nat} {r : Option Nat} (hg : (w8.alloc o).drew.grownBy w9 r) (hb : Below B w (w8.alloc o)) (hB : B ≤ (w8.alloc o).drew.heap.size) (hr : ∀ k, r = some k → B ≤ k) : Below B w w9 :=
  (below_drew hb).grown hg hB hr
theorem attrR_set {w : World} {B : Nat} {v : Value} {l : List (ByteArray × ByteArray)} (h : kA.R 89 w B (fun _ => True) v l) {g : Nat} {r : Rec} (hg : Has w g r) (j : Nat) (u : Value) : kA.R 89 (w.setCell ⟨g, j, none⟩ u) B (fun _ => True) v l :=
  Kd.R_set h hg (fun q hq => by
    have : q = 89 := by simpa [kA, Kd.iso, Kd.pair, Kd.string, Kd.scalar] using hq
    rw [this]
    decide) j u
theorem Has.put9 {w : World} {b : Nat} {r : Rec} (h : Has w b r) (u : Value) : Has (w.setCell ⟨b, 9, none⟩ u) b { r with attr := u } := h.put 9 u { r with attr := u } rfl
/-- The end of a round: the node has one more attribute. -/
theorem attr_round {w w9 : World} {nb : Nat} {r : Rec} {box : Obj} {v1 : Value} {l : List (ByteArray × ByteArray)} (hnb : w.heap.size < nb) (hx : w9.heap[w.heap.size]? = some box) (hn : Has w9 nb r) (ho : kA.R 89 w9 w.heap.size (fun _ => True) v1 l) (hb : Below w.heap.size w w9) :
    (w9.setCell ⟨nb, 9, none⟩ v1).heap[w.heap.size]? = some box ∧ Has (w9.setCell ⟨nb, 9, none⟩ v1) nb { r with attr := v1 } ∧ kA.R 89 (w9.setCell ⟨nb, 9, none⟩ v1) w.heap.size (fun _ => True) v1 l ∧ Below w.heap.size w (w9.setCell ⟨nb, 9, none⟩ v1) :=
  ⟨(Below.heap_setCell w9 ⟨nb, 9, none⟩ v1 w.heap.size (by show w.heap.size ≠ nb; omega)).trans hx, hn.put9 v1, attrR_set ho hn 9 v1, hb.setCell (p := ⟨nb, 9, none⟩) (by show w.heap.size ≤ nb; omega) v1⟩
theorem wrap_same {x : Int} (h0 : -9223372036854775808 ≤ x) (h1 : x ≤ 9223372036854775807) : wrap64 x = x := by
  unfold wrap64
  omega
theorem wrap_succ (j : Nat) (h : j ≤ 4398046510976) : wrap64 ((j : Int) + 1) = ((j + 1 : Nat) : Int) := by
  rw [wrap_same (by omega) (by omega)]
  omega
theorem infoA : (Try.prog.info? 89).map (fun i => (i.zero, i.size, i.bytes)) = some (some (.agg #[.string ⟨#[]⟩, .string ⟨#[]⟩, .string ⟨#[]⟩]), 3, 48) := by kernel_rfl

theorem AttrAt.away {w : World} {v : Value} {l : List (ByteArray × ByteArray)} (h : AttrAt w v l) {g t : Nat} {cells : Array Value} (hg : w.heap[g]? = some (.cells cells t (0, 0))) (ht : 89 ≠ t) : some g ≠ v.ownBlock := Kd.R_ne h hg ht

structure Made (w w' : World) (b : Nat) (D : Tab) (t : T) : Prop where
  dom : Dom w' D
  tree : IsT D b t
  root : ∀ i, D b = some i → i.parent = none
  fresh : ∀ x, D x ≠ none → w.heap.size ≤ x
  below : Below w.heap.size w w'

theorem two_new (w : World) (o1 o2 : Obj) : ((w.alloc o1).alloc o2).heap[w.heap.size + 1]? = some o2 := by
  show ((w.heap.push o1).push o2)[w.heap.size + 1]? = some o2
  rw [Array.getElem?_push, Array.size_push, if_pos rfl]
theorem two_old (w : World) (o1 o2 : Obj) : ((w.alloc o1).alloc o2).heap[w.heap.size]? = some o1 := by
  show ((w.heap.push o1).push o2)[w.heap.size]? = some o1
  rw [Array.getElem?_push, Array.size_push, if_neg (by omega)]
  simp
theorem leaf (w : World) (o1 : Obj) (t : T) (ty : Int) (hf : flat t) (hty : ty = tyOf t.f0) :
    Made w ((w.alloc o1).alloc (.cells (Rec.cells ⟨none, none, none, none, none, ty, 0, t.f2, .slice none 0 0⟩) 86 (0, 0))) (w.heap.size + 1) (put none_ (w.heap.size + 1) ⟨none, [], ty, 0, t.f2, []⟩) t := by
  have h0 : ¬ t.f0 = 0 := fun e => by rcases hf with h | h <;> omega
  have hD : Dom ((w.alloc o1).alloc (.cells (Rec.cells ⟨none, none, none, none, none, ty, 0, t.f2, .slice none 0 0⟩) 86 (0, 0))) (put none_ (w.heap.size + 1) ⟨none, [], ty, 0, t.f2, []⟩) :=
    Dom.one (two_new w o1 _) (Kd.R_nil kA _ _ _ _)
  refine ⟨hD, ?_, ?_, ?_, below_alloc (below_alloc (Below.refl _ _) _) _⟩
  · refine IsT.mk _ t _ (put_same _ _ _) ⟨hty, ?_, ?_, ?_⟩ ?_ ?_
    · show (0 : Int) = atomOf t
      unfold atomOf
      rw [if_neg h0]
    · show t.f2 = dataOf t
      unfold dataOf
      rw [if_neg h0, if_pos hf]
    · show [] = attrsOf t
      unfold attrsOf
      rw [if_neg h0]
    · show 0 = (kidsT t).length
      unfold kidsT
      rw [if_pos hf]
      rfl
    · intro j h1
      exact absurd h1 (Nat.not_lt_zero _)
  · intro i hi
    rw [put_same] at hi
    obtain rfl := Option.some.inj hi
    rfl
  · intro x hx
    by_cases hxb : x = w.heap.size + 1
    · omega
    · rw [put_other _ _ hxb] at hx
      exact absurd rfl hx

end Go.Proofs.Ytibfoaahdbdogaa.Dom
