/- What impl.made's loop over the children keeps. Plain facts on tables. -/
import Derived.Test.YtibfoaahdbdogaaMadeS
namespace Go.Proofs.Ytibfoaahdbdogaa.Dom
open Go.RowKit Go.Proofs.YtibfoaahdbdogaaW.PrintWords Go.Proofs.YtibfoaahdbdogaaW.PrintLast Go.Proofs.YtibfoaahdbdogaaW.PrintMore Go.Proofs.Ytibfoaahdbdogaa.PDom
set_option linter.unusedVariables false
set_option linter.unusedSimpArgs false

structure Kept (w wr : World) (nb : Nat) (D : Tab) (i : Info) (t : T) (box : Obj) (j : Nat) : Prop where
  dom : Dom wr D
  node : D nb = some i
  root : i.parent = none
  mt : Match i t
  len : i.kids.length = j
  kids : ∀ k (h1 : k < i.kids.length) (h2 : k < t.f4.length), IsT (above nb D) i.kids[k] t.f4[k]
  fresh : ∀ x, D x ≠ none → nb ≤ x
  box : wr.heap[w.heap.size]? = some box
  below : Below w.heap.size w wr

/-- Ahead of the first child. -/
theorem Kept.start {w wr : World} {nb : Nat} {t : T} {box : Obj} {ty atom : Int} {data : ByteArray} {v : Value} {attrs : List (ByteArray × ByteArray)} (hn : Has wr nb ⟨none, none, none, none, none, ty, atom, data, v⟩) (ha : AttrAt wr v attrs)
    (hm : Match ⟨none, [], ty, atom, data, attrs⟩ t) (hx : wr.heap[w.heap.size]? = some box) (hb : Below w.heap.size w wr) : Kept w wr nb (put none_ nb ⟨none, [], ty, atom, data, attrs⟩) ⟨none, [], ty, atom, data, attrs⟩ t box 0 :=
  ⟨Dom.one hn ha, put_same _ _ _, rfl, hm, rfl, fun k h1 => absurd h1 (Nat.not_lt_zero _), fun x hx => by
    by_cases h : x = nb
    · omega
    · rw [put_other _ _ h] at hx
      exact absurd rfl hx, hx, hb⟩

/-- The tables side by side, ahead of AppendChild. -/
theorem Kept.ready {w wr w1 w2 : World} {nb b : Nat} {D D' : Tab} {i : Info} {t x : T} {box : Obj} {j : Nat} (h : Kept w wr nb D i t box j) (h1 : Below wr.heap.size wr w1) (hm : Made w1 w2 b D' x) :
    ∃ ic, D' b = some ic ∧ Dom w2 (uni D D') ∧ uni D D' nb = some i ∧ uni D D' b = some ic ∧ nb ≠ b ∧ ic.parent = none ∧ i.parent ≠ some nb ∧ (∀ y, D y ≠ none → D' y = none) ∧ (∀ y, D' y ≠ none → nb < y) := by
  have hlt : ∀ y, D y ≠ none → y < wr.heap.size := fun y hy => h.dom.lt hy
  have hge : ∀ y, D' y ≠ none → wr.heap.size ≤ y := fun y hy => Nat.le_trans h1.size (hm.fresh y hy)
  have hd : ∀ y, D y ≠ none → D' y = none := by
    intro y hy
    cases hc : D' y with
    | none => rfl
    | some q =>
      have := hge y (by rw [hc]; simp)
      have := hlt y hy
      omega
  have hnb : nb < wr.heap.size := hlt nb (by rw [h.node]; simp)
  obtain ⟨ic, hic⟩ : ∃ ic, D' b = some ic := by
    obtain ⟨_, _, ic, hic, _, _, _⟩ := hm.tree
    exact ⟨ic, hic⟩
  have hb : wr.heap.size ≤ b := hge b (by rw [hic]; simp)
  have hDb : D b = none := by
    cases hc : D b with
    | none => rfl
    | some q =>
      have := hlt b (by rw [hc]; simp)
      omega
  refine ⟨ic, hic, (h.dom.below (h1.trans ?_)).union hm.dom hd, uni_left h.node, by rw [uni_right hDb]; exact hic, by omega, hm.root ic hic, by rw [h.root]; simp, hd, fun y hy => by have := hge y hy; omega⟩
  exact ⟨hm.below.os, hm.below.tape, hm.below.output, hm.below.size, fun k hk => hm.below.block k (Nat.lt_of_lt_of_le hk h1.size)⟩

/-- Behind AppendChild. -/
theorem Kept.step {w wr w1 w2 w3 : World} {nb b : Nat} {D D' : Tab} {i ic : Info} {t : T} {box : Obj} {j : Nat} (h : Kept w wr nb D i t box j) (hnb : w.heap.size < nb) (hj : j < t.f4.length) (h1 : Below wr.heap.size wr w1) (hm : Made w1 w2 b D' t.f4[j])
    (hic : D' b = some ic) (hd : ∀ y, D y ≠ none → D' y = none) (hlt : ∀ y, D' y ≠ none → nb < y) (hdom : Dom w3 (appended (uni D D') nb b i ic)) (ho : Only (uni D D') w2 w3) :
    Kept w w3 nb (appended (uni D D') nb b i ic) { i with kids := i.kids ++ [b] } t box (j + 1) := by
  have hbn : b ≠ nb := by have := hlt b (by rw [hic]; simp); omega
  obtain ⟨g1, g2⟩ := grow (n := nb) (c := b) h.node hic hd hlt
  have hlen : ∀ y, uni D D' y ≠ none → nb ≤ y := by
    intro y hy
    cases hD : D y with
    | some q => exact h.fresh y (by rw [hD]; simp)
    | none =>
      rw [uni_right hD] at hy
      exact Nat.le_of_lt (hlt y hy)
  have hB2 : Below w.heap.size w w2 := by
    have a1 : Below w.heap.size w w1 := below_step h.below h1
    exact below_step a1 hm.below
  have hB3 : Below w.heap.size w2 w3 := ho.below hB2.size (fun k hk => by
    cases hc : uni D D' k with
    | none => rfl
    | some q => have := hlen k (by rw [hc]; simp); omega)
  have hwr : w.heap.size < wr.heap.size := (Array.getElem?_eq_some_iff.1 h.box).1
  refine ⟨hdom, ?_, h.root, ⟨h.mt.ty, h.mt.atom, h.mt.data, h.mt.attrs⟩, ?_, ?_, ?_, ?_, hB2.trans hB3⟩
  · unfold appended
    rw [put_other _ _ (Ne.symm hbn), put_same]
  · show (i.kids ++ [b]).length = j + 1
    rw [List.length_append, List.length_singleton, h.len]
  · intro k k1 k2
    by_cases hk : k < i.kids.length
    · have e : (i.kids ++ [b])[k]'(by simpa using k1) = i.kids[k] := List.getElem_append_left hk
      show IsT _ ((i.kids ++ [b])[k]'(by simpa using k1)) _
      rw [e]
      exact (h.kids k hk k2).mono g1
    · have hkj : k = j := by
        have : k < (i.kids ++ [b]).length := k1
        rw [List.length_append, List.length_singleton, h.len] at this
        have := h.len
        omega
      subst hkj
      have e : (i.kids ++ [b])[k]'(by simpa using k1) = b := by
        rw [List.getElem_append_right (by omega)]
        simp [h.len]
      show IsT _ ((i.kids ++ [b])[k]'(by simpa using k1)) _
      rw [e]
      exact hm.tree.mono g2
  · intro y hy
    by_cases hyb : y = b
    · subst hyb
      exact Nat.le_of_lt (hlt y (by rw [hic]; simp))
    · by_cases hyn : y = nb
      · omega
      · unfold appended at hy
        rw [put_other _ _ hyb, put_other _ _ hyn] at hy
        exact hlen y hy
  · have e1 : w1.heap[w.heap.size]? = some box := (h1.block _ hwr).trans h.box
    have e2 : w2.heap[w.heap.size]? = some box := (hm.below.block _ (Nat.lt_of_lt_of_le hwr h1.size)).trans e1
    have l2 : w.heap.size < w2.heap.size := (Array.getElem?_eq_some_iff.1 e2).1
    refine (ho.block _ l2 ?_).trans e2
    cases hc : uni D D' w.heap.size with
    | none => rfl
    | some q => have := hlen w.heap.size (by rw [hc]; simp); omega

/-- Behind the last child. -/
theorem Kept.done {w wr : World} {nb : Nat} {D : Tab} {i : Info} {t : T} {box : Obj} (h : Kept w wr nb D i t box t.f4.length) (hnb : w.heap.size < nb) (hf : ¬ flat t) : Made w wr nb D t := by
  have hk : kidsT t = t.f4 := if_neg hf
  refine ⟨h.dom, IsT.mk nb t i h.node h.mt (by rw [hk]; exact h.len) ?_, fun i' hi' => ?_, fun x hx => Nat.le_trans (Nat.le_of_lt hnb) (h.fresh x hx), h.below⟩
  · intro k k1 k2
    have k3 : k < t.f4.length := by rw [hk] at k2; exact k2
    have e : (kidsT t)[k] = t.f4[k] := by simp only [hk]
    rw [e]
    exact (h.kids k k1 k3).mono (above_sub nb D)
  · rw [h.node] at hi'
    obtain rfl := Option.some.inj hi'
    exact h.root
end Go.Proofs.Ytibfoaahdbdogaa.Dom
