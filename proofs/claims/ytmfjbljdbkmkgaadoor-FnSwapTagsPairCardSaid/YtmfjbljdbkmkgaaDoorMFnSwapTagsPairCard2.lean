/- A part of the proof of FnSwapTagsPairCard: Dom, DomX, EDomx0, EDomx2, EDomx4, DomT, MadeS, MadeK, MadeX, NodeX, RTree, PathX, AllX, SibX, NbrX, NextP, AtX, NodupT, PtrEq, FindX, NamedX, SwapX, Surg, SurgX, ToldX, Mapa, SurgI, Sur2, Repl, Steps, WrapX, UnwX, NameX, DomTot, NormT, AllN, SibN, Guard, Chg, Tell, RedP, one behind the other. -/
import Derived.Test.YtmfjbljdbkmkgaaDoorMFnSwapTagsPairCard1
import Derived.Test.YtmfjbljdbkmkgaaDoorProg
import Derived.Below
import Derived.Deep.Draws
import Derived.Deep.AppendLies
import Derived.Maps.AppendAt
import Derived.OwnWalk
import Derived.Laws.BytesArg
import Derived.Laws.MakeOwn
import Derived.Laws.OwnMore
import Derived.Deep.OwnRows
import Derived.Tactics
import Derived.Lib.ConvBytes
import Derived.Laws.Slices
import Derived.WalkKit
import Derived.KernelRfl
import Derived.RowKit3
import Derived.Deep.LoopGhost
import Derived.Deep.QuietTactic
import Derived.BigQuiet
import Derived.WideLaws
import Derived.Deep.DeepCutAuto
import Derived.Deep.CutBlock
import Derived.Deep.RegionHeld3
import Derived.Laws.Rows
import Derived.Lib.AppendStr
import Derived.ArgAppend
import Derived.Laws.IdiomCopy
import Derived.OrdersHeld
import Derived.Laws.BitsLemmas
import Derived.RowKit
import Derived.Deep.DeepAppendWide
import Derived.Deep.RegionWith
import Derived.Deep.RegionLaw
import Derived.BigRegion
import Derived.StillTailTactics
import Derived.Deep.DeepMust
import Derived.Laws.EntriesVeiled
import Derived.LaidEqlPtr
import Derived.Test.YtmfjbljdbkmkgaaDoorShelf
import Derived.RegionTactic
import Derived.Tactics2
import Derived.Defers
import Derived.Recover
import Derived.Laws.Pointers
/- A page's nodes as a table: parents, children, and what each node's block in memory holds; what the three changes of a tree make of it. Plain facts on tables, and on memory that holds one. -/
namespace Go.Proofs.YtmfjbljdbkmkgaaDoor.Dom
open Go.RowKit Go.Proofs.YtmfjbljdbkmkgaaDoorW.PrintWords Go.Proofs.YtmfjbljdbkmkgaaDoorW.PrintLast Go.Proofs.YtmfjbljdbkmkgaaDoorW.PrintMore
set_option linter.unusedVariables false
set_option linter.unusedSimpArgs false

/-! ### Neighbours in a list -/
def nextIn : List Nat → Nat → Option Nat
  | [], _ => none
  | x :: l, b => if x = b then l.head? else nextIn l b
def prevIn (l : List Nat) (b : Nat) : Option Nat := nextIn l.reverse b
theorem nextIn_split {l1 l2 : List Nat} {b : Nat} (h : b ∉ l1) : nextIn (l1 ++ b :: l2) b = l2.head? := by
  induction l1 with
  | nil => simp [nextIn]
  | cons x l1 ih =>
    have hx : ¬ x = b := fun e => h (by simp [e])
    simp only [List.cons_append, nextIn, if_neg hx]
    exact ih fun hb => h (List.mem_cons_of_mem _ hb)
theorem prevIn_split {l1 l2 : List Nat} {b : Nat} (h : b ∉ l2) : prevIn (l1 ++ b :: l2) b = l1.getLast? := by
  unfold prevIn
  rw [List.reverse_append, List.reverse_cons, List.append_assoc, List.singleton_append, nextIn_split (by simpa using h), List.head?_reverse]
theorem nodup_split {l1 l2 : List Nat} {b : Nat} (h : (l1 ++ b :: l2).Nodup) : b ∉ l1 ∧ b ∉ l2 ∧ (l1 ++ l2).Nodup := by
  rw [List.nodup_append] at h
  obtain ⟨h1, h2, h3⟩ := h
  rw [List.nodup_cons] at h2
  refine ⟨fun hb => h3 b hb b (by simp) rfl, h2.1, ?_⟩
  rw [List.nodup_append]
  exact ⟨h1, h2.2, fun x hx y hy => h3 x hx y (List.mem_cons_of_mem _ hy)⟩

/-! ### A node's block -/
def ptr : Option Nat → Value
  | none => .pointer none
  | some b => .pointer (some ⟨b, 0, none⟩)
structure Rec where
  parent : Option Nat
  first : Option Nat
  last : Option Nat
  prev : Option Nat
  next : Option Nat
  ty : Int
  atom : Int
  data : ByteArray
  attr : Value
def Rec.cells (r : Rec) : Array Value := #[ptr r.parent, ptr r.first, ptr r.last, ptr r.prev, ptr r.next, .int .u32 r.ty, .int .u32 r.atom, .string r.data, .string ⟨#[]⟩, r.attr]
/-- The block b holds the node r. -/
def Has (w : World) (b : Nat) (r : Rec) : Prop := w.heap[b]? = some (.cells r.cells 67 (0, 0))
section
variable {w w1 : World} {b : Nat} {r : Rec}
theorem Has.lt (h : Has w b r) : b < w.heap.size := (Array.getElem?_eq_some_iff.1 h).1
theorem Has.cell (h : Has w b r) (i : Nat) : w.cell? ⟨b, i, none⟩ = r.cells[i]? := blk_cell h i
theorem Has.frozen (h : Has w b r) (i : Nat) : w.frozen? ⟨b, i, none⟩ = false := blk_frozen h i
theorem Has.cells10 (h : Has w b r) : w.cell? ⟨b, 0, none⟩ = some (ptr r.parent) ∧ w.cell? ⟨b, 1, none⟩ = some (ptr r.first) ∧ w.cell? ⟨b, 2, none⟩ = some (ptr r.last) ∧ w.cell? ⟨b, 3, none⟩ = some (ptr r.prev) ∧ w.cell? ⟨b, 4, none⟩ = some (ptr r.next) ∧
    w.cell? ⟨b, 5, none⟩ = some (.int .u32 r.ty) ∧ w.cell? ⟨b, 6, none⟩ = some (.int .u32 r.atom) ∧ w.cell? ⟨b, 7, none⟩ = some (.string r.data) ∧ w.cell? ⟨b, 8, none⟩ = some (.string ⟨#[]⟩) ∧ w.cell? ⟨b, 9, none⟩ = some r.attr :=
  ⟨h.cell 0, h.cell 1, h.cell 2, h.cell 3, h.cell 4, h.cell 5, h.cell 6, h.cell 7, h.cell 8, h.cell 9⟩
theorem Has.of_heap (h : Has w b r) (he : w1.heap[b]? = w.heap[b]?) : Has w1 b r := he.trans h
theorem Has.far (h : Has w b r) {p : Addr} (hp : b ≠ p.block) (u : Value) : Has (w.setCell p u) b r := h.of_heap (Below.heap_setCell w p u b hp)
theorem Has.put (h : Has w b r) (i : Nat) (u : Value) (r' : Rec) (hr : r'.cells = r.cells.setIfInBounds i u) : Has (w.setCell ⟨b, i, none⟩ u) b r' := by
  unfold Has
  rw [hr]
  exact blk_set h i u
end

/-! ### The table -/
structure Info where
  parent : Option Nat
  kids : List Nat
  ty : Int
  atom : Int
  data : ByteArray
  attrs : List (ByteArray × ByteArray)
/-- An attribute: no namespace, a key, a value. -/
def kA : Kd (ByteArray × ByteArray) := Kd.iso (Kd.pair Kd.string (Kd.pair Kd.string Kd.string)) (fun x => (⟨#[]⟩, x.1, x.2))
/-- The row of attributes. -/
def AttrAt (w : World) (v : Value) (l : List (ByteArray × ByteArray)) : Prop := kA.R 75 w 0 (fun _ => True) v l
theorem AttrAt.below {w w1 : World} {v : Value} {l : List (ByteArray × ByteArray)} (h : AttrAt w v l) (hb : Below w.heap.size w w1) : AttrAt w1 v l := Kd.R_below h hb
theorem AttrAt.set {w : World} {v : Value} {l : List (ByteArray × ByteArray)} (h : AttrAt w v l) {g : Nat} {r : Rec} (hg : Has w g r) (j : Nat) (u : Value) : AttrAt (w.setCell ⟨g, j, none⟩ u) v l :=
  Kd.R_set h hg (fun q hq => by
    have : q = 75 := by simpa [kA, Kd.iso, Kd.pair, Kd.string, Kd.scalar] using hq
    rw [this]
    decide) j u
abbrev Tab := Nat → Option Info
def kidsOf (D : Tab) (p : Nat) : List Nat := match D p with
  | some i => i.kids
  | none => []
/-- The children of a node's parent. -/
def sibs (D : Tab) (i : Info) : List Nat := match i.parent with
  | some p => kidsOf D p
  | none => []
def recOf (D : Tab) (b : Nat) (i : Info) (v : Value) : Rec := ⟨i.parent, i.kids.head?, i.kids.getLast?, prevIn (sibs D i) b, nextIn (sibs D i) b, i.ty, i.atom, i.data, v⟩
structure WF (D : Tab) : Prop where
  up : ∀ {b i p}, D b = some i → i.parent = some p → ∃ ip, D p = some ip ∧ b ∈ ip.kids
  down : ∀ {b i c}, D b = some i → c ∈ i.kids → ∃ ic, D c = some ic ∧ ic.parent = some b
  nodup : ∀ {b i}, D b = some i → i.kids.Nodup
structure Dom (w : World) (D : Tab) : Prop where
  wf : WF D
  has : ∀ {b i}, D b = some i → ∃ v, Has w b (recOf D b i v) ∧ AttrAt w v i.attrs
def put (D : Tab) (b : Nat) (i : Info) : Tab := fun x => if x = b then some i else D x
theorem put_same (D : Tab) (b : Nat) (i : Info) : put D b i b = some i := if_pos rfl
theorem put_other (D : Tab) {b x : Nat} (i : Info) (h : x ≠ b) : put D b i x = D x := if_neg h

theorem kidsOf_some {D : Tab} {p : Nat} {i : Info} (h : D p = some i) : kidsOf D p = i.kids := by unfold kidsOf; rw [h]
/-- A node that is nobody's child has no siblings. -/
theorem sibs_none {D : Tab} {i : Info} (h : i.parent = none) : sibs D i = [] := by unfold sibs; rw [h]
theorem sibs_some {D : Tab} {i : Info} {p : Nat} (h : i.parent = some p) : sibs D i = kidsOf D p := by unfold sibs; rw [h]

theorem kidsOf_put (D : Tab) (b : Nat) (i : Info) (p : Nat) : kidsOf (put D b i) p = if p = b then i.kids else kidsOf D p := by
  unfold kidsOf put
  by_cases h : p = b
  · simp [h]
  · simp [h]
theorem Dom.kid_ne {w : World} {D : Tab} (h : Dom w D) {n c : Nat} {i ic : Info} (hn : D n = some i) (hc : D c = some ic) (hroot : ic.parent = none) : c ∉ i.kids := fun hm => by
  obtain ⟨ic', h1, h2⟩ := h.wf.down hn hm
  rw [hc] at h1
  injection h1 with h1
  subst h1
  rw [hroot] at h2
  cases h2
theorem Dom.kid_parent {w : World} {D : Tab} (h : Dom w D) {n c : Nat} {i ic : Info} (hn : D n = some i) (hc : D c = some ic) (hm : c ∈ i.kids) : ic.parent = some n := by
  obtain ⟨ic', h1, h2⟩ := h.wf.down hn hm
  rw [hc] at h1
  injection h1 with h1
  subst h1
  exact h2
theorem Dom.kid_of {w : World} {D : Tab} (h : Dom w D) {n c : Nat} {i ic : Info} (hn : D n = some i) (hc : D c = some ic) (hp : ic.parent = some n) : c ∈ i.kids := by
  obtain ⟨i', h1, h2⟩ := h.wf.up hc hp
  rw [hn] at h1
  injection h1 with h1
  subst h1
  exact h2

/-! ### AppendChild -/
def appended (D : Tab) (n c : Nat) (i ic : Info) : Tab := put (put D n { i with kids := i.kids ++ [c] }) c { ic with parent := some n }
theorem Dom.append {w w' : World} {D : Tab} (h : Dom w D) {n c : Nat} {i ic : Info} (hn : D n = some i) (hc : D c = some ic) (hne : n ≠ c) (hroot : ic.parent = none) (hself : i.parent ≠ some n)
    (HA : ∀ v l, AttrAt w v l → AttrAt w' v l)
    (HN : ∀ v, Has w n (recOf D n i v) → Has w' n { recOf D n i v with first := (i.kids ++ [c]).head?, last := some c })
    (HC : ∀ v, Has w c (recOf D c ic v) → Has w' c { recOf D c ic v with parent := some n, prev := i.kids.getLast? })
    (HL : ∀ x ix v, i.kids.getLast? = some x → D x = some ix → Has w x (recOf D x ix v) → Has w' x { recOf D x ix v with next := some c })
    (HO : ∀ b, D b ≠ none → b ≠ n → b ≠ c → i.kids.getLast? ≠ some b → w'.heap[b]? = w.heap[b]?) : Dom w' (appended D n c i ic) := by
  have hcn : c ∉ i.kids := h.kid_ne hn hc hroot
  have hDn : appended D n c i ic n = some { i with kids := i.kids ++ [c] } := by unfold appended; rw [put_other _ _ hne, put_same]
  have hDc : appended D n c i ic c = some { ic with parent := some n } := put_same _ _ _
  have hDo : ∀ b, b ≠ n → b ≠ c → appended D n c i ic b = D b := fun b h1 h2 => by unfold appended; rw [put_other _ _ h2, put_other _ _ h1]
  have hk : ∀ p, kidsOf (appended D n c i ic) p = if p = n then i.kids ++ [c] else kidsOf D p := by
    intro p
    unfold appended
    rw [kidsOf_put, kidsOf_put]
    by_cases hp : p = c
    · subst hp
      rw [if_pos rfl, if_neg (fun e => hne e.symm), kidsOf_some hc]
    · rw [if_neg hp]
  refine ⟨⟨?_, ?_, ?_⟩, ?_⟩
  · intro b i' p hb hp
    by_cases hbc : b = c
    · subst hbc
      rw [hDc] at hb
      injection hb with hb
      subst hb
      injection hp with hp
      subst hp
      exact ⟨_, hDn, by simp⟩
    · have key : ∃ i0, D b = some i0 ∧ i0.parent = some p := by
        by_cases hbn : b = n
        · subst hbn
          rw [hDn] at hb
          injection hb with hb
          subst hb
          exact ⟨i, hn, hp⟩
        · rw [hDo b hbn hbc] at hb
          exact ⟨i', hb, hp⟩
      obtain ⟨i0, h0, hp0⟩ := key
      obtain ⟨ip, hip, hm⟩ := h.wf.up h0 hp0
      by_cases hpn : p = n
      · subst hpn
        rw [hn] at hip
        injection hip with hip
        subst hip
        exact ⟨_, hDn, List.mem_append_left _ hm⟩
      · by_cases hpc : p = c
        · subst hpc
          rw [hc] at hip
          injection hip with hip
          subst hip
          exact ⟨_, hDc, hm⟩
        · exact ⟨ip, by rw [hDo p hpn hpc]; exact hip, hm⟩
  · intro b i' x hb hx
    by_cases hbn : b = n
    · subst hbn
      rw [hDn] at hb
      injection hb with hb
      subst hb
      rcases List.mem_append.1 hx with hx | hx
      · obtain ⟨ix, hix, hpx⟩ := h.wf.down hn hx
        have hxc : x ≠ c := fun e => hcn (e ▸ hx)
        have hxn : x ≠ b := fun e => by
          subst e
          rw [hn] at hix
          injection hix with hix
          subst hix
          exact hself hpx
        exact ⟨ix, by rw [hDo x hxn hxc]; exact hix, hpx⟩
      · obtain rfl : x = c := by simpa using hx
        exact ⟨_, hDc, rfl⟩
    · have key : ∃ i0, D b = some i0 ∧ x ∈ i0.kids := by
        by_cases hbc : b = c
        · subst hbc
          rw [hDc] at hb
          injection hb with hb
          subst hb
          exact ⟨ic, hc, hx⟩
        · rw [hDo b hbn hbc] at hb
          exact ⟨i', hb, hx⟩
      obtain ⟨i0, h0, hx0⟩ := key
      obtain ⟨ix, hix, hpx⟩ := h.wf.down h0 hx0
      have hxc : x ≠ c := fun e => by
        subst e
        rw [hc] at hix
        injection hix with hix
        subst hix
        rw [hroot] at hpx
        cases hpx
      by_cases hxn : x = n
      · subst hxn
        rw [hn] at hix
        injection hix with hix
        subst hix
        exact ⟨_, hDn, hpx⟩
      · exact ⟨ix, by rw [hDo x hxn hxc]; exact hix, hpx⟩
  · intro b i' hb
    by_cases hbn : b = n
    · subst hbn
      rw [hDn] at hb
      injection hb with hb
      subst hb
      show (i.kids ++ [c]).Nodup
      rw [List.nodup_append]
      exact ⟨h.wf.nodup hn, by simp, fun x hx y hy e => by
        have hyc : y = c := by simpa using hy
        subst hyc
        subst e
        exact hcn hx⟩
    · by_cases hbc : b = c
      · subst hbc
        rw [hDc] at hb
        injection hb with hb
        subst hb
        show ic.kids.Nodup
        exact h.wf.nodup hc
      · rw [hDo b hbn hbc] at hb
        exact h.wf.nodup hb
  · intro b i' hb
    by_cases hbn : b = n
    · subst hbn
      rw [hDn] at hb
      injection hb with hb
      subst hb
      have hs : sibs (appended D b c i ic) { i with kids := i.kids ++ [c] } = sibs D i := by
        unfold sibs
        cases hp : i.parent with
        | none => rfl
        | some p =>
          simp only [hp]
          rw [hk, if_neg (fun e => hself (by rw [hp, e]))]
      have hl : (i.kids ++ [c]).getLast? = some c := by simp
      obtain ⟨v, hv, ha⟩ := h.has hn
      have HN' := HN v hv
      refine ⟨v, ?_, HA v _ ha⟩
      unfold recOf at HN' ⊢
      rw [hs]
      simp only [hl]
      exact HN'
    · by_cases hbc : b = c
      · subst hbc
        rw [hDc] at hb
        injection hb with hb
        subst hb
        have hs : sibs (appended D n b i ic) { ic with parent := some n } = i.kids ++ b :: [] := by
          unfold sibs
          simp only []
          rw [hk, if_pos rfl]
        obtain ⟨v, hv, ha⟩ := h.has hc
        have HC' := HC v hv
        refine ⟨v, ?_, HA v _ ha⟩
        unfold recOf at HC' ⊢
        rw [hs, prevIn_split (by simp), nextIn_split hcn]
        rw [sibs_none hroot] at HC'
        exact HC'
      · rw [hDo b hbn hbc] at hb
        by_cases hbl : i.kids.getLast? = some b
        · obtain ⟨v, hv, ha⟩ := h.has hb
          have hH := HL b i' v hbl hb hv
          refine ⟨v, ?_, HA v _ ha⟩
          obtain ⟨l1, hl1⟩ : ∃ l1, i.kids = l1 ++ [b] := by
            rw [List.getLast?_eq_some_iff] at hbl
            exact hbl
          have hp : i'.parent = some n := h.kid_parent hn hb (by rw [hl1]; simp)
          have hnd := nodup_split (l1 := l1) (l2 := []) (b := b) (by rw [← hl1]; exact h.wf.nodup hn)
          unfold recOf at hH ⊢
          rw [sibs_some hp, kidsOf_some hn, hl1, prevIn_split (l2 := []) (by simp)] at hH
          rw [sibs_some hp, hk, if_pos rfl, hl1, List.append_assoc, List.singleton_append, prevIn_split (by simpa using hbc), nextIn_split hnd.1]
          exact hH
        · have hsame := HO b (by rw [hb]; simp) hbn hbc hbl
          have hrec : ∀ v, recOf (appended D n c i ic) b i' v = recOf D b i' v := by
            intro v
            unfold recOf
            cases hp : i'.parent with
            | none => rw [sibs_none hp, sibs_none hp]
            | some p =>
              rw [sibs_some hp, sibs_some hp, hk]
              by_cases hpn : p = n
              · subst hpn
                have hm : b ∈ i.kids := h.kid_of hn hb hp
                obtain ⟨l1, l2, hl⟩ := List.append_of_mem hm
                have hnd := nodup_split (l1 := l1) (l2 := l2) (b := b) (by rw [← hl]; exact h.wf.nodup hn)
                have hl2 : l2 ≠ [] := fun e => hbl (by rw [hl, e]; simp)
                rw [if_pos rfl, kidsOf_some hn, hl, List.append_assoc, List.cons_append, prevIn_split hnd.2.1, nextIn_split hnd.1, prevIn_split (by simp [hnd.2.1, hbc]), nextIn_split hnd.1]
                cases l2 with
                | nil => exact absurd rfl hl2
                | cons y l2 => rfl
              · rw [if_neg hpn]
          obtain ⟨v, hv, ha⟩ := h.has hb
          exact ⟨v, by rw [hrec]; exact hv.of_heap hsame, HA v _ ha⟩

end Go.Proofs.YtmfjbljdbkmkgaaDoor.Dom

/- The walks of the changes of a tree: AppendChild. -/
namespace Go.Proofs.YtmfjbljdbkmkgaaDoor.Dom
open Go.RowKit Go.Proofs.YtmfjbljdbkmkgaaDoorW.PrintWords Go.Proofs.YtmfjbljdbkmkgaaDoorW.PrintLast Go.Proofs.YtmfjbljdbkmkgaaDoorW.PrintMore
set_option linter.unusedVariables false
set_option linter.unusedSimpArgs false

/-- What is where it was, but for a table's blocks. -/
structure Only (D : Tab) (w w' : World) : Prop where
  os : w'.os = w.os
  tape : w'.tape = w.tape
  output : w'.output = w.output
  size : w.heap.size ≤ w'.heap.size
  block : ∀ k, k < w.heap.size → D k = none → w'.heap[k]? = w.heap[k]?
theorem Only.below {D : Tab} {w w' : World} (h : Only D w w') {B : Nat} (hB : B ≤ w.heap.size) (hD : ∀ k, k < B → D k = none) : Below B w w' :=
  ⟨h.os, h.tape, h.output, h.size, fun k hk => h.block k (by omega) (hD k hk)⟩
theorem Only.refl (D : Tab) (w : World) : Only D w w := ⟨rfl, rfl, rfl, Nat.le_refl _, fun _ _ _ => rfl⟩
theorem Only.trans {D D' : Tab} {w w' w'' : World} (h : Only D w w') (h' : Only D' w' w'') (hD : ∀ k, D k = none → k < w.heap.size → D' k = none) : Only D w w'' :=
  ⟨h'.os.trans h.os, h'.tape.trans h.tape, h'.output.trans h.output, Nat.le_trans h.size h'.size, fun k hk hn => (h'.block k (Nat.lt_of_lt_of_le hk h.size) (hD k hn hk)).trans (h.block k hk hn)⟩

theorem Only.set {D : Tab} {w w1 : World} (h : Only D w w1) {p : Addr} (hp : D p.block ≠ none) (u : Value) : Only D w (w1.setCell p u) := by
  have b := (Below.refl p.block w1).setCell (p := p) (Nat.le_refl _) u
  exact ⟨b.os.trans h.os, b.tape.trans h.tape, b.output.trans h.output, Nat.le_trans h.size b.size, fun k hk hn => (Below.heap_setCell w1 p u k (fun e => hp (by rw [← e]; exact hn))).trans (h.block k hk hn)⟩

theorem Has.put0 {w : World} {b : Nat} {r : Rec} (h : Has w b r) (p : Option Nat) : Has (w.setCell ⟨b, 0, none⟩ (ptr p)) b { r with parent := p } := h.put 0 (ptr p) { r with parent := p } rfl
theorem Has.put1 {w : World} {b : Nat} {r : Rec} (h : Has w b r) (p : Option Nat) : Has (w.setCell ⟨b, 1, none⟩ (ptr p)) b { r with first := p } := h.put 1 (ptr p) { r with first := p } rfl
theorem Has.put2 {w : World} {b : Nat} {r : Rec} (h : Has w b r) (p : Option Nat) : Has (w.setCell ⟨b, 2, none⟩ (ptr p)) b { r with last := p } := h.put 2 (ptr p) { r with last := p } rfl
theorem Has.put3 {w : World} {b : Nat} {r : Rec} (h : Has w b r) (p : Option Nat) : Has (w.setCell ⟨b, 3, none⟩ (ptr p)) b { r with prev := p } := h.put 3 (ptr p) { r with prev := p } rfl
theorem Has.put4 {w : World} {b : Nat} {r : Rec} (h : Has w b r) (p : Option Nat) : Has (w.setCell ⟨b, 4, none⟩ (ptr p)) b { r with next := p } := h.put 4 (ptr p) { r with next := p } rfl
/-- A store into a node's block. -/
def st (w : World) (b k : Nat) (p : Option Nat) : World := w.setCell ⟨b, k, none⟩ (ptr p)
theorem st_heap (w : World) (b k : Nat) (p : Option Nat) {x : Nat} (h : x ≠ b) : (st w b k p).heap[x]? = w.heap[x]? := Below.heap_setCell w ⟨b, k, none⟩ (ptr p) x h
theorem Has.st {w : World} {b : Nat} {r : Rec} (h : Has w b r) {x : Nat} (hx : b ≠ x) (k : Nat) (p : Option Nat) : Has (st w x k p) b r := h.of_heap (st_heap w x k p hx)
theorem AttrAt.st {w : World} {v : Value} {l : List (ByteArray × ByteArray)} (h : AttrAt w v l) {g : Nat} {r : Rec} (hg : Has w g r) (j : Nat) (p : Option Nat) : AttrAt (Dom.st w g j p) v l := h.set hg j (ptr p)
theorem Only.st {D : Tab} {w w1 : World} (h : Only D w w1) {b : Nat} (hb : D b ≠ none) (k : Nat) (p : Option Nat) : Only D w (Dom.st w1 b k p) := h.set (p := ⟨b, k, none⟩) hb (ptr p)

theorem append_none (w : World) (D : Tab) (n c : Nat) (i ic : Info) (h : Dom w D) (hn : D n = some i) (hc : D c = some ic) (hne : n ≠ c) (hroot : ic.parent = none) (hself : i.parent ≠ some n) (hl : i.kids.getLast? = none) :
    Dom (st (st (st (st w n 1 (some c)) n 2 (some c)) c 0 (some n)) c 3 none) (appended D n c i ic) ∧ Only D w (st (st (st (st w n 1 (some c)) n 2 (some c)) c 0 (some n)) c 3 none) := by
  have hnc : c ≠ n := fun e => hne e.symm
  have en : D n ≠ none := by rw [hn]; simp
  have ec : D c ≠ none := by rw [hc]; simp
  refine ⟨?_, ((((Only.refl D w).st en 1 _).st en 2 _).st ec 0 _).st ec 3 _⟩
  have hk : i.kids = [] := List.getLast?_eq_none_iff.1 hl
  obtain ⟨vn, hHn, _⟩ := h.has hn
  obtain ⟨vc, hHc, _⟩ := h.has hc
  have A1 : ∀ v, Has w n (recOf D n i v) → Has (st w n 1 (some c)) n { recOf D n i v with first := some c } := fun v hv => hv.put1 (some c)
  have A2 : ∀ v, Has w n (recOf D n i v) → Has (st (st w n 1 (some c)) n 2 (some c)) n { recOf D n i v with first := some c, last := some c } := fun v hv => (A1 v hv).put2 (some c)
  have C2 : ∀ v, Has w c (recOf D c ic v) → Has (st (st w n 1 (some c)) n 2 (some c)) c (recOf D c ic v) := fun v hv => (hv.st hnc 1 _).st hnc 2 _
  have C3 : ∀ v, Has w c (recOf D c ic v) → Has (st (st (st w n 1 (some c)) n 2 (some c)) c 0 (some n)) c { recOf D c ic v with parent := some n } := fun v hv => (C2 v hv).put0 (some n)
  refine h.append hn hc hne hroot hself ?_ ?_ ?_ ?_ ?_
  · exact fun v l hA => (((hA.st hHn 1 _).st (A1 vn hHn) 2 _).st (C2 vc hHc) 0 _).st (C3 vc hHc) 3 _
  · intro v hv
    have := ((A2 v hv).st hne 0 (some n)).st hne 3 none
    rw [hk]
    exact this
  · intro v hv
    have := (C3 v hv).put3 none
    rw [hl]
    exact this
  · intro x ix v hx
    rw [hl] at hx
    cases hx
  · intro b _ hbn hbc _
    rw [st_heap _ _ _ _ hbc, st_heap _ _ _ _ hbc, st_heap _ _ _ _ hbn, st_heap _ _ _ _ hbn]

theorem append_some (w : World) (D : Tab) (n c x : Nat) (i ic ix : Info) (h : Dom w D) (hn : D n = some i) (hc : D c = some ic) (hix : D x = some ix) (hne : n ≠ c) (hroot : ic.parent = none) (hself : i.parent ≠ some n) (hl : i.kids.getLast? = some x) (hxn : x ≠ n) (hxc : x ≠ c) :
    Dom (st (st (st (st w x 4 (some c)) n 2 (some c)) c 0 (some n)) c 3 (some x)) (appended D n c i ic) ∧ Only D w (st (st (st (st w x 4 (some c)) n 2 (some c)) c 0 (some n)) c 3 (some x)) := by
  have hnc : c ≠ n := fun e => hne e.symm
  have hnx : n ≠ x := fun e => hxn e.symm
  have hcx : c ≠ x := fun e => hxc e.symm
  have en : D n ≠ none := by rw [hn]; simp
  have ec : D c ≠ none := by rw [hc]; simp
  have ex : D x ≠ none := by rw [hix]; simp
  refine ⟨?_, ((((Only.refl D w).st ex 4 _).st en 2 _).st ec 0 _).st ec 3 _⟩
  obtain ⟨vn, hHn, _⟩ := h.has hn
  obtain ⟨vc, hHc, _⟩ := h.has hc
  obtain ⟨vx, hHx, _⟩ := h.has hix
  have A1 : ∀ v, Has w n (recOf D n i v) → Has (st w x 4 (some c)) n (recOf D n i v) := fun v hv => hv.st hnx 4 _
  have A2 : ∀ v, Has w n (recOf D n i v) → Has (st (st w x 4 (some c)) n 2 (some c)) n { recOf D n i v with last := some c } := fun v hv => (A1 v hv).put2 (some c)
  have C2 : ∀ v, Has w c (recOf D c ic v) → Has (st (st w x 4 (some c)) n 2 (some c)) c (recOf D c ic v) := fun v hv => (hv.st hcx 4 _).st hnc 2 _
  have C3 : ∀ v, Has w c (recOf D c ic v) → Has (st (st (st w x 4 (some c)) n 2 (some c)) c 0 (some n)) c { recOf D c ic v with parent := some n } := fun v hv => (C2 v hv).put0 (some n)
  refine h.append hn hc hne hroot hself ?_ ?_ ?_ ?_ ?_
  · exact fun v l hA => (((hA.st hHx 4 _).st (A1 vn hHn) 2 _).st (C2 vc hHc) 0 _).st (C3 vc hHc) 3 _
  · intro v hv
    have := ((A2 v hv).st hne 0 (some n)).st hne 3 (some x)
    have hh : (i.kids ++ [c]).head? = i.kids.head? := by
      cases hk : i.kids with
      | nil => rw [hk] at hl; cases hl
      | cons y l => rfl
    rw [hh]
    exact this
  · intro v hv
    have := (C3 v hv).put3 (some x)
    rw [hl]
    exact this
  · intro x' ix' v hx hD hv
    have e : x = x' := Option.some.inj (hl.symm.trans hx)
    clear hx
    subst e
    exact (((hv.put4 (some c)).st hxn 2 (some c)).st hxc 0 (some n)).st hxc 3 (some x)
  · intro b _ hbn hbc hbl
    have hbx : b ≠ x := fun e => hbl (by rw [hl, e])
    rw [st_heap _ _ _ _ hbc, st_heap _ _ _ _ hbc, st_heap _ _ _ _ hbn, st_heap _ _ _ _ hbx]

set_option maxHeartbeats 4000000 in
set_option maxRecDepth 100000 in
theorem append_calls (w : World) (D : Tab) (n c : Nat) (i ic : Info) (h : Dom w D) (hn : D n = some i) (hc : D c = some ic) (hne : n ≠ c) (hroot : ic.parent = none) (hself : i.parent ≠ some n) :
    Calls Tryd.prog 45 #[ptr (some n), ptr (some c)] w fun e w' => e = .returned (.tuple #[]) ∧ Dom w' (appended D n c i ic) ∧ Only D w w' := by
  obtain ⟨vn, hHn, _⟩ := h.has hn
  obtain ⟨vc, hHc, _⟩ := h.has hc
  have hpc : (recOf D c ic vc).parent = none := hroot
  have hprev : (recOf D c ic vc).prev = none := by show prevIn (sibs D ic) c = none; rw [sibs_none hroot]; rfl
  have hnext : (recOf D c ic vc).next = none := by show nextIn (sibs D ic) c = none; rw [sibs_none hroot]; rfl
  have c0 : w.cell? ⟨c, 0, none⟩ = some (.pointer none) := by rw [hHc.cells10.1, hpc]; rfl
  have c3 : w.cell? ⟨c, 3, none⟩ = some (.pointer none) := by rw [hHc.cells10.2.2.2.1, hprev]; rfl
  have c4 : w.cell? ⟨c, 4, none⟩ = some (.pointer none) := by rw [hHc.cells10.2.2.2.2.1, hnext]; rfl
  have hfc := hHc.frozen 0
  have hfc3 := hHc.frozen 3
  have hfn1 := hHn.frozen 1
  have hfn2 := hHn.frozen 2
  have hnc : ¬ c = n := fun e => hne e.symm
  have HN := Aside0.mk hHn
  cases hl : i.kids.getLast? with
  | none =>
    have R := Aside0.mk (append_none w D n c i ic h hn hc hne hroot hself hl)
    have n2 : w.cell? ⟨n, 2, none⟩ = some (.pointer none) := by rw [HN.out.cells10.2.2.1]; show some (ptr i.kids.getLast?) = _; rw [hl]; rfl
    have n1 : w.cell? ⟨n, 1, none⟩ = some (ptr i.kids.head?) := HN.out.cells10.2.1
    clear hHn hHc h hpc hprev hnext hn hc hroot hself hl
    unfold ptr
    go_enter Tryd.func45, Tryd.ntmps45
    go_wp2
    go_end0
    exact ⟨rfl, R.out⟩
  | some x =>
    have n2 : w.cell? ⟨n, 2, none⟩ = some (.pointer (some ⟨x, 0, none⟩)) := by rw [HN.out.cells10.2.2.1]; show some (ptr i.kids.getLast?) = _; rw [hl]; rfl
    have hxm : x ∈ i.kids := List.mem_of_getLast? hl
    obtain ⟨ix, hix, hpx⟩ := h.wf.down hn hxm
    have hxn : ¬ x = n := fun e => by
      subst e
      rw [hn] at hix
      injection hix with hix
      subst hix
      exact hself hpx
    have hxc : ¬ x = c := fun e => h.kid_ne hn hc hroot (e ▸ hxm)
    have R := Aside0.mk (append_some w D n c x i ic ix h hn hc hix hne hroot hself hl hxn hxc)
    obtain ⟨vx, hHx, _⟩ := h.has hix
    have x4 : w.cell? ⟨x, 4, none⟩ = some (ptr (nextIn (sibs D ix) x)) := hHx.cells10.2.2.2.2.1
    have hfx := hHx.frozen 4
    have hnx : ¬ n = x := fun e => hxn e.symm
    have hcx : ¬ c = x := fun e => hxc e.symm
    clear hHx hHn hHc h hpc hprev hnext hn hc hroot hself hl hix hpx hxm
    unfold ptr
    go_enter Tryd.func45, Tryd.ntmps45
    go_wp2
    go_end0
    exact ⟨rfl, R.out⟩
end Go.Proofs.YtmfjbljdbkmkgaaDoor.Dom

/- Printed by the program extprint.py of this session, out of the kit's print and contracts of this session's own; Lean checks it. -/
namespace Go.Proofs.YtmfjbljdbkmkgaaDoor.PDom
open Go.RowKit Go.Proofs.YtmfjbljdbkmkgaaDoorW.PrintWords Go.Proofs.YtmfjbljdbkmkgaaDoorW.PrintLast Go.Proofs.YtmfjbljdbkmkgaaDoorW.PrintMore
attribute [local go_sem] max2_int min2_int max_two min_two max_three min_three max_four min_four   -- for this text's walks alone
set_option linter.unusedVariables false
set_option linter.unusedSimpArgs false



def errW : Option Int → Value
  | none => .nilIface
  | some c => .iface 0 (.int .i64 c)
theorem errW_none : errW none = .nilIface := rfl
theorem errW_some (c : Int) : errW (some c) = .iface 0 (.int .i64 c) := rfl

theorem info5 : (Tryd.prog.info? 5).map (fun i => (i.zero, i.size, i.bytes)) = some (some (.int .u8 0), 1, 1) := by kernel_rfl
-- the values' own types
/-! #### struct type 38 -/
structure S38 where
  f0 : ByteArray
  f1 : ByteArray
def z38 : S38 := ⟨(⟨#[]⟩ : ByteArray), (⟨#[]⟩ : ByteArray)⟩
def k38 : Kd S38 := Kd.iso (Kd.pair Kd.string Kd.string) (fun x : S38 => (x.f0, x.f1))
theorem k38_open {w : World} {x : S38} {cs : List Value} (h : k38.K w x cs) : cs = [.string x.f0, .string x.f1] := by
  obtain ⟨_, _, rfl, rfl, rfl⟩ := h
  exact rfl
theorem k38_mk (w : World) (x : S38)  : k38.K w x [.string x.f0, .string x.f1] := ⟨[.string x.f0], [.string x.f1], rfl, rfl, rfl⟩
theorem k38_mkF (W : World) (ok : Nat → Prop) (x : S38) : Kd.FK k38 W ok x [.string x.f0, .string x.f1] := fun W2 _ => k38_mk W2 x
def rd_T38 (xs : List S38) (i : Int) : S38 := xs.getD i.toNat z38
theorem at_T38 {w : World} {A : Option Addr} {n : Nat} {xs : List S38} (h : Kd.C k38 w A n xs) (i : Int) (h0 : 0 ≤ i) (h1 : i < n) : ∃ ad , A = some ad ∧ w.cell? (ad.add (i.toNat * 2)) = some (.string (rd_T38 xs i).f0) ∧ w.cell? ⟨(ad.add (i.toNat * 2)).block, (ad.add (i.toNat * 2)).off + 1, none⟩ = some (.string (rd_T38 xs i).f1) := by
  obtain ⟨ad, c, e, _, hK, hc0⟩ := Kd.C_get h z38 i h0 h1
  have hc : ∀ j u, c[j]? = some u → w.cell? (ad.add (i.toNat * 2 + j)) = some u := hc0
  obtain rfl := k38_open hK
  exact ⟨ad, e, hc 0 _ rfl, by rw [← add_field _ _ 1 (by omega)]; exact hc 1 _ rfl⟩

/-! #### struct type 28, nested in itself -/
structure S28 where
  f0 : Int
  f1 : ByteArray
  f2 : ByteArray
  f3 : (List S38)
  f4 : (List S28)
def z28 : S28 := ⟨(0 : Int), (⟨#[]⟩ : ByteArray), (⟨#[]⟩ : ByteArray), ([] : List S38), ([] : List S28)⟩
def F28 (d : Kd S28) : Kd S28 := Kd.iso (Kd.pair (Kd.int .i64) (Kd.pair Kd.string (Kd.pair Kd.string (Kd.pair (Kd.slice 38 k38) (Kd.slice 28 d))))) (fun x : S28 => (x.f0, x.f1, x.f2, x.f3, x.f4))
theorem mono28 : Kd.Mono F28 := Kd.mono_iso _ (Kd.mono_pair (Kd.mono_const _) (Kd.mono_pair (Kd.mono_const _) (Kd.mono_pair (Kd.mono_const _) (Kd.mono_pair (Kd.mono_const _) (Kd.mono_slice 28 Kd.mono_id)))))
theorem sub28 : Kd.Sub F28 [28, 38] := Kd.sub_iso _ (Kd.sub_pair (Kd.sub_const _ (by decide)) (Kd.sub_pair (Kd.sub_const _ (by decide)) (Kd.sub_pair (Kd.sub_const _ (by decide)) (Kd.sub_pair (Kd.sub_const _ (by decide)) (Kd.sub_slice 28 (by decide) Kd.sub_id)))))
theorem sz28 : ∀ n, (Kd.upto F28 5 [28, 38] n).sz = 5 := Kd.upto_sz (fun _ => rfl)
def k28 : Kd S28 := Kd.fix F28 5 [28, 38] sz28 (Kd.upto_E sub28)
theorem k28_open {w : World} {x : S28} {cs : List Value} (h : k28.K w x cs) : ∃ A3 c3 A4 c4, cs = [.int .i64 x.f0, .string x.f1, .string x.f2, .slice A3 x.f3.length c3, .slice A4 x.f4.length c4] ∧ x.f3.length ≤ c3 ∧ k38.C w A3 x.f3.length x.f3 ∧ x.f4.length ≤ c4 ∧ k28.C w A4 x.f4.length x.f4 := by
  obtain ⟨n, h⟩ := h
  cases n with
  | zero => exact h.elim
  | succ n =>
    obtain ⟨_, _, rfl, rfl, ⟨_, _, rfl, rfl, ⟨_, _, rfl, rfl, ⟨_, _, rfl, ⟨A3, c3, rfl, l3, g3⟩, ⟨A4, c4, rfl, l4, g4⟩⟩⟩⟩⟩ := h
    exact ⟨A3, c3, A4, c4, rfl, l3, g3, l4, Kd.fix_C g4⟩
theorem k28_mk (w : World) (x : S28) {A3 : Option Addr} {c3 : Nat} (l3 : x.f3.length ≤ c3) (g3 : k38.C w A3 x.f3.length x.f3) {A4 : Option Addr} {c4 : Nat} (l4 : x.f4.length ≤ c4) (g4 : k28.C w A4 x.f4.length x.f4) : k28.K w x [.int .i64 x.f0, .string x.f1, .string x.f2, .slice A3 x.f3.length c3, .slice A4 x.f4.length c4] := by
  obtain ⟨n4, q4⟩ := Kd.fix_C_back mono28 g4
  have r4 := Kd.upto_C_le mono28 sz28 (show n4 ≤ n4 by omega) q4
  exact ⟨n4 + 1, ⟨[.int .i64 x.f0], [.string x.f1, .string x.f2, .slice A3 x.f3.length c3, .slice A4 x.f4.length c4], rfl, rfl, ⟨[.string x.f1], [.string x.f2, .slice A3 x.f3.length c3, .slice A4 x.f4.length c4], rfl, rfl, ⟨[.string x.f2], [.slice A3 x.f3.length c3, .slice A4 x.f4.length c4], rfl, rfl, ⟨[.slice A3 x.f3.length c3], [.slice A4 x.f4.length c4], rfl, ⟨A3, c3, rfl, l3, g3⟩, ⟨A4, c4, rfl, l4, r4⟩⟩⟩⟩⟩⟩
theorem k28_mkF (W : World) (ok : Nat → Prop) (x : S28) {A3 : Option Addr} {c3 : Nat} (l3 : x.f3.length ≤ c3) (g3 : Kd.F k38 W ok A3 x.f3.length x.f3) {A4 : Option Addr} {c4 : Nat} (l4 : x.f4.length ≤ c4) (g4 : Kd.F k28 W ok A4 x.f4.length x.f4) : Kd.FK k28 W ok x [.int .i64 x.f0, .string x.f1, .string x.f2, .slice A3 x.f3.length c3, .slice A4 x.f4.length c4] := fun W2 hW => k28_mk W2 x l3 (g3 W2 hW) l4 (g4 W2 hW)
def rd_T28 (xs : List S28) (i : Int) : S28 := xs.getD i.toNat z28
theorem at_T28 {w : World} {A : Option Addr} {n : Nat} {xs : List S28} (h : Kd.C k28 w A n xs) (i : Int) (h0 : 0 ≤ i) (h1 : i < n) : ∃ ad A3 c3 A4 c4, A = some ad ∧ w.cell? (ad.add (i.toNat * 5)) = some (.int .i64 (rd_T28 xs i).f0) ∧ w.cell? ⟨(ad.add (i.toNat * 5)).block, (ad.add (i.toNat * 5)).off + 1, none⟩ = some (.string (rd_T28 xs i).f1) ∧ w.cell? ⟨(ad.add (i.toNat * 5)).block, (ad.add (i.toNat * 5)).off + 2, none⟩ = some (.string (rd_T28 xs i).f2) ∧ w.cell? ⟨(ad.add (i.toNat * 5)).block, (ad.add (i.toNat * 5)).off + 3, none⟩ = some (.slice A3 (rd_T28 xs i).f3.length c3) ∧ w.cell? ⟨(ad.add (i.toNat * 5)).block, (ad.add (i.toNat * 5)).off + 4, none⟩ = some (.slice A4 (rd_T28 xs i).f4.length c4) ∧ (rd_T28 xs i).f3.length ≤ c3 ∧ k38.C w A3 (rd_T28 xs i).f3.length (rd_T28 xs i).f3 ∧ (rd_T28 xs i).f4.length ≤ c4 ∧ k28.C w A4 (rd_T28 xs i).f4.length (rd_T28 xs i).f4 := by
  obtain ⟨ad, c, e, _, hK, hc0⟩ := Kd.C_get h z28 i h0 h1
  have hc : ∀ j u, c[j]? = some u → w.cell? (ad.add (i.toNat * 5 + j)) = some u := hc0
  obtain ⟨A3, c3, A4, c4, rfl, l3, g3, l4, g4⟩ := k28_open hK
  exact ⟨ad, A3, c3, A4, c4, e, hc 0 _ rfl, by rw [← add_field _ _ 1 (by omega)]; exact hc 1 _ rfl, by rw [← add_field _ _ 2 (by omega)]; exact hc 2 _ rfl, by rw [← add_field _ _ 3 (by omega)]; exact hc 3 _ rfl, by rw [← add_field _ _ 4 (by omega)]; exact hc 4 _ rfl, l3, g3, l4, g4⟩

end Go.Proofs.YtmfjbljdbkmkgaaDoor.PDom

/- Printed by the program extprint.py of this session, out of the kit's print and contracts of this session's own; Lean checks it. -/
namespace Go.Proofs.YtmfjbljdbkmkgaaDoor.PDom
open Go.RowKit Go.Proofs.YtmfjbljdbkmkgaaDoorW.PrintWords Go.Proofs.YtmfjbljdbkmkgaaDoorW.PrintLast Go.Proofs.YtmfjbljdbkmkgaaDoorW.PrintMore
attribute [local go_sem] max2_int min2_int max_two min_two max_three min_three max_four min_four   -- for this text's walks alone
set_option linter.unusedVariables false
set_option linter.unusedSimpArgs false


/-! ### atom_ZzAtom: function 48 -/
def atom_ZzAtom.f (a0 : ByteArray) : Option (Int) := if a0.toList = ([99, 97, 112, 116, 105, 111, 110] : List UInt8) then (some 140295) else (if a0.toList = ([108, 105] : List UInt8) then (some 45570) else (some 0))
set_option maxHeartbeats 8000000 in
set_option maxRecDepth 100000 in
theorem atom_ZzAtom.calls (a0 : ByteArray) (r : Int) (w : World) (h : atom_ZzAtom.f a0 = some r) :
    Calls Tryd.prog 48 #[.string a0] w fun e w' => e = .returned (.int .u32 r) ∧ Drawn0 w w' := by
  have H : (if a0.toList = ([99, 97, 112, 116, 105, 111, 110] : List UInt8) then (some 140295) else (if a0.toList = ([108, 105] : List UInt8) then (some 45570) else (some 0))) = some r := h
  clear h
  by_cases c2 : a0.toList = ([99, 97, 112, 116, 105, 111, 110] : List UInt8)
  · rw [if_pos c2] at H
    have c2b0 : (a0.toList == ([99, 97, 112, 116, 105, 111, 110] : List UInt8)) = true := beq_iff_eq.mpr c2
    have c2b1 : (a0.toList != ([99, 97, 112, 116, 105, 111, 110] : List UInt8)) = false := bne_eq_false_iff_eq.mpr c2
    clear c2
    obtain rfl := Option.some.inj H
    go_enter Tryd.func48, Tryd.ntmps48
    go_wp2
    go_ret
    exact ⟨by first | rfl | (simp; done) | (simp [*]; done), by repeat (first | exact Drawn0.refl _ | apply Drawn0.step)⟩
  · rw [if_neg c2] at H
    have c2b0 : (a0.toList == ([99, 97, 112, 116, 105, 111, 110] : List UInt8)) = false := beq_eq_false_iff_ne.mpr c2
    have c2b1 : (a0.toList != ([99, 97, 112, 116, 105, 111, 110] : List UInt8)) = true := bne_iff_ne.mpr c2
    by_cases c3 : a0.toList = ([108, 105] : List UInt8)
    · rw [if_pos c3] at H
      have c3b0 : (a0.toList == ([108, 105] : List UInt8)) = true := beq_iff_eq.mpr c3
      have c3b1 : (a0.toList != ([108, 105] : List UInt8)) = false := bne_eq_false_iff_eq.mpr c3
      clear c3
      obtain rfl := Option.some.inj H
      go_enter Tryd.func48, Tryd.ntmps48
      go_wp2
      go_ret
      exact ⟨by first | rfl | (simp; done) | (simp [*]; done), by repeat (first | exact Drawn0.refl _ | apply Drawn0.step)⟩
    · rw [if_neg c3] at H
      have c3b0 : (a0.toList == ([108, 105] : List UInt8)) = false := beq_eq_false_iff_ne.mpr c3
      have c3b1 : (a0.toList != ([108, 105] : List UInt8)) = true := bne_iff_ne.mpr c3
      obtain rfl := Option.some.inj H
      go_enter Tryd.func48, Tryd.ntmps48
      go_wp2
      go_ret
      exact ⟨by first | rfl | (simp; done) | (simp [*]; done), by repeat (first | exact Drawn0.refl _ | apply Drawn0.step)⟩
/-! ### laws_inlineLetters: function 15 -/
def laws_inlineLetters.l0 : Nat → ByteArray → List Int → Int → Int → Option (ByteArray)
  | 0, _, _, _, _ => none
  | k + 1, x0, x3, x9, x10 => if x10 < x9 then (if 0 ≤ x10 then (if x10 < (x0.size : Int) then (if (bt x0 x10) ≥ 97 then (if (bt x0 x10) ≤ 122 then (if x3.length < 140737488355328 then (laws_inlineLetters.l0 k x0 (x3 ++ [bt x0 x10]) x9 (wrap64 (x10 + 1))) else (none)) else (if (bt x0 x10) ≥ 65 then (if (bt x0 x10) ≤ 90 then (if x3.length < 140737488355328 then (laws_inlineLetters.l0 k x0 (x3 ++ [bt x0 x10]) x9 (wrap64 (x10 + 1))) else (none)) else (if (bt x0 x10) ≥ 48 then (if (bt x0 x10) ≤ 57 then (if x3.length < 140737488355328 then (laws_inlineLetters.l0 k x0 (x3 ++ [bt x0 x10]) x9 (wrap64 (x10 + 1))) else (none)) else (laws_inlineLetters.l0 k x0 x3 x9 (wrap64 (x10 + 1)))) else (laws_inlineLetters.l0 k x0 x3 x9 (wrap64 (x10 + 1))))) else (if (bt x0 x10) ≥ 48 then (if (bt x0 x10) ≤ 57 then (if x3.length < 140737488355328 then (laws_inlineLetters.l0 k x0 (x3 ++ [bt x0 x10]) x9 (wrap64 (x10 + 1))) else (none)) else (laws_inlineLetters.l0 k x0 x3 x9 (wrap64 (x10 + 1)))) else (laws_inlineLetters.l0 k x0 x3 x9 (wrap64 (x10 + 1)))))) else (if (bt x0 x10) ≥ 65 then (if (bt x0 x10) ≤ 90 then (if x3.length < 140737488355328 then (laws_inlineLetters.l0 k x0 (x3 ++ [bt x0 x10]) x9 (wrap64 (x10 + 1))) else (none)) else (if (bt x0 x10) ≥ 48 then (if (bt x0 x10) ≤ 57 then (if x3.length < 140737488355328 then (laws_inlineLetters.l0 k x0 (x3 ++ [bt x0 x10]) x9 (wrap64 (x10 + 1))) else (none)) else (laws_inlineLetters.l0 k x0 x3 x9 (wrap64 (x10 + 1)))) else (laws_inlineLetters.l0 k x0 x3 x9 (wrap64 (x10 + 1))))) else (if (bt x0 x10) ≥ 48 then (if (bt x0 x10) ≤ 57 then (if x3.length < 140737488355328 then (laws_inlineLetters.l0 k x0 (x3 ++ [bt x0 x10]) x9 (wrap64 (x10 + 1))) else (none)) else (laws_inlineLetters.l0 k x0 x3 x9 (wrap64 (x10 + 1)))) else (laws_inlineLetters.l0 k x0 x3 x9 (wrap64 (x10 + 1)))))) else (none)) else (none)) else (some (strOfNums x3))
def laws_inlineLetters.f (k : Nat) (a0 : ByteArray) : Option (ByteArray) := laws_inlineLetters.l0 k a0 (([] : List Int)) (mn (a0.size : Int) 40) 0
theorem laws_inlineLetters.mono_l : ∀ k, (∀ y0 y1 y2 y3, LeO (laws_inlineLetters.l0 k y0 y1 y2 y3) (laws_inlineLetters.l0 (k + 1) y0 y1 y2 y3))
  | 0 => fun _ _ _ _ r h => by simp [laws_inlineLetters.l0] at h
  | k + 1 => by
    have ih0 := laws_inlineLetters.mono_l k
    · intro y0 y1 y2 y3
      unfold laws_inlineLetters.l0
      repeat' first
      | (with_reducible exact ih0 _ _ _ _)
      | (with_reducible exact LeO.refl _)
      | (with_reducible exact LeO.none _)
      | (with_reducible refine LeO.ite ?_ ?_)
      | (with_reducible refine LeO.bind ?_ (fun _ => ?_))
      | exact ih0 _ _ _ _
      | exact LeO.none _
      | refine LeO.ite ?_ ?_
      | refine LeO.bind ?_ (fun _ => ?_)
theorem laws_inlineLetters.mono : ∀ a0 k, LeO (laws_inlineLetters.f k a0) (laws_inlineLetters.f (k + 1) a0) := by
  intro a0 k
  have ih0 := laws_inlineLetters.mono_l k
  unfold laws_inlineLetters.f
  repeat' first
      | (with_reducible exact ih0 _ _ _ _)
      | (with_reducible exact LeO.refl _)
      | (with_reducible exact LeO.none _)
      | (with_reducible refine LeO.ite ?_ ?_)
      | (with_reducible refine LeO.bind ?_ (fun _ => ?_))
      | exact ih0 _ _ _ _
      | exact LeO.none _
      | refine LeO.ite ?_ ?_
      | refine LeO.bind ?_ (fun _ => ?_)
set_option maxHeartbeats 8000000 in
set_option maxRecDepth 100000 in
theorem laws_inlineLetters.calls (k : Nat) (a0 : ByteArray) (r : ByteArray) (w : World) (h : laws_inlineLetters.f k a0 = some r) :
    Calls Tryd.prog 15 #[.string a0] w fun e w' => e = .returned (.string r) ∧ Below w.heap.size w w' := by
  have HB := Aside0.mk (Below.refl w.heap.size w)
  have H : (laws_inlineLetters.l0 k a0 (([] : List Int)) (mn (a0.size : Int) 40) 0) = some r := h
  clear h
  obtain ⟨y101, hy101⟩ : ∃ y_ : List Int, y_ = (([] : List Int)) := ⟨_, rfl⟩
  replace H : (laws_inlineLetters.l0 k a0 y101 (mn (a0.size : Int) 40) 0) = some r := by first | (rw [hy101]; with_reducible exact H) | (have H2_ := (Option.bind_some _ _).symm.trans H; rw [hy101]; with_reducible exact H2_) | (have H2_ := (Option.bind_some _ _).symm.trans H; with_reducible exact H2_) | with_reducible exact H | (rw [hy101]; exact H) | exact H
  have Ny101 := Aside0.mk hy101
  clear hy101
  obtain ⟨ji2, hji2⟩ : ∃ j_ : Int, (mn (a0.size : Int) 40) = j_ := ⟨_, rfl⟩
  replace H : (laws_inlineLetters.l0 k a0 y101 ji2 0) = some r := by first | (rw [hji2] at H; exact H) | (simp only [hji2] at H ⊢; exact H)
  (try (have hji2h : ji2 ≤ 40 := by (rw [← hji2]; unfold mn; (repeat' split) <;> omega)))
  (try (have hji2g : ji2 ≤ 64 := by omega))
  (try (have hji2l : 0 ≤ ji2 := by (rw [← hji2]; unfold mn; (repeat' split) <;> omega)))
  (try (have hji2m : 0 ≤ ji2 := by omega))
  have hji2_ : (if 40 < (a0.size : Int) then 40 else (a0.size : Int)) = ji2 := hji2
  have H' := Aside0.mk H
  clear H
  go_enter Tryd.func15, Tryd.ntmps15
  go_wp2_with (first | ((with_reducible refine gate_dst (N := 6) rfl ?_); refine Kd.R_lit (Kd.int .u8) _ 5 ?hg (N := 6) ?hd (xs := ([] : List Int)) (inner := []) (ok := fun _ => True) (okp := fun _ => True) ?hr ?hp (fun _ hk => hk) trivial (Below.refl _ _) (Nat.le_refl _) (by simp) ?_; (case hd => rfl); (case hg => rfl); (case hr => first | (go_simp; done) | (go_simp; rfl)); (case hp => exact (Reps.none _ _)); intro v102 w3 ho4 hb hg_ hnew_; clear hg_ hnew_; (first | rw [← Ny101.out] at ho4 | (simp only [Int.reduceToNat] at ho4; rw [← Ny101.out] at ho4)); have n0_ := Aside0.mk (Kd.R_lower ho4 (below_size (by repeat (first | (with_reducible first | exact HB.out | apply below_alloc | apply pw_below_drewN | apply below_drew1) | exact HB.out)))); have n1_ := Aside0.mk (below_step (by repeat (first | (with_reducible first | exact HB.out | apply below_alloc | apply pw_below_drewN | apply below_drew1) | exact HB.out)) hb); clear HB; have HO103 := n0_; have HB := n1_; clear n0_ n1_; clear hb ho4))
  go_loopg [3, 10] k (fun kq v3 v10 w' => ∃ (x3_1 : List Int) (x10_1 : Int), v10 = .int .i64 x10_1 ∧ Aside0 (laws_inlineLetters.l0 kq a0 x3_1 ji2 x10_1 = some r) ∧ Aside0 (kq ≤ k) ∧ Aside0 (Kd.R (Kd.int .u8) 5 w' w.heap.size (fun _ => True) v3 x3_1) ∧ Aside0 (Below w.heap.size w w'))
  case atStart => exact ⟨(y101), (0), (by first | rfl | (simp; done) | (simp [*]; done)), H', ⟨Nat.le_refl _⟩, ⟨by (with_reducible repeat (first | apply Kd.R_alloc | apply Kd.R_drewN | apply Kd.R_drew)); exact HO103.out⟩, ⟨by repeat (first | (with_reducible first | exact HB.out | apply below_alloc | apply pw_below_drewN | apply below_drew1) | exact HB.out)⟩⟩
  case round =>
    clear H'
    try clear c1
    try clear p2
    obtain ⟨x3_1, x10_1, rfl, HA, HK1, HO_3, HB⟩ := hrel
    cases gk with
    | zero => exact absurd HA.out (by simp [laws_inlineLetters.l0])
    | succ k1 =>
      have H := HA.out
      clear HA
      simp only [laws_inlineLetters.l0] at H
      by_cases c5 : x10_1 < ji2
      · rw [if_pos c5] at H
        have c5b0 : decide (x10_1 < ji2) = true := decide_eq_true c5
        clear c5
        by_cases c6 : 0 ≤ x10_1
        · rw [if_pos c6] at H
          have c6b0 : decide (0 ≤ x10_1) = true := decide_eq_true c6
          clear c6
          by_cases c7 : x10_1 < (a0.size : Int)
          · rw [if_pos c7] at H
            have c7b0 : decide (x10_1 < (a0.size : Int)) = true := decide_eq_true c7
            clear c7
            by_cases c9 : (bt a0 x10_1) ≥ 97
            · rw [if_pos c9] at H
              have c9b0 : decide (97 ≤ (bt a0 x10_1)) = true := decide_eq_true c9
              clear c9
              by_cases c10 : (bt a0 x10_1) ≤ 122
              · rw [if_pos c10] at H
                have c10b0 : decide ((bt a0 x10_1) ≤ 122) = true := decide_eq_true c10
                clear c10
                by_cases c11 : x3_1.length < 140737488355328
                · rw [if_pos c11] at H
                  have LMc11 := Aside0.mk c11
                  clear c11
                  obtain ⟨y104, hy104⟩ : ∃ y_ : List Int, y_ = (x3_1 ++ [bt a0 x10_1]) := ⟨_, rfl⟩
                  replace H : (laws_inlineLetters.l0 k1 a0 y104 ji2 (wrap64 (x10_1 + 1))) = some r := by first | (rw [hy104]; with_reducible exact H) | (have H2_ := (Option.bind_some _ _).symm.trans H; rw [hy104]; with_reducible exact H2_) | (have H2_ := (Option.bind_some _ _).symm.trans H; with_reducible exact H2_) | with_reducible exact H | (rw [hy104]; exact H) | exact H
                  have Ny104 := Aside0.mk hy104
                  clear hy104
                  have H' := Aside0.mk H
                  clear H
                  have p8 : 0 ≤ (x10_1 : Int) := of_decide_eq_true (by first | (with_reducible assumption) | assumption)
                  have q8 : x10_1 < (a0.size : Int) := of_decide_eq_true (by first | (with_reducible assumption) | assumption)
                  have hx8 := bt_at a0 x10_1
                  replace p8 := eq_true p8
                  replace q8 := eq_true q8
                  go_wp2_with (first | ((with_reducible refine gate_builtin (b := .append) (xs := #[.tmp 38, .tmp 40]) rfl ?_); at_builtin; refine Kd.R_append (Kd.int .u8) (w0 := w) w.heap.size rfl (.tmp 38) (.tmp 40) 54 5 (.int .u8 0) 1 rfl Tryd.underlying54 info5 rfl (by decide) (by omega) u3 x3_1 (bt a0 x10_1) [.int .u8 (bt a0 x10_1)] (fun _ => True) (fun _ => False) rfl rfl ?aP (fun _ hk => hk.elim) ?aF ?aO ?aB ?aS ?aL ?_; (case aP => exact rfl); (case aB => exact (by repeat (first | (with_reducible first | exact HB.out | apply below_alloc | apply pw_below_drewN | apply below_drew1) | exact HB.out))); (case aF => exact (fun _ _ => trivial)); (case aO => exact (by (with_reducible repeat (first | apply Kd.R_alloc | apply Kd.R_drewN | apply Kd.R_drew)); exact HO_3.out)); (case aS => exact (below_size (by repeat (first | (with_reducible first | exact HB.out | apply below_alloc | apply pw_below_drewN | apply below_drew1) | exact HB.out)))); (case aL => have := LMc11.out; omega); intro v105 w12 ho hb hg hat; rw [← Ny104.out] at ho; have n0_ := Aside0.mk (hb); have n1_ := Aside0.mk (ho); clear HB; clear HO_3; have HB := n0_; have HO106 := n1_; clear n0_ n1_; clear ho hb hg hat))
                  go_roundg k1
                  case measure => have := HK1.out; omega
                  case rel => exact ⟨(y104), (wrap64 (x10_1 + 1)), (by first | rfl | (simp; done) | (simp [*]; done)), H', ⟨by have := HK1.out; omega⟩, ⟨by (with_reducible repeat (first | apply Kd.R_alloc | apply Kd.R_drewN | apply Kd.R_drew)); exact HO106.out⟩, ⟨by repeat (first | (with_reducible first | exact HB.out | apply below_alloc | apply pw_below_drewN | apply below_drew1) | exact HB.out)⟩⟩
                · rw [if_neg c11] at H
                  exact absurd H (by simp)
              · rw [if_neg c10] at H
                have c10b0 : decide ((bt a0 x10_1) ≤ 122) = false := decide_eq_false c10
                clear c10
                by_cases c13 : (bt a0 x10_1) ≥ 65
                · rw [if_pos c13] at H
                  have c13b0 : decide (65 ≤ (bt a0 x10_1)) = true := decide_eq_true c13
                  clear c13
                  by_cases c14 : (bt a0 x10_1) ≤ 90
                  · rw [if_pos c14] at H
                    have c14b0 : decide ((bt a0 x10_1) ≤ 90) = true := decide_eq_true c14
                    clear c14
                    by_cases c15 : x3_1.length < 140737488355328
                    · rw [if_pos c15] at H
                      have LMc15 := Aside0.mk c15
                      clear c15
                      obtain ⟨y107, hy107⟩ : ∃ y_ : List Int, y_ = (x3_1 ++ [bt a0 x10_1]) := ⟨_, rfl⟩
                      replace H : (laws_inlineLetters.l0 k1 a0 y107 ji2 (wrap64 (x10_1 + 1))) = some r := by first | (rw [hy107]; with_reducible exact H) | (have H2_ := (Option.bind_some _ _).symm.trans H; rw [hy107]; with_reducible exact H2_) | (have H2_ := (Option.bind_some _ _).symm.trans H; with_reducible exact H2_) | with_reducible exact H | (rw [hy107]; exact H) | exact H
                      have Ny107 := Aside0.mk hy107
                      clear hy107
                      have H' := Aside0.mk H
                      clear H
                      have p8 : 0 ≤ (x10_1 : Int) := of_decide_eq_true (by first | (with_reducible assumption) | assumption)
                      have q8 : x10_1 < (a0.size : Int) := of_decide_eq_true (by first | (with_reducible assumption) | assumption)
                      have hx8 := bt_at a0 x10_1
                      replace p8 := eq_true p8
                      replace q8 := eq_true q8
                      go_wp2_with (first | ((with_reducible refine gate_builtin (b := .append) (xs := #[.tmp 38, .tmp 40]) rfl ?_); at_builtin; refine Kd.R_append (Kd.int .u8) (w0 := w) w.heap.size rfl (.tmp 38) (.tmp 40) 54 5 (.int .u8 0) 1 rfl Tryd.underlying54 info5 rfl (by decide) (by omega) u3 x3_1 (bt a0 x10_1) [.int .u8 (bt a0 x10_1)] (fun _ => True) (fun _ => False) rfl rfl ?aP (fun _ hk => hk.elim) ?aF ?aO ?aB ?aS ?aL ?_; (case aP => exact rfl); (case aB => exact (by repeat (first | (with_reducible first | exact HB.out | apply below_alloc | apply pw_below_drewN | apply below_drew1) | exact HB.out))); (case aF => exact (fun _ _ => trivial)); (case aO => exact (by (with_reducible repeat (first | apply Kd.R_alloc | apply Kd.R_drewN | apply Kd.R_drew)); exact HO_3.out)); (case aS => exact (below_size (by repeat (first | (with_reducible first | exact HB.out | apply below_alloc | apply pw_below_drewN | apply below_drew1) | exact HB.out)))); (case aL => have := LMc15.out; omega); intro v108 w16 ho hb hg hat; rw [← Ny107.out] at ho; have n0_ := Aside0.mk (hb); have n1_ := Aside0.mk (ho); clear HB; clear HO_3; have HB := n0_; have HO109 := n1_; clear n0_ n1_; clear ho hb hg hat))
                      go_roundg k1
                      case measure => have := HK1.out; omega
                      case rel => exact ⟨(y107), (wrap64 (x10_1 + 1)), (by first | rfl | (simp; done) | (simp [*]; done)), H', ⟨by have := HK1.out; omega⟩, ⟨by (with_reducible repeat (first | apply Kd.R_alloc | apply Kd.R_drewN | apply Kd.R_drew)); exact HO109.out⟩, ⟨by repeat (first | (with_reducible first | exact HB.out | apply below_alloc | apply pw_below_drewN | apply below_drew1) | exact HB.out)⟩⟩
                    · rw [if_neg c15] at H
                      exact absurd H (by simp)
                  · rw [if_neg c14] at H
                    have c14b0 : decide ((bt a0 x10_1) ≤ 90) = false := decide_eq_false c14
                    clear c14
                    by_cases c17 : (bt a0 x10_1) ≥ 48
                    · rw [if_pos c17] at H
                      have c17b0 : decide (48 ≤ (bt a0 x10_1)) = true := decide_eq_true c17
                      clear c17
                      by_cases c18 : (bt a0 x10_1) ≤ 57
                      · rw [if_pos c18] at H
                        have c18b0 : decide ((bt a0 x10_1) ≤ 57) = true := decide_eq_true c18
                        clear c18
                        by_cases c19 : x3_1.length < 140737488355328
                        · rw [if_pos c19] at H
                          have LMc19 := Aside0.mk c19
                          clear c19
                          obtain ⟨y110, hy110⟩ : ∃ y_ : List Int, y_ = (x3_1 ++ [bt a0 x10_1]) := ⟨_, rfl⟩
                          replace H : (laws_inlineLetters.l0 k1 a0 y110 ji2 (wrap64 (x10_1 + 1))) = some r := by first | (rw [hy110]; with_reducible exact H) | (have H2_ := (Option.bind_some _ _).symm.trans H; rw [hy110]; with_reducible exact H2_) | (have H2_ := (Option.bind_some _ _).symm.trans H; with_reducible exact H2_) | with_reducible exact H | (rw [hy110]; exact H) | exact H
                          have Ny110 := Aside0.mk hy110
                          clear hy110
                          have H' := Aside0.mk H
                          clear H
                          have p8 : 0 ≤ (x10_1 : Int) := of_decide_eq_true (by first | (with_reducible assumption) | assumption)
                          have q8 : x10_1 < (a0.size : Int) := of_decide_eq_true (by first | (with_reducible assumption) | assumption)
                          have hx8 := bt_at a0 x10_1
                          replace p8 := eq_true p8
                          replace q8 := eq_true q8
                          go_wp2_with (first | ((with_reducible refine gate_builtin (b := .append) (xs := #[.tmp 38, .tmp 40]) rfl ?_); at_builtin; refine Kd.R_append (Kd.int .u8) (w0 := w) w.heap.size rfl (.tmp 38) (.tmp 40) 54 5 (.int .u8 0) 1 rfl Tryd.underlying54 info5 rfl (by decide) (by omega) u3 x3_1 (bt a0 x10_1) [.int .u8 (bt a0 x10_1)] (fun _ => True) (fun _ => False) rfl rfl ?aP (fun _ hk => hk.elim) ?aF ?aO ?aB ?aS ?aL ?_; (case aP => exact rfl); (case aB => exact (by repeat (first | (with_reducible first | exact HB.out | apply below_alloc | apply pw_below_drewN | apply below_drew1) | exact HB.out))); (case aF => exact (fun _ _ => trivial)); (case aO => exact (by (with_reducible repeat (first | apply Kd.R_alloc | apply Kd.R_drewN | apply Kd.R_drew)); exact HO_3.out)); (case aS => exact (below_size (by repeat (first | (with_reducible first | exact HB.out | apply below_alloc | apply pw_below_drewN | apply below_drew1) | exact HB.out)))); (case aL => have := LMc19.out; omega); intro v111 w20 ho hb hg hat; rw [← Ny110.out] at ho; have n0_ := Aside0.mk (hb); have n1_ := Aside0.mk (ho); clear HB; clear HO_3; have HB := n0_; have HO112 := n1_; clear n0_ n1_; clear ho hb hg hat))
                          go_roundg k1
                          case measure => have := HK1.out; omega
                          case rel => exact ⟨(y110), (wrap64 (x10_1 + 1)), (by first | rfl | (simp; done) | (simp [*]; done)), H', ⟨by have := HK1.out; omega⟩, ⟨by (with_reducible repeat (first | apply Kd.R_alloc | apply Kd.R_drewN | apply Kd.R_drew)); exact HO112.out⟩, ⟨by repeat (first | (with_reducible first | exact HB.out | apply below_alloc | apply pw_below_drewN | apply below_drew1) | exact HB.out)⟩⟩
                        · rw [if_neg c19] at H
                          exact absurd H (by simp)
                      · rw [if_neg c18] at H
                        have c18b0 : decide ((bt a0 x10_1) ≤ 57) = false := decide_eq_false c18
                        clear c18
                        have H' := Aside0.mk H
                        clear H
                        have p8 : 0 ≤ (x10_1 : Int) := of_decide_eq_true (by first | (with_reducible assumption) | assumption)
                        have q8 : x10_1 < (a0.size : Int) := of_decide_eq_true (by first | (with_reducible assumption) | assumption)
                        have hx8 := bt_at a0 x10_1
                        replace p8 := eq_true p8
                        replace q8 := eq_true q8
                        go_wp2
                        go_roundg k1
                        case measure => have := HK1.out; omega
                        case rel => exact ⟨(x3_1), (wrap64 (x10_1 + 1)), (by first | rfl | (simp; done) | (simp [*]; done)), H', ⟨by have := HK1.out; omega⟩, ⟨by (with_reducible repeat (first | apply Kd.R_alloc | apply Kd.R_drewN | apply Kd.R_drew)); exact HO_3.out⟩, ⟨by repeat (first | (with_reducible first | exact HB.out | apply below_alloc | apply pw_below_drewN | apply below_drew1) | exact HB.out)⟩⟩
                    · rw [if_neg c17] at H
                      have c17b0 : decide (48 ≤ (bt a0 x10_1)) = false := decide_eq_false c17
                      clear c17
                      have H' := Aside0.mk H
                      clear H
                      have p8 : 0 ≤ (x10_1 : Int) := of_decide_eq_true (by first | (with_reducible assumption) | assumption)
                      have q8 : x10_1 < (a0.size : Int) := of_decide_eq_true (by first | (with_reducible assumption) | assumption)
                      have hx8 := bt_at a0 x10_1
                      replace p8 := eq_true p8
                      replace q8 := eq_true q8
                      go_wp2
                      go_roundg k1
                      case measure => have := HK1.out; omega
                      case rel => exact ⟨(x3_1), (wrap64 (x10_1 + 1)), (by first | rfl | (simp; done) | (simp [*]; done)), H', ⟨by have := HK1.out; omega⟩, ⟨by (with_reducible repeat (first | apply Kd.R_alloc | apply Kd.R_drewN | apply Kd.R_drew)); exact HO_3.out⟩, ⟨by repeat (first | (with_reducible first | exact HB.out | apply below_alloc | apply pw_below_drewN | apply below_drew1) | exact HB.out)⟩⟩
                · rw [if_neg c13] at H
                  have c13b0 : decide (65 ≤ (bt a0 x10_1)) = false := decide_eq_false c13
                  clear c13
                  by_cases c21 : (bt a0 x10_1) ≥ 48
                  · rw [if_pos c21] at H
                    have c21b0 : decide (48 ≤ (bt a0 x10_1)) = true := decide_eq_true c21
                    clear c21
                    by_cases c22 : (bt a0 x10_1) ≤ 57
                    · rw [if_pos c22] at H
                      have c22b0 : decide ((bt a0 x10_1) ≤ 57) = true := decide_eq_true c22
                      clear c22
                      by_cases c23 : x3_1.length < 140737488355328
                      · rw [if_pos c23] at H
                        have LMc23 := Aside0.mk c23
                        clear c23
                        obtain ⟨y113, hy113⟩ : ∃ y_ : List Int, y_ = (x3_1 ++ [bt a0 x10_1]) := ⟨_, rfl⟩
                        replace H : (laws_inlineLetters.l0 k1 a0 y113 ji2 (wrap64 (x10_1 + 1))) = some r := by first | (rw [hy113]; with_reducible exact H) | (have H2_ := (Option.bind_some _ _).symm.trans H; rw [hy113]; with_reducible exact H2_) | (have H2_ := (Option.bind_some _ _).symm.trans H; with_reducible exact H2_) | with_reducible exact H | (rw [hy113]; exact H) | exact H
                        have Ny113 := Aside0.mk hy113
                        clear hy113
                        have H' := Aside0.mk H
                        clear H
                        have p8 : 0 ≤ (x10_1 : Int) := of_decide_eq_true (by first | (with_reducible assumption) | assumption)
                        have q8 : x10_1 < (a0.size : Int) := of_decide_eq_true (by first | (with_reducible assumption) | assumption)
                        have hx8 := bt_at a0 x10_1
                        replace p8 := eq_true p8
                        replace q8 := eq_true q8
                        go_wp2_with (first | ((with_reducible refine gate_builtin (b := .append) (xs := #[.tmp 38, .tmp 40]) rfl ?_); at_builtin; refine Kd.R_append (Kd.int .u8) (w0 := w) w.heap.size rfl (.tmp 38) (.tmp 40) 54 5 (.int .u8 0) 1 rfl Tryd.underlying54 info5 rfl (by decide) (by omega) u3 x3_1 (bt a0 x10_1) [.int .u8 (bt a0 x10_1)] (fun _ => True) (fun _ => False) rfl rfl ?aP (fun _ hk => hk.elim) ?aF ?aO ?aB ?aS ?aL ?_; (case aP => exact rfl); (case aB => exact (by repeat (first | (with_reducible first | exact HB.out | apply below_alloc | apply pw_below_drewN | apply below_drew1) | exact HB.out))); (case aF => exact (fun _ _ => trivial)); (case aO => exact (by (with_reducible repeat (first | apply Kd.R_alloc | apply Kd.R_drewN | apply Kd.R_drew)); exact HO_3.out)); (case aS => exact (below_size (by repeat (first | (with_reducible first | exact HB.out | apply below_alloc | apply pw_below_drewN | apply below_drew1) | exact HB.out)))); (case aL => have := LMc23.out; omega); intro v114 w24 ho hb hg hat; rw [← Ny113.out] at ho; have n0_ := Aside0.mk (hb); have n1_ := Aside0.mk (ho); clear HB; clear HO_3; have HB := n0_; have HO115 := n1_; clear n0_ n1_; clear ho hb hg hat))
                        go_roundg k1
                        case measure => have := HK1.out; omega
                        case rel => exact ⟨(y113), (wrap64 (x10_1 + 1)), (by first | rfl | (simp; done) | (simp [*]; done)), H', ⟨by have := HK1.out; omega⟩, ⟨by (with_reducible repeat (first | apply Kd.R_alloc | apply Kd.R_drewN | apply Kd.R_drew)); exact HO115.out⟩, ⟨by repeat (first | (with_reducible first | exact HB.out | apply below_alloc | apply pw_below_drewN | apply below_drew1) | exact HB.out)⟩⟩
                      · rw [if_neg c23] at H
                        exact absurd H (by simp)
                    · rw [if_neg c22] at H
                      have c22b0 : decide ((bt a0 x10_1) ≤ 57) = false := decide_eq_false c22
                      clear c22
                      have H' := Aside0.mk H
                      clear H
                      have p8 : 0 ≤ (x10_1 : Int) := of_decide_eq_true (by first | (with_reducible assumption) | assumption)
                      have q8 : x10_1 < (a0.size : Int) := of_decide_eq_true (by first | (with_reducible assumption) | assumption)
                      have hx8 := bt_at a0 x10_1
                      replace p8 := eq_true p8
                      replace q8 := eq_true q8
                      go_wp2
                      go_roundg k1
                      case measure => have := HK1.out; omega
                      case rel => exact ⟨(x3_1), (wrap64 (x10_1 + 1)), (by first | rfl | (simp; done) | (simp [*]; done)), H', ⟨by have := HK1.out; omega⟩, ⟨by (with_reducible repeat (first | apply Kd.R_alloc | apply Kd.R_drewN | apply Kd.R_drew)); exact HO_3.out⟩, ⟨by repeat (first | (with_reducible first | exact HB.out | apply below_alloc | apply pw_below_drewN | apply below_drew1) | exact HB.out)⟩⟩
                  · rw [if_neg c21] at H
                    have c21b0 : decide (48 ≤ (bt a0 x10_1)) = false := decide_eq_false c21
                    clear c21
                    have H' := Aside0.mk H
                    clear H
                    have p8 : 0 ≤ (x10_1 : Int) := of_decide_eq_true (by first | (with_reducible assumption) | assumption)
                    have q8 : x10_1 < (a0.size : Int) := of_decide_eq_true (by first | (with_reducible assumption) | assumption)
                    have hx8 := bt_at a0 x10_1
                    replace p8 := eq_true p8
                    replace q8 := eq_true q8
                    go_wp2
                    go_roundg k1
                    case measure => have := HK1.out; omega
                    case rel => exact ⟨(x3_1), (wrap64 (x10_1 + 1)), (by first | rfl | (simp; done) | (simp [*]; done)), H', ⟨by have := HK1.out; omega⟩, ⟨by (with_reducible repeat (first | apply Kd.R_alloc | apply Kd.R_drewN | apply Kd.R_drew)); exact HO_3.out⟩, ⟨by repeat (first | (with_reducible first | exact HB.out | apply below_alloc | apply pw_below_drewN | apply below_drew1) | exact HB.out)⟩⟩
            · rw [if_neg c9] at H
              have c9b0 : decide (97 ≤ (bt a0 x10_1)) = false := decide_eq_false c9
              clear c9
              by_cases c25 : (bt a0 x10_1) ≥ 65
              · rw [if_pos c25] at H
                have c25b0 : decide (65 ≤ (bt a0 x10_1)) = true := decide_eq_true c25
                clear c25
                by_cases c26 : (bt a0 x10_1) ≤ 90
                · rw [if_pos c26] at H
                  have c26b0 : decide ((bt a0 x10_1) ≤ 90) = true := decide_eq_true c26
                  clear c26
                  by_cases c27 : x3_1.length < 140737488355328
                  · rw [if_pos c27] at H
                    have LMc27 := Aside0.mk c27
                    clear c27
                    obtain ⟨y116, hy116⟩ : ∃ y_ : List Int, y_ = (x3_1 ++ [bt a0 x10_1]) := ⟨_, rfl⟩
                    replace H : (laws_inlineLetters.l0 k1 a0 y116 ji2 (wrap64 (x10_1 + 1))) = some r := by first | (rw [hy116]; with_reducible exact H) | (have H2_ := (Option.bind_some _ _).symm.trans H; rw [hy116]; with_reducible exact H2_) | (have H2_ := (Option.bind_some _ _).symm.trans H; with_reducible exact H2_) | with_reducible exact H | (rw [hy116]; exact H) | exact H
                    have Ny116 := Aside0.mk hy116
                    clear hy116
                    have H' := Aside0.mk H
                    clear H
                    have p8 : 0 ≤ (x10_1 : Int) := of_decide_eq_true (by first | (with_reducible assumption) | assumption)
                    have q8 : x10_1 < (a0.size : Int) := of_decide_eq_true (by first | (with_reducible assumption) | assumption)
                    have hx8 := bt_at a0 x10_1
                    replace p8 := eq_true p8
                    replace q8 := eq_true q8
                    go_wp2_with (first | ((with_reducible refine gate_builtin (b := .append) (xs := #[.tmp 38, .tmp 40]) rfl ?_); at_builtin; refine Kd.R_append (Kd.int .u8) (w0 := w) w.heap.size rfl (.tmp 38) (.tmp 40) 54 5 (.int .u8 0) 1 rfl Tryd.underlying54 info5 rfl (by decide) (by omega) u3 x3_1 (bt a0 x10_1) [.int .u8 (bt a0 x10_1)] (fun _ => True) (fun _ => False) rfl rfl ?aP (fun _ hk => hk.elim) ?aF ?aO ?aB ?aS ?aL ?_; (case aP => exact rfl); (case aB => exact (by repeat (first | (with_reducible first | exact HB.out | apply below_alloc | apply pw_below_drewN | apply below_drew1) | exact HB.out))); (case aF => exact (fun _ _ => trivial)); (case aO => exact (by (with_reducible repeat (first | apply Kd.R_alloc | apply Kd.R_drewN | apply Kd.R_drew)); exact HO_3.out)); (case aS => exact (below_size (by repeat (first | (with_reducible first | exact HB.out | apply below_alloc | apply pw_below_drewN | apply below_drew1) | exact HB.out)))); (case aL => have := LMc27.out; omega); intro v117 w28 ho hb hg hat; rw [← Ny116.out] at ho; have n0_ := Aside0.mk (hb); have n1_ := Aside0.mk (ho); clear HB; clear HO_3; have HB := n0_; have HO118 := n1_; clear n0_ n1_; clear ho hb hg hat))
                    go_roundg k1
                    case measure => have := HK1.out; omega
                    case rel => exact ⟨(y116), (wrap64 (x10_1 + 1)), (by first | rfl | (simp; done) | (simp [*]; done)), H', ⟨by have := HK1.out; omega⟩, ⟨by (with_reducible repeat (first | apply Kd.R_alloc | apply Kd.R_drewN | apply Kd.R_drew)); exact HO118.out⟩, ⟨by repeat (first | (with_reducible first | exact HB.out | apply below_alloc | apply pw_below_drewN | apply below_drew1) | exact HB.out)⟩⟩
                  · rw [if_neg c27] at H
                    exact absurd H (by simp)
                · rw [if_neg c26] at H
                  have c26b0 : decide ((bt a0 x10_1) ≤ 90) = false := decide_eq_false c26
                  clear c26
                  by_cases c29 : (bt a0 x10_1) ≥ 48
                  · rw [if_pos c29] at H
                    have c29b0 : decide (48 ≤ (bt a0 x10_1)) = true := decide_eq_true c29
                    clear c29
                    by_cases c30 : (bt a0 x10_1) ≤ 57
                    · rw [if_pos c30] at H
                      have c30b0 : decide ((bt a0 x10_1) ≤ 57) = true := decide_eq_true c30
                      clear c30
                      by_cases c31 : x3_1.length < 140737488355328
                      · rw [if_pos c31] at H
                        have LMc31 := Aside0.mk c31
                        clear c31
                        obtain ⟨y119, hy119⟩ : ∃ y_ : List Int, y_ = (x3_1 ++ [bt a0 x10_1]) := ⟨_, rfl⟩
                        replace H : (laws_inlineLetters.l0 k1 a0 y119 ji2 (wrap64 (x10_1 + 1))) = some r := by first | (rw [hy119]; with_reducible exact H) | (have H2_ := (Option.bind_some _ _).symm.trans H; rw [hy119]; with_reducible exact H2_) | (have H2_ := (Option.bind_some _ _).symm.trans H; with_reducible exact H2_) | with_reducible exact H | (rw [hy119]; exact H) | exact H
                        have Ny119 := Aside0.mk hy119
                        clear hy119
                        have H' := Aside0.mk H
                        clear H
                        have p8 : 0 ≤ (x10_1 : Int) := of_decide_eq_true (by first | (with_reducible assumption) | assumption)
                        have q8 : x10_1 < (a0.size : Int) := of_decide_eq_true (by first | (with_reducible assumption) | assumption)
                        have hx8 := bt_at a0 x10_1
                        replace p8 := eq_true p8
                        replace q8 := eq_true q8
                        go_wp2_with (first | ((with_reducible refine gate_builtin (b := .append) (xs := #[.tmp 38, .tmp 40]) rfl ?_); at_builtin; refine Kd.R_append (Kd.int .u8) (w0 := w) w.heap.size rfl (.tmp 38) (.tmp 40) 54 5 (.int .u8 0) 1 rfl Tryd.underlying54 info5 rfl (by decide) (by omega) u3 x3_1 (bt a0 x10_1) [.int .u8 (bt a0 x10_1)] (fun _ => True) (fun _ => False) rfl rfl ?aP (fun _ hk => hk.elim) ?aF ?aO ?aB ?aS ?aL ?_; (case aP => exact rfl); (case aB => exact (by repeat (first | (with_reducible first | exact HB.out | apply below_alloc | apply pw_below_drewN | apply below_drew1) | exact HB.out))); (case aF => exact (fun _ _ => trivial)); (case aO => exact (by (with_reducible repeat (first | apply Kd.R_alloc | apply Kd.R_drewN | apply Kd.R_drew)); exact HO_3.out)); (case aS => exact (below_size (by repeat (first | (with_reducible first | exact HB.out | apply below_alloc | apply pw_below_drewN | apply below_drew1) | exact HB.out)))); (case aL => have := LMc31.out; omega); intro v120 w32 ho hb hg hat; rw [← Ny119.out] at ho; have n0_ := Aside0.mk (hb); have n1_ := Aside0.mk (ho); clear HB; clear HO_3; have HB := n0_; have HO121 := n1_; clear n0_ n1_; clear ho hb hg hat))
                        go_roundg k1
                        case measure => have := HK1.out; omega
                        case rel => exact ⟨(y119), (wrap64 (x10_1 + 1)), (by first | rfl | (simp; done) | (simp [*]; done)), H', ⟨by have := HK1.out; omega⟩, ⟨by (with_reducible repeat (first | apply Kd.R_alloc | apply Kd.R_drewN | apply Kd.R_drew)); exact HO121.out⟩, ⟨by repeat (first | (with_reducible first | exact HB.out | apply below_alloc | apply pw_below_drewN | apply below_drew1) | exact HB.out)⟩⟩
                      · rw [if_neg c31] at H
                        exact absurd H (by simp)
                    · rw [if_neg c30] at H
                      have c30b0 : decide ((bt a0 x10_1) ≤ 57) = false := decide_eq_false c30
                      clear c30
                      have H' := Aside0.mk H
                      clear H
                      have p8 : 0 ≤ (x10_1 : Int) := of_decide_eq_true (by first | (with_reducible assumption) | assumption)
                      have q8 : x10_1 < (a0.size : Int) := of_decide_eq_true (by first | (with_reducible assumption) | assumption)
                      have hx8 := bt_at a0 x10_1
                      replace p8 := eq_true p8
                      replace q8 := eq_true q8
                      go_wp2
                      go_roundg k1
                      case measure => have := HK1.out; omega
                      case rel => exact ⟨(x3_1), (wrap64 (x10_1 + 1)), (by first | rfl | (simp; done) | (simp [*]; done)), H', ⟨by have := HK1.out; omega⟩, ⟨by (with_reducible repeat (first | apply Kd.R_alloc | apply Kd.R_drewN | apply Kd.R_drew)); exact HO_3.out⟩, ⟨by repeat (first | (with_reducible first | exact HB.out | apply below_alloc | apply pw_below_drewN | apply below_drew1) | exact HB.out)⟩⟩
                  · rw [if_neg c29] at H
                    have c29b0 : decide (48 ≤ (bt a0 x10_1)) = false := decide_eq_false c29
                    clear c29
                    have H' := Aside0.mk H
                    clear H
                    have p8 : 0 ≤ (x10_1 : Int) := of_decide_eq_true (by first | (with_reducible assumption) | assumption)
                    have q8 : x10_1 < (a0.size : Int) := of_decide_eq_true (by first | (with_reducible assumption) | assumption)
                    have hx8 := bt_at a0 x10_1
                    replace p8 := eq_true p8
                    replace q8 := eq_true q8
                    go_wp2
                    go_roundg k1
                    case measure => have := HK1.out; omega
                    case rel => exact ⟨(x3_1), (wrap64 (x10_1 + 1)), (by first | rfl | (simp; done) | (simp [*]; done)), H', ⟨by have := HK1.out; omega⟩, ⟨by (with_reducible repeat (first | apply Kd.R_alloc | apply Kd.R_drewN | apply Kd.R_drew)); exact HO_3.out⟩, ⟨by repeat (first | (with_reducible first | exact HB.out | apply below_alloc | apply pw_below_drewN | apply below_drew1) | exact HB.out)⟩⟩
              · rw [if_neg c25] at H
                have c25b0 : decide (65 ≤ (bt a0 x10_1)) = false := decide_eq_false c25
                clear c25
                by_cases c33 : (bt a0 x10_1) ≥ 48
                · rw [if_pos c33] at H
                  have c33b0 : decide (48 ≤ (bt a0 x10_1)) = true := decide_eq_true c33
                  clear c33
                  by_cases c34 : (bt a0 x10_1) ≤ 57
                  · rw [if_pos c34] at H
                    have c34b0 : decide ((bt a0 x10_1) ≤ 57) = true := decide_eq_true c34
                    clear c34
                    by_cases c35 : x3_1.length < 140737488355328
                    · rw [if_pos c35] at H
                      have LMc35 := Aside0.mk c35
                      clear c35
                      obtain ⟨y122, hy122⟩ : ∃ y_ : List Int, y_ = (x3_1 ++ [bt a0 x10_1]) := ⟨_, rfl⟩
                      replace H : (laws_inlineLetters.l0 k1 a0 y122 ji2 (wrap64 (x10_1 + 1))) = some r := by first | (rw [hy122]; with_reducible exact H) | (have H2_ := (Option.bind_some _ _).symm.trans H; rw [hy122]; with_reducible exact H2_) | (have H2_ := (Option.bind_some _ _).symm.trans H; with_reducible exact H2_) | with_reducible exact H | (rw [hy122]; exact H) | exact H
                      have Ny122 := Aside0.mk hy122
                      clear hy122
                      have H' := Aside0.mk H
                      clear H
                      have p8 : 0 ≤ (x10_1 : Int) := of_decide_eq_true (by first | (with_reducible assumption) | assumption)
                      have q8 : x10_1 < (a0.size : Int) := of_decide_eq_true (by first | (with_reducible assumption) | assumption)
                      have hx8 := bt_at a0 x10_1
                      replace p8 := eq_true p8
                      replace q8 := eq_true q8
                      go_wp2_with (first | ((with_reducible refine gate_builtin (b := .append) (xs := #[.tmp 38, .tmp 40]) rfl ?_); at_builtin; refine Kd.R_append (Kd.int .u8) (w0 := w) w.heap.size rfl (.tmp 38) (.tmp 40) 54 5 (.int .u8 0) 1 rfl Tryd.underlying54 info5 rfl (by decide) (by omega) u3 x3_1 (bt a0 x10_1) [.int .u8 (bt a0 x10_1)] (fun _ => True) (fun _ => False) rfl rfl ?aP (fun _ hk => hk.elim) ?aF ?aO ?aB ?aS ?aL ?_; (case aP => exact rfl); (case aB => exact (by repeat (first | (with_reducible first | exact HB.out | apply below_alloc | apply pw_below_drewN | apply below_drew1) | exact HB.out))); (case aF => exact (fun _ _ => trivial)); (case aO => exact (by (with_reducible repeat (first | apply Kd.R_alloc | apply Kd.R_drewN | apply Kd.R_drew)); exact HO_3.out)); (case aS => exact (below_size (by repeat (first | (with_reducible first | exact HB.out | apply below_alloc | apply pw_below_drewN | apply below_drew1) | exact HB.out)))); (case aL => have := LMc35.out; omega); intro v123 w36 ho hb hg hat; rw [← Ny122.out] at ho; have n0_ := Aside0.mk (hb); have n1_ := Aside0.mk (ho); clear HB; clear HO_3; have HB := n0_; have HO124 := n1_; clear n0_ n1_; clear ho hb hg hat))
                      go_roundg k1
                      case measure => have := HK1.out; omega
                      case rel => exact ⟨(y122), (wrap64 (x10_1 + 1)), (by first | rfl | (simp; done) | (simp [*]; done)), H', ⟨by have := HK1.out; omega⟩, ⟨by (with_reducible repeat (first | apply Kd.R_alloc | apply Kd.R_drewN | apply Kd.R_drew)); exact HO124.out⟩, ⟨by repeat (first | (with_reducible first | exact HB.out | apply below_alloc | apply pw_below_drewN | apply below_drew1) | exact HB.out)⟩⟩
                    · rw [if_neg c35] at H
                      exact absurd H (by simp)
                  · rw [if_neg c34] at H
                    have c34b0 : decide ((bt a0 x10_1) ≤ 57) = false := decide_eq_false c34
                    clear c34
                    have H' := Aside0.mk H
                    clear H
                    have p8 : 0 ≤ (x10_1 : Int) := of_decide_eq_true (by first | (with_reducible assumption) | assumption)
                    have q8 : x10_1 < (a0.size : Int) := of_decide_eq_true (by first | (with_reducible assumption) | assumption)
                    have hx8 := bt_at a0 x10_1
                    replace p8 := eq_true p8
                    replace q8 := eq_true q8
                    go_wp2
                    go_roundg k1
                    case measure => have := HK1.out; omega
                    case rel => exact ⟨(x3_1), (wrap64 (x10_1 + 1)), (by first | rfl | (simp; done) | (simp [*]; done)), H', ⟨by have := HK1.out; omega⟩, ⟨by (with_reducible repeat (first | apply Kd.R_alloc | apply Kd.R_drewN | apply Kd.R_drew)); exact HO_3.out⟩, ⟨by repeat (first | (with_reducible first | exact HB.out | apply below_alloc | apply pw_below_drewN | apply below_drew1) | exact HB.out)⟩⟩
                · rw [if_neg c33] at H
                  have c33b0 : decide (48 ≤ (bt a0 x10_1)) = false := decide_eq_false c33
                  clear c33
                  have H' := Aside0.mk H
                  clear H
                  have p8 : 0 ≤ (x10_1 : Int) := of_decide_eq_true (by first | (with_reducible assumption) | assumption)
                  have q8 : x10_1 < (a0.size : Int) := of_decide_eq_true (by first | (with_reducible assumption) | assumption)
                  have hx8 := bt_at a0 x10_1
                  replace p8 := eq_true p8
                  replace q8 := eq_true q8
                  go_wp2
                  go_roundg k1
                  case measure => have := HK1.out; omega
                  case rel => exact ⟨(x3_1), (wrap64 (x10_1 + 1)), (by first | rfl | (simp; done) | (simp [*]; done)), H', ⟨by have := HK1.out; omega⟩, ⟨by (with_reducible repeat (first | apply Kd.R_alloc | apply Kd.R_drewN | apply Kd.R_drew)); exact HO_3.out⟩, ⟨by repeat (first | (with_reducible first | exact HB.out | apply below_alloc | apply pw_below_drewN | apply below_drew1) | exact HB.out)⟩⟩
          · rw [if_neg c7] at H
            exact absurd H (by simp)
        · rw [if_neg c6] at H
          exact absurd H (by simp)
      · rw [if_neg c5] at H
        have c5b0 : decide (x10_1 < ji2) = false := decide_eq_false c5
        clear c5
        obtain rfl := Option.some.inj H
        have hcv37 := own_string (P := Tryd.prog) Tryd.underlying54 Tryd.underlying5 Tryd.underlying9 (Kd.own_of_R HO_3.out)
        go_wp2
        go_ret
        exact ⟨by first | rfl | (simp [errW_none, errW_some] <;> rfl) | (simp only [← hji2]; first | rfl | (simp [errW_none, errW_some] <;> rfl)) | (simp [*, errW_none, errW_some] <;> rfl), by repeat (first | (with_reducible first | exact HB.out | apply below_alloc | apply pw_below_drewN | apply below_drew1) | exact HB.out)⟩
/-! ### laws_inlineWord: function 5 -/
def laws_inlineWord.f (k : Nat) (a0 : ByteArray) : Option (ByteArray) := (laws_inlineLetters.f k a0).bind fun t125 => (if 1 + t125.size ≤ 9223372036854775807 then (some ((⟨#[119]⟩ : ByteArray) ++ t125)) else (none))
theorem laws_inlineWord.mono : ∀ a0 k, LeO (laws_inlineWord.f k a0) (laws_inlineWord.f (k + 1) a0) := by
  intro a0 k
  unfold laws_inlineWord.f
  repeat' first
      | (with_reducible exact laws_inlineLetters.mono _ _)
      | (with_reducible exact LeO.refl _)
      | (with_reducible exact LeO.none _)
      | (with_reducible refine LeO.ite ?_ ?_)
      | (with_reducible refine LeO.bind ?_ (fun _ => ?_))
      | exact laws_inlineLetters.mono _ _
      | exact LeO.none _
      | refine LeO.ite ?_ ?_
      | refine LeO.bind ?_ (fun _ => ?_)
set_option maxHeartbeats 8000000 in
set_option maxRecDepth 100000 in
theorem laws_inlineWord.calls (k : Nat) (a0 : ByteArray) (r : ByteArray) (w : World) (h : laws_inlineWord.f k a0 = some r) :
    Calls Tryd.prog 5 #[.string a0] w fun e w' => e = .returned (.string r) ∧ Below w.heap.size w w' := by
  have HB := Aside0.mk (Below.refl w.heap.size w)
  have H : ((laws_inlineLetters.f k a0).bind fun t125 => (if 1 + t125.size ≤ 9223372036854775807 then (some ((⟨#[119]⟩ : ByteArray) ++ t125)) else (none))) = some r := h
  clear h
  replace H := Option.bind_eq_some_iff.mp H
  obtain ⟨t125, A20, H⟩ := H
  replace H : (if 1 + t125.size ≤ 9223372036854775807 then (some ((⟨#[119]⟩ : ByteArray) ++ t125)) else (none)) = some r := H
  have A2 := Aside0.mk A20
  clear A20
  by_cases c3 : 1 + t125.size ≤ 9223372036854775807
  · rw [if_pos c3] at H
    have c3b0 := eq_true c3
    have c3b1 : decide (1 + t125.size ≤ 9223372036854775807) = true := decide_eq_true c3
    try have c3b2 : (9223372036854775807 < 1 + t125.size) = False := eq_false (Nat.not_lt.2 c3)
    obtain rfl := Option.some.inj H
    go_enter Tryd.func5, Tryd.ntmps5
    go_wp2_with (first | ((with_reducible refine gate_callee (f := 15) rfl ?_); refine goesL_ (some 4) rfl rfl Tryd.func15 (by kernel_rfl) rfl #[.string a0] rfl (by (try simp only [List.map_toArray, List.map_cons, List.map_nil]); first | done | rfl | (simp only [List.length_drop, List.length_take]; rfl)) ?_; (with_reducible refine (laws_inlineLetters.calls k a0 t125 _ A2.out).mono ?_); rintro e w4 ⟨rfl, hb⟩; refine ⟨_, rfl, ?_⟩; have n0_ := Aside0.mk (below_step (by repeat (first | (with_reducible first | exact HB.out | apply below_alloc | apply pw_below_drewN | apply below_drew1) | exact HB.out)) hb); clear HB; have HB := n0_; clear n0_; (try clear hb); (try clear hb2); (try clear hk); (try clear hi)))
    go_ret
    exact ⟨by first | rfl | (simp [errW_none, errW_some] <;> rfl) | (simp [*, errW_none, errW_some] <;> rfl), by repeat (first | (with_reducible first | exact HB.out | apply below_alloc | apply pw_below_drewN | apply below_drew1) | exact HB.out)⟩
  · rw [if_neg c3] at H
    exact absurd H (by simp)
end Go.Proofs.YtmfjbljdbkmkgaaDoor.PDom

/- Printed by the program extprint.py of this session, out of the kit's print and contracts of this session's own; Lean checks it. -/
namespace Go.Proofs.YtmfjbljdbkmkgaaDoor.PDom
open Go.RowKit Go.Proofs.YtmfjbljdbkmkgaaDoorW.PrintWords Go.Proofs.YtmfjbljdbkmkgaaDoorW.PrintLast Go.Proofs.YtmfjbljdbkmkgaaDoorW.PrintMore
attribute [local go_sem] max2_int min2_int max_two min_two max_three min_three max_four min_four   -- for this text's walks alone
set_option linter.unusedVariables false
set_option linter.unusedSimpArgs false

-- NOT PRINTED: function 31 (impl_guarded)

-- NOT PRINTED: function 16 (impl_behind)

-- NOT PRINTED: function 9 (impl_SwapTags)

-- NOT PRINTED: function 3 (laws_FnSwapTagsPair)


end Go.Proofs.YtmfjbljdbkmkgaaDoor.PDom

/- Tables side by side; a table that is a tree. Plain facts. -/
namespace Go.Proofs.YtmfjbljdbkmkgaaDoor.Dom
open Go.RowKit Go.Proofs.YtmfjbljdbkmkgaaDoorW.PrintWords Go.Proofs.YtmfjbljdbkmkgaaDoorW.PrintLast Go.Proofs.YtmfjbljdbkmkgaaDoorW.PrintMore Go.Proofs.YtmfjbljdbkmkgaaDoor.PDom
set_option linter.unusedVariables false
set_option linter.unusedSimpArgs false

theorem Dom.below {w w' : World} {D : Tab} (h : Dom w D) (hb : Below w.heap.size w w') : Dom w' D :=
  ⟨h.wf, fun hd => by
    obtain ⟨v, h1, h2⟩ := h.has hd
    exact ⟨v, h1.of_heap (hb.block _ h1.lt), h2.below hb⟩⟩
theorem Dom.lt {w : World} {D : Tab} (h : Dom w D) {b : Nat} (hb : D b ≠ none) : b < w.heap.size := by
  cases hd : D b with
  | none => exact absurd hd hb
  | some i =>
    obtain ⟨v, h1, _⟩ := h.has hd
    exact h1.lt

/-- One node alone. -/
def none_ : Tab := fun _ => none
theorem Dom.one {w : World} {b : Nat} {ty atom : Int} {data : ByteArray} {v : Value} {attrs : List (ByteArray × ByteArray)} (h : Has w b ⟨none, none, none, none, none, ty, atom, data, v⟩) (ha : AttrAt w v attrs) :
    Dom w (put none_ b ⟨none, [], ty, atom, data, attrs⟩) := by
  have hs : ∀ {x i}, put none_ b ⟨none, [], ty, atom, data, attrs⟩ x = some i → x = b ∧ i = ⟨none, [], ty, atom, data, attrs⟩ := by
    intro x i hx
    by_cases hxb : x = b
    · subst hxb
      rw [put_same] at hx
      exact ⟨rfl, (Option.some.inj hx).symm⟩
    · rw [put_other _ _ hxb] at hx
      cases hx
  refine ⟨⟨?_, ?_, ?_⟩, ?_⟩
  · intro x i p hx hp
    obtain ⟨_, rfl⟩ := hs hx
    cases hp
  · intro x i c hx hc
    obtain ⟨_, rfl⟩ := hs hx
    cases hc
  · intro x i hx
    obtain ⟨_, rfl⟩ := hs hx
    exact List.nodup_nil
  · intro x i hx
    obtain ⟨rfl, rfl⟩ := hs hx
    exact ⟨v, h, ha⟩

/-- Two tables side by side. -/
def uni (D D' : Tab) : Tab := fun x => match D x with
  | some i => some i
  | none => D' x
theorem uni_left {D D' : Tab} {x : Nat} {i : Info} (h : D x = some i) : uni D D' x = some i := by unfold uni; rw [h]
theorem uni_right {D D' : Tab} {x : Nat} (h : D x = none) : uni D D' x = D' x := by unfold uni; rw [h]
theorem uni_some {D D' : Tab} {x : Nat} {i : Info} (h : uni D D' x = some i) : D x = some i ∨ (D x = none ∧ D' x = some i) := by
  cases hd : D x with
  | some j => rw [uni_left hd] at h; exact .inl h
  | none => rw [uni_right hd] at h; exact .inr ⟨rfl, h⟩
theorem Dom.union {w : World} {D D' : Tab} (h : Dom w D) (h' : Dom w D') (hd : ∀ x, D x ≠ none → D' x = none) : Dom w (uni D D') := by
  have hr : ∀ {x i}, D' x = some i → uni D D' x = some i := by
    intro x i hx
    have : D x = none := by
      cases hD : D x with
      | none => rfl
      | some j => have := hd x (by rw [hD]; simp); rw [hx] at this; cases this
    rw [uni_right this]
    exact hx
  refine ⟨⟨?_, ?_, ?_⟩, ?_⟩
  · intro b i p hb hp
    rcases uni_some hb with hb | ⟨_, hb⟩
    · obtain ⟨ip, h1, h2⟩ := h.wf.up hb hp
      exact ⟨ip, uni_left h1, h2⟩
    · obtain ⟨ip, h1, h2⟩ := h'.wf.up hb hp
      exact ⟨ip, hr h1, h2⟩
  · intro b i c hb hc
    rcases uni_some hb with hb | ⟨_, hb⟩
    · obtain ⟨ip, h1, h2⟩ := h.wf.down hb hc
      exact ⟨ip, uni_left h1, h2⟩
    · obtain ⟨ip, h1, h2⟩ := h'.wf.down hb hc
      exact ⟨ip, hr h1, h2⟩
  · intro b i hb
    rcases uni_some hb with hb | ⟨_, hb⟩
    · exact h.wf.nodup hb
    · exact h'.wf.nodup hb
  · intro b i hb
    rcases uni_some hb with hb | ⟨_, hb⟩
    · obtain ⟨v, h1, h2⟩ := h.has hb
      refine ⟨v, ?_, h2⟩
      have hs : sibs (uni D D') i = sibs D i := by
        cases hp : i.parent with
        | none => rw [sibs_none hp, sibs_none hp]
        | some p =>
          obtain ⟨ip, h3, _⟩ := h.wf.up hb hp
          rw [sibs_some hp, sibs_some hp, kidsOf_some h3, kidsOf_some (uni_left h3)]
      unfold recOf at h1 ⊢
      rw [hs]
      exact h1
    · obtain ⟨v, h1, h2⟩ := h'.has hb
      refine ⟨v, ?_, h2⟩
      have hs : sibs (uni D D') i = sibs D' i := by
        cases hp : i.parent with
        | none => rw [sibs_none hp, sibs_none hp]
        | some p =>
          obtain ⟨ip, h3, _⟩ := h'.wf.up hb hp
          rw [sibs_some hp, sibs_some hp, kidsOf_some h3, kidsOf_some (hr h3)]
      unfold recOf at h1 ⊢
      rw [hs]
      exact h1

/-! ### A tree -/
abbrev T := S28
def tyOf (k : Int) : Int := if k = 0 then 3 else if k = 1 then 1 else if k = 2 then 4 else 2
def flat (t : T) : Prop := t.f0 = 1 ∨ t.f0 = 2
instance (t : T) : Decidable (flat t) := by unfold flat; exact inferInstance
def dataOf (t : T) : ByteArray := if t.f0 = 0 then t.f1 else if flat t then t.f2 else ⟨#[]⟩
def attrsOf (t : T) : List (ByteArray × ByteArray) := if t.f0 = 0 then t.f3.map fun a => (a.f0, a.f1) else []
def atomOf (t : T) : Int := if t.f0 = 0 then (atom_ZzAtom.f t.f1).getD 0 else 0
def kidsT (t : T) : List T := if flat t then [] else t.f4
structure Match (i : Info) (t : T) : Prop where
  ty : i.ty = tyOf t.f0
  atom : i.atom = atomOf t
  data : i.data = dataOf t
  attrs : i.attrs = attrsOf t
inductive IsT (D : Tab) : Nat → T → Prop
  | mk (b : Nat) (t : T) (i : Info) (h : D b = some i) (hm : Match i t) (hl : i.kids.length = (kidsT t).length) (hk : ∀ j (h1 : j < i.kids.length) (h2 : j < (kidsT t).length), IsT D i.kids[j] (kidsT t)[j]) : IsT D b t
/-- What is in the one table is in the other one, but for who the parent is. -/
def Sub (D D2 : Tab) : Prop := ∀ b i, D b = some i → ∃ p, D2 b = some { i with parent := p }
theorem IsT.mono {D D2 : Tab} (hs : Sub D D2) {b : Nat} {t : T} (h : IsT D b t) : IsT D2 b t := by
  induction h with
  | mk b t i h hm hl hk ih =>
    obtain ⟨p, h2⟩ := hs b i h
    exact IsT.mk b t { i with parent := p } h2 ⟨hm.ty, hm.atom, hm.data, hm.attrs⟩ hl ih
/-- The part of a table that lies above a block. -/
def above (n : Nat) (D : Tab) : Tab := fun x => if n < x then D x else none
theorem above_sub (n : Nat) (D : Tab) : Sub (above n D) D := by
  intro b i h
  unfold above at h
  split at h
  · exact ⟨i.parent, h⟩
  · cases h

/-- One more child. -/
theorem grow {D D' : Tab} {n c : Nat} {i ic : Info} (hn : D n = some i) (hc : D' c = some ic) (hd : ∀ x, D x ≠ none → D' x = none) (hlt : ∀ x, D' x ≠ none → n < x) :
    Sub (above n D) (above n (appended (uni D D') n c i ic)) ∧ Sub D' (above n (appended (uni D D') n c i ic)) := by
  have hcn : n < c := hlt c (by rw [hc]; simp)
  constructor
  · intro b ib hb
    unfold above at hb
    split at hb
    case isFalse => cases hb
    rename_i hnb
    have hbc : b ≠ c := fun e => by
      subst e
      have := hd b (by rw [hb]; simp)
      rw [hc] at this
      cases this
    refine ⟨ib.parent, ?_⟩
    unfold above
    rw [if_pos hnb]
    unfold appended
    rw [put_other _ _ hbc, put_other _ _ (by omega), uni_left hb]
  · intro b ib hb
    have hnb := hlt b (by rw [hb]; simp)
    have hD : D b = none := by
      cases hD : D b with
      | none => rfl
      | some j => have := hd b (by rw [hD]; simp); rw [hb] at this; cases this
    unfold above
    rw [if_pos hnb]
    unfold appended
    by_cases hbc : b = c
    · subst hbc
      rw [hc] at hb
      obtain rfl := Option.some.inj hb
      exact ⟨some n, put_same _ _ _⟩
    · exact ⟨ib.parent, by rw [put_other _ _ hbc, put_other _ _ (by omega), uni_right hD, hb]⟩
end Go.Proofs.YtmfjbljdbkmkgaaDoor.Dom

/- What impl.made rests on: leaves, one more attribute. Plain facts and one law. -/
namespace Go.Proofs.YtmfjbljdbkmkgaaDoor.Dom
open Go.RowKit Go.Proofs.YtmfjbljdbkmkgaaDoorW.PrintWords Go.Proofs.YtmfjbljdbkmkgaaDoorW.PrintLast Go.Proofs.YtmfjbljdbkmkgaaDoorW.PrintMore Go.Proofs.YtmfjbljdbkmkgaaDoor.PDom
set_option linter.unusedVariables false
set_option linter.unusedSimpArgs false

theorem kid_lt {t x : T} (h : x ∈ t.f4) : SizeOf.sizeOf x < SizeOf.sizeOf t := by
  have := List.sizeOf_lt_of_mem h
  cases t
  simp only [S28.mk.sizeOf_spec] at this ⊢
  omega
inductive Fit : T → Prop
  | mk (t : T) (ha : t.f3.length ≤ 4398046510976) (hk : t.f4.length ≤ 4398046510976) (h : ∀ y ∈ t.f4, Fit y) : Fit t

theorem atom_some (s : ByteArray) : atom_ZzAtom.f s = some ((atom_ZzAtom.f s).getD 0) := by
  unfold atom_ZzAtom.f
  repeat' split
  all_goals rfl

/-- One more attribute, as long as a row may come in. -/
theorem attr_step {P : Program} {ops : Array Oper} {o : Oper} {a : Act} {Q : Exit → Act → World → Prop} {K : Act → World → Prop} {E : Prop} {W : World} (hgd : o.guard = none) (s x : Operand) (t : TypeId) (z : Value)
    (ho : o.op = .call { callee := .builtin .append, args := #[s, x], argTypes := #[t, t] })
    (ht : P.underlying t = some (.slice 75)) (hinfo : (P.info? 75).map (fun i => (i.zero, i.size, i.bytes)) = some (some z, 3, 48)) (hz : z.cells.size = 3)
    (B : Nat) (hB : B ≤ W.heap.size) (v : Value) (l : List (ByteArray × ByteArray)) (k u : ByteArray) (bk : Nat) (hs : a.eval s = v) (hx : a.eval x = .slice (some ⟨bk, 0, none⟩) 1 1) (hnew : W.heap[bk]? = some (.cells #[.string ⟨#[]⟩, .string k, .string u] 75 (0, 0))) (HO : kA.R 75 W B (fun _ => True) v l) (hl : l.length ≤ 4398046510976)
    (h : ∀ v1 w1, kA.R 75 w1 B (fun _ => True) v1 (l ++ [(k, u)]) → W.grownBy w1 v.ownBlock → K (a.put o.dst v1) w1) :
    if Region.wanted o (yielded ops a.tmps) = true then Oper.wp P o a W K Q else E := by
  obtain ⟨i0, hi, hzz⟩ := Option.map_eq_some_iff.1 hinfo
  simp only [Prod.mk.injEq] at hzz
  obtain ⟨hz0, hz1, hz2⟩ := hzz
  rw [if_pos (show Region.wanted o (yielded ops a.tmps) = true by simp [Region.wanted, hgd])]
  obtain ⟨h0, inner, hown, hr⟩ := HO
  have hsz : kA.sz = 3 := rfl
  rw [hsz] at hown hr
  refine wp_append_own_wide _ s x t ho B 75 i0 z 3 48 ht hi hz0 hz1 hz2 hz (by omega) v l.length inner hs hown ⟨bk, 0, none⟩ 1 1 [.string ⟨#[]⟩, .string k, .string u] hx rfl
    (by simpa using World.news_of_block (cs := #[.string ⟨#[]⟩, .string k, .string u]) (t := 75) (fr := (0, 0)) hnew)
    (by intro y hy; rcases List.mem_cons.1 hy with rfl | hy; rfl; rcases List.mem_cons.1 hy with rfl | hy; rfl; rcases List.mem_cons.1 hy with rfl | hy; rfl; cases hy) (by simp only [maxLen]; omega) (by omega) hB ?_
  intro v1 w1 hown1 hg _
  refine h v1 w1 ⟨fun _ _ => trivial, inner ++ [.string ⟨#[]⟩, .string k, .string u], by rw [List.length_append, List.length_singleton]; exact hown1, ?_⟩ hg
  exact (hr.imp_ (fun _ _ hq => hq)).snoc ⟨[.string ⟨#[]⟩], [.string k, .string u], rfl, rfl, ⟨[.string k], [.string u], rfl, rfl, rfl⟩⟩ rfl
theorem kept {w8 w9 : World} {o : Obj} {r : Option Nat} (hg : (w8.alloc o).drew.grownBy w9 r) {g : Nat} {x : Obj} (h : w8.heap[g]? = some x) (hne : some g ≠ r) : w9.heap[g]? = some x := by
  have hlt := (Array.getElem?_eq_some_iff.1 h).1
  have h1 := hg.block g (by show g < (w8.heap.push o).size; rw [Array.size_push]; omega) hne
  exact h1.trans ((heap_alloc_old w8 o hlt).trans h)
theorem kept_below {w w8 w9 : World} {o : Obj} {B : Nat} {r : Option Nat} (hg : (w8.alloc o).drew.grownBy w9 r) (hb : Below B w (w8.alloc o)) (hB : B ≤ (w8.alloc o).drew.heap.size) (hr : ∀ k, r = some k → B ≤ k) : Below B w w9 :=
  (below_drew hb).grown hg hB hr
theorem attrR_set {w : World} {B : Nat} {v : Value} {l : List (ByteArray × ByteArray)} (h : kA.R 75 w B (fun _ => True) v l) {g : Nat} {r : Rec} (hg : Has w g r) (j : Nat) (u : Value) : kA.R 75 (w.setCell ⟨g, j, none⟩ u) B (fun _ => True) v l :=
  Kd.R_set h hg (fun q hq => by
    have : q = 75 := by simpa [kA, Kd.iso, Kd.pair, Kd.string, Kd.scalar] using hq
    rw [this]
    decide) j u
theorem Has.put9 {w : World} {b : Nat} {r : Rec} (h : Has w b r) (u : Value) : Has (w.setCell ⟨b, 9, none⟩ u) b { r with attr := u } := h.put 9 u { r with attr := u } rfl
/-- The end of a round: the node has one more attribute. -/
theorem attr_round {w w9 : World} {nb : Nat} {r : Rec} {box : Obj} {v1 : Value} {l : List (ByteArray × ByteArray)} (hnb : w.heap.size < nb) (hx : w9.heap[w.heap.size]? = some box) (hn : Has w9 nb r) (ho : kA.R 75 w9 w.heap.size (fun _ => True) v1 l) (hb : Below w.heap.size w w9) :
    (w9.setCell ⟨nb, 9, none⟩ v1).heap[w.heap.size]? = some box ∧ Has (w9.setCell ⟨nb, 9, none⟩ v1) nb { r with attr := v1 } ∧ kA.R 75 (w9.setCell ⟨nb, 9, none⟩ v1) w.heap.size (fun _ => True) v1 l ∧ Below w.heap.size w (w9.setCell ⟨nb, 9, none⟩ v1) :=
  ⟨(Below.heap_setCell w9 ⟨nb, 9, none⟩ v1 w.heap.size (by show w.heap.size ≠ nb; omega)).trans hx, hn.put9 v1, attrR_set ho hn 9 v1, hb.setCell (p := ⟨nb, 9, none⟩) (by show w.heap.size ≤ nb; omega) v1⟩
theorem wrap_same {x : Int} (h0 : -9223372036854775808 ≤ x) (h1 : x ≤ 9223372036854775807) : wrap64 x = x := by
  unfold wrap64
  omega
theorem wrap_succ (j : Nat) (h : j ≤ 4398046510976) : wrap64 ((j : Int) + 1) = ((j + 1 : Nat) : Int) := by
  rw [wrap_same (by omega) (by omega)]
  omega
theorem infoA : (Tryd.prog.info? 75).map (fun i => (i.zero, i.size, i.bytes)) = some (some (.agg #[.string ⟨#[]⟩, .string ⟨#[]⟩, .string ⟨#[]⟩]), 3, 48) := by kernel_rfl

structure Made (w w' : World) (b : Nat) (D : Tab) (t : T) : Prop where
  dom : Dom w' D
  tree : IsT D b t
  root : ∀ i, D b = some i → i.parent = none
  fresh : ∀ x, D x ≠ none → w.heap.size ≤ x
  below : Below w.heap.size w w'

theorem two_new (w : World) (o1 o2 : Obj) : ((w.alloc o1).alloc o2).heap[w.heap.size + 1]? = some o2 := by
  show ((w.heap.push o1).push o2)[w.heap.size + 1]? = some o2
  rw [Array.getElem?_push, Array.size_push, if_pos rfl]
theorem two_old (w : World) (o1 o2 : Obj) : ((w.alloc o1).alloc o2).heap[w.heap.size]? = some o1 := by
  show ((w.heap.push o1).push o2)[w.heap.size]? = some o1
  rw [Array.getElem?_push, Array.size_push, if_neg (by omega)]
  simp
theorem leaf (w : World) (o1 : Obj) (t : T) (ty : Int) (hf : flat t) (hty : ty = tyOf t.f0) :
    Made w ((w.alloc o1).alloc (.cells (Rec.cells ⟨none, none, none, none, none, ty, 0, t.f2, .slice none 0 0⟩) 67 (0, 0))) (w.heap.size + 1) (put none_ (w.heap.size + 1) ⟨none, [], ty, 0, t.f2, []⟩) t := by
  have h0 : ¬ t.f0 = 0 := fun e => by rcases hf with h | h <;> omega
  have hD : Dom ((w.alloc o1).alloc (.cells (Rec.cells ⟨none, none, none, none, none, ty, 0, t.f2, .slice none 0 0⟩) 67 (0, 0))) (put none_ (w.heap.size + 1) ⟨none, [], ty, 0, t.f2, []⟩) :=
    Dom.one (two_new w o1 _) (Kd.R_nil kA _ _ _ _)
  refine ⟨hD, ?_, ?_, ?_, below_alloc (below_alloc (Below.refl _ _) _) _⟩
  · refine IsT.mk _ t _ (put_same _ _ _) ⟨hty, ?_, ?_, ?_⟩ ?_ ?_
    · show (0 : Int) = atomOf t
      unfold atomOf
      rw [if_neg h0]
    · show t.f2 = dataOf t
      unfold dataOf
      rw [if_neg h0, if_pos hf]
    · show [] = attrsOf t
      unfold attrsOf
      rw [if_neg h0]
    · show 0 = (kidsT t).length
      unfold kidsT
      rw [if_pos hf]
      rfl
    · intro j h1
      exact absurd h1 (Nat.not_lt_zero _)
  · intro i hi
    rw [put_same] at hi
    obtain rfl := Option.some.inj hi
    rfl
  · intro x hx
    by_cases hxb : x = w.heap.size + 1
    · omega
    · rw [put_other _ _ hxb] at hx
      exact absurd rfl hx

end Go.Proofs.YtmfjbljdbkmkgaaDoor.Dom

/- What impl.made's loop over the children keeps. Plain facts on tables. -/
namespace Go.Proofs.YtmfjbljdbkmkgaaDoor.Dom
open Go.RowKit Go.Proofs.YtmfjbljdbkmkgaaDoorW.PrintWords Go.Proofs.YtmfjbljdbkmkgaaDoorW.PrintLast Go.Proofs.YtmfjbljdbkmkgaaDoorW.PrintMore Go.Proofs.YtmfjbljdbkmkgaaDoor.PDom
set_option linter.unusedVariables false
set_option linter.unusedSimpArgs false

structure Kept (w wr : World) (nb : Nat) (D : Tab) (i : Info) (t : T) (box : Obj) (j : Nat) : Prop where
  dom : Dom wr D
  node : D nb = some i
  root : i.parent = none
  mt : Match i t
  len : i.kids.length = j
  kids : ∀ k (h1 : k < i.kids.length) (h2 : k < t.f4.length), IsT (above nb D) i.kids[k] t.f4[k]
  fresh : ∀ x, D x ≠ none → nb ≤ x
  box : wr.heap[w.heap.size]? = some box
  below : Below w.heap.size w wr

/-- Ahead of the first child. -/
theorem Kept.start {w wr : World} {nb : Nat} {t : T} {box : Obj} {ty atom : Int} {data : ByteArray} {v : Value} {attrs : List (ByteArray × ByteArray)} (hn : Has wr nb ⟨none, none, none, none, none, ty, atom, data, v⟩) (ha : AttrAt wr v attrs)
    (hm : Match ⟨none, [], ty, atom, data, attrs⟩ t) (hx : wr.heap[w.heap.size]? = some box) (hb : Below w.heap.size w wr) : Kept w wr nb (put none_ nb ⟨none, [], ty, atom, data, attrs⟩) ⟨none, [], ty, atom, data, attrs⟩ t box 0 :=
  ⟨Dom.one hn ha, put_same _ _ _, rfl, hm, rfl, fun k h1 => absurd h1 (Nat.not_lt_zero _), fun x hx => by
    by_cases h : x = nb
    · omega
    · rw [put_other _ _ h] at hx
      exact absurd rfl hx, hx, hb⟩

/-- The tables side by side, ahead of AppendChild. -/
theorem Kept.ready {w wr w1 w2 : World} {nb b : Nat} {D D' : Tab} {i : Info} {t x : T} {box : Obj} {j : Nat} (h : Kept w wr nb D i t box j) (h1 : Below wr.heap.size wr w1) (hm : Made w1 w2 b D' x) :
    ∃ ic, D' b = some ic ∧ Dom w2 (uni D D') ∧ uni D D' nb = some i ∧ uni D D' b = some ic ∧ nb ≠ b ∧ ic.parent = none ∧ i.parent ≠ some nb ∧ (∀ y, D y ≠ none → D' y = none) ∧ (∀ y, D' y ≠ none → nb < y) := by
  have hlt : ∀ y, D y ≠ none → y < wr.heap.size := fun y hy => h.dom.lt hy
  have hge : ∀ y, D' y ≠ none → wr.heap.size ≤ y := fun y hy => Nat.le_trans h1.size (hm.fresh y hy)
  have hd : ∀ y, D y ≠ none → D' y = none := by
    intro y hy
    cases hc : D' y with
    | none => rfl
    | some q =>
      have := hge y (by rw [hc]; simp)
      have := hlt y hy
      omega
  have hnb : nb < wr.heap.size := hlt nb (by rw [h.node]; simp)
  obtain ⟨ic, hic⟩ : ∃ ic, D' b = some ic := by
    obtain ⟨_, _, ic, hic, _, _, _⟩ := hm.tree
    exact ⟨ic, hic⟩
  have hb : wr.heap.size ≤ b := hge b (by rw [hic]; simp)
  have hDb : D b = none := by
    cases hc : D b with
    | none => rfl
    | some q =>
      have := hlt b (by rw [hc]; simp)
      omega
  refine ⟨ic, hic, (h.dom.below (h1.trans ?_)).union hm.dom hd, uni_left h.node, by rw [uni_right hDb]; exact hic, by omega, hm.root ic hic, by rw [h.root]; simp, hd, fun y hy => by have := hge y hy; omega⟩
  exact ⟨hm.below.os, hm.below.tape, hm.below.output, hm.below.size, fun k hk => hm.below.block k (Nat.lt_of_lt_of_le hk h1.size)⟩

/-- Behind AppendChild. -/
theorem Kept.step {w wr w1 w2 w3 : World} {nb b : Nat} {D D' : Tab} {i ic : Info} {t : T} {box : Obj} {j : Nat} (h : Kept w wr nb D i t box j) (hnb : w.heap.size < nb) (hj : j < t.f4.length) (h1 : Below wr.heap.size wr w1) (hm : Made w1 w2 b D' t.f4[j])
    (hic : D' b = some ic) (hd : ∀ y, D y ≠ none → D' y = none) (hlt : ∀ y, D' y ≠ none → nb < y) (hdom : Dom w3 (appended (uni D D') nb b i ic)) (ho : Only (uni D D') w2 w3) :
    Kept w w3 nb (appended (uni D D') nb b i ic) { i with kids := i.kids ++ [b] } t box (j + 1) := by
  have hbn : b ≠ nb := by have := hlt b (by rw [hic]; simp); omega
  obtain ⟨g1, g2⟩ := grow (n := nb) (c := b) h.node hic hd hlt
  have hlen : ∀ y, uni D D' y ≠ none → nb ≤ y := by
    intro y hy
    cases hD : D y with
    | some q => exact h.fresh y (by rw [hD]; simp)
    | none =>
      rw [uni_right hD] at hy
      exact Nat.le_of_lt (hlt y hy)
  have hB2 : Below w.heap.size w w2 := by
    have a1 : Below w.heap.size w w1 := below_step h.below h1
    exact below_step a1 hm.below
  have hB3 : Below w.heap.size w2 w3 := ho.below hB2.size (fun k hk => by
    cases hc : uni D D' k with
    | none => rfl
    | some q => have := hlen k (by rw [hc]; simp); omega)
  have hwr : w.heap.size < wr.heap.size := (Array.getElem?_eq_some_iff.1 h.box).1
  refine ⟨hdom, ?_, h.root, ⟨h.mt.ty, h.mt.atom, h.mt.data, h.mt.attrs⟩, ?_, ?_, ?_, ?_, hB2.trans hB3⟩
  · unfold appended
    rw [put_other _ _ (Ne.symm hbn), put_same]
  · show (i.kids ++ [b]).length = j + 1
    rw [List.length_append, List.length_singleton, h.len]
  · intro k k1 k2
    by_cases hk : k < i.kids.length
    · have e : (i.kids ++ [b])[k]'(by simpa using k1) = i.kids[k] := List.getElem_append_left hk
      show IsT _ ((i.kids ++ [b])[k]'(by simpa using k1)) _
      rw [e]
      exact (h.kids k hk k2).mono g1
    · have hkj : k = j := by
        have : k < (i.kids ++ [b]).length := k1
        rw [List.length_append, List.length_singleton, h.len] at this
        have := h.len
        omega
      subst hkj
      have e : (i.kids ++ [b])[k]'(by simpa using k1) = b := by
        rw [List.getElem_append_right (by omega)]
        simp [h.len]
      show IsT _ ((i.kids ++ [b])[k]'(by simpa using k1)) _
      rw [e]
      exact hm.tree.mono g2
  · intro y hy
    by_cases hyb : y = b
    · subst hyb
      exact Nat.le_of_lt (hlt y (by rw [hic]; simp))
    · by_cases hyn : y = nb
      · omega
      · unfold appended at hy
        rw [put_other _ _ hyb, put_other _ _ hyn] at hy
        exact hlen y hy
  · have e1 : w1.heap[w.heap.size]? = some box := (h1.block _ hwr).trans h.box
    have e2 : w2.heap[w.heap.size]? = some box := (hm.below.block _ (Nat.lt_of_lt_of_le hwr h1.size)).trans e1
    have l2 : w.heap.size < w2.heap.size := (Array.getElem?_eq_some_iff.1 e2).1
    refine (ho.block _ l2 ?_).trans e2
    cases hc : uni D D' w.heap.size with
    | none => rfl
    | some q => have := hlen w.heap.size (by rw [hc]; simp); omega

/-- Behind the last child. -/
theorem Kept.done {w wr : World} {nb : Nat} {D : Tab} {i : Info} {t : T} {box : Obj} (h : Kept w wr nb D i t box t.f4.length) (hnb : w.heap.size < nb) (hf : ¬ flat t) : Made w wr nb D t := by
  have hk : kidsT t = t.f4 := if_neg hf
  refine ⟨h.dom, IsT.mk nb t i h.node h.mt (by rw [hk]; exact h.len) ?_, fun i' hi' => ?_, fun x hx => Nat.le_trans (Nat.le_of_lt hnb) (h.fresh x hx), h.below⟩
  · intro k k1 k2
    have k3 : k < t.f4.length := by rw [hk] at k2; exact k2
    have e : (kidsT t)[k] = t.f4[k] := by simp only [hk]
    rw [e]
    exact (h.kids k k1 k3).mono (above_sub nb D)
  · rw [h.node] at hi'
    obtain rfl := Option.some.inj hi'
    exact h.root
end Go.Proofs.YtmfjbljdbkmkgaaDoor.Dom

/- impl.made: a tree's nodes, as a table. -/
namespace Go.Proofs.YtmfjbljdbkmkgaaDoor.Dom
open Go.RowKit Go.Proofs.YtmfjbljdbkmkgaaDoorW.PrintWords Go.Proofs.YtmfjbljdbkmkgaaDoorW.PrintLast Go.Proofs.YtmfjbljdbkmkgaaDoorW.PrintMore Go.Proofs.YtmfjbljdbkmkgaaDoor.PDom
set_option linter.unusedVariables false
set_option linter.unusedSimpArgs false

set_option maxHeartbeats 4000000 in
set_option maxRecDepth 100000 in
theorem made_calls : ∀ (n : Nat) (t : T), SizeOf.sizeOf t ≤ n → Fit t → ∀ (w : World) (A3 : Option Addr) (c3 : Nat) (A4 : Option Addr) (c4 : Nat), k38.C w A3 t.f3.length t.f3 → t.f3.length ≤ c3 → k28.C w A4 t.f4.length t.f4 → t.f4.length ≤ c4 →
    Calls Tryd.prog 33 #[.agg #[.int .i64 t.f0, .string t.f1, .string t.f2, .slice A3 t.f3.length c3, .slice A4 t.f4.length c4]] w fun e w' => ∃ b D, e = .returned (ptr (some b)) ∧ Made w w' b D t := by
  intro n
  induction n with
  | zero =>
    intro t h
    cases t
    simp at h
  | succ n ih =>
    intro t hsz hfit w A3 c3 A4 c4 h3 l3 h4 l4
    obtain ⟨f0, f1, f2, f3, f4⟩ := t
    simp only at h3 l3 h4 l4 ⊢
    have HSZ := Aside0.mk hsz
    have HFIT := Aside0.mk hfit
    have H3 := Aside0.mk h3
    have H4 := Aside0.mk h4
    have L3 := Aside0.mk l3
    have L4 := Aside0.mk l4
    have IH := Aside0.mk ih
    clear hsz hfit h3 h4 l3 l4 ih
    by_cases k1 : f0 = 1
    · subst k1
      go_enter Tryd.func33, Tryd.ntmps33
      go_wp2
      go_ret
      exact ⟨_, _, rfl, leaf w _ ⟨1, f1, f2, f3, f4⟩ 1 (.inl rfl) rfl⟩
    · by_cases k2 : f0 = 2
      · subst k2
        go_enter Tryd.func33, Tryd.ntmps33
        go_wp2
        go_ret
        exact ⟨_, _, rfl, leaf w _ ⟨2, f1, f2, f3, f4⟩ 4 (.inr rfl) rfl⟩
      · by_cases k0 : f0 = 0
        · subst k0
          go_enter Tryd.func33, Tryd.ntmps33
          have ht := atom_some f1
          generalize (atom_ZzAtom.f f1).getD 0 = at_ at ht
          have HT := Aside0.mk ht
          clear ht
          go_wp2_with fail
          generalize hw1 : w.alloc (Obj.cells #[Value.int IntKind.i64 0, Value.string f1, Value.string f2, Value.slice A3 f3.length c3, Value.slice A4 f4.length c4] 28) = w1
          have hb1 : w1.cell? ⟨w.heap.size, 1, none⟩ = some (.string f1) := by rw [← hw1]; simp
          go_cut [3] (fun v3 wx => ∃ m : Nat, v3 = .pointer (some ⟨w1.heap.size, 0, none⟩) ∧ wx = (w1.drewN m).alloc (Obj.cells (Rec.cells ⟨none, none, none, none, none, 3, at_, f1, .slice none 0 0⟩) 67))
          case first =>
            go_region_with (go_at_call 48; refine (atom_ZzAtom.calls f1 _ _ HT.out).mono ?_; rintro e w' ⟨rfl, ⟨nd, rfl⟩⟩)
            all_goals (go_wp2_with fail; go_meet; exact ⟨_, rfl, rfl⟩)
          case rest =>
            obtain ⟨m, rfl, rfl⟩ := hcut
            have hs1 : w1.heap.size = w.heap.size + 1 := by rw [← hw1]; show (w.heap.push _).size = _; rw [Array.size_push]
            rw [hs1]
            have hbx : ((w1.drewN m).alloc (Obj.cells (Rec.cells ⟨none, none, none, none, none, 3, at_, f1, .slice none 0 0⟩) 67)).heap[w.heap.size]? = some (.cells #[Value.int IntKind.i64 0, Value.string f1, Value.string f2, Value.slice A3 f3.length c3, Value.slice A4 f4.length c4] 28 (0, 0)) := by
              rw [heap_alloc_old (w1.drewN m) _ (show w.heap.size < w1.heap.size by omega)]
              show w1.heap[w.heap.size]? = _
              rw [← hw1]
              exact heap_alloc_new w _
            have hnd : Has ((w1.drewN m).alloc (Obj.cells (Rec.cells ⟨none, none, none, none, none, 3, at_, f1, .slice none 0 0⟩) 67)) (w.heap.size + 1) ⟨none, none, none, none, none, 3, at_, f1, .slice none 0 0⟩ := by
              rw [← hs1]
              exact heap_alloc_new (w1.drewN m) _
            have hbl : Below w.heap.size w ((w1.drewN m).alloc (Obj.cells (Rec.cells ⟨none, none, none, none, none, 3, at_, f1, .slice none 0 0⟩) 67)) := by
              rw [← hw1]
              exact below_alloc (pw_below_drewN (below_alloc (Below.refl _ _) _) m) _
            generalize (w1.drewN m).alloc (Obj.cells (Rec.cells ⟨none, none, none, none, none, 3, at_, f1, .slice none 0 0⟩) 67) = W at *
            have x3 : W.cell? ⟨w.heap.size, 3, none⟩ = some (Value.slice A3 f3.length c3) := by rw [blk_cell hbx]; rfl
            have HBX := Aside0.mk hbx
            have HND := Aside0.mk hnd
            have HBL := Aside0.mk hbl
            clear hbx hnd hbl hs1 hb1 hw1
            go_wp2_with fail
            go_loopw [24] (fun i wr => ∃ (j : Nat) (v : Value), i = .int .i64 j ∧ j ≤ f3.length ∧ Aside0 (wr.heap[w.heap.size]? = some (.cells #[Value.int IntKind.i64 0, Value.string f1, Value.string f2, Value.slice A3 f3.length c3, Value.slice A4 f4.length c4] 28 (0, 0))) ∧ Aside0 (Has wr (w.heap.size + 1) ⟨none, none, none, none, none, 3, at_, f1, v⟩) ∧ Aside0 (kA.R 75 wr w.heap.size (fun _ => True) v ((f3.map fun a => (a.f0, a.f1)).take j)) ∧ Aside0 (Below w.heap.size w wr)) (fun i _ => f3.length - (intOf i).toNat)
            case atStart => exact ⟨0, _, rfl, Nat.zero_le _, HBX, HND, ⟨Kd.R_nil kA _ _ _ _⟩, HBL⟩
            case round =>
              obtain ⟨j, v, rfl, hj, HX, HN, HA, HB⟩ := hrel
              by_cases hlt : j < f3.length
              · obtain ⟨ad, rfl, hx0, hx1⟩ := at_T38 (Kd.C_below H3.out HB.out) (j : Int) (by omega) (by omega)
                simp only [Int.toNat_natCast] at hx0 hx1
                have he : rd_T38 f3 (j : Int) = f3[j] := by simp [rd_T38, List.getD_eq_getElem?_getD, List.getElem?_eq_getElem hlt]
                have hsn : (f3.map fun a => (a.f0, a.f1)).take (j + 1) = (f3.map fun a => (a.f0, a.f1)).take j ++ [(f3[j].f0, f3[j].f1)] := by
                  rw [List.take_succ_eq_append_getElem (by rw [List.length_map]; exact hlt), List.getElem_map]
                rw [he] at hx0 hx1
                generalize f3[j] = q at hx0 hx1 hsn
                obtain ⟨q0, q1⟩ := q
                simp only at hx0 hx1 hsn
                have HSN := Aside0.mk hsn
                clear he hsn
                go_wp2_with fail
                have hcp : (wr.alloc (Obj.cells #[Value.string q0, Value.string q1] 38)).heap[wr.heap.size]? = some (.cells #[Value.string q0, Value.string q1] 38 (0, 0)) := heap_alloc_new wr _
                have HB8 := Aside0.mk (below_alloc (Below.refl wr.heap.size wr) (Obj.cells #[Value.string q0, Value.string q1] 38))
                generalize wr.alloc (Obj.cells #[Value.string q0, Value.string q1] 38) = w8 at *
                have HN8 := Aside0.mk (HN.out.of_heap (HB8.out.block _ HN.out.lt))
                have n9' : w8.cell? ⟨w.heap.size + 1, 9, none⟩ = some v := HN8.out.cell 9
                have e0 : w8.cell? ⟨wr.heap.size, 0, none⟩ = some (.string q0) := by rw [blk_cell hcp]; rfl
                have e1 : w8.cell? ⟨wr.heap.size, 1, none⟩ = some (.string q1) := by rw [blk_cell hcp]; rfl
                have HA8 := Aside0.mk (Kd.R_below HA.out HB8.out)
                have f9' := HN8.out.frozen 9
                have hlj : ((f3.map fun a => (a.f0, a.f1)).take j).length ≤ 4398046510976 := by
                  obtain ⟨_, ha, _, _⟩ := HFIT.out
                  rw [List.length_take, List.length_map]
                  simp only at ha
                  omega
                have hnew : (w8.alloc (Obj.cells #[.string ⟨#[]⟩, .string q0, .string q1] 75)).heap[w8.heap.size]? = some (.cells #[.string ⟨#[]⟩, .string q0, .string q1] 75 (0, 0)) := heap_alloc_new w8 _
                have HNEW := Aside0.mk hnew
                have HA9 := Aside0.mk (Kd.R_below HA8.out (below_alloc (Below.refl w8.heap.size w8) (Obj.cells #[.string ⟨#[]⟩, .string q0, .string q1] 75)))
                clear hnew
                have hsz8 : w.heap.size ≤ (w8.alloc (Obj.cells #[.string ⟨#[]⟩, .string q0, .string q1] 75)).drew.heap.size := by
                  show w.heap.size ≤ (w8.heap.push _).size
                  rw [Array.size_push]
                  have := HB.out.size
                  have := HB8.out.size
                  omega
                have HSZ8 := Aside0.mk hsz8
                have HX8 := Aside0.mk ((HB8.out.block _ (Array.getElem?_eq_some_iff.1 HX.out).1).trans HX.out)
                have HB88 := Aside0.mk (below_alloc (below_step HB.out HB8.out) (Obj.cells #[.string ⟨#[]⟩, .string q0, .string q1] 75))
                have HNE := Aside0.mk (Kd.R_ne HA8.out HN8.out (by decide))
                have HNE2 := Aside0.mk (Kd.R_ne HA8.out HX8.out (by decide))
                have HBS := Aside0.mk (Kd.R_base HA8.out)
                clear hsz8
                have HLEN := Aside0.mk (show ((f3.map fun a => (a.f0, a.f1)).take j ++ [(q0, q1)]).length = j + 1 by rw [List.length_append, List.length_singleton, List.length_take, List.length_map]; omega)
                have HWJ := Aside0.mk (wrap_succ j (by obtain ⟨_, ha, _, _⟩ := HFIT.out; simp only at ha; omega))
                have n9s : (w8.alloc (Obj.cells #[.string ⟨#[]⟩, .string q0, .string q1] 75)).cell? ⟨w.heap.size + 1, 9, none⟩ = some v := by
                  have h := (heap_alloc_old w8 (Obj.cells #[.string ⟨#[]⟩, .string q0, .string q1] 75) HN8.out.lt).trans HN8.out
                  exact Has.cell h 9
                go_region_law (refine attr_step rfl (.tmp 32) (.tmp 38) 65 (.agg #[.string ⟨#[]⟩, .string ⟨#[]⟩, .string ⟨#[]⟩]) rfl Tryd.underlying65 infoA rfl w.heap.size HSZ8.out v ((f3.map fun a => (a.f0, a.f1)).take j) q0 q1 w8.heap.size (by simp [Act.eval, Act.put]) (by simp [Act.eval, Act.put]) HNEW.out (by exact HA9.out) hlj ?_; intro v1 w9 ho hg; obtain ⟨A9, c9, hv9⟩ := Kd.R_slice ho; rw [HLEN.out] at hv9; subst hv9; have HN9 := Aside0.mk (kept hg HN8.out HNE.out); have HX9 := Aside0.mk (kept hg HX8.out HNE2.out); have HB9 := Aside0.mk (kept_below hg HB88.out HSZ8.out HBS.out); have HO9 := Aside0.mk (attr_round (Nat.lt_succ_self _) HX9.out HN9.out ho HB9.out); clear ho hg; have n9x : w9.cell? ⟨w.heap.size + 1, 9, none⟩ = some v := Has.cell HN9.out 9; have f9x := Has.frozen HN9.out 9)
                all_goals (simp only [Exit.inBlock, Exit.then]; go_wp2_with fail; go_roundw)
                all_goals first
                  | exact ⟨j + 1, _, by rw [HWJ.out], by omega, ⟨HO9.out.1⟩, ⟨HO9.out.2.1⟩, ⟨by rw [HSN.out]; exact HO9.out.2.2.1⟩, ⟨HO9.out.2.2.2⟩⟩
                  | (rw [HWJ.out]; simp [intOf]; omega)
                  | trace_state
              · have hje : j = f3.length := by omega
                subst hje
                have HK := Aside0.mk (Kept.start (t := ⟨0, f1, f2, f3, f4⟩) HN.out (Kd.R_lower HA.out (Nat.zero_le _)) ⟨rfl, (by show at_ = atomOf _; unfold atomOf; rw [if_pos rfl, HT.out]; rfl), rfl, (by show _ = attrsOf _; unfold attrsOf; rw [if_pos rfl, List.take_of_length_le (by rw [List.length_map]; exact Nat.le_refl _)])⟩ HX.out HB.out)
                have x4 : wr.cell? ⟨w.heap.size, 4, none⟩ = some (.slice A4 f4.length c4) := by rw [blk_cell HX.out]; rfl
                clear HX HN HA HB
                go_wp2_with fail
                go_loopw [58] (fun i wr => ∃ (j : Nat) (D : Tab) (i0 : Info), i = .int .i64 j ∧ j ≤ f4.length ∧ Aside0 (Kept w wr (w.heap.size + 1) D i0 ⟨0, f1, f2, f3, f4⟩ (.cells #[Value.int IntKind.i64 0, Value.string f1, Value.string f2, Value.slice A3 f3.length c3, Value.slice A4 f4.length c4] 28 (0, 0)) j)) (fun i _ => f4.length - (intOf i).toNat)
                case atStart => exact ⟨0, _, _, rfl, Nat.zero_le _, HK⟩
                case round =>
                  obtain ⟨j, D, i0, rfl, hj, HK⟩ := hrel
                  by_cases hlt : j < f4.length
                  · obtain ⟨ad, A5, c5, A6, c6, rfl, y0, y1, y2, y3, y4, m3, g3, m4, g4⟩ := at_T28 (Kd.C_below H4.out HK.out.below) (j : Int) (by omega) (by omega)
                    have he : rd_T28 f4 (j : Int) = f4[j] := by simp [rd_T28, List.getD_eq_getElem?_getD, List.getElem?_eq_getElem hlt]
                    rw [he] at y0 y1 y2 y3 y4 m3 g3 m4 g4
                    simp only [Int.toNat_natCast] at y0 y1 y2 y3 y4
                    have hq : f4[j] ∈ f4 := List.getElem_mem _
                    have hfq : Fit f4[j] := by obtain ⟨_, _, _, hk⟩ := HFIT.out; exact hk _ hq
                    have hsq : SizeOf.sizeOf f4[j] ≤ n := by have h1 := kid_lt (t := ⟨0, f1, f2, f3, f4⟩) hq; have h2 := HSZ.out; omega
                    have hget : f4[j] = (⟨0, f1, f2, f3, f4⟩ : T).f4[j] := rfl
                    generalize hqe : f4[j] = q at *
                    have HQE := Aside0.mk hqe
                    obtain ⟨q0, q1, q2, q3, q4⟩ := q
                    simp only at y0 y1 y2 y3 y4 m3 g3 m4 g4
                    have HFQ := Aside0.mk hfq
                    have HSQ := Aside0.mk hsq
                    have G3 := Aside0.mk g3
                    have G4 := Aside0.mk g4
                    have M3 := Aside0.mk m3
                    have M4 := Aside0.mk m4
                    have HWJ := Aside0.mk (wrap_succ j (by obtain ⟨_, _, ha, _⟩ := HFIT.out; simp only at ha; omega))
                    clear he hq hfq hsq hqe m3 g3 m4 g4 hget
                    go_wp2_with fail
                    have HB1 := Aside0.mk (below_alloc (Below.refl wr.heap.size wr) (Obj.cells #[Value.int IntKind.i64 q0, Value.string q1, Value.string q2, Value.slice A5 q3.length c5, Value.slice A6 q4.length c6] 28))
                    refine (IH.out ⟨q0, q1, q2, q3, q4⟩ HSQ.out HFQ.out _ A5 c5 A6 c6 (Kd.C_below G3.out HB1.out) M3.out (Kd.C_below G4.out HB1.out) M4.out).mono ?_
                    rintro e w2 ⟨b, D', rfl, hm⟩
                    have HM := Aside0.mk hm
                    clear hm
                    obtain ⟨ic, hic, hu, hun, hub, hne, hroot, hself, hd, hlt2⟩ := HK.out.ready HB1.out HM.out
                    have RD := Aside0.mk (append_calls w2 (uni D D') (w.heap.size + 1) b i0 ic hu hun hub hne hroot hself)
                    have RS := Aside0.mk (fun w3 => Kept.step (w3 := w3) HK.out (Nat.lt_succ_self _) hlt HB1.out (by rw [← HQE.out] at HM; exact HM.out) hic hd hlt2)
                    clear hic hu hun hub hne hroot hself hd hlt2
                    simp only [ptr] at RD
                    go_wp2_with fail
                    refine RD.out.mono ?_
                    rintro e w3 ⟨rfl, hdom, ho⟩
                    have HK3 := Aside0.mk (RS.out w3 hdom ho)
                    clear hdom ho
                    go_wp2_with fail
                    go_roundw
                    case rel => exact ⟨j + 1, _, _, by rw [HWJ.out], by omega, HK3⟩
                    case measure => rw [HWJ.out]; simp [intOf]; omega
                  · have hje : j = f4.length := by omega
                    subst hje
                    go_wp2_with fail
                    go_ret
                    exact ⟨_, _, rfl, HK.out.done (Nat.lt_succ_self _) (by unfold flat; simp only; omega)⟩
        · have b0 : (f0 == 0) = false := by simp [k0]
          have b1 : (f0 == 1) = false := by simp [k1]
          have b2 : (f0 == 2) = false := by simp [k2]
          have hbx := two_old w (Obj.cells #[Value.int IntKind.i64 f0, Value.string f1, Value.string f2, Value.slice A3 f3.length c3, Value.slice A4 f4.length c4] 28) (Obj.cells #[Value.pointer none, Value.pointer none, Value.pointer none, Value.pointer none, Value.pointer none, Value.int IntKind.u32 2, Value.int IntKind.u32 0, Value.string ⟨#[]⟩, Value.string ⟨#[]⟩, Value.slice none 0 0] 67)
          have hnd : Has ((w.alloc (Obj.cells #[Value.int IntKind.i64 f0, Value.string f1, Value.string f2, Value.slice A3 f3.length c3, Value.slice A4 f4.length c4] 28)).alloc (Obj.cells #[Value.pointer none, Value.pointer none, Value.pointer none, Value.pointer none, Value.pointer none, Value.int IntKind.u32 2, Value.int IntKind.u32 0, Value.string ⟨#[]⟩, Value.string ⟨#[]⟩, Value.slice none 0 0] 67)) (w.heap.size + 1) ⟨none, none, none, none, none, 2, 0, ⟨#[]⟩, .slice none 0 0⟩ := two_new w (Obj.cells #[Value.int IntKind.i64 f0, Value.string f1, Value.string f2, Value.slice A3 f3.length c3, Value.slice A4 f4.length c4] 28) (Obj.cells #[Value.pointer none, Value.pointer none, Value.pointer none, Value.pointer none, Value.pointer none, Value.int IntKind.u32 2, Value.int IntKind.u32 0, Value.string ⟨#[]⟩, Value.string ⟨#[]⟩, Value.slice none 0 0] 67)
          have hbl : Below w.heap.size w ((w.alloc (Obj.cells #[Value.int IntKind.i64 f0, Value.string f1, Value.string f2, Value.slice A3 f3.length c3, Value.slice A4 f4.length c4] 28)).alloc (Obj.cells #[Value.pointer none, Value.pointer none, Value.pointer none, Value.pointer none, Value.pointer none, Value.int IntKind.u32 2, Value.int IntKind.u32 0, Value.string ⟨#[]⟩, Value.string ⟨#[]⟩, Value.slice none 0 0] 67)) := below_alloc (below_alloc (Below.refl _ _) _) _
          have hfl : ¬ flat (⟨f0, f1, f2, f3, f4⟩ : T) := by unfold flat; simp only; omega
          have HK := Aside0.mk (Kept.start (t := ⟨f0, f1, f2, f3, f4⟩) hnd (Kd.R_nil kA _ _ _ _) ⟨(by show (2 : Int) = tyOf f0; unfold tyOf; rw [if_neg k0, if_neg k1, if_neg k2]), (by show (0 : Int) = atomOf _; unfold atomOf; rw [if_neg k0]), (by show _ = dataOf _; unfold dataOf; rw [if_neg k0, if_neg hfl]), (by show _ = attrsOf _; unfold attrsOf; rw [if_neg k0])⟩ hbx hbl)
          clear hbx hnd hbl hfl
          go_enter Tryd.func33, Tryd.ntmps33
          go_wp2_with fail
          go_loopw [58] (fun i wr => ∃ (j : Nat) (D : Tab) (i0 : Info), i = .int .i64 j ∧ j ≤ f4.length ∧ Aside0 (Kept w wr (w.heap.size + 1) D i0 ⟨f0, f1, f2, f3, f4⟩ (.cells #[Value.int IntKind.i64 f0, Value.string f1, Value.string f2, Value.slice A3 f3.length c3, Value.slice A4 f4.length c4] 28 (0, 0)) j)) (fun i _ => f4.length - (intOf i).toNat)
          case atStart => exact ⟨0, _, _, rfl, Nat.zero_le _, HK⟩
          case round =>
            obtain ⟨j, D, i0, rfl, hj, HK⟩ := hrel
            by_cases hlt : j < f4.length
            · obtain ⟨ad, A5, c5, A6, c6, rfl, y0, y1, y2, y3, y4, m3, g3, m4, g4⟩ := at_T28 (Kd.C_below H4.out HK.out.below) (j : Int) (by omega) (by omega)
              have he : rd_T28 f4 (j : Int) = f4[j] := by simp [rd_T28, List.getD_eq_getElem?_getD, List.getElem?_eq_getElem hlt]
              rw [he] at y0 y1 y2 y3 y4 m3 g3 m4 g4
              simp only [Int.toNat_natCast] at y0 y1 y2 y3 y4
              have hq : f4[j] ∈ f4 := List.getElem_mem _
              have hfq : Fit f4[j] := by obtain ⟨_, _, _, hk⟩ := HFIT.out; exact hk _ hq
              have hsq : SizeOf.sizeOf f4[j] ≤ n := by have h1 := kid_lt (t := ⟨f0, f1, f2, f3, f4⟩) hq; have h2 := HSZ.out; omega
              have hget : f4[j] = (⟨f0, f1, f2, f3, f4⟩ : T).f4[j] := rfl
              generalize hqe : f4[j] = q at *
              have HQE := Aside0.mk hqe
              obtain ⟨q0, q1, q2, q3, q4⟩ := q
              simp only at y0 y1 y2 y3 y4 m3 g3 m4 g4
              have HFQ := Aside0.mk hfq
              have HSQ := Aside0.mk hsq
              have G3 := Aside0.mk g3
              have G4 := Aside0.mk g4
              have M3 := Aside0.mk m3
              have M4 := Aside0.mk m4
              have HWJ := Aside0.mk (wrap_succ j (by obtain ⟨_, _, ha, _⟩ := HFIT.out; simp only at ha; omega))
              clear he hq hfq hsq hqe m3 g3 m4 g4 hget
              go_wp2_with fail
              have HB1 := Aside0.mk (below_alloc (Below.refl wr.heap.size wr) (Obj.cells #[Value.int IntKind.i64 q0, Value.string q1, Value.string q2, Value.slice A5 q3.length c5, Value.slice A6 q4.length c6] 28))
              refine (IH.out ⟨q0, q1, q2, q3, q4⟩ HSQ.out HFQ.out _ A5 c5 A6 c6 (Kd.C_below G3.out HB1.out) M3.out (Kd.C_below G4.out HB1.out) M4.out).mono ?_
              rintro e w2 ⟨b, D', rfl, hm⟩
              have HM := Aside0.mk hm
              clear hm
              obtain ⟨ic, hic, hu, hun, hub, hne, hroot, hself, hd, hlt2⟩ := HK.out.ready HB1.out HM.out
              have RD := Aside0.mk (append_calls w2 (uni D D') (w.heap.size + 1) b i0 ic hu hun hub hne hroot hself)
              have RS := Aside0.mk (fun w3 => Kept.step (w3 := w3) HK.out (Nat.lt_succ_self _) hlt HB1.out (by rw [← HQE.out] at HM; exact HM.out) hic hd hlt2)
              clear hic hu hun hub hne hroot hself hd hlt2
              simp only [ptr] at RD
              go_wp2_with fail
              refine RD.out.mono ?_
              rintro e w3 ⟨rfl, hdom, ho⟩
              have HK3 := Aside0.mk (RS.out w3 hdom ho)
              clear hdom ho
              go_wp2_with fail
              go_roundw
              case rel => exact ⟨j + 1, _, _, by rw [HWJ.out], by omega, HK3⟩
              case measure => rw [HWJ.out]; simp [intOf]; omega
            · have hje : j = f4.length := by omega
              subst hje
              go_wp2_with fail
              go_ret
              exact ⟨_, _, rfl, HK.out.done (Nat.lt_succ_self _) (by unfold flat; simp only; omega)⟩
end Go.Proofs.YtmfjbljdbkmkgaaDoor.Dom

/- dom.NodeName of a node of a table. -/
namespace Go.Proofs.YtmfjbljdbkmkgaaDoor.Dom
open Go.RowKit Go.Proofs.YtmfjbljdbkmkgaaDoorW.PrintWords Go.Proofs.YtmfjbljdbkmkgaaDoorW.PrintLast Go.Proofs.YtmfjbljdbkmkgaaDoorW.PrintMore Go.Proofs.YtmfjbljdbkmkgaaDoor.PDom
set_option linter.unusedVariables false
set_option linter.unusedSimpArgs false

abbrev docName : ByteArray := ⟨#[35, 100, 111, 99, 117, 109, 101, 110, 116]⟩
abbrev textName : ByteArray := ⟨#[35, 116, 101, 120, 116]⟩
abbrev commentName : ByteArray := ⟨#[35, 99, 111, 109, 109, 101, 110, 116]⟩
abbrev errorName : ByteArray := ⟨#[35, 101, 114, 114, 111, 114]⟩
def nameOf (i : Info) : ByteArray := if i.ty = 0 then errorName else if i.ty = 1 then textName else if i.ty = 2 then docName else if i.ty = 4 then commentName else if i.ty = 5 then i.data else if i.ty = 3 then i.data else ⟨#[]⟩
theorem node_calls (w : World) (D : Tab) (b : Nat) (i : Info) (h : Dom w D) (hb : D b = some i) :
    Calls Tryd.prog 41 #[ptr (some b)] w fun e w' => e = .returned (.string (nameOf i)) ∧ w' = w := by
  obtain ⟨v, hH, _⟩ := h.has hb
  have c5 : w.cell? ⟨b, 5, none⟩ = some (.int .u32 i.ty) := hH.cell 5
  have c7 : w.cell? ⟨b, 7, none⟩ = some (.string i.data) := hH.cell 7
  unfold nameOf ptr
  clear hH h hb
  generalize i.data = d at *
  generalize i.ty = y at *
  by_cases h0 : y = 0
  · subst h0
    go_enter Tryd.func41, Tryd.ntmps41
    go_wp2; go_ret; exact ⟨rfl, rfl⟩
  · by_cases h1 : y = 1
    · subst h1
      go_enter Tryd.func41, Tryd.ntmps41
      go_wp2; go_ret; exact ⟨rfl, rfl⟩
    · by_cases h2 : y = 2
      · subst h2
        go_enter Tryd.func41, Tryd.ntmps41
        go_wp2; go_ret; exact ⟨rfl, rfl⟩
      · by_cases h4 : y = 4
        · subst h4
          go_enter Tryd.func41, Tryd.ntmps41
          go_wp2; go_ret; exact ⟨rfl, rfl⟩
        · by_cases h5 : y = 5
          · subst h5
            go_enter Tryd.func41, Tryd.ntmps41
            go_wp2; go_ret; exact ⟨rfl, rfl⟩
          · by_cases h3 : y = 3
            · subst h3
              go_enter Tryd.func41, Tryd.ntmps41
              go_wp2; go_ret; exact ⟨rfl, rfl⟩
            · have b0 : (y == 0) = false := by simp [h0]
              have b1 : (y == 1) = false := by simp [h1]
              have b2 : (y == 2) = false := by simp [h2]
              have b3 : (y == 3) = false := by simp [h3]
              have b4 : (y == 4) = false := by simp [h4]
              have b5 : (y == 5) = false := by simp [h5]
              rw [if_neg h0, if_neg h1, if_neg h2, if_neg h4, if_neg h5, if_neg h3]
              go_enter Tryd.func41, Tryd.ntmps41
              go_wp2; go_ret; exact ⟨rfl, rfl⟩
end Go.Proofs.YtmfjbljdbkmkgaaDoor.Dom

/- Trees of nodes, each with its block: what a table holds of one, its nodes in order, their places. Plain facts on tables. -/
namespace Go.Proofs.YtmfjbljdbkmkgaaDoor.Dom
open Go.RowKit Go.Proofs.YtmfjbljdbkmkgaaDoorW.PrintWords Go.Proofs.YtmfjbljdbkmkgaaDoorW.PrintLast Go.Proofs.YtmfjbljdbkmkgaaDoorW.PrintMore Go.Proofs.YtmfjbljdbkmkgaaDoor.PDom
set_option linter.unusedVariables false
set_option linter.unusedSimpArgs false

inductive RT where
  | node (id : Nat) (ty atom : Int) (data : ByteArray) (attrs : List (ByteArray × ByteArray)) (kids : List RT) : RT
namespace RT
def id : RT → Nat | node i _ _ _ _ _ => i
def ty : RT → Int | node _ t _ _ _ _ => t
def atom : RT → Int | node _ _ a _ _ _ => a
def data : RT → ByteArray | node _ _ _ d _ _ => d
def attrs : RT → List (ByteArray × ByteArray) | node _ _ _ _ a _ => a
def kids : RT → List RT | node _ _ _ _ _ k => k
def info (p : Option Nat) : RT → Info | node _ t a d at_ ks => ⟨p, ks.map RT.id, t, a, d, at_⟩
theorem induct {P : RT → Prop} (h : ∀ i t a d at_ ks, (∀ k ∈ ks, P k) → P (node i t a d at_ ks)) : ∀ r, P r := by
  intro r
  refine RT.rec (motive_1 := P) (motive_2 := fun l => ∀ k ∈ l, P k) ?_ ?_ ?_ r
  · intro i t a d at_ ks ih
    exact h i t a d at_ ks ih
  · intro k hk
    cases hk
  · intro x l hx hl k hk
    rcases List.mem_cons.1 hk with rfl | hk
    · exact hx
    · exact hl k hk
mutual
/-- The nodes of a tree, each ahead of those in it. -/
def pre : RT → List Nat
  | node i _ _ _ _ ks => i :: preL ks
def preL : List RT → List Nat
  | [] => []
  | k :: ks => pre k ++ preL ks
end
mutual
/-- The places of these. -/
def paths (p : List Int) : RT → List (List Int)
  | node _ _ _ _ _ ks => p :: pathsL p 0 ks
def pathsL (p : List Int) (j : Nat) : List RT → List (List Int)
  | [] => []
  | k :: ks => paths (p ++ [(j : Int)]) k ++ pathsL p (j + 1) ks
end
theorem preL_append (l m : List RT) : preL (l ++ m) = preL l ++ preL m := by
  induction l with
  | nil => rfl
  | cons k l ih => simp [preL, ih]
theorem mem_preL {x : Nat} {l : List RT} : x ∈ preL l ↔ ∃ k ∈ l, x ∈ pre k := by
  induction l with
  | nil => simp [preL]
  | cons k l ih => simp [preL, ih]
theorem id_mem (r : RT) : r.id ∈ r.pre := by cases r; simp [id, pre]
end RT

/-- The table holds the tree; its root's parent is told besides. -/
inductive Is (D : Tab) : Option Nat → RT → Prop
  | mk (p : Option Nat) (i : Nat) (t a : Int) (d : ByteArray) (at_ : List (ByteArray × ByteArray)) (ks : List RT) (h : D i = some ⟨p, ks.map RT.id, t, a, d, at_⟩) (hk : ∀ k ∈ ks, Is D (some i) k) : Is D p (.node i t a d at_ ks)
theorem Is.root {D : Tab} {p : Option Nat} {r : RT} (h : Is D p r) : D r.id = some (r.info p) := by
  cases h with
  | mk _ _ _ _ _ _ _ h _ => exact h
theorem Is.kid {D : Tab} {p : Option Nat} {r k : RT} (h : Is D p r) (hk : k ∈ r.kids) : Is D (some r.id) k := by
  cases h with
  | mk _ _ _ _ _ _ _ _ h => exact h k hk
/-- The tree as plain data. -/
inductive TellsT : T → RT → Prop
  | mk (t : T) (i : Nat) (a : Int) (ks : List RT) (ha : a = atomOf t) (hl : (kidsT t).length = ks.length) (hk : ∀ j (h1 : j < (kidsT t).length) (h2 : j < ks.length), TellsT (kidsT t)[j] ks[j]) : TellsT t (.node i (tyOf t.f0) a (dataOf t) (attrsOf t) ks)
theorem list_choose {α : Type} {n : Nat} {P : Nat → α → Prop} (h : ∀ j, j < n → ∃ a, P j a) : ∃ l : List α, l.length = n ∧ ∀ j (hj : j < l.length), P j l[j] := by
  induction n with
  | zero => exact ⟨[], rfl, fun j hj => absurd hj (Nat.not_lt_zero _)⟩
  | succ n ih =>
    obtain ⟨l, hl, hp⟩ := ih (fun j hj => h j (by omega))
    obtain ⟨a, ha⟩ := h n (by omega)
    refine ⟨l ++ [a], by simp [hl], fun j hj => ?_⟩
    by_cases hjn : j < l.length
    · rw [List.getElem_append_left hjn]
      exact hp j hjn
    · have : j = n := by simp at hj; omega
      subst this
      rw [List.getElem_append_right (by omega)]
      simpa [hl] using ha
theorem IsT.rt {D : Tab} (wf : WF D) {b : Nat} {t : T} (h : IsT D b t) : ∀ i, D b = some i → ∃ r : RT, r.id = b ∧ Is D i.parent r ∧ TellsT t r := by
  induction h with
  | mk b t i h hm hl hk ih =>
    intro i' hi'
    rw [h] at hi'
    obtain rfl := Option.some.inj hi'
    have key : ∀ j, j < i.kids.length → ∃ r : RT, ∃ (h1 : j < i.kids.length) (h2 : j < (kidsT t).length), r.id = i.kids[j] ∧ Is D (some b) r ∧ TellsT (kidsT t)[j] r := by
      intro j hj
      have h2 : j < (kidsT t).length := by omega
      obtain ⟨ic, hic, hp⟩ := wf.down h (List.getElem_mem hj)
      obtain ⟨r, h3, h4, h5⟩ := ih j hj h2 ic hic
      rw [hp] at h4
      exact ⟨r, hj, h2, h3, h4, h5⟩
    obtain ⟨ks, hks, hkp⟩ := list_choose key
    have hids : ks.map RT.id = i.kids := by
      apply List.ext_getElem (by simp [hks])
      intro j h1 h2
      obtain ⟨_, _, h3, _⟩ := hkp j (by simpa using h1)
      simpa using h3
    refine ⟨.node b i.ty i.atom i.data i.attrs ks, rfl, ?_, ?_⟩
    · refine Is.mk _ _ _ _ _ _ _ ?_ ?_
      · rw [h, hids]
      · intro k hk'
        obtain ⟨j, hj, rfl⟩ := List.getElem_of_mem hk'
        obtain ⟨_, _, _, h4, _⟩ := hkp j hj
        exact h4
    · rw [hm.ty, hm.data, hm.attrs]
      refine TellsT.mk t b i.atom ks hm.atom (by omega) ?_
      intro j h1 h2
      obtain ⟨_, _, _, _, h5⟩ := hkp j h2
      exact h5

/-! ### Places -/
inductive All2 {α β : Type} (R : α → β → Prop) : List α → List β → Prop
  | nil : All2 R [] []
  | cons {a b l m} (h : R a b) (t : All2 R l m) : All2 R (a :: l) (b :: m)
theorem All2.append {α β : Type} {R : α → β → Prop} {l l' : List α} {m m' : List β} (h : All2 R l m) (h' : All2 R l' m') : All2 R (l ++ l') (m ++ m') := by
  induction h with
  | nil => exact h'
  | cons h _ ih => exact .cons h ih
theorem All2.length {α β : Type} {R : α → β → Prop} {l : List α} {m : List β} (h : All2 R l m) : l.length = m.length := by
  induction h with
  | nil => rfl
  | cons _ _ ih => simp [ih]
theorem All2.imp {α β : Type} {R S : α → β → Prop} {l : List α} {m : List β} (h : All2 R l m) (hs : ∀ a ∈ l, ∀ b, R a b → S a b) : All2 S l m := by
  induction h with
  | nil => exact .nil
  | cons h _ ih => exact .cons (hs _ List.mem_cons_self _ h) (ih fun a ha b => hs a (List.mem_cons_of_mem _ ha) b)
/-- The node x stands at a place below the root. -/
inductive PathTo (D : Tab) (root : Nat) : Nat → List Int → Prop
  | root (i : Info) (h : D root = some i) (hp : i.parent = none) : PathTo D root root []
  | kid (p x j : Nat) (path : List Int) (ip ix : Info) (h : PathTo D root p path) (hp : D p = some ip) (hj : ip.kids[j]? = some x) (hx : D x = some ix) (hxp : ix.parent = some p) : PathTo D root x (path ++ [(j : Int)])
theorem Is.paths {D : Tab} {root : Nat} (r : RT) : ∀ (p : Option Nat) (path : List Int), Is D p r → PathTo D root r.id path → All2 (PathTo D root) r.pre (r.paths path) := by
  induction r using RT.induct with
  | h i t a d at_ ks ih =>
    intro p path h hp
    have hD : D i = some ⟨p, ks.map RT.id, t, a, d, at_⟩ := h.root
    show All2 _ (i :: RT.preL ks) (path :: RT.pathsL path 0 ks)
    refine .cons hp ?_
    have key : ∀ (l done : List RT), ks = done ++ l → All2 (PathTo D root) (RT.preL l) (RT.pathsL path done.length l) := by
      intro l
      induction l with
      | nil => exact fun _ _ => .nil
      | cons k l ihl =>
        intro done e
        have hk : k ∈ ks := by rw [e]; simp
        have hik := h.kid (k := k) hk
        have hpk : PathTo D root k.id (path ++ [(done.length : Int)]) := PathTo.kid i k.id done.length path _ _ hp hD (by simp [e]) hik.root (by cases k; rfl)
        have h2 := ihl (done ++ [k]) (by simp [e])
        rw [List.length_append, List.length_singleton] at h2
        exact (ih k hk (some i) _ hik hpk).append h2
    exact key ks [] rfl
end Go.Proofs.YtmfjbljdbkmkgaaDoor.Dom

/- impl.pathOf of a node of a table: the indices on the way from the root. -/
namespace Go.Proofs.YtmfjbljdbkmkgaaDoor.Dom
open Go.RowKit Go.Proofs.YtmfjbljdbkmkgaaDoorW.PrintWords Go.Proofs.YtmfjbljdbkmkgaaDoorW.PrintLast Go.Proofs.YtmfjbljdbkmkgaaDoorW.PrintMore Go.Proofs.YtmfjbljdbkmkgaaDoor.PDom
set_option linter.unusedVariables false
set_option linter.unusedSimpArgs false

/-- The sibling ahead of the m-th child. -/
theorem prev_at {l : List Nat} (hnd : l.Nodup) {m : Nat} (h : m < l.length) : prevIn l l[m] = (l.take m).getLast? := by
  have e : l = l.take m ++ l[m] :: l.drop (m + 1) := by
    rw [← List.drop_eq_getElem_cons h, List.take_append_drop]
  have hnd2 : (l.take m ++ l[m] :: l.drop (m + 1)).Nodup := by rw [← e]; exact hnd
  have h2 := (nodup_split hnd2).2.1
  have h3 := prevIn_split (l1 := l.take m) (l2 := l.drop (m + 1)) (b := l[m]) h2
  rw [← e] at h3
  exact h3
theorem next_at {l : List Nat} (hnd : l.Nodup) {m : Nat} (h : m < l.length) : nextIn l l[m] = l[m + 1]? := by
  have e : l = l.take m ++ l[m] :: l.drop (m + 1) := by
    rw [← List.drop_eq_getElem_cons h, List.take_append_drop]
  have hnd2 : (l.take m ++ l[m] :: l.drop (m + 1)).Nodup := by rw [← e]; exact hnd
  have h3 := nextIn_split (l1 := l.take m) (l2 := l.drop (m + 1)) (b := l[m]) (nodup_split hnd2).1
  rw [← e] at h3
  rw [h3]
  simp [List.head?_drop]
/-- What a child's block tells of its place. -/
theorem kid_cells {w : World} {D : Tab} (h : Dom w D) {p : Nat} {ip : Info} (hp : D p = some ip) {m : Nat} (hm : m < ip.kids.length) :
    w.cell? ⟨ip.kids[m], 0, none⟩ = some (ptr (some p)) ∧ w.cell? ⟨ip.kids[m], 3, none⟩ = some (ptr (ip.kids.take m).getLast?) ∧ w.cell? ⟨ip.kids[m], 4, none⟩ = some (ptr ip.kids[m + 1]?) := by
  obtain ⟨ix, hx, hxp⟩ := h.wf.down hp (List.getElem_mem hm)
  obtain ⟨v, hv, _⟩ := h.has hx
  refine ⟨?_, ?_, ?_⟩
  · rw [hv.cells10.1]
    show some (ptr ix.parent) = _
    rw [hxp]
  · rw [hv.cells10.2.2.2.1]
    show some (ptr (prevIn (sibs D ix) ip.kids[m])) = _
    rw [sibs_some hxp, kidsOf_some hp, prev_at (h.wf.nodup hp) hm]
  · rw [hv.cells10.2.2.2.2.1]
    show some (ptr (nextIn (sibs D ix) ip.kids[m])) = _
    rw [sibs_some hxp, kidsOf_some hp, next_at (h.wf.nodup hp) hm]

end Go.Proofs.YtmfjbljdbkmkgaaDoor.Dom

/- dom.AllNodes: the nodes of a tree, in order. -/
namespace Go.Proofs.YtmfjbljdbkmkgaaDoor.Dom
open Go.RowKit Go.Proofs.YtmfjbljdbkmkgaaDoorW.PrintWords Go.Proofs.YtmfjbljdbkmkgaaDoorW.PrintLast Go.Proofs.YtmfjbljdbkmkgaaDoorW.PrintMore Go.Proofs.YtmfjbljdbkmkgaaDoor.PDom
set_option linter.unusedVariables false
set_option linter.unusedSimpArgs false

theorem ptr_some (x : Nat) : ptr (some x) = .pointer (some ⟨x, 0, none⟩) := rfl
theorem ptr_none : ptr none = .pointer none := rfl
/-- A pointer to a node. -/
abbrev kP : Kd Nat := Kd.scalar (fun b => ptr (some b)) (fun _ => rfl)
theorem infoP : (Tryd.prog.info? 40).map (fun i => (i.zero, i.size, i.bytes)) = some (some (.pointer none), 1, 8) := by kernel_rfl
/-- What a node's block tells of its first child; what a child's block tells of the next one. -/
theorem Is.first {w : World} {D : Tab} (h : Dom w D) {p : Option Nat} {r : RT} (hr : Is D p r) : w.cell? ⟨r.id, 1, none⟩ = some (ptr (r.kids[0]?.map RT.id)) := by
  obtain ⟨v, hv, _⟩ := h.has hr.root
  rw [hv.cells10.2.1]
  show some (ptr ((r.info p).kids.head?)) = _
  cases r with
  | node i t a d at_ ks =>
    show some (ptr ((ks.map RT.id).head?)) = some (ptr (ks[0]?.map RT.id))
    cases ks <;> rfl
theorem Is.next {w : World} {D : Tab} (h : Dom w D) {p : Option Nat} {r : RT} (hr : Is D p r) {j : Nat} (hj : j < r.kids.length) : w.cell? ⟨r.kids[j].id, 4, none⟩ = some (ptr (r.kids[j + 1]?.map RT.id)) := by
  have hi := hr.root
  have hk : (r.info p).kids = r.kids.map RT.id := by cases r; rfl
  have hl : j < (r.info p).kids.length := by rw [hk, List.length_map]; exact hj
  have h1 := (kid_cells h hi hl).2.2
  simpa only [hk, List.getElem_map, List.getElem?_map] using h1
end Go.Proofs.YtmfjbljdbkmkgaaDoor.Dom

/- dom's first children and siblings, of all nodes and of elements alone. Printed by the program gen_sib.py of this session. -/
namespace Go.Proofs.YtmfjbljdbkmkgaaDoor.Dom
open Go.RowKit Go.Proofs.YtmfjbljdbkmkgaaDoorW.PrintWords Go.Proofs.YtmfjbljdbkmkgaaDoorW.PrintLast Go.Proofs.YtmfjbljdbkmkgaaDoorW.PrintMore Go.Proofs.YtmfjbljdbkmkgaaDoor.PDom
set_option linter.unusedVariables false
set_option linter.unusedSimpArgs false

def tyAt (D : Tab) (c : Nat) : Int := match D c with
  | some i => i.ty
  | none => 0
theorem ty_cell {w : World} {D : Tab} (h : Dom w D) {c : Nat} {i : Info} (hc : D c = some i) : w.cell? ⟨c, 5, none⟩ = some (.int .u32 (tyAt D c)) := by
  obtain ⟨v, hv, _⟩ := h.has hc
  have e : tyAt D c = i.ty := by unfold tyAt; rw [hc]
  rw [e]
  exact hv.cells10.2.2.2.2.2.1
end Go.Proofs.YtmfjbljdbkmkgaaDoor.Dom

/- dom.UNSTABLE_initGetNeighbor's function: the first child, or the next one beside, or the next one beside an ancestor. -/
namespace Go.Proofs.YtmfjbljdbkmkgaaDoor.Dom
open Go.RowKit Go.Proofs.YtmfjbljdbkmkgaaDoorW.PrintWords Go.Proofs.YtmfjbljdbkmkgaaDoorW.PrintLast Go.Proofs.YtmfjbljdbkmkgaaDoorW.PrintMore Go.Proofs.YtmfjbljdbkmkgaaDoor.PDom
set_option linter.unusedVariables false
set_option linter.unusedSimpArgs false

def TellsB (w : World) (D : Tab) (f : Nat) (cs : Array Value) (g : Nat → Bool) : Prop := ∀ x, D x ≠ none → Calls Tryd.prog f (#[ptr (some x)] ++ cs) w fun e w' => e = .returned (.bool (g x)) ∧ w' = w
end Go.Proofs.YtmfjbljdbkmkgaaDoor.Dom

/- impl.at: the node at a place. -/
namespace Go.Proofs.YtmfjbljdbkmkgaaDoor.Dom
open Go.RowKit Go.Proofs.YtmfjbljdbkmkgaaDoorW.PrintWords Go.Proofs.YtmfjbljdbkmkgaaDoorW.PrintLast Go.Proofs.YtmfjbljdbkmkgaaDoorW.PrintMore Go.Proofs.YtmfjbljdbkmkgaaDoor.PDom
set_option linter.unusedVariables false
set_option linter.unusedSimpArgs false

/-- The node at a place. -/
def RT.at_ : RT → List Int → Option RT
  | r, [] => some r
  | r, k :: l => if 0 ≤ k then (r.kids[k.toNat]?).bind fun y => RT.at_ y l else none
theorem RT.preL_len (l : List RT) : l.length ≤ (RT.preL l).length ∧ ∀ k ∈ l, k.pre.length ≤ (RT.preL l).length := by
  induction l with
  | nil => exact ⟨Nat.le_refl _, fun k hk => by cases hk⟩
  | cons x l ih =>
    have hx : 0 < x.pre.length := by cases x; simp [RT.pre]
    simp only [RT.preL, List.length_append, List.length_cons]
    refine ⟨by omega, fun k hk => ?_⟩
    rcases List.mem_cons.1 hk with rfl | hk
    · omega
    · have := ih.2 k hk
      omega
theorem RT.kids_lt (r : RT) : r.kids.length < r.pre.length := by
  cases r with
  | node i t a d at_ ks =>
    have := (RT.preL_len ks).1
    simp only [RT.kids, RT.pre, List.length_cons]
    omega
theorem RT.kid_pre {r k : RT} (h : k ∈ r.kids) : k.pre.length < r.pre.length := by
  cases r with
  | node i t a d at_ ks =>
    have := (RT.preL_len ks).2 k h
    simp only [RT.pre, List.length_cons]
    omega
end Go.Proofs.YtmfjbljdbkmkgaaDoor.Dom

/- A table holds one tree at a node; no node of a tree is met twice. Plain facts. -/
namespace Go.Proofs.YtmfjbljdbkmkgaaDoor.Dom
open Go.RowKit Go.Proofs.YtmfjbljdbkmkgaaDoorW.PrintWords Go.Proofs.YtmfjbljdbkmkgaaDoorW.PrintLast Go.Proofs.YtmfjbljdbkmkgaaDoorW.PrintMore Go.Proofs.YtmfjbljdbkmkgaaDoor.PDom
set_option linter.unusedVariables false
set_option linter.unusedSimpArgs false

theorem Is.inj {D : Tab} (r : RT) : ∀ {p q : Option Nat} {y : RT}, Is D p r → Is D q y → r.id = y.id → r = y := by
  induction r using RT.induct with
  | h i t a d at_ ks ih =>
    intro p q y hr hy e
    cases y with
    | node i2 t2 a2 d2 at2 ks2 =>
      have e : i = i2 := e
      subst e
      have h1 : D i = some ⟨p, ks.map RT.id, t, a, d, at_⟩ := hr.root
      have h2 : D i = some ⟨q, ks2.map RT.id, t2, a2, d2, at2⟩ := hy.root
      rw [h1] at h2
      injection h2 with h2
      injection h2 with _ h3 h4 h5 h6 h7
      subst h4 h5 h6 h7
      have hl : ks.length = ks2.length := by
        have := congrArg List.length h3
        simpa using this
      have : ks = ks2 := by
        apply List.ext_getElem hl
        intro j hj1 hj2
        refine ih _ (List.getElem_mem hj1) (hr.kid (List.getElem_mem hj1)) (hy.kid (List.getElem_mem hj2)) ?_
        have h8 : (ks.map RT.id)[j]'(by simpa using hj1) = (ks2.map RT.id)[j]'(by simpa using hj2) := by simp only [h3]
        simpa using h8
      rw [this]
theorem Is.sub {D : Tab} (r : RT) : ∀ {p : Option Nat} {x : Nat}, Is D p r → x ∈ r.pre → ∃ q y, Is D q y ∧ y.id = x ∧ y.pre.length ≤ r.pre.length ∧ (x = r.id ∨ ∃ z, q = some z ∧ z ∈ r.pre) := by
  induction r using RT.induct with
  | h i t a d at_ ks ih =>
    intro p x hr hx
    have hx2 : x = i ∨ x ∈ RT.preL ks := by simpa [RT.pre] using hx
    rcases hx2 with rfl | hx2
    · exact ⟨p, _, hr, rfl, Nat.le_refl _, .inl rfl⟩
    · obtain ⟨k, hk, hxk⟩ := RT.mem_preL.1 hx2
      obtain ⟨q, y, h1, h2, h3, h4⟩ := ih k hk (hr.kid hk) hxk
      have h5 : k.pre.length < (RT.node i t a d at_ ks).pre.length := RT.kid_pre (r := .node i t a d at_ ks) hk
      rcases h4 with h4 | ⟨z, rfl, hz⟩
      · have hyk : y = k := (Is.inj k (hr.kid hk) h1 (by rw [h2, h4])).symm
        subst hyk
        exact ⟨some i, y, hr.kid hk, h2, by omega, .inr ⟨i, rfl, by simp [RT.pre]⟩⟩
      · exact ⟨some z, y, h1, h2, by omega, .inr ⟨z, rfl, by simp only [RT.pre, List.mem_cons]; exact .inr (RT.mem_preL.2 ⟨k, hk, hz⟩)⟩⟩
/-- A node isn't met again below itself. -/
theorem Is.proper {D : Tab} {p : Option Nat} {r k : RT} {x : Nat} (h : Is D p r) (hk : k ∈ r.kids) (hx : x ∈ k.pre) : x ≠ r.id := by
  intro e
  obtain ⟨q, y, h1, h2, h3, _⟩ := Is.sub k (h.kid hk) hx
  have hy : r = y := Is.inj r h h1 (by rw [h2, e])
  have h4 := RT.kid_pre hk
  rw [hy] at h4
  omega
theorem Is.parent_of {D : Tab} {q : Option Nat} {y : RT} (h : Is D q y) {i : Info} (hi : D y.id = some i) : i.parent = q := by
  have := h.root
  rw [hi] at this
  obtain rfl := Option.some.inj this
  cases y
  rfl
/-- The children's trees have no node in common. -/
theorem Is.apart {D : Tab} {p : Option Nat} {r : RT} (wf : WF D) (h : Is D p r) : ∀ (n : Nat) {k1 k2 : RT} {x : Nat}, k1 ∈ r.kids → k2 ∈ r.kids → x ∈ k1.pre → x ∈ k2.pre → k1.pre.length ≤ n → k1.id = k2.id := by
  intro n
  -- the way up from x meets a child of r in each case
  have key : ∀ (m : Nat) (k1 : RT), k1 ∈ r.kids → ∀ (q : Option Nat) (y : RT), Is D q y → y.id ∈ k1.pre → ∀ (k2 : RT), k2 ∈ r.kids → y.id ∈ k2.pre → k1.pre.length - y.pre.length ≤ m → k1.id = k2.id := by
    intro m
    induction m with
    | zero =>
      intro k1 hk1 q y hy h1 k2 hk2 h2 hm
      obtain ⟨q1, y1, a1, a2, a3, a4⟩ := Is.sub k1 (h.kid hk1) h1
      have e1 : y1 = y := Is.inj y1 a1 hy a2
      subst e1
      rcases a4 with a4 | ⟨z, rfl, hz⟩
      · obtain ⟨q2, y2, b1, b2, b3, b4⟩ := Is.sub k2 (h.kid hk2) h2
        rcases b4 with b4 | ⟨z, rfl, hz⟩
        · rw [← a4, ← b4]
        · have e2 : y2 = y1 := Is.inj y2 b1 hy b2
          subst e2
          have e3 : k1 = y2 := Is.inj k1 (h.kid hk1) hy (by rw [a4])
          subst e3
          have e4 := Is.parent_of b1 (h.kid hk1).root
          have e5 := Is.parent_of (h.kid hk1) (h.kid hk1).root
          rw [e4] at e5
          have e6 : z = r.id := Option.some.inj e5
          exact absurd e6 (h.proper hk2 hz)
      · exfalso
        obtain ⟨q3, y3, c1, c2, c3, _⟩ := Is.sub k1 (h.kid hk1) hz
        have hyk : y1.id ∈ (y3.info q3).kids := by
          obtain ⟨ip, d1, d2⟩ := wf.up a1.root (show (y1.info (some z)).parent = some z by cases y1; rfl)
          have := c1.root
          rw [c2, d1] at this
          obtain rfl := Option.some.inj this
          exact d2
        have e7 : (y3.info q3).kids = y3.kids.map RT.id := by cases y3; rfl
        rw [e7] at hyk
        obtain ⟨y4, d3, d4⟩ := List.mem_map.1 hyk
        have e8 : y4 = y1 := Is.inj y4 (c1.kid d3) a1 d4
        subst e8
        have := RT.kid_pre d3
        omega
    | succ m ih =>
      intro k1 hk1 q y hy h1 k2 hk2 h2 hm
      obtain ⟨q1, y1, a1, a2, a3, a4⟩ := Is.sub k1 (h.kid hk1) h1
      have e1 : y1 = y := Is.inj y1 a1 hy a2
      subst e1
      obtain ⟨q2, y2, b1, b2, b3, b4⟩ := Is.sub k2 (h.kid hk2) h2
      have e2 : y2 = y1 := Is.inj y2 b1 hy b2
      subst e2
      have hq : q1 = q2 := (Is.parent_of a1 a1.root).symm.trans (Is.parent_of b1 a1.root)
      subst hq
      rcases a4 with a4 | ⟨z, rfl, hz⟩
      · rcases b4 with b4 | ⟨z, rfl, hz⟩
        · rw [← a4, ← b4]
        · have e3 : k1 = y2 := Is.inj k1 (h.kid hk1) hy (by rw [a4])
          subst e3
          have e5 := Is.parent_of (h.kid hk1) (h.kid hk1).root
          rw [Is.parent_of a1 (h.kid hk1).root] at e5
          have e6 : z = r.id := Option.some.inj e5
          exact absurd e6 (h.proper hk2 hz)
      · rcases b4 with b4 | ⟨z2, hz2, hz3⟩
        · have e3 : k2 = y2 := Is.inj k2 (h.kid hk2) hy (by rw [b4])
          subst e3
          have e5 := Is.parent_of (h.kid hk2) (h.kid hk2).root
          rw [Is.parent_of a1 (h.kid hk2).root] at e5
          have e6 : z = r.id := Option.some.inj e5
          exact absurd e6 (h.proper hk1 hz)
        · have e9 : z = z2 := Option.some.inj hz2
          subst e9
          obtain ⟨q3, y3, c1, c2, c3, _⟩ := Is.sub k1 (h.kid hk1) hz
          have hyk : y2.id ∈ (y3.info q3).kids := by
            obtain ⟨ip, d1, d2⟩ := wf.up a1.root (show (y2.info (some z)).parent = some z by cases y2; rfl)
            have := c1.root
            rw [c2, d1] at this
            obtain rfl := Option.some.inj this
            exact d2
          have e7 : (y3.info q3).kids = y3.kids.map RT.id := by cases y3; rfl
          rw [e7] at hyk
          obtain ⟨y4, d3, d4⟩ := List.mem_map.1 hyk
          have e8 : y4 = y2 := Is.inj y4 (c1.kid d3) a1 d4
          subst e8
          have hlt := RT.kid_pre d3
          exact ih k1 hk1 q3 y3 c1 (by rw [c2]; exact hz) k2 hk2 (by rw [c2]; exact hz3) (by omega)
  intro k1 k2 x hk1 hk2 h1 h2 _
  obtain ⟨q, y, a1, a2, _, _⟩ := Is.sub k1 (h.kid hk1) h1
  exact key k1.pre.length k1 hk1 q y a1 (by rw [a2]; exact h1) k2 hk2 (by rw [a2]; exact h2) (by omega)
theorem Is.nodup {D : Tab} (wf : WF D) (r : RT) : ∀ {p : Option Nat}, Is D p r → r.pre.Nodup := by
  induction r using RT.induct with
  | h i t a d at_ ks ih =>
    intro p hr
    have hkn : (ks.map RT.id).Nodup := wf.nodup hr.root
    show (i :: RT.preL ks).Nodup
    rw [List.nodup_cons]
    refine ⟨fun hi => ?_, ?_⟩
    · obtain ⟨k, hk, hx⟩ := RT.mem_preL.1 hi
      exact hr.proper (r := .node i t a d at_ ks) hk hx rfl
    · have key : ∀ (l l1 : List RT), ks = l1 ++ l → (RT.preL l).Nodup := by
        intro l
        induction l with
        | nil => exact fun _ _ => List.nodup_nil
        | cons k l ihl =>
          intro l1 e
          have hk : k ∈ ks := by rw [e]; simp
          have h1 := ihl (l1 ++ [k]) (by rw [e]; simp)
          have h2 := ih k hk (hr.kid (r := .node i t a d at_ ks) hk)
          simp only [RT.preL]
          rw [List.nodup_append]
          refine ⟨h2, h1, fun x hx y hy exy => ?_⟩
          subst exy
          obtain ⟨k2, hk2, hx2⟩ := RT.mem_preL.1 hy
          have hk2' : k2 ∈ ks := by rw [e]; simp [hk2]
          have e3 := Is.apart wf hr (r := .node i t a d at_ ks) k.pre.length hk hk2' hx hx2 (Nat.le_refl _)
          rw [e, List.map_append, List.map_cons, List.nodup_append] at hkn
          have h4 := (List.nodup_cons.1 hkn.2.1).1
          exact h4 (by rw [e3]; exact List.mem_map_of_mem hk2)
      exact key ks [] rfl
end Go.Proofs.YtmfjbljdbkmkgaaDoor.Dom

/- impl.named: a function that tells whether a node is an element of one of some names. -/
namespace Go.Proofs.YtmfjbljdbkmkgaaDoor.Dom
open Go.RowKit Go.Proofs.YtmfjbljdbkmkgaaDoorW.PrintWords Go.Proofs.YtmfjbljdbkmkgaaDoorW.PrintLast Go.Proofs.YtmfjbljdbkmkgaaDoorW.PrintMore Go.Proofs.YtmfjbljdbkmkgaaDoor.PDom
set_option linter.unusedVariables false
set_option linter.unusedSimpArgs false

def elemD (D : Tab) (names : List ByteArray) (x : Nat) : Bool := match D x with
  | some i => i.ty == 3 && names.any fun s => i.data.toList == s.toList
  | none => false
theorem any_dropN {α : Type} {l : List α} {P : α → Bool} {m : Nat} (h : m < l.length) : (l.drop m).any P = if P l[m] = true then true else (l.drop (m + 1)).any P := by
  rw [List.drop_eq_getElem_cons h, List.any_cons]
  cases P l[m] <;> rfl
set_option maxHeartbeats 400000 in
set_option maxRecDepth 100000 in
theorem named1_calls (w : World) (D : Tab) (hdom : Dom w D) (b : Nat) (A : Option Addr) (c : Nat) (names : List ByteArray) (hb : w.heap[b]? = some (.cells #[.slice A names.length c] 22 (0, 0))) (hr : Kd.string.C w A names.length names) (hl : names.length ≤ 4611686018427387904) :
    TellsB w D 40 #[.pointer (some ⟨b, 0, none⟩)] (elemD D names) := by
  intro x hx
  cases hi : D x with
  | none => exact absurd hi hx
  | some i =>
    have e : elemD D names x = (i.ty == 3 && names.any fun s => i.data.toList == s.toList) := by unfold elemD; rw [hi]
    rw [e]
    have HN := Aside0.mk (node_calls w D x i hdom hi)
    have c5 := ty_cell hdom hi
    have e5 : tyAt D x = i.ty := by unfold tyAt; rw [hi]
    rw [e5] at c5
    have HR := Aside0.mk hr
    have c0 : w.cell? ⟨b, 0, none⟩ = some (.slice A names.length c) := by rw [blk_cell hb]; rfl
    clear hx hi hb hr e e5 hdom
    obtain ⟨p, ks, ty, at_, d, as_⟩ := i
    by_cases t3 : ty = 3
    · subst t3
      have hn : nameOf ⟨p, ks, 3, at_, d, as_⟩ = d := rfl
      rw [hn] at HN
      simp only at c5 ⊢
      clear hn
      show Calls _ _ #[ptr (some x), .pointer (some ⟨b, 0, none⟩)] _ _
      simp only [ptr_some] at HN ⊢
      go_enter Tryd.func40, Tryd.ntmps40
      go_wp2_with fail
      go_loop [8] (fun vi => ∃ j : Nat, j ≤ names.length ∧ vi = .int .i64 j ∧ Aside0 ((names.any fun s => d.toList == s.toList) = (names.drop j).any fun s => d.toList == s.toList)) (fun vi => names.length - (intOf vi).toNat)
      case atStart => exact ⟨0, Nat.zero_le _, rfl, ⟨by rw [List.drop_zero]⟩⟩
      case round =>
        obtain ⟨j, hj, rfl, HF⟩ := hrel
        by_cases hlt : j < names.length
        · obtain ⟨ad, rfl, hcell⟩ := Kd.at_string HR.out (j : Int) (by omega) (by omega)
          have he : rdOf ByteArray.empty names (j : Int) = names[j] := by simp [rdOf, List.getD_eq_getElem?_getD, List.getElem?_eq_getElem hlt]
          rw [he, Int.toNat_natCast] at hcell
          have HD := Aside0.mk (any_dropN (P := fun s => d.toList == s.toList) hlt)
          clear he
          generalize names[j] = s at *
          cases hq : (d.toList == s.toList) with
          | true =>
            have HQ := Aside0.mk hq
            go_wp2_with (go_at_call 41; go_must (refine HN.out.mono ?_; rintro e w' ⟨rfl, rfl⟩))
            go_ret
            refine ⟨?_, rfl⟩
            rw [HF.out, HD.out, HQ.out]
            rfl
          | false =>
            have HQ := Aside0.mk hq
            go_wp2_with (go_at_call 41; go_must (refine HN.out.mono ?_; rintro e w' ⟨rfl, rfl⟩))
            go_round
            case rel => exact ⟨j + 1, by omega, by go_num, ⟨by rw [HF.out, HD.out, HQ.out]; rfl⟩⟩
            case measure => simp [intOf]; omega
        · have hje : j = names.length := by omega
          subst hje
          go_wp2_with fail
          go_ret
          refine ⟨?_, rfl⟩
          rw [HF.out, List.drop_length]
          rfl
    · have b3 : (ty == 3) = false := beq_eq_false_iff_ne.2 t3
      simp only at c5 ⊢
      rw [b3]
      show Calls _ _ #[ptr (some x), .pointer (some ⟨b, 0, none⟩)] _ _
      simp only [ptr_some] at HN ⊢
      clear HN t3
      go_enter Tryd.func40, Tryd.ntmps40
      go_wp2_with fail
      go_loop [8] (fun vi => ∃ j : Nat, j ≤ names.length ∧ vi = .int .i64 j) (fun vi => names.length - (intOf vi).toNat)
      case atStart => exact ⟨0, Nat.zero_le _, rfl⟩
      case round =>
        obtain ⟨j, hj, rfl⟩ := hrel
        by_cases hlt : j < names.length
        · obtain ⟨ad, rfl, hcell⟩ := Kd.at_string HR.out (j : Int) (by omega) (by omega)
          have he : rdOf ByteArray.empty names (j : Int) = names[j] := by simp [rdOf, List.getD_eq_getElem?_getD, List.getElem?_eq_getElem hlt]
          rw [he, Int.toNat_natCast] at hcell
          clear he
          generalize names[j] = s at *
          go_wp2_with fail
          go_round
          case rel => exact ⟨j + 1, by omega, by go_num⟩
          case measure => simp [intOf]; omega
        · have hje : j = names.length := by omega
          subst hje
          go_wp2_with fail
          go_ret
          exact ⟨rfl, rfl⟩
theorem named_calls (w : World) (A : Option Addr) (n c : Nat) :
    Calls Tryd.prog 20 #[.slice A n c] w fun e w' => e = .returned (.func (Fn.func 40) #[] #[.pointer (some ⟨w.heap.size, 0, none⟩)]) ∧ w' = w.alloc (.cells #[.slice A n c] 22) := by
  have hmf : ∀ (fn : Fn) (first cap : Array Value) (w : World), (Instr.makeFunc fn first cap).run Tryd.prog w = .ok (.func fn first cap) w := fun _ _ _ _ => rfl
  go_enter Tryd.func20, Tryd.ntmps20
  go_wp2
  go_ret
  exact ⟨rfl, rfl⟩
end Go.Proofs.YtmfjbljdbkmkgaaDoor.Dom

/- domutils.swapTagsOfNodes, dom.AllChildNodes, isEmptyText and slices.DeleteFunc over it, over a tree's table. -/
namespace Go.Proofs.YtmfjbljdbkmkgaaDoor.Dom
open Go.RowKit Go.Proofs.YtmfjbljdbkmkgaaDoorW.PrintWords Go.Proofs.YtmfjbljdbkmkgaaDoorW.PrintLast Go.Proofs.YtmfjbljdbkmkgaaDoorW.PrintMore Go.Proofs.YtmfjbljdbkmkgaaDoor.PDom
set_option linter.unusedVariables false
set_option linter.unusedSimpArgs false

/-- What the walk needs of the listed variables. -/
def CV (w : World) : Prop := Lib.TabIs Tryd.prog w "strings.asciiSpace" .u8 Lib.asciiSpaceTab
theorem CV.block {w w' : World} (h : CV w) (hb : ∀ k, k < w.heap.size → w.heap[k]? = w'.heap[k]? → True) (h0 : w'.heap[0]? = w.heap[0]?) : CV w' := by
  have hg : Tryd.prog.globalNamed "strings.asciiSpace" = some 0 := by kernel_rfl
  unfold CV Lib.TabIs World.var? at *
  rw [hg] at h ⊢
  simp only [Option.bind_some] at h ⊢
  rw [h0]
  exact h
theorem CV.lt {w : World} (h : CV w) : 0 < w.heap.size := by
  have hg : Tryd.prog.globalNamed "strings.asciiSpace" = some 0 := by kernel_rfl
  have hc := World.var?_cell hg h 0
  exact World.block_lt_of_cell? w ⟨0, 0, none⟩ (u := .int .u8 0) (by rw [hc]; kernel_rfl)
theorem CV.below {w w' : World} (h : CV w) (hb : Below w.heap.size w w') : CV w' := h.block (fun _ _ _ => trivial) (hb.block _ h.lt)
theorem CV.only {w w' : World} {D : Tab} (h : CV w) (ho : Only D w w') (hD : D 0 = none) : CV w' := h.block (fun _ _ _ => trivial) (ho.block _ h.lt hD)

/-! ### A node's own data -/
theorem kidsOf_info {D : Tab} {b : Nat} {i i' : Info} (hb : D b = some i) (hk : i'.kids = i.kids) (p : Nat) : kidsOf (put D b i') p = kidsOf D p := by
  rw [kidsOf_put]
  by_cases e : p = b
  · rw [if_pos e, e, kidsOf_some hb, hk]
  · rw [if_neg e]
theorem sibs_info {D : Tab} {b : Nat} {i i' : Info} (hb : D b = some i) (hk : i'.kids = i.kids) (j : Info) : sibs (put D b i') j = sibs D j := by
  unfold sibs
  cases j.parent with
  | none => rfl
  | some p => exact kidsOf_info hb hk p
theorem recOf_info {D : Tab} {b : Nat} {i i' : Info} (hb : D b = some i) (hk : i'.kids = i.kids) (x : Nat) (j : Info) (v : Value) : recOf (put D b i') x j v = recOf D x j v := by
  unfold recOf
  rw [sibs_info hb hk]
theorem WF.info {D : Tab} (h : WF D) {b : Nat} {i i' : Info} (hb : D b = some i) (hp : i'.parent = i.parent) (hk : i'.kids = i.kids) : WF (put D b i') := by
  have old : ∀ {x j}, put D b i' x = some j → ∃ j0, D x = some j0 ∧ j.parent = j0.parent ∧ j.kids = j0.kids := by
    intro x j hx
    by_cases e : x = b
    · rw [e, put_same] at hx
      injection hx with hx
      subst hx
      exact ⟨i, by rw [e]; exact hb, hp, hk⟩
    · rw [put_other _ _ e] at hx
      exact ⟨j, hx, rfl, rfl⟩
  have new : ∀ {x j0}, D x = some j0 → ∃ j, put D b i' x = some j ∧ j.parent = j0.parent ∧ j.kids = j0.kids := by
    intro x j0 hx
    by_cases e : x = b
    · rw [e] at hx ⊢
      rw [hb] at hx
      injection hx with hx
      subst hx
      exact ⟨i', put_same _ _ _, hp, hk⟩
    · exact ⟨j0, by rw [put_other _ _ e]; exact hx, rfl, rfl⟩
  refine ⟨fun {x j p} hx hjp => ?_, fun {x j c} hx hc => ?_, fun {x j} hx => ?_⟩
  · obtain ⟨j0, h1, h2, h3⟩ := old hx
    obtain ⟨ip, h4, h5⟩ := h.up h1 (by rw [← h2]; exact hjp)
    obtain ⟨ip', h6, _, h7⟩ := new h4
    exact ⟨ip', h6, by rw [h7]; exact h5⟩
  · obtain ⟨j0, h1, h2, h3⟩ := old hx
    obtain ⟨ic, h4, h5⟩ := h.down h1 (by rw [← h3]; exact hc)
    obtain ⟨ic', h6, h7, _⟩ := new h4
    exact ⟨ic', h6, by rw [h7]; exact h5⟩
  · obtain ⟨j0, h1, _, h3⟩ := old hx
    rw [h3]
    exact h.nodup h1
theorem Dom.info {w w' : World} {D : Tab} (h : Dom w D) {b : Nat} {i i' : Info} (hb : D b = some i) (hp : i'.parent = i.parent) (hk : i'.kids = i.kids)
    (HB : ∃ v, Has w' b (recOf D b i' v) ∧ AttrAt w' v i'.attrs) (HO : ∀ x, x ≠ b → D x ≠ none → w'.heap[x]? = w.heap[x]?) (HA : ∀ v l, AttrAt w v l → AttrAt w' v l) : Dom w' (put D b i') := by
  refine ⟨h.wf.info hb hp hk, fun {x j} hx => ?_⟩
  by_cases e : x = b
  · rw [e, put_same] at hx
    injection hx with hx
    subst hx
    obtain ⟨v, h1, h2⟩ := HB
    rw [e]
    exact ⟨v, by rw [recOf_info hb hk]; exact h1, h2⟩
  · rw [put_other _ _ e] at hx
    obtain ⟨v, h1, h2⟩ := h.has hx
    exact ⟨v, by rw [recOf_info hb hk]; exact h1.of_heap (HO x e (by rw [hx]; simp)), HA _ _ h2⟩
/-- A node with another one's name and attributes. -/
def taged (i j : Info) : Info := { i with atom := j.atom, data := j.data, attrs := j.attrs }
def tag3 (w : World) (b : Nat) (a : Int) (d : ByteArray) (v : Value) : World := ((w.setCell ⟨b, 6, none⟩ (.int .u32 a)).setCell ⟨b, 7, none⟩ (.string d)).setCell ⟨b, 9, none⟩ v
theorem Dom.tag {w : World} {D : Tab} (h : Dom w D) {b : Nat} {i : Info} (hb : D b = some i) (j : Info) (v : Value) (hv : AttrAt w v j.attrs) :
    Dom (tag3 w b j.atom j.data v) (put D b (taged i j)) ∧ Only D w (tag3 w b j.atom j.data v) ∧ (∀ u l, AttrAt w u l → AttrAt (tag3 w b j.atom j.data v) u l) := by
  obtain ⟨v0, h0, ha0⟩ := h.has hb
  have hbn : D b ≠ none := by rw [hb]; simp
  have s1 := h0.put 6 (.int .u32 j.atom) { recOf D b i v0 with atom := j.atom } rfl
  have s2 := s1.put 7 (.string j.data) { recOf D b i v0 with atom := j.atom, data := j.data } rfl
  have s3 := s2.put 9 v { recOf D b i v0 with atom := j.atom, data := j.data, attr := v } rfl
  have HA : ∀ u l, AttrAt w u l → AttrAt (tag3 w b j.atom j.data v) u l := fun u l hu => ((hu.set h0 6 _).set s1 7 _).set s2 9 _
  refine ⟨h.info hb rfl rfl ⟨v, s3, HA _ _ hv⟩ (fun x hx _ => ?_) HA, (((Only.refl D w).set (p := ⟨b, 6, none⟩) hbn _).set (p := ⟨b, 7, none⟩) hbn _).set (p := ⟨b, 9, none⟩) hbn _, HA⟩
  unfold tag3
  rw [Below.heap_setCell _ ⟨b, 9, none⟩ v x hx, Below.heap_setCell _ ⟨b, 7, none⟩ _ x hx, Below.heap_setCell _ ⟨b, 6, none⟩ _ x hx]
theorem AttrAt.taged {w : World} {D : Tab} (h : Dom w D) {b : Nat} {i : Info} (hb : D b = some i) : ∃ v, w.cell? ⟨b, 9, none⟩ = some v ∧ AttrAt w v i.attrs := by
  obtain ⟨v, h1, h2⟩ := h.has hb
  exact ⟨v, h1.cell 9, h2⟩
set_option maxRecDepth 100000 in
set_option maxHeartbeats 1000000 in
theorem swapn_calls (w : World) (D : Tab) (hdom : Dom w D) (a c : Nat) (ia ic : Info) (ha : D a = some ia) (hc : D c = some ic) (hne : a ≠ c) (ta : ia.ty = 3) (tc : ic.ty = 3) :
    Calls Tryd.prog 39 #[ptr (some a), ptr (some c)] w fun e w' => e = .returned (.tuple #[]) ∧ Dom w' (put (put D a (taged ia ic)) c (taged ic ia)) ∧ Only D w w' := by
  obtain ⟨va, ha1, ha2⟩ := hdom.has ha
  obtain ⟨vc, hc1, hc2⟩ := hdom.has hc
  obtain ⟨na, Aa, ca, ea⟩ : ∃ n A c, va = .slice A n c := by obtain ⟨A, c, h, _⟩ := Kd.R_reads ha2; exact ⟨_, A, c, h⟩
  obtain ⟨nc, Ac, cc, ec⟩ : ∃ n A c, vc = .slice A n c := by obtain ⟨A, c, h, _⟩ := Kd.R_reads hc2; exact ⟨_, A, c, h⟩
  subst ea
  subst ec
  have t1 := hdom.tag ha ic _ hc2
  have hc' : put D a (taged ia ic) c = some ic := by rw [put_other _ _ (Ne.symm hne)]; exact hc
  have t2 := t1.1.tag hc' ia _ (t1.2.2 _ _ ha2)
  have HT := Aside0.mk t2
  have HT1 := Aside0.mk t1
  have a5 := ha1.cell 5
  have a6 := ha1.cell 6
  have a7 := ha1.cell 7
  have a9 := ha1.cell 9
  have c5 := hc1.cell 5
  have c6 := hc1.cell 6
  have c7 := hc1.cell 7
  have c9 := hc1.cell 9
  have fa6 := ha1.frozen 6
  have fa7 := ha1.frozen 7
  have fa9 := ha1.frozen 9
  have fc6 := hc1.frozen 6
  have fc7 := hc1.frozen 7
  have fc9 := hc1.frozen 9
  have HE := Aside0.mk (show Dom (tag3 (tag3 w a ic.atom ic.data (.slice Ac nc cc)) c ia.atom ia.data (.slice Aa na ca)) (put (put D a (taged ia ic)) c (taged ic ia)) ∧ Only D w (tag3 (tag3 w a ic.atom ic.data (.slice Ac nc cc)) c ia.atom ia.data (.slice Aa na ca)) from ⟨t2.1, t1.2.1.trans t2.2.1 (fun k hk _ => by
    by_cases e : k = a
    · rw [e, ha] at hk; cases hk
    · rw [put_other _ _ e]; exact hk)⟩)
  clear HT HT1 t1 t2 hc' ha1 ha2 hc1 hc2 hdom
  obtain ⟨pa, ka, tya, ata, da, asa⟩ := ia
  obtain ⟨pc, kc, tyc, atc, dc, asc⟩ := ic
  simp only at ta tc
  subst ta
  subst tc
  simp only [recOf, Rec.cells] at a5 a6 a7 a9 c5 c6 c7 c9
  simp only [ptr_some]
  have hne2 : c ≠ a := Ne.symm hne
  go_enter Tryd.func39, Tryd.ntmps39
  go_wp2_with fail
  go_end0
  exact ⟨rfl, HE.out⟩

/-! ### dom.AllChildNodes -/
set_option maxRecDepth 100000 in
set_option maxHeartbeats 1000000 in
theorem kidrow_calls (w : World) (D : Tab) (hdom : Dom w D) (p : Option Nat) (r : RT) (hr : Is D p r) (hl : r.kids.length ≤ 4398046510976) :
    Calls Tryd.prog 36 #[ptr (some r.id)] w fun e w' => ∃ v, e = .returned v ∧ kP.R 40 w' w.heap.size (fun _ => True) v (r.kids.map RT.id) ∧ Below w.heap.size w w' := by
  have HD := Aside0.mk hdom
  have HR := Aside0.mk hr
  have HL := Aside0.mk hl
  have c1 := Is.first hdom hr
  clear hdom hr hl
  obtain ⟨ks, hks⟩ : ∃ ks, ks = r.kids := ⟨_, rfl⟩
  have HKS := Aside0.mk hks
  rw [← hks] at c1 HL ⊢
  clear hks
  obtain ⟨i, hi⟩ : ∃ i, i = r.id := ⟨_, rfl⟩
  rw [← hi] at c1 ⊢
  clear hi
  simp only [ptr_some]
  go_enter Tryd.func36, Tryd.ntmps36
  go_wp2_with fail
  go_loopg [2, 3] ks.length (fun n v vc wr => ∃ j, n = ks.length - j ∧ j ≤ ks.length ∧ vc = ptr (ks[j]?.map RT.id) ∧ Aside0 (kP.R 40 wr w.heap.size (fun _ => True) v ((ks.take j).map RT.id)) ∧ Aside0 (Below w.heap.size w wr))
  case atStart => exact ⟨0, rfl, Nat.zero_le _, rfl, ⟨Kd.R_nil _ _ _ _ _⟩, ⟨Below.refl _ _⟩⟩
  case round =>
    obtain ⟨j, rfl, hj, rfl, HO, HB⟩ := hrel
    by_cases hlt : j < ks.length
    · rw [List.getElem?_eq_getElem hlt]
      have HNX : Aside0 (∀ wx, Below w.heap.size w wx → wx.cell? ⟨ks[j].id, 4, none⟩ = some (ptr (ks[j + 1]?.map RT.id))) := ⟨fun wx hb => by
        have hk := HKS.out
        subst hk
        exact Is.next (HD.out.below hb) HR.out (j := j) hlt⟩
      have HSN := Aside0.mk (show (ks.take (j + 1)).map RT.id = (ks.take j).map RT.id ++ [ks[j].id] by rw [List.take_succ_eq_append_getElem hlt, List.map_append]; rfl)
      have hlen := Aside0.mk (show ((ks.take j).map RT.id).length ≤ j by rw [List.length_map]; exact List.length_take_le _ _)
      have hszw := HB.out.size
      simp only [Option.map_some, ptr_some] at ⊢
      generalize ks[j].id = x at *
      generalize (ks.take j).map RT.id = acc at *
      go_wp2_with ((with_reducible refine gate_builtin (b := .append) (xs := #[.tmp 14, .tmp 16]) rfl ?_); at_builtin; go_must (refine Kd.R_append kP (w0 := w) w.heap.size rfl (.tmp 14) (.tmp 16) 58 40 (.pointer none) 8 rfl Tryd.underlying58 infoP rfl (by decide) (by decide) u2 acc x [ptr (some x)] (fun _ => True) (fun _ => False) rfl rfl rfl (fun _ h => h.elim) (fun _ _ => trivial) HO.out HB.out hszw (by have := hlen.out; have := HL.out; omega) ?_; intro v1 w1 ho hb hg _; have HO1 := Aside0.mk ho; have HB1 := Aside0.mk hb; have nx := HNX.out w1 hb; clear ho hb hg))
      go_roundg (ks.length - (j + 1))
      case rel => exact ⟨j + 1, rfl, hlt, rfl, ⟨by rw [HSN.out]; exact HO1.out⟩, HB1⟩
      case measure => omega
    · have hje : j = ks.length := by omega
      subst hje
      rw [List.getElem?_eq_none (Nat.le_refl _)]
      simp only [Option.map_none, ptr_none]
      go_wp2_with fail
      go_ret
      have := HO.out
      rw [List.take_length] at this
      exact ⟨_, rfl, this, HB.out⟩
/-! ### isEmptyText, and what it leaves of a row -/
/-- A text that has more than white space. -/
def solB (d : ByteArray) : Bool := decide (d.size ≤ 4294967296) && (d.data.toList.all (fun b => decide (b.toNat < 128)) && !(Lib.trimSpace d.data.toList).isEmpty)
def Full (D : Tab) (x : Nat) : Prop := ∃ i, D x = some i ∧ (i.ty = 1 → solB i.data = true)
theorem empty_calls (w : World) (D : Tab) (hdom : Dom w D) (x : Nat) (hx : Full D x) (hcv : CV w) :
    Calls Tryd.prog 38 #[ptr (some x)] w fun e w' => e = .returned (.bool false) ∧ Below w.heap.size w w' := by
  obtain ⟨i, hi, hs⟩ := hx
  obtain ⟨v, hv, _⟩ := hdom.has hi
  have c5 : w.cell? ⟨x, 5, none⟩ = some (.int .u32 i.ty) := hv.cell 5
  have c7 : w.cell? ⟨x, 7, none⟩ = some (.string i.data) := hv.cell 7
  have HCV := Aside0.mk hcv
  clear hv hdom hi hcv
  obtain ⟨p, ks, ty, at_, d, as_⟩ := i
  simp only at c5 c7 hs
  simp only [ptr_some]
  go_enter Tryd.func38, Tryd.ntmps38
  by_cases ht : ty = 1
  · subst ht
    have hsd := hs rfl
    unfold solB at hsd
    simp only [Bool.and_eq_true, decide_eq_true_eq, List.all_eq_true, Bool.not_eq_true', List.isEmpty_eq_false_iff] at hsd
    obtain ⟨h1, h2, h3⟩ := hsd
    have HT := Aside0.mk (Tryd.strings_TrimSpace d w (by omega) (fun j b hb => h2 b (List.mem_of_getElem? hb)) HCV.out)
    have HB := Aside0.mk (bytes_below (Below.refl w.heap.size w) (Nat.le_refl _) 5 d)
    have HQ : ((⟨(Lib.trimSpace d.data.toList).toArray⟩ : ByteArray).toList == []) = false := by
      rw [Lib.toList_data]
      cases h : Lib.trimSpace d.data.toList with
      | nil => exact absurd h h3
      | cons a l => rfl
    clear hs h1 h2 h3
    generalize (⟨(Lib.trimSpace d.data.toList).toArray⟩ : ByteArray) = q at *
    go_wp2_with (go_at_call 43; go_must (refine HT.out.mono ?_; rintro e w1 ⟨rfl, rfl⟩))
    go_ret
    exact ⟨rfl, HB.out⟩
  · have htb : (ty == 1) = false := beq_eq_false_iff_ne.2 ht
    clear hs
    go_wp2_with fail
    go_ret
    exact ⟨rfl, Below.refl _ _⟩
def fnEmpty : Value := .func (Fn.func 38) #[] #[]
set_option maxRecDepth 100000 in
theorem index_calls (w : World) (D : Tab) (hdom : Dom w D) (hcv : CV w) (A : Option Addr) (c : Nat) (ids : List Nat) (hC : kP.C w A ids.length ids) (hc : ids.length ≤ c) (hl : ids.length ≤ 4398046510976) (hf : ∀ x ∈ ids, Full D x) :
    Calls Tryd.prog 49 #[.slice A ids.length c, fnEmpty] w fun e w' => e = .returned (.int .i64 (-1)) ∧ Below w.heap.size w w' := by
  have HD := Aside0.mk hdom
  have HCV := Aside0.mk hcv
  have HC := Aside0.mk hC
  have HF := Aside0.mk hf
  clear hdom hcv hC hf
  unfold fnEmpty
  go_enter Tryd.func49, Tryd.ntmps49
  go_wp2_with fail
  go_loopg [8] ids.length (fun n vi wr => ∃ j : Nat, n = ids.length - j ∧ j ≤ ids.length ∧ vi = .int .i64 j ∧ Aside0 (Below w.heap.size w wr))
  case atStart => exact ⟨0, rfl, Nat.zero_le _, rfl, ⟨Below.refl _ _⟩⟩
  case round =>
    obtain ⟨j, rfl, hj, rfl, HB⟩ := hrel
    by_cases hlt : j < ids.length
    · obtain ⟨ad, rfl, hx⟩ := ReadsOf.at_ (Kd.reads_of_C (enc := fun b => ptr (some b)) (d := 0) (h1 := fun _ => rfl) (Kd.C_below HC.out HB.out)) (j : Int) (by omega) (by omega)
      have ex : rdOf 0 ids (j : Int) = ids[j] := by simp [rdOf, List.getD_eq_getElem?_getD, List.getElem?_eq_getElem hlt]
      rw [ex, Int.toNat_natCast] at hx
      have HE := Aside0.mk (empty_calls wr D (HD.out.below HB.out) ids[j] (HF.out _ (List.getElem_mem hlt)) (HCV.out.below HB.out))
      clear ex
      generalize ids[j] = x at *
      simp only [ptr_some] at hx HE
      go_wp2_with (go_at_call 38; go_must (refine HE.out.mono ?_; rintro e w1 ⟨rfl, hb⟩; have HB1 := Aside0.mk (below_step HB.out hb); clear hb))
      go_roundg (ids.length - (j + 1))
      case rel => exact ⟨j + 1, rfl, hlt, by go_num, HB1⟩
      case measure => omega
    · have hje : j = ids.length := by omega
      subst hje
      go_wp2_with fail
      go_ret
      exact ⟨rfl, HB.out⟩
theorem delete_calls (w : World) (D : Tab) (hdom : Dom w D) (hcv : CV w) (A : Option Addr) (c : Nat) (ids : List Nat) (hC : kP.C w A ids.length ids) (hc : ids.length ≤ c) (hl : ids.length ≤ 4398046510976) (hf : ∀ x ∈ ids, Full D x) :
    Calls Tryd.prog 37 #[.slice A ids.length c, fnEmpty] w fun e w' => e = .returned (.slice A ids.length c) ∧ Below w.heap.size w w' := by
  have HI := Aside0.mk (index_calls w D hdom hcv A c ids hC hc hl hf)
  clear hdom hcv hC hf hc hl
  unfold fnEmpty at *
  go_enter Tryd.func37, Tryd.ntmps37
  go_wp2_with (go_at_call 49; go_must (refine HI.out.mono ?_; rintro e w1 ⟨rfl, hb⟩; have HB1 := Aside0.mk hb; clear hb))
  go_ret
  exact ⟨rfl, HB1.out⟩
end Go.Proofs.YtmfjbljdbkmkgaaDoor.Dom

/- A node taken out of its parent, and a node put in: what a list of stores into nodes makes of a table. Plain facts. -/
namespace Go.Proofs.YtmfjbljdbkmkgaaDoor.Dom
open Go.RowKit Go.Proofs.YtmfjbljdbkmkgaaDoorW.PrintWords Go.Proofs.YtmfjbljdbkmkgaaDoorW.PrintLast Go.Proofs.YtmfjbljdbkmkgaaDoorW.PrintMore
set_option linter.unusedVariables false
set_option linter.unusedSimpArgs false

/-! ### A list of stores -/
def updR (r : Rec) (k : Nat) (p : Option Nat) : Rec :=
  if k = 0 then { r with parent := p } else if k = 1 then { r with first := p } else if k = 2 then { r with last := p } else if k = 3 then { r with prev := p } else { r with next := p }
abbrev Stores := List (Nat × Nat × Option Nat)
def stAll (w : World) : Stores → World
  | [] => w
  | s :: l => stAll (st w s.1 s.2.1 s.2.2) l
def updAll (r : Rec) (b : Nat) : Stores → Rec
  | [] => r
  | s :: l => updAll (if s.1 = b then updR r s.2.1 s.2.2 else r) b l
theorem Has.upd {w : World} {b : Nat} {r : Rec} (h : Has w b r) (k : Nat) (hk : k < 5) (p : Option Nat) : Has (Dom.st w b k p) b (updR r k p) := by
  rcases k with _ | _ | _ | _ | _ | k
  · exact h.put0 p
  · exact h.put1 p
  · exact h.put2 p
  · exact h.put3 p
  · exact h.put4 p
  · omega
theorem Has.stored {b : Nat} (l : Stores) : ∀ {w : World} {r : Rec}, Has w b r → (∀ s ∈ l, s.2.1 < 5) → Has (stAll w l) b (updAll r b l) := by
  induction l with
  | nil => exact fun h _ => h
  | cons s l ih =>
    intro w r h hl
    obtain ⟨x, k, p⟩ := s
    show Has (stAll (Dom.st w x k p) l) b (updAll (if x = b then updR r k p else r) b l)
    refine ih ?_ (fun s hs => hl s (List.mem_cons_of_mem _ hs))
    by_cases hb : x = b
    · subst hb
      rw [if_pos rfl]
      exact h.upd k (hl _ List.mem_cons_self) p
    · rw [if_neg hb]
      exact h.st (fun e => hb e.symm) k p
theorem AttrAt.stored {v : Value} {a : List (ByteArray × ByteArray)} (l : Stores) : ∀ {w : World}, AttrAt w v a → (∀ s ∈ l, s.2.1 < 5 ∧ ∃ r, Has w s.1 r) → AttrAt (stAll w l) v a := by
  induction l with
  | nil => exact fun h _ => h
  | cons s l ih =>
    intro w h hl
    obtain ⟨x, k, p⟩ := s
    obtain ⟨hk, r, hr⟩ := hl _ List.mem_cons_self
    refine ih (h.st hr k p) (fun s hs => ?_)
    obtain ⟨hk2, r2, hr2⟩ := hl s (List.mem_cons_of_mem _ hs)
    refine ⟨hk2, ?_⟩
    by_cases hx : s.1 = x
    · rw [hx] at hr2 ⊢
      exact ⟨_, hr2.upd k hk p⟩
    · exact ⟨_, hr2.st hx k p⟩
theorem Only.stored {D : Tab} {w0 : World} (l : Stores) : ∀ {w : World}, Only D w0 w → (∀ s ∈ l, D s.1 ≠ none) → Only D w0 (stAll w l) := by
  induction l with
  | nil => exact fun h _ => h
  | cons s l ih =>
    intro w h hl
    exact ih (h.st (hl s List.mem_cons_self) _ _) (fun s hs => hl s (List.mem_cons_of_mem _ hs))
theorem Dom.stored {w : World} {D D' : Tab} (h : Dom w D) (l : Stores) (hl : ∀ s ∈ l, D s.1 ≠ none ∧ s.2.1 < 5) (wf : WF D')
    (hd : ∀ b i', D' b = some i' → ∃ i, D b = some i ∧ i'.attrs = i.attrs ∧ ∀ v, updAll (recOf D b i v) b l = recOf D' b i' v) : Dom (stAll w l) D' := by
  refine ⟨wf, fun {b i'} hb => ?_⟩
  obtain ⟨i, hi, ha, hr⟩ := hd b i' hb
  obtain ⟨v, hv, hA⟩ := h.has hi
  refine ⟨v, ?_, ?_⟩
  · rw [← hr v]
    exact hv.stored l (fun s hs => (hl s hs).2)
  · rw [ha]
    refine hA.stored l (fun s hs => ⟨(hl s hs).2, ?_⟩)
    cases hx : D s.1 with
    | none => exact absurd hx (hl s hs).1
    | some ix =>
      obtain ⟨vx, hvx, _⟩ := h.has hx
      exact ⟨_, hvx⟩

/-! ### Neighbours, where a list is in two parts -/
/-! ### What changes: the children of n, the parent of c -/
section
variable {D : Tab} {n c : Nat} {i ic : Info} {K : List Nat} {pc : Option Nat}
end

/-! ### Taken out -/
/-! ### Put in -/
end Go.Proofs.YtmfjbljdbkmkgaaDoor.Dom

/- (*html.Node).RemoveChild and InsertBefore: their contracts over a table. -/
namespace Go.Proofs.YtmfjbljdbkmkgaaDoor.Dom
open Go.RowKit Go.Proofs.YtmfjbljdbkmkgaaDoorW.PrintWords Go.Proofs.YtmfjbljdbkmkgaaDoorW.PrintLast Go.Proofs.YtmfjbljdbkmkgaaDoorW.PrintMore
set_option linter.unusedVariables false
set_option linter.unusedSimpArgs false

theorem Dom.moved {w w' : World} {D : Tab} (h : Dom w D) (hb : Below w.heap.size w w') : Dom w' D :=
  ⟨h.wf, fun hd => by
    obtain ⟨v, h1, h2⟩ := h.has hd
    exact ⟨v, h1.of_heap (hb.block _ h1.lt), h2.below hb⟩⟩
theorem Only.drewN {D : Tab} {w w' : World} (h : Only D w w') (k : Nat) : Only D w (w'.drewN k) := ⟨h.os, h.tape, h.output, h.size, h.block⟩
theorem Dom.drewN {w : World} {D : Tab} (h : Dom w D) (k : Nat) : Dom (w.drewN k) D := h.moved (pw_below_drewN (Below.refl _ _) k)
end Go.Proofs.YtmfjbljdbkmkgaaDoor.Dom

/- impl.told: a tree of nodes, as plain data. -/
namespace Go.Proofs.YtmfjbljdbkmkgaaDoor.Dom
open Go.RowKit Go.Proofs.YtmfjbljdbkmkgaaDoorW.PrintWords Go.Proofs.YtmfjbljdbkmkgaaDoorW.PrintLast Go.Proofs.YtmfjbljdbkmkgaaDoorW.PrintMore Go.Proofs.YtmfjbljdbkmkgaaDoor.PDom
set_option linter.unusedVariables false
set_option linter.unusedSimpArgs false

abbrev At := S38
mutual
/-- The tree as plain data. -/
def RT.toT : RT → T
  | .node _ ty _ d at_ ks => if ty = 3 then ⟨0, d, ⟨#[]⟩, at_.map (fun a => (⟨a.1, a.2⟩ : At)), RT.toTL ks⟩ else if ty = 1 then ⟨1, ⟨#[]⟩, d, [], []⟩ else if ty = 4 then ⟨2, ⟨#[]⟩, d, [], []⟩ else ⟨3, ⟨#[]⟩, ⟨#[]⟩, [], RT.toTL ks⟩
def RT.toTL : List RT → List T
  | [] => []
  | k :: ks => k.toT :: RT.toTL ks
end
theorem RT.toTL_map (l : List RT) : RT.toTL l = l.map RT.toT := by
  induction l with
  | nil => rfl
  | cons k l ih => rw [RT.toTL, ih, List.map_cons]
/-- How many attributes and children a node has. -/
inductive RFit : RT → Prop
  | mk (i : Nat) (ty a : Int) (d : ByteArray) (at_ : List (ByteArray × ByteArray)) (ks : List RT) (h3 : at_.length ≤ 4398046510976) (h4 : ks.length ≤ 1000000000000) (hk : ∀ k ∈ ks, RFit k) : RFit (.node i ty a d at_ ks)
theorem at_A {w : World} {A : Option Addr} {n : Nat} {xs : List (ByteArray × ByteArray)} (h : Kd.C kA w A n xs) (i : Int) (h0 : 0 ≤ i) (h1 : i < n) : ∃ ad, A = some ad ∧ w.cell? (ad.add (i.toNat * 3)) = some (.string ⟨#[]⟩) ∧ w.cell? ⟨(ad.add (i.toNat * 3)).block, (ad.add (i.toNat * 3)).off + 1, none⟩ = some (.string (xs.getD i.toNat (⟨#[]⟩, ⟨#[]⟩)).1) ∧ w.cell? ⟨(ad.add (i.toNat * 3)).block, (ad.add (i.toNat * 3)).off + 2, none⟩ = some (.string (xs.getD i.toNat (⟨#[]⟩, ⟨#[]⟩)).2) := by
  obtain ⟨ad, c, e, _, hK, hc0⟩ := Kd.C_get h (⟨#[]⟩, ⟨#[]⟩) i h0 h1
  have hc : ∀ j u, c[j]? = some u → w.cell? (ad.add (i.toNat * 3 + j)) = some u := hc0
  obtain ⟨_, _, rfl, rfl, ⟨_, _, rfl, rfl, rfl⟩⟩ := hK
  exact ⟨ad, e, hc 0 _ rfl, by rw [← add_field _ _ 1 (by omega)]; exact hc 1 _ rfl, by rw [← add_field _ _ 2 (by omega)]; exact hc 2 _ rfl⟩
/-- The state of the tree that is being told: its box, its rows. -/
structure TB (w wr : World) (f0 : Int) (f1 f2 : ByteArray) (v3 v4 : Value) (l3 : List At) (l4 : List T) : Prop where
  box : wr.heap[w.heap.size + 1]? = some (.cells #[.int .i64 f0, .string f1, .string f2, v3, v4] 28 (0, 0))
  res : ∃ a0 a1 a2 a3 a4 : Value, wr.heap[w.heap.size]? = some (.cells #[a0, a1, a2, a3, a4] 28 (0, 0))
  n3 : Kd.N k38 38 wr w.heap.size (fun k => w.heap.size + 2 ≤ k ∧ some k ≠ v4.ownBlock) v3 l3
  n4 : Kd.N k28 28 wr w.heap.size (fun k => w.heap.size + 2 ≤ k ∧ some k ≠ v3.ownBlock) v4 l4
  below : Below w.heap.size w wr
theorem TB.start (w : World) (f0 : Int) (f1 f2 : ByteArray) {wr : World} (hb : wr.heap[w.heap.size + 1]? = some (.cells #[.int .i64 f0, .string f1, .string f2, .slice none 0 0, .slice none 0 0] 28 (0, 0)))
    (hr : ∃ a0 a1 a2 a3 a4 : Value, wr.heap[w.heap.size]? = some (.cells #[a0, a1, a2, a3, a4] 28 (0, 0))) (hw : Below w.heap.size w wr) : TB w wr f0 f1 f2 (.slice none 0 0) (.slice none 0 0) [] [] :=
  ⟨hb, hr, Kd.N_nil _ _ _ _ _, Kd.N_nil _ _ _ _ _, hw⟩
section
variable {w wr w1 w2 w3 : World} {f0 : Int} {f1 f2 : ByteArray} {v3 v4 v1 : Value} {l3 : List At} {l4 : List T}
theorem TB.moved (h : TB w wr f0 f1 f2 v3 v4 l3 l4) (hb : Below wr.heap.size wr w1) : TB w w1 f0 f1 f2 v3 v4 l3 l4 :=
  ⟨(hb.block _ (blk_lt h.box)).trans h.box, by obtain ⟨a0, a1, a2, a3, a4, hr⟩ := h.res; exact ⟨a0, a1, a2, a3, a4, (hb.block _ (blk_lt hr)).trans hr⟩, Kd.N_below h.n3 hb, Kd.N_below h.n4 hb, below_step h.below hb⟩
theorem TB.size (h : TB w wr f0 f1 f2 v3 v4 l3 l4) : w.heap.size + 2 ≤ wr.heap.size := blk_lt h.box
theorem TB.cells (h : TB w wr f0 f1 f2 v3 v4 l3 l4) : wr.cell? ⟨w.heap.size + 1, 0, none⟩ = some (.int .i64 f0) ∧ wr.cell? ⟨w.heap.size + 1, 1, none⟩ = some (.string f1) ∧ wr.cell? ⟨w.heap.size + 1, 2, none⟩ = some (.string f2) ∧ wr.cell? ⟨w.heap.size + 1, 3, none⟩ = some v3 ∧ wr.cell? ⟨w.heap.size + 1, 4, none⟩ = some v4 :=
  ⟨blk_cell h.box 0, blk_cell h.box 1, blk_cell h.box 2, blk_cell h.box 3, blk_cell h.box 4⟩
/-- A block that is kept through an append to an own row. -/
theorem grown_kept {r : Option Nat} (hg : w2.grownBy w3 r) {b : Nat} {x : Obj} (hb : w2.heap[b]? = some x) (hr : some b ≠ r) : w3.heap[b]? = some x :=
  (hg.block b (Array.getElem?_eq_some_iff.1 hb).1 hr).trans hb
/-- One more attribute. -/
theorem TB.attr (h : TB w wr f0 f1 f2 v3 (.slice none 0 0) l3 []) (hb : Below wr.heap.size wr w2) {p : At} (ho : Kd.N k38 38 w3 w.heap.size (fun k => w.heap.size + 2 ≤ k) v1 (l3 ++ [p])) (hb3 : Below w.heap.size w w3) (hg : w2.grownBy w3 v3.ownBlock) :
    w3.cell? ⟨w.heap.size + 1, 3, none⟩ = some v3 ∧ w3.frozen? ⟨w.heap.size + 1, 3, none⟩ = false ∧ TB w (w3.setCell ⟨w.heap.size + 1, 3, none⟩ v1) f0 f1 f2 v1 (.slice none 0 0) (l3 ++ [p]) [] := by
  have h2 := h.moved hb
  have n1 : some (w.heap.size + 1) ≠ v3.ownBlock := fun e => by have := (h2.n3.1 _ e.symm).1; omega
  have n0 : some w.heap.size ≠ v3.ownBlock := fun e => by have := (h2.n3.1 _ e.symm).1; omega
  have b3 := grown_kept hg h2.box n1
  obtain ⟨a0, a1, a2, a3, a4, hr⟩ := h2.res
  have r3 := grown_kept hg hr n0
  refine ⟨blk_cell b3 3, blk_frozen b3 3, blk_set b3 3 _, ⟨a0, a1, a2, a3, a4, (Below.heap_setCell w3 _ _ _ (by show w.heap.size ≠ w.heap.size + 1; omega)).trans r3⟩, ?_, Kd.N_nil _ _ _ _ _, ?_⟩
  · refine Kd.N_mono (Kd.N_far ho (fun k hk => ?_) _) (fun k hk => ⟨hk, by simp [Value.ownBlock]⟩)
    show k ≠ w.heap.size + 1
    omega
  · exact Below.setCell hb3 (by show w.heap.size ≤ w.heap.size + 1; omega) _
/-- One more child. -/
theorem TB.kid (h : TB w wr f0 f1 f2 v3 v4 l3 l4) (hb : Below wr.heap.size wr w2) {p : T} (ho : Kd.N k28 28 w3 w.heap.size (fun k => w.heap.size + 2 ≤ k ∧ some k ≠ v3.ownBlock) v1 (l4 ++ [p])) (hb3 : Below w.heap.size w w3) (hg : w2.grownBy w3 v4.ownBlock)
    (hat : v1.ownBlock = v4.ownBlock ∨ ∃ b, v1.ownBlock = some b ∧ w2.heap.size ≤ b) :
    w3.cell? ⟨w.heap.size + 1, 4, none⟩ = some v4 ∧ w3.frozen? ⟨w.heap.size + 1, 4, none⟩ = false ∧ TB w (w3.setCell ⟨w.heap.size + 1, 4, none⟩ v1) f0 f1 f2 v3 v1 l3 (l4 ++ [p]) := by
  have h2 := h.moved hb
  have n1 : some (w.heap.size + 1) ≠ v4.ownBlock := fun e => by have := (h2.n4.1 _ e.symm).1; omega
  have n0 : some w.heap.size ≠ v4.ownBlock := fun e => by have := (h2.n4.1 _ e.symm).1; omega
  have b3 := grown_kept hg h2.box n1
  obtain ⟨a0, a1, a2, a3, a4, hr⟩ := h2.res
  have r3 := grown_kept hg hr n0
  refine ⟨blk_cell b3 4, blk_frozen b3 4, blk_set b3 4 _, ⟨a0, a1, a2, a3, a4, (Below.heap_setCell w3 _ _ _ (by show w.heap.size ≠ w.heap.size + 1; omega)).trans r3⟩, ?_, ?_, ?_⟩
  · refine Kd.N_far (Kd.N_after h2.n3 hg hat) (fun k hk => ?_) _
    show k ≠ w.heap.size + 1
    omega
  · refine Kd.N_far ho (fun k hk => ?_) _
    show k ≠ w.heap.size + 1
    omega
  · exact Below.setCell hb3 (by show w.heap.size ≤ w.heap.size + 1; omega) _
theorem kids_step {P : Program} {ops : Array Oper} {o : Oper} {a : Act} {Q : Exit → Act → World → Prop} {K : Act → World → Prop} {E : Prop} {w0 W : World} (hgd : o.guard = none) (base : Nat) (s x : Operand) (t : TypeId) (z : Value)
    (ho : o.op = .call { callee := .builtin .append, args := #[s, x], argTypes := #[t, t] })
    (ht : P.underlying t = some (.slice 28)) (hinfo : (P.info? 28).map (fun i => (i.zero, i.size, i.bytes)) = some (some z, 5, 88)) (hz : z.cells.size = 5)
    (v : Value) (xs : List T) (p : T) (cs : List Value) (ok okp : Nat → Prop) (hs : a.eval s = v) (hx : a.eval x = .slice (some ⟨W.heap.size, 0, none⟩) 1 1) (hp : Kd.FK k28 W okp p cs) (hokp : ∀ k, okp k → ok k ∧ some k ≠ v.ownBlock) (hfresh : ∀ k, W.heap.size ≤ k → ok k)
    (HO : Kd.N k28 28 W base ok v xs) (HB : Below base w0 W) (hbase : base ≤ W.heap.size) (hl : (xs.length + 1) * 88 ≤ 140737488355328)
    (h : ∀ v1 w1, Kd.N k28 28 w1 base ok v1 (xs ++ [p]) → Below base w0 w1 → W.grownBy w1 v.ownBlock → (v1.ownBlock = v.ownBlock ∨ ∃ b, v1.ownBlock = some b ∧ W.heap.size ≤ b) → K (a.put o.dst v1) w1) :
    if Region.wanted o (yielded ops a.tmps) = true then Oper.wp P o a (W.alloc (.cells cs.toArray 28)) K Q else E := by
  have hw : Region.wanted o (yielded ops a.tmps) = true := by simp [Region.wanted, hgd]
  have := Kd.N_append_step (P := P) (ops := ops) (o := o) (a := a) (Q := Q) (Kc := K) k28 base hw s x t 28 z 88 ho ht hinfo hz (by decide) (by decide) v xs p cs ok okp hs hx hp hokp hfresh HO HB hbase hl h
  rw [if_pos hw] at this ⊢
  exact this
end
theorem infoNd : (Tryd.prog.info? 28).map (fun i => (i.zero, i.size, i.bytes)) = some (some (.agg #[.int .i64 0, .string ⟨#[]⟩, .string ⟨#[]⟩, .slice none 0 0, .slice none 0 0]), 5, 88) := by kernel_rfl
theorem infoAt : (Tryd.prog.info? 38).map (fun i => (i.zero, i.size, i.bytes)) = some (some (.agg #[.string ⟨#[]⟩, .string ⟨#[]⟩]), 2, 32) := by kernel_rfl
/-- A row of attributes leads to nothing. -/
theorem attr_R {w : World} {base : Nat} {ok : Nat → Prop} {v : Value} {l : List At} (h : Kd.N k38 38 w base ok v l) : Kd.R k38 38 w base ok v l := by
  obtain ⟨h0, rows, hlen, ⟨h1, inner, ho, hr⟩, hf⟩ := h
  refine ⟨h0, inner, by rw [← hlen]; exact ho, by rw [hr.1, hlen]; rfl, fun j p hj => ?_⟩
  have hlt : j < rows.length := by rw [hlen]; exact (List.getElem?_eq_some_iff.1 hj).1
  have e1 := List.getElem?_eq_getElem hlt
  have hc := (hr.2 j _ e1).1
  have hk := Kd.FK_now (hf j p _ hj e1)
  rw [← hc] at hk
  exact hk
/-- What impl.told returns. -/
def Told (w w' : World) (t : T) (e : Ending) : Prop := ∃ A3 c3 A4 c4, e = .returned (.agg #[.int .i64 t.f0, .string t.f1, .string t.f2, .slice A3 t.f3.length c3, .slice A4 t.f4.length c4]) ∧ t.f3.length ≤ c3 ∧ Kd.F k38 w' (fun k => w.heap.size ≤ k) A3 t.f3.length t.f3 ∧ t.f4.length ≤ c4 ∧ Kd.F k28 w' (fun k => w.heap.size ≤ k) A4 t.f4.length t.f4 ∧ Below w.heap.size w w' ∧
  Kd.R k38 38 w' w.heap.size (fun k => w.heap.size ≤ k) (.slice A3 t.f3.length c3) t.f3 ∧ Kd.N k28 28 w' w.heap.size (fun k => w.heap.size ≤ k ∧ some k ≠ (Value.slice A3 t.f3.length c3).ownBlock) (.slice A4 t.f4.length c4) t.f4
theorem told_leaf (w : World) (t : T) (h3 : t.f3 = []) (h4 : t.f4 = []) (w' : World) (hb : Below w.heap.size w w') (e : Ending) (he : e = .returned (.agg #[.int .i64 t.f0, .string t.f1, .string t.f2, .slice none 0 0, .slice none 0 0])) : Told w w' t e := by
  refine ⟨none, 0, none, 0, by rw [h3, h4]; exact he, by rw [h3]; exact Nat.le_refl _, by rw [h3]; exact Kd.F_nil _ _ _, by rw [h4]; exact Nat.le_refl _, by rw [h4]; exact Kd.F_nil _ _ _, hb, by rw [h3]; exact Kd.R_nil _ _ _ _ _, by rw [h4]; exact Kd.N_nil _ _ _ _ _⟩
theorem told_end {w wr w' : World} {t : T} {v3 v4 : Value} (h : TB w wr t.f0 t.f1 t.f2 v3 v4 t.f3 t.f4) (hw : ∀ k, w.heap.size + 2 ≤ k → k < wr.heap.size → w'.heap[k]? = wr.heap[k]?) (hb : Below w.heap.size w w') : Told w w' t (.returned (.agg #[.int .i64 t.f0, .string t.f1, .string t.f2, v3, v4])) := by
  obtain ⟨A3, c3, rfl⟩ := Kd.N_slice h.n3
  obtain ⟨A4, c4, rfl⟩ := Kd.N_slice h.n4
  have m3 := Kd.N_step h.n3 (w1 := w') (fun k hk hlt => hw k hk.1 hlt)
  have m4 := Kd.N_step h.n4 (w1 := w') (fun k hk hlt => hw k hk.1 hlt)
  exact ⟨A3, c3, A4, c4, rfl, (Kd.N_reads' m3).2.1, Kd.F_mono (Kd.N_F m3) (fun k hk => Nat.le_trans (by omega) hk.1), (Kd.N_reads' m4).2.1, Kd.F_mono (Kd.N_F m4) (fun k hk => Nat.le_trans (by omega) hk.1), hb, attr_R (Kd.N_mono m3 (fun k hk => Nat.le_trans (by omega) hk.1)), Kd.N_mono m4 (fun k hk => ⟨Nat.le_trans (by omega) hk.1, hk.2⟩)⟩
theorem sets5 (w : World) (b : Nat) (a0 a1 a2 a3 a4 : Value) (k : Nat) (hk : k ≠ b) : (((((w.setCell ⟨b, 0, none⟩ a0).setCell ⟨b, 1, none⟩ a1).setCell ⟨b, 2, none⟩ a2).setCell ⟨b, 3, none⟩ a3).setCell ⟨b, 4, none⟩ a4).heap[k]? = w.heap[k]? := by
  rw [Below.heap_setCell _ ⟨b, 4, none⟩ _ _ hk, Below.heap_setCell _ ⟨b, 3, none⟩ _ _ hk, Below.heap_setCell _ ⟨b, 2, none⟩ _ _ hk, Below.heap_setCell _ ⟨b, 1, none⟩ _ _ hk, Below.heap_setCell _ ⟨b, 0, none⟩ _ _ hk]
theorem below_sets5 {w wr : World} (h : Below w.heap.size w wr) (a0 a1 a2 a3 a4 : Value) : Below w.heap.size w (((((wr.setCell ⟨w.heap.size, 0, none⟩ a0).setCell ⟨w.heap.size, 1, none⟩ a1).setCell ⟨w.heap.size, 2, none⟩ a2).setCell ⟨w.heap.size, 3, none⟩ a3).setCell ⟨w.heap.size, 4, none⟩ a4) :=
  ((((h.setCell (p := ⟨w.heap.size, 0, none⟩) (Nat.le_refl _) a0).setCell (p := ⟨w.heap.size, 1, none⟩) (Nat.le_refl _) a1).setCell (p := ⟨w.heap.size, 2, none⟩) (Nat.le_refl _) a2).setCell (p := ⟨w.heap.size, 3, none⟩) (Nat.le_refl _) a3).setCell (p := ⟨w.heap.size, 4, none⟩) (Nat.le_refl _) a4
set_option maxHeartbeats 4000000 in
set_option maxRecDepth 100000 in
theorem told_calls (D : Tab) (r : RT) : ∀ (p : Option Nat), Is D p r → RFit r → ∀ (w : World), Dom w D → Calls Tryd.prog 34 #[ptr (some r.id)] w fun e w' => Told w w' r.toT e := by
  induction r using RT.induct with
  | h i ty a d at_ ks ih =>
    intro p hr hf w hdom
    have hroot : D i = some _ := hr.root
    obtain ⟨va, hHi, hA⟩ := hdom.has hroot
    have c5 : w.cell? ⟨i, 5, none⟩ = some (.int .u32 ty) := hHi.cells10.2.2.2.2.2.1
    have c7 : w.cell? ⟨i, 7, none⟩ = some (.string d) := hHi.cells10.2.2.2.2.2.2.2.1
    have c9 : w.cell? ⟨i, 9, none⟩ = some va := hHi.cells10.2.2.2.2.2.2.2.2.2
    have hl : i < w.heap.size := hHi.lt
    show Calls _ _ #[ptr (some i)] _ _
    rw [ptr_some]
    by_cases t1 : ty = 1
    · subst t1
      clear ih hr hf hdom hroot hHi hA c9
      go_enter Tryd.func34, Tryd.ntmps34
      go_wp2_with fail
      refine bodyPost_ret (v := .agg #[.int .i64 1, .string ⟨#[]⟩, .string d, .slice none 0 0, .slice none 0 0]) (by simp [results, Tryd.results34, go_sem]) rfl ?_
      exact told_leaf w _ rfl rfl _ (below_alloc (below_alloc (Below.refl _ _) _) _) _ rfl
    · by_cases t4 : ty = 4
      · subst t4
        clear ih hr hf hdom hroot hHi hA c9
        go_enter Tryd.func34, Tryd.ntmps34
        go_wp2_with fail
        refine bodyPost_ret (v := .agg #[.int .i64 2, .string ⟨#[]⟩, .string d, .slice none 0 0, .slice none 0 0]) (by simp [results, Tryd.results34, go_sem]) rfl ?_
        exact told_leaf w _ rfl rfl _ (below_alloc (below_alloc (Below.refl _ _) _) _) _ rfl
      · obtain ⟨Aa, ca, hva, hca, hCa⟩ := Kd.R_reads hA
        have hva' : va = .slice Aa at_.length ca := hva
        subst hva'
        have HC := Aside0.mk (show Kd.C kA w Aa at_.length at_ from hCa)
        have HF := Aside0.mk hf
        have HR := Aside0.mk hr
        have HD := Aside0.mk hdom
        have HI := Aside0.mk hHi
        have IH := Aside0.mk ih
        clear ih hr hf hdom hroot hHi hA hCa hva hca
        have HE : ∃ t : T, (RT.node i ty a d at_ ks).toT = t ∧ t.f4 = RT.toTL ks ∧ ((ty = 3 ∧ t.f0 = 0 ∧ t.f1 = d ∧ t.f2 = ⟨#[]⟩ ∧ t.f3 = at_.map (fun a => (⟨a.1, a.2⟩ : At))) ∨ (ty ≠ 3 ∧ t.f0 = 3 ∧ t.f1 = ⟨#[]⟩ ∧ t.f2 = ⟨#[]⟩ ∧ t.f3 = [])) := by
          refine ⟨_, rfl, ?_⟩
          simp only [RT.toT]
          by_cases t3 : ty = 3
          · rw [if_pos t3]
            exact ⟨rfl, .inl ⟨t3, rfl, rfl, rfl, rfl⟩⟩
          · rw [if_neg t3, if_neg t1, if_neg t4]
            exact ⟨rfl, .inr ⟨t3, rfl, rfl, rfl, rfl⟩⟩
        obtain ⟨t, het, hk4, hcase⟩ := HE
        rw [het]
        rcases hcase with ⟨t3, q0, q1, q2, q3⟩ | ⟨t3, q0, q1, q2, q3⟩
        · subst t3
          have HT := Aside0.mk (⟨het, hk4, q0, q1, q2, q3⟩ : _ ∧ _ ∧ _ ∧ _ ∧ _ ∧ _)
          clear het hk4 q0 q1 q2 q3 t1 t4
          go_enter Tryd.func34, Tryd.ntmps34
          go_wp2_with fail
          have hS := TB.start w 0 d ⟨#[]⟩ (two_new w (.cells #[.int .i64 0, .string ⟨#[]⟩, .string ⟨#[]⟩, .slice none 0 0, .slice none 0 0] 28) (.cells #[.int .i64 0, .string d, .string ⟨#[]⟩, .slice none 0 0, .slice none 0 0] 28)) ⟨_, _, _, _, _, two_old w _ _⟩ (below_alloc (below_alloc (Below.refl _ _) _) _)
          have HS := Aside0.mk hS
          clear hS
          generalize (w.alloc (.cells #[.int .i64 0, .string ⟨#[]⟩, .string ⟨#[]⟩, .slice none 0 0, .slice none 0 0] 28)).alloc (.cells #[.int .i64 0, .string d, .string ⟨#[]⟩, .slice none 0 0, .slice none 0 0] 28) = W0 at HS ⊢
          clear c5 c7 c9
          go_loopw [24] (fun vj wr => ∃ (j : Nat) (v3 : Value), vj = .int .i64 j ∧ j ≤ at_.length ∧ Aside0 (TB w wr 0 d ⟨#[]⟩ v3 (.slice none 0 0) ((at_.map (fun a => (⟨a.1, a.2⟩ : At))).take j) [])) (fun vj _ => at_.length - (intOf vj).toNat)
          case atStart => exact ⟨0, _, rfl, Nat.zero_le _, HS⟩
          case round =>
            obtain ⟨j, v3, rfl, hj, HB⟩ := hrel
            by_cases hlt : j < at_.length
            · obtain ⟨ad, rfl, y0, y1, y2⟩ := at_A (Kd.C_below HC.out HB.out.below) (j : Int) (by omega) (by omega)
              have he : at_.getD ((j : Int)).toNat (⟨#[]⟩, ⟨#[]⟩) = at_[j] := by simp [List.getD_eq_getElem?_getD, List.getElem?_eq_getElem hlt]
              have hsn : (at_.map (fun a => (⟨a.1, a.2⟩ : At))).take (j + 1) = (at_.map (fun a => (⟨a.1, a.2⟩ : At))).take j ++ [(⟨at_[j].1, at_[j].2⟩ : At)] := by
                rw [List.take_succ_eq_append_getElem (by rw [List.length_map]; exact hlt), List.getElem_map]
              have hlen : ((at_.map (fun a => (⟨a.1, a.2⟩ : At))).take j).length ≤ 4398046510976 := by
                cases HF.out with
                | mk _ _ _ _ _ _ h3 h4 hk => rw [List.length_take, List.length_map]; omega
              rw [he] at y1 y2
              simp only [Int.toNat_natCast] at y0 y1 y2
              generalize at_[j] = q at y1 y2 hsn
              obtain ⟨q0, q1⟩ := q
              simp only at y1 y2 hsn
              have HSN := Aside0.mk hsn
              have HLN := Aside0.mk hlen
              have HWJ := Aside0.mk (show wrap64 ((j : Int) + 1) = ((j + 1 : Nat) : Int) from by
                have := HLN.out
                have : at_.length ≤ 4398046510976 := by cases HF.out with | mk _ _ _ _ _ _ h3 h4 hk => exact h3
                unfold wrap64; omega)
              clear he hsn hlen
              go_upto_region 9 with fail
-- FILL
              have hcp : (wr.alloc (.cells #[.string ⟨#[]⟩, .string q0, .string q1] 75)).heap[wr.heap.size]? = some (.cells #[.string ⟨#[]⟩, .string q0, .string q1] 75 (0, 0)) := heap_alloc_new wr _
              have HB8 := Aside0.mk (below_alloc (Below.refl wr.heap.size wr) (.cells #[.string ⟨#[]⟩, .string q0, .string q1] 75))
              generalize wr.alloc (.cells #[.string ⟨#[]⟩, .string q0, .string q1] 75) = w8 at hcp HB8 ⊢
              have e1 : w8.cell? ⟨wr.heap.size, 1, none⟩ = some (.string q0) := by rw [blk_cell hcp]; rfl
              have e2 : w8.cell? ⟨wr.heap.size, 2, none⟩ = some (.string q1) := by rw [blk_cell hcp]; rfl
              have HM := Aside0.mk (HB.out.moved HB8.out)
              have x3 : w8.cell? ⟨w.heap.size + 1, 3, none⟩ = some v3 := HM.out.cells.2.2.2.1
              clear hcp y0 y1 y2
              go_wp2_with ((with_reducible refine gate_builtin (b := .append) (xs := #[.tmp 29, .tmp 35]) rfl ?_); at_builtin; go_must (refine Kd.N_append k38 (w0 := w) w.heap.size rfl (.tmp 29) (.tmp 35) 25 38 (.agg #[.string ⟨#[]⟩, .string ⟨#[]⟩]) 32 rfl Tryd.underlying25 infoAt rfl (by decide) (by decide) v3 ((at_.map (fun a => (⟨a.1, a.2⟩ : At))).take j) (⟨q0, q1⟩ : At) [.string q0, .string q1] (fun k => w.heap.size + 2 ≤ k) (fun _ => False) rfl (by go_simp) (k38_mkF w8 _ ⟨q0, q1⟩) (fun _ h => h.elim) (fun k hk => Nat.le_trans HM.out.size hk) (Kd.N_mono HM.out.n3 (fun k hk => hk.1)) HM.out.below HM.out.below.size (by have := HLN.out; omega) ?_))
              intro v1 w3 ho hb hg hat
              rw [← HSN.out] at ho
              obtain ⟨L1, hL1⟩ : ∃ L1, L1 = ((at_.map (fun a => (⟨a.1, a.2⟩ : At))).take (j + 1)).length := ⟨_, rfl⟩
              obtain ⟨A1, k1, hv1⟩ := Kd.N_slice ho
              rw [← hL1] at hv1
              subst hv1
              clear hL1
              obtain ⟨g3, gf3, ht3⟩ := HB.out.attr HB8.out (p := ⟨q0, q1⟩) (by rw [← HSN.out]; exact ho) hb hg
              rw [← HSN.out] at ht3
              have HT3 := Aside0.mk ht3
              clear ho hb hg hat ht3
              go_wp2_with fail
              go_roundw
              case rel => exact ⟨j + 1, _, by rw [HWJ.out], hlt, HT3⟩
              case measure => rw [HWJ.out]; simp [intOf]; omega
            · have hje : j = at_.length := by omega
              subst hje
              have hB := HB.out
              rw [List.take_of_length_le (by rw [List.length_map]; exact Nat.le_refl _)] at hB
              have HB0 := Aside0.mk hB
              clear hB HB hlt hj
              have c1 : wr.cell? ⟨i, 1, none⟩ = some (ptr (ks[0]?.map RT.id)) := Is.first (HD.out.below HB0.out.below) HR.out
              go_wp2_with fail
              go_loopg [6] ks.length (fun n v6 wr => ∃ (j : Nat) (v4 : Value), n = ks.length - j ∧ j ≤ ks.length ∧ v6 = ptr (ks[j]?.map RT.id) ∧ Aside0 (TB w wr 0 d ⟨#[]⟩ v3 v4 (at_.map (fun a => (⟨a.1, a.2⟩ : At))) ((ks.map RT.toT).take j)))
              case atStart => exact ⟨0, _, rfl, Nat.zero_le _, rfl, HB0⟩
              case round =>
                clear c1
                obtain ⟨j, v4, rfl, hj, rfl, HB⟩ := hrel
                by_cases hlt : j < ks.length
                · rw [List.getElem?_eq_getElem hlt]
                  have hkm : ks[j] ∈ ks := List.getElem_mem hlt
                  have HNX := Aside0.mk (show ∀ wx, Below w.heap.size w wx → wx.cell? ⟨ks[j].id, 4, none⟩ = some (ptr (ks[j + 1]?.map RT.id)) from fun wx hb => Is.next (HD.out.below hb) HR.out (j := j) hlt)
                  have HKC := Aside0.mk (fun wx hb => IH.out ks[j] hkm (some i) (HR.out.kid hkm) (by cases HF.out with | mk _ _ _ _ _ _ h3 h4 hk => exact hk _ hkm) wx (HD.out.below hb))
                  have hsn : (ks.map RT.toT).take (j + 1) = (ks.map RT.toT).take j ++ [ks[j].toT] := by rw [List.take_succ_eq_append_getElem (by rw [List.length_map]; exact hlt), List.getElem_map]
                  have hlen : ((ks.map RT.toT).take j).length ≤ 1000000000000 := by
                    cases HF.out with
                    | mk _ _ _ _ _ _ h3 h4 hk => rw [List.length_take, List.length_map]; omega
                  have HSN := Aside0.mk hsn
                  have HLN := Aside0.mk hlen
                  simp only [Option.map_some, ptr_some] at HKC ⊢
                  generalize ks[j].toT = u at HKC HSN
                  generalize ks[j].id = x at HNX HKC ⊢
                  clear hkm hsn hlen
                  have x4 : wr.cell? ⟨w.heap.size + 1, 4, none⟩ = some v4 := HB.out.cells.2.2.2.2
                  have HDW := Aside0.mk (below_drew (Below.refl wr.heap.size wr))
                  have x4d : wr.drew.cell? ⟨w.heap.size + 1, 4, none⟩ = some v4 := (HB.out.moved HDW.out).cells.2.2.2.2
                  go_upto_region 18 with fail
                  go_region_law (first
                    | (refine kids_step (w0 := w) (W := w2) rfl w.heap.size (.tmp 64) (.tmp 67) 26 (.agg #[.int .i64 0, .string ⟨#[]⟩, .string ⟨#[]⟩, .slice none 0 0, .slice none 0 0]) rfl Tryd.underlying26 infoNd rfl v4 ((ks.map RT.toT).take j) u [.int .i64 u.f0, .string u.f1, .string u.f2, .slice A3 u.f3.length c3, .slice A4 u.f4.length c4] (fun k => w.heap.size + 2 ≤ k ∧ some k ≠ v3.ownBlock) (fun k => wr.heap.size ≤ k) (by simp [Act.eval, Act.put]) (by simp [Act.eval, Act.put]) HFK.out HOK.out HFR.out HM2.out.n4 HM2.out.below HM2.out.below.size (by have := HLN.out; omega) ?_; intro v1 w3 ho hb hg hat; obtain ⟨L1, hL1⟩ : ∃ L1, L1 = ((ks.map RT.toT).take j ++ [u]).length := ⟨_, rfl⟩; obtain ⟨A1, k1, hv1⟩ := Kd.N_slice ho; rw [← hL1] at hv1; subst hv1; clear hL1; obtain ⟨g3, gf3, ht3⟩ := HB.out.kid HB2.out ho hb hg hat; rw [← HSN.out] at ht3; have HT3 := Aside0.mk ht3; have nx := HNX.out _ ht3.below; clear ho hb hg hat ht3)
                    | (go_simp; go_at_call 34; refine (HKC.out _ (below_step HB.out.below HDW.out)).mono ?_; rintro e w2 ⟨A3, c3, A4, c4, rfl, m3, F3, m4, F4, hb2, _, _⟩; have HB2 := Aside0.mk (below_step HDW.out hb2); have HM2 := Aside0.mk (HB.out.moved HB2.out); have HFK := Aside0.mk (k28_mkF w2 (fun k => wr.heap.size ≤ k) u m3 F3 m4 F4); have HOK := Aside0.mk (show ∀ k, wr.heap.size ≤ k → (w.heap.size + 2 ≤ k ∧ some k ≠ v3.ownBlock) ∧ some k ≠ v4.ownBlock from fun k hk => ⟨⟨Nat.le_trans HB.out.size hk, fun e => by have := Kd.N_lt HB.out.n3 k e.symm; omega⟩, fun e => by have := Kd.N_lt HB.out.n4 k e.symm; omega⟩); have HFR := Aside0.mk (show ∀ k, w2.heap.size ≤ k → w.heap.size + 2 ≤ k ∧ some k ≠ v3.ownBlock from fun k hk => ⟨Nat.le_trans HM2.out.size hk, fun e => by have := Kd.N_lt HM2.out.n3 k e.symm; omega⟩); have x42 : w2.cell? ⟨w.heap.size + 1, 4, none⟩ = some v4 := HM2.out.cells.2.2.2.2; have x43 : (w2.alloc (.cells #[.int .i64 u.f0, .string u.f1, .string u.f2, .slice A3 u.f3.length c3, .slice A4 u.f4.length c4] 28)).cell? ⟨w.heap.size + 1, 4, none⟩ = some v4 := (HM2.out.moved (below_alloc (Below.refl _ _) _)).cells.2.2.2.2; clear m3 F3 m4 F4 hb2))
                  all_goals (simp only [Exit.inBlock, Exit.then]; go_wp2_with fail; go_roundg (ks.length - (j + 1)))
                  all_goals first
                    | exact ⟨j + 1, _, rfl, hlt, rfl, HT3⟩
                    | omega
                    | trace_state
                · have hje : j = ks.length := by omega
                  subst hje
                  rw [List.getElem?_eq_none (Nat.le_refl _)]
                  simp only [Option.map_none, ptr_none]
                  have hB := HB.out
                  rw [List.take_of_length_le (by rw [List.length_map]; exact Nat.le_refl _), ← RT.toTL_map] at hB
                  obtain ⟨n3, A3, c3, e3⟩ : ∃ n A c, v3 = .slice A n c := by obtain ⟨A, c, h⟩ := Kd.N_slice hB.n3; exact ⟨_, A, c, h⟩
                  obtain ⟨n4, A4, c4, e4⟩ : ∃ n A c, v4 = .slice A n c := by obtain ⟨A, c, h⟩ := Kd.N_slice hB.n4; exact ⟨_, A, c, h⟩
                  subst e4
                  subst e3
                  obtain ⟨a0, a1, a2, a3, a4, hr⟩ := hB.res
                  obtain ⟨b0, b1, b2, b3, b4⟩ := hB.cells
                  have r0 := blk_cell hr 0
                  have r1 := blk_cell hr 1
                  have r2 := blk_cell hr 2
                  have r3 := blk_cell hr 3
                  have r4 := blk_cell hr 4
                  have f0 := blk_frozen hr 0
                  have f1 := blk_frozen hr 1
                  have f2 := blk_frozen hr 2
                  have f3 := blk_frozen hr 3
                  have f4 := blk_frozen hr 4
                  have HBB := Aside0.mk hB
                  clear hB hr HB
                  go_wp2_with fail
                  refine bodyPost_ret (v := .agg #[.int .i64 0, .string d, .string ⟨#[]⟩, .slice A3 n3 c3, .slice A4 n4 c4]) (by simp [results, Tryd.results34, go_sem, r0, r1, r2, r3, r4]) rfl ?_
                  obtain ⟨het, hk4, q0, q1, q2, q3⟩ := HT.out
                  have hte := told_end (t := t) (by rw [q0, q1, q2, q3, hk4]; exact HBB.out) (fun k hk _ => sets5 wr w.heap.size (.int .i64 0) (.string d) (.string ⟨#[]⟩) (.slice A3 n3 c3) (.slice A4 n4 c4) k (by omega)) (below_sets5 HBB.out.below (.int .i64 0) (.string d) (.string ⟨#[]⟩) (.slice A3 n3 c3) (.slice A4 n4 c4))
                  rw [q0, q1, q2] at hte
                  exact hte
        · have b3 : (ty == 3) = false := beq_eq_false_iff_ne.2 t3
          have b1 : (ty == 1) = false := beq_eq_false_iff_ne.2 t1
          have b4 : (ty == 4) = false := beq_eq_false_iff_ne.2 t4
          have d3 := decide_eq_false t3
          have d1 := decide_eq_false t1
          have d4 := decide_eq_false t4
          have HT := Aside0.mk (⟨het, hk4, q0, q1, q2, q3⟩ : _ ∧ _ ∧ _ ∧ _ ∧ _ ∧ _)
          clear het hk4 q0 q1 q2 q3 t1 t4 t3
          go_enter Tryd.func34, Tryd.ntmps34
          go_upto_region 15 with fail
          have HB0 := Aside0.mk (TB.start w 3 ⟨#[]⟩ ⟨#[]⟩ (two_new w (.cells #[.int .i64 0, .string ⟨#[]⟩, .string ⟨#[]⟩, .slice none 0 0, .slice none 0 0] 28) (.cells #[.int .i64 3, .string ⟨#[]⟩, .string ⟨#[]⟩, .slice none 0 0, .slice none 0 0] 28)) ⟨_, _, _, _, _, two_old w _ _⟩ (below_alloc (below_alloc (Below.refl _ _) _) _))
          generalize (w.alloc (.cells #[.int .i64 0, .string ⟨#[]⟩, .string ⟨#[]⟩, .slice none 0 0, .slice none 0 0] 28)).alloc (.cells #[.int .i64 3, .string ⟨#[]⟩, .string ⟨#[]⟩, .slice none 0 0, .slice none 0 0] 28) = W0 at HB0 ⊢
          clear c5 c7 c9
          have c1 : W0.cell? ⟨i, 1, none⟩ = some (ptr (ks[0]?.map RT.id)) := Is.first (HD.out.below HB0.out.below) HR.out
          go_wp2_with fail
          go_loopg [6] ks.length (fun n v6 wr => ∃ (j : Nat) (v4 : Value), n = ks.length - j ∧ j ≤ ks.length ∧ v6 = ptr (ks[j]?.map RT.id) ∧ Aside0 (TB w wr 3 ⟨#[]⟩ ⟨#[]⟩ (.slice none 0 0) v4 [] ((ks.map RT.toT).take j)))
          case atStart => exact ⟨0, _, rfl, Nat.zero_le _, rfl, HB0⟩
          case round =>
            clear c1
            obtain ⟨j, v4, rfl, hj, rfl, HB⟩ := hrel
            by_cases hlt : j < ks.length
            · rw [List.getElem?_eq_getElem hlt]
              have hkm : ks[j] ∈ ks := List.getElem_mem hlt
              have HNX := Aside0.mk (show ∀ wx, Below w.heap.size w wx → wx.cell? ⟨ks[j].id, 4, none⟩ = some (ptr (ks[j + 1]?.map RT.id)) from fun wx hb => Is.next (HD.out.below hb) HR.out (j := j) hlt)
              have HKC := Aside0.mk (fun wx hb => IH.out ks[j] hkm (some i) (HR.out.kid hkm) (by cases HF.out with | mk _ _ _ _ _ _ h3 h4 hk => exact hk _ hkm) wx (HD.out.below hb))
              have hsn : (ks.map RT.toT).take (j + 1) = (ks.map RT.toT).take j ++ [ks[j].toT] := by rw [List.take_succ_eq_append_getElem (by rw [List.length_map]; exact hlt), List.getElem_map]
              have hlen : ((ks.map RT.toT).take j).length ≤ 1000000000000 := by
                cases HF.out with
                | mk _ _ _ _ _ _ h3 h4 hk => rw [List.length_take, List.length_map]; omega
              have HSN := Aside0.mk hsn
              have HLN := Aside0.mk hlen
              simp only [Option.map_some, ptr_some] at HKC ⊢
              generalize ks[j].toT = u at HKC HSN
              generalize ks[j].id = x at HNX HKC ⊢
              clear hkm hsn hlen
              have x4 : wr.cell? ⟨w.heap.size + 1, 4, none⟩ = some v4 := HB.out.cells.2.2.2.2
              have HDW := Aside0.mk (below_drew (Below.refl wr.heap.size wr))
              have x4d : wr.drew.cell? ⟨w.heap.size + 1, 4, none⟩ = some v4 := (HB.out.moved HDW.out).cells.2.2.2.2
              go_upto_region 18 with fail
              go_region_law (first
                | (refine kids_step (w0 := w) (W := w2) rfl w.heap.size (.tmp 64) (.tmp 67) 26 (.agg #[.int .i64 0, .string ⟨#[]⟩, .string ⟨#[]⟩, .slice none 0 0, .slice none 0 0]) rfl Tryd.underlying26 infoNd rfl v4 ((ks.map RT.toT).take j) u [.int .i64 u.f0, .string u.f1, .string u.f2, .slice A3 u.f3.length c3, .slice A4 u.f4.length c4] (fun k => w.heap.size + 2 ≤ k ∧ some k ≠ (Value.slice none 0 0).ownBlock) (fun k => wr.heap.size ≤ k) (by simp [Act.eval, Act.put]) (by simp [Act.eval, Act.put]) HFK.out HOK.out HFR.out HM2.out.n4 HM2.out.below HM2.out.below.size (by have := HLN.out; omega) ?_; intro v1 w3 ho hb hg hat; obtain ⟨L1, hL1⟩ : ∃ L1, L1 = ((ks.map RT.toT).take j ++ [u]).length := ⟨_, rfl⟩; obtain ⟨A1, k1, hv1⟩ := Kd.N_slice ho; rw [← hL1] at hv1; subst hv1; clear hL1; obtain ⟨g3, gf3, ht3⟩ := HB.out.kid HB2.out ho hb hg hat; rw [← HSN.out] at ht3; have HT3 := Aside0.mk ht3; have nx := HNX.out _ ht3.below; clear ho hb hg hat ht3)
                | (go_simp; go_at_call 34; refine (HKC.out _ (below_step HB.out.below HDW.out)).mono ?_; rintro e w2 ⟨A3, c3, A4, c4, rfl, m3, F3, m4, F4, hb2, _, _⟩; have HB2 := Aside0.mk (below_step HDW.out hb2); have HM2 := Aside0.mk (HB.out.moved HB2.out); have HFK := Aside0.mk (k28_mkF w2 (fun k => wr.heap.size ≤ k) u m3 F3 m4 F4); have HOK := Aside0.mk (show ∀ k, wr.heap.size ≤ k → (w.heap.size + 2 ≤ k ∧ some k ≠ (Value.slice none 0 0).ownBlock) ∧ some k ≠ v4.ownBlock from fun k hk => ⟨⟨Nat.le_trans HB.out.size hk, fun e => by have := Kd.N_lt HB.out.n3 k e.symm; omega⟩, fun e => by have := Kd.N_lt HB.out.n4 k e.symm; omega⟩); have HFR := Aside0.mk (show ∀ k, w2.heap.size ≤ k → w.heap.size + 2 ≤ k ∧ some k ≠ (Value.slice none 0 0).ownBlock from fun k hk => ⟨Nat.le_trans HM2.out.size hk, fun e => by have := Kd.N_lt HM2.out.n3 k e.symm; omega⟩); have x42 : w2.cell? ⟨w.heap.size + 1, 4, none⟩ = some v4 := HM2.out.cells.2.2.2.2; have x43 : (w2.alloc (.cells #[.int .i64 u.f0, .string u.f1, .string u.f2, .slice A3 u.f3.length c3, .slice A4 u.f4.length c4] 28)).cell? ⟨w.heap.size + 1, 4, none⟩ = some v4 := (HM2.out.moved (below_alloc (Below.refl _ _) _)).cells.2.2.2.2; clear m3 F3 m4 F4 hb2))
              all_goals (simp only [Exit.inBlock, Exit.then]; go_wp2_with fail; go_roundg (ks.length - (j + 1)))
              all_goals first
                | exact ⟨j + 1, _, rfl, hlt, rfl, HT3⟩
                | omega
                | trace_state
            · have hje : j = ks.length := by omega
              subst hje
              rw [List.getElem?_eq_none (Nat.le_refl _)]
              simp only [Option.map_none, ptr_none]
              have hB := HB.out
              rw [List.take_of_length_le (by rw [List.length_map]; exact Nat.le_refl _), ← RT.toTL_map] at hB
              have e3 : True := trivial
              obtain ⟨n4, A4, c4, e4⟩ : ∃ n A c, v4 = .slice A n c := by obtain ⟨A, c, h⟩ := Kd.N_slice hB.n4; exact ⟨_, A, c, h⟩
              subst e4
              clear e3
              obtain ⟨a0, a1, a2, a3, a4, hr⟩ := hB.res
              obtain ⟨b0, b1, b2, b3, b4⟩ := hB.cells
              have r0 := blk_cell hr 0
              have r1 := blk_cell hr 1
              have r2 := blk_cell hr 2
              have r3 := blk_cell hr 3
              have r4 := blk_cell hr 4
              have f0 := blk_frozen hr 0
              have f1 := blk_frozen hr 1
              have f2 := blk_frozen hr 2
              have f3 := blk_frozen hr 3
              have f4 := blk_frozen hr 4
              have HBB := Aside0.mk hB
              clear hB hr HB
              go_wp2_with fail
              refine bodyPost_ret (v := .agg #[.int .i64 3, .string ⟨#[]⟩, .string ⟨#[]⟩, .slice none 0 0, .slice A4 n4 c4]) (by simp [results, Tryd.results34, go_sem, r0, r1, r2, r3, r4]) rfl ?_
              obtain ⟨het, hk4, q0, q1, q2, q3⟩ := HT.out
              have hte := told_end (t := t) (by rw [q0, q1, q2, q3, hk4]; exact HBB.out) (fun k hk _ => sets5 wr w.heap.size (.int .i64 3) (.string ⟨#[]⟩) (.string ⟨#[]⟩) (.slice none 0 0) (.slice A4 n4 c4) k (by omega)) (below_sets5 HBB.out.below (.int .i64 3) (.string ⟨#[]⟩) (.string ⟨#[]⟩) (.slice none 0 0) (.slice A4 n4 c4))
              rw [q0, q1, q2] at hte
              exact hte
end Go.Proofs.YtmfjbljdbkmkgaaDoor.Dom

/- Trees of nodes whose children change at one place: what a table holds of them. Plain facts. -/
namespace Go.Proofs.YtmfjbljdbkmkgaaDoor.Dom
open Go.RowKit Go.Proofs.YtmfjbljdbkmkgaaDoorW.PrintWords Go.Proofs.YtmfjbljdbkmkgaaDoorW.PrintLast Go.Proofs.YtmfjbljdbkmkgaaDoorW.PrintMore Go.Proofs.YtmfjbljdbkmkgaaDoor.PDom
set_option linter.unusedVariables false
set_option linter.unusedSimpArgs false

theorem Is.congr {D D' : Tab} (r : RT) : ∀ {p : Option Nat}, Is D p r → (∀ b ∈ r.pre, D' b = D b) → Is D' p r := by
  induction r using RT.induct with
  | h i t a d at_ ks ih =>
    intro p h he
    have hroot : D i = some _ := h.root
    refine Is.mk p i t a d at_ ks ((he i (by simp [RT.pre])).trans hroot) (fun k hk => ih k hk (h.kid hk) (fun b hb => he b ?_))
    show b ∈ i :: RT.preL ks
    exact List.mem_cons_of_mem _ (RT.mem_preL.2 ⟨k, hk, hb⟩)
end Go.Proofs.YtmfjbljdbkmkgaaDoor.Dom

/- A subtree taken out of a tree, and a tree put in. Plain facts on tables. -/
namespace Go.Proofs.YtmfjbljdbkmkgaaDoor.Dom
open Go.RowKit Go.Proofs.YtmfjbljdbkmkgaaDoorW.PrintWords Go.Proofs.YtmfjbljdbkmkgaaDoorW.PrintLast Go.Proofs.YtmfjbljdbkmkgaaDoorW.PrintMore Go.Proofs.YtmfjbljdbkmkgaaDoor.PDom
set_option linter.unusedVariables false
set_option linter.unusedSimpArgs false

theorem Is.up {D : Tab} {r up : RT} {p : Option Nat} {l : List Int} (h : Is D p r) (hu : r.at_ l = some up) : ∃ q, Is D q up := by
  induction l generalizing r p with
  | nil =>
    have : r = up := by simpa [RT.at_] using hu
    exact ⟨p, this ▸ h⟩
  | cons j l ih =>
    simp only [RT.at_] at hu
    split at hu
    · obtain ⟨k, hk, h2⟩ := Option.bind_eq_some_iff.1 hu
      exact ih (h.kid (List.mem_of_getElem? hk)) h2
    · cases hu
def RT.withKids : RT → List RT → RT
  | .node i t a d at_ _, ks => .node i t a d at_ ks
end Go.Proofs.YtmfjbljdbkmkgaaDoor.Dom

/- dom.ReplaceNode: its contract over a tree. -/
namespace Go.Proofs.YtmfjbljdbkmkgaaDoor.Dom
open Go.RowKit Go.Proofs.YtmfjbljdbkmkgaaDoorW.PrintWords Go.Proofs.YtmfjbljdbkmkgaaDoorW.PrintLast Go.Proofs.YtmfjbljdbkmkgaaDoorW.PrintMore Go.Proofs.YtmfjbljdbkmkgaaDoor.PDom
set_option linter.unusedVariables false
set_option linter.unusedSimpArgs false

theorem Only.trans' {D D' : Tab} {w w' w'' : World} (h : Only D w w') (h' : Only D' w' w'') (hD : ∀ k, D k = none ↔ D' k = none) : Only D w w'' := h.trans h' (fun k hk _ => (hD k).1 hk)
end Go.Proofs.YtmfjbljdbkmkgaaDoor.Dom

/- The guards of the laws on trees always tell something: zzFits2, name29, size29 right29, tree29. Plain facts. -/
namespace Go.Proofs.YtmfjbljdbkmkgaaDoor.PDom
open Go.RowKit Go.Proofs.YtmfjbljdbkmkgaaDoorW.PrintWords Go.Proofs.YtmfjbljdbkmkgaaDoorW.PrintLast Go.Proofs.YtmfjbljdbkmkgaaDoorW.PrintMore Go.Proofs.YtmfjbljdbkmkgaaDoor.Dom
set_option linter.unusedVariables false
set_option linter.unusedSimpArgs false

theorem up {α : Type} {g : Nat → Option α} (hm : ∀ k, LeO (g k) (g (k + 1))) {k m : Nat} (h : k ≤ m) {r : α} (hk : g k = some r) : g m = some r := by
  induction h with
  | refl => exact hk
  | step _ ih => exact hm _ _ ih

theorem succ_wrap (j : Nat) (h : j ≤ 4611686018427387904) : wrap64 ((j : Int) + 1) = ((j + 1 : Nat) : Int) := by
  rw [wrap_same (by omega) (by omega)]
  omega

end Go.Proofs.YtmfjbljdbkmkgaaDoor.PDom

/- What the laws' guards on a tree tell: it is in normal form, of 300 nodes at most, as deep as that. Plain facts. -/
namespace Go.Proofs.YtmfjbljdbkmkgaaDoor.PDom
open Go.RowKit Go.Proofs.YtmfjbljdbkmkgaaDoorW.PrintWords Go.Proofs.YtmfjbljdbkmkgaaDoorW.PrintLast Go.Proofs.YtmfjbljdbkmkgaaDoorW.PrintMore Go.Proofs.YtmfjbljdbkmkgaaDoor.Dom
set_option linter.unusedVariables false
set_option linter.unusedSimpArgs false

theorem rd_at (l : List S28) {j : Nat} (h : j < l.length) : rd_T28 l (j : Int) = l[j] := by simp [rd_T28, List.getD_eq_getElem?_getD, List.getElem?_eq_getElem h]
def NodeOk (root : Bool) (t : T) : Prop :=
  ((t.f0 = 1 ∨ t.f0 = 2) ∧ t.f1 = ⟨#[]⟩ ∧ t.f3 = [] ∧ t.f4 = []) ∨ (t.f0 = 3 ∧ root = true ∧ t.f1 = ⟨#[]⟩ ∧ t.f2 = ⟨#[]⟩ ∧ t.f3 = []) ∨ (t.f0 = 0 ∧ t.f2 = ⟨#[]⟩)
inductive Norm : Bool → T → Prop
  | mk (root : Bool) (t : T) (h : NodeOk root t) (hk : ∀ y ∈ t.f4, Norm false y) : Norm root t
/-! ### How many nodes -/
mutual
def countT : T → Nat
  | ⟨_, _, _, _, ks⟩ => 1 + countTL ks
def countTL : List T → Nat
  | [] => 0
  | k :: ks => countT k + countTL ks
end
theorem countT_eq (t : T) : countT t = 1 + countTL t.f4 := by cases t; rfl
end Go.Proofs.YtmfjbljdbkmkgaaDoor.PDom

/- impl.AllNodes of a tree in normal form: the places of its nodes, in order. -/
namespace Go.Proofs.YtmfjbljdbkmkgaaDoor.PDom
open Go.RowKit Go.Proofs.YtmfjbljdbkmkgaaDoorW.PrintWords Go.Proofs.YtmfjbljdbkmkgaaDoorW.PrintLast Go.Proofs.YtmfjbljdbkmkgaaDoorW.PrintMore Go.Proofs.YtmfjbljdbkmkgaaDoor.Dom
set_option linter.unusedVariables false
set_option linter.unusedSimpArgs false

mutual
/-- The places of a tree's nodes, each ahead of those in it. -/
def pathsT (p : List Int) : T → List (List Int)
  | ⟨_, _, _, _, ks⟩ => p :: pathsTL p 0 ks
def pathsTL (p : List Int) (j : Nat) : List T → List (List Int)
  | [] => []
  | k :: ks => pathsT (p ++ [(j : Int)]) k ++ pathsTL p (j + 1) ks
end
theorem pathsT_eq (p : List Int) (t : T) : pathsT p t = p :: pathsTL p 0 t.f4 := by cases t; rfl
theorem kids_norm {root : Bool} {t : T} (h : Norm root t) : kidsT t = t.f4 := by
  obtain ⟨_, _, h1, _⟩ := h
  unfold kidsT
  by_cases hf : flat t
  · rw [if_pos hf]
    rcases h1 with ⟨_, _, _, h4⟩ | ⟨h3, _⟩ | ⟨h0, _⟩
    · exact h4.symm
    · unfold flat at hf; omega
    · unfold flat at hf; omega
  · rw [if_neg hf]
theorem Norm.kid {root : Bool} {t y : T} (h : Norm root t) (hy : y ∈ t.f4) : Norm false y := by
  obtain ⟨_, _, _, hk⟩ := h
  exact hk y hy
theorem told_open {t : T} {i : Nat} {ty a : Int} {d : ByteArray} {at_ : List (ByteArray × ByteArray)} {ks : List RT} (h : TellsT t (.node i ty a d at_ ks)) {root : Bool} (hn : Norm root t) :
    t.f4.length = ks.length ∧ ∀ j (h1 : j < t.f4.length) (h2 : j < ks.length), TellsT t.f4[j] ks[j] := by
  cases h with
  | mk _ _ _ _ ha hl hk =>
    have e := kids_norm hn
    simp only [e] at hl hk
    exact ⟨hl, hk⟩
theorem told_paths (r : RT) : ∀ (t : T) (root : Bool), Norm root t → TellsT t r → (∀ p, r.paths p = pathsT p t) ∧ r.pre.length = countT t := by
  induction r using RT.induct with
  | h i ty a d at_ ks ih =>
    intro t root hn ht
    obtain ⟨hl, hk⟩ := told_open ht hn
    have key : ∀ (n j : Nat), ks.length = j + n → (∀ p, RT.pathsL p j (ks.drop j) = pathsTL p j (t.f4.drop j)) ∧ (RT.preL (ks.drop j)).length = countTL (t.f4.drop j) := by
      intro n
      induction n with
      | zero =>
        intro j hj
        rw [List.drop_eq_nil_of_le (by omega), List.drop_eq_nil_of_le (by omega)]
        exact ⟨fun _ => rfl, rfl⟩
      | succ n ihn =>
        intro j hj
        have h1 : j < ks.length := by omega
        have h2 : j < t.f4.length := by omega
        obtain ⟨e1, e2⟩ := ihn (j + 1) (by omega)
        obtain ⟨e3, e4⟩ := ih ks[j] (List.getElem_mem h1) t.f4[j] false (hn.kid (List.getElem_mem h2)) (hk j h2 h1)
        rw [List.drop_eq_getElem_cons h1, List.drop_eq_getElem_cons h2]
        refine ⟨fun p => ?_, ?_⟩
        · simp only [RT.pathsL, pathsTL]
          rw [e1, e3]
        · simp only [RT.preL, countTL, List.length_append]
          rw [e2, e4]
    obtain ⟨e1, e2⟩ := key ks.length 0 (by omega)
    simp only [List.drop_zero] at e1 e2
    refine ⟨fun p => ?_, ?_⟩
    · rw [pathsT_eq]
      simp only [RT.paths]
      rw [e1]
    · rw [countT_eq]
      simp only [RT.pre, List.length_cons]
      omega
end Go.Proofs.YtmfjbljdbkmkgaaDoor.PDom

/- Places in a tree as plain data and among its nodes; first children and siblings at places. Plain facts. -/
namespace Go.Proofs.YtmfjbljdbkmkgaaDoor.PDom
open Go.RowKit Go.Proofs.YtmfjbljdbkmkgaaDoorW.PrintWords Go.Proofs.YtmfjbljdbkmkgaaDoorW.PrintLast Go.Proofs.YtmfjbljdbkmkgaaDoorW.PrintMore Go.Proofs.YtmfjbljdbkmkgaaDoor.Dom
set_option linter.unusedVariables false
set_option linter.unusedSimpArgs false

theorem at_append (r : RT) (l m : List Int) : r.at_ (l ++ m) = (r.at_ l).bind fun y => y.at_ m := by
  induction l generalizing r with
  | nil => rfl
  | cons k l ih =>
    simp only [List.cons_append, RT.at_]
    by_cases h : 0 ≤ k
    · rw [if_pos h, if_pos h]
      cases r.kids[k.toNat]? with
      | none => rfl
      | some y => simp only [Option.bind_some]; exact ih y
    · rw [if_neg h, if_neg h]; rfl
/-! ### Which one is found -/
end Go.Proofs.YtmfjbljdbkmkgaaDoor.PDom

/- impl.guarded, over a function that returns: false, and what that function left. -/
namespace Go.Proofs.YtmfjbljdbkmkgaaDoor.Guard
open Go.RowKit Go.Proofs.YtmfjbljdbkmkgaaDoorW.PrintWords Go.Proofs.YtmfjbljdbkmkgaaDoorW.PrintLast Go.Proofs.YtmfjbljdbkmkgaaDoorW.PrintMore
set_option linter.unusedVariables false
set_option linter.unusedSimpArgs false

theorem catch_idle (p : Addr) (w : World) :
    CallsD Tryd.prog 47 #[.pointer (some p)] .returning w fun e u' w' => e = .returned (.tuple #[]) ∧ u' = .returning ∧ w' = w := by
  refine callsD_of_wpS Tryd.func47 rfl fun c₀ cs hu => ?_
  apply wpS_seq
  apply wpS_region
  simp [wpOpsS, go_sem, recoverD, hu, Tryd.ntmps47, Exit.thenS]
  refine wpS_cond (t := false) (by simp [Act.eval, Array.replicate]) ?_
  simp only [Bool.false_eq_true, if_false]
  refine wpS_of_wp (wp_skip ?_)
  cases c₀
  simp_all [bodyPostS, results, Tryd.results47]
theorem guarded_calls (F : Nat) (cap : Array Value) (w : World) (Q : World → Prop) (hF : ∀ (args : Array Value) (w : World), (callFunc F args).run Tryd.prog w = .ok (.enter F args) w)
    (HC : Calls Tryd.prog F cap (w.alloc (.cells #[.bool false] 4)) fun e w' => e = .returned (.tuple #[]) ∧ w'.heap[w.heap.size]? = some (.cells #[.bool false] 4 (0, 0)) ∧ Q w') :
    Calls Tryd.prog 31 #[.func (.func F) #[] cap] w fun e w' => e = .returned (.bool false) ∧ ∃ w2, Q w2 ∧ w2.heap[w.heap.size]? = some (.cells #[.bool false] 4 (0, 0)) ∧ w' = w2.setCell ⟨w.heap.size, 0, none⟩ (.bool false) := by
  have hmf : ∀ (fn : Fn) (first cap : Array Value) (w : World), (Instr.makeFunc fn first cap).run Tryd.prog w = .ok (.func fn first cap) w := fun _ _ _ _ => rfl
  have HC0 := Aside0.mk HC
  clear HC
  go_enter_defers Tryd.func31, Tryd.ntmps31
  go_wp2_with fail
  refine HC0.out.mono ?_
  rintro e w2 ⟨rfl, hb, hq⟩
  have c2 := blk_cell hb 0
  have f2 := blk_frozen hb 0
  have HB := Aside0.mk hb
  have HQ := Aside0.mk hq
  clear hb hq
  go_wp2_with fail
  refine leaves_cons (f := 47) (args := #[.pointer (some ⟨w.heap.size, 0, none⟩)]) (by simp) (by simp [go_sem]) ?_
  refine (catch_idle ⟨w.heap.size, 0, none⟩ _).mono ?_
  rintro e u' w'' ⟨rfl, rfl, rfl⟩
  have c3 : (w2.setCell ⟨w.heap.size, 0, none⟩ (.bool false)).cell? ⟨w.heap.size, 0, none⟩ = some (.bool false) := by rw [blk_cell (blk_set HB.out 0 (.bool false))]; rfl
  simp [Leaves, settle, results, Tryd.results31, go_sem, c3]
  exact ⟨w2, HQ.out, HB.out, rfl⟩
end Go.Proofs.YtmfjbljdbkmkgaaDoor.Guard

/- impl.changedAt, over a function that changes a tree: what it returns. -/
namespace Go.Proofs.YtmfjbljdbkmkgaaDoor.Dom
open Go.RowKit Go.Proofs.YtmfjbljdbkmkgaaDoorW.PrintWords Go.Proofs.YtmfjbljdbkmkgaaDoorW.PrintLast Go.Proofs.YtmfjbljdbkmkgaaDoorW.PrintMore Go.Proofs.YtmfjbljdbkmkgaaDoor.PDom
set_option linter.unusedVariables false
set_option linter.unusedSimpArgs false

theorem Dom.far {w : World} {D : Tab} (h : Dom w D) {g t : Nat} {cells : Array Value} (hb : w.heap[g]? = some (.cells cells t (0, 0))) (hD : D g = none) (ht : 75 ≠ t) (j : Nat) (u : Value) : Dom (w.setCell ⟨g, j, none⟩ u) D :=
  ⟨h.wf, fun {b i} hd => by
    obtain ⟨v, h1, h2⟩ := h.has hd
    refine ⟨v, h1.far (p := ⟨g, j, none⟩) (fun e => by rw [show b = g from e, hD] at hd; cases hd) u, ?_⟩
    exact Kd.R_set h2 hb (fun q hq => by
      have : q = 75 := by simpa [kA, Kd.iso, Kd.pair, Kd.string, Kd.scalar] using hq
      rw [this]
      exact ht) j u⟩
/-- What a tree becomes. -/
def Turns (w w' : World) (D : Tab) (r : RT) (u : T) : Prop := ∃ D' r', Dom w' D' ∧ Is D' none r' ∧ r'.id = r.id ∧ RFit r' ∧ r'.toT = u ∧ Only D w w' ∧ (∀ k, k < w.heap.size → D k = none → D' k = none)
theorem push_size (w : World) (o : Obj) : (w.alloc o).heap.size = w.heap.size + 1 := Array.size_push _
end Go.Proofs.YtmfjbljdbkmkgaaDoor.Dom

/- What is told of a tree that was made: the tree itself. Plain facts. -/
namespace Go.Proofs.YtmfjbljdbkmkgaaDoor.PDom
open Go.RowKit Go.Proofs.YtmfjbljdbkmkgaaDoorW.PrintWords Go.Proofs.YtmfjbljdbkmkgaaDoorW.PrintLast Go.Proofs.YtmfjbljdbkmkgaaDoorW.PrintMore Go.Proofs.YtmfjbljdbkmkgaaDoor.Dom
set_option linter.unusedVariables false
set_option linter.unusedSimpArgs false

theorem toT_norm (r : RT) : ∀ (t : T) (root : Bool), Norm root t → TellsT t r → r.toT = t := by
  induction r using RT.induct with
  | h i ty a d at_ ks ih =>
    intro t root hn ht
    obtain ⟨hl, hk⟩ := told_open ht hn
    have hkids : RT.toTL ks = t.f4 := by
      rw [RT.toTL_map]
      apply List.ext_getElem (by rw [List.length_map]; exact hl.symm)
      intro j h1 h2
      rw [List.getElem_map]
      have h3 : j < ks.length := by rw [List.length_map] at h1; exact h1
      exact ih ks[j] (List.getElem_mem h3) _ false (hn.kid (List.getElem_mem h2)) (hk j h2 h3)
    cases ht with
    | mk _ _ _ _ ha hl2 hk2 =>
      cases hn with
      | mk _ _ h _ =>
        obtain ⟨f0, f1, f2, f3, f4⟩ := t
        simp only at hkids
        simp only [RT.toT, tyOf, dataOf, attrsOf, flat]
        rcases h with ⟨h0, h1, h3, h4⟩ | ⟨h0, hr, h1, h2, h3⟩ | ⟨h0, h2⟩
        · simp only at h0 h1 h3 h4
          subst h1 h3 h4
          rcases h0 with rfl | rfl
          · simp
          · simp
        · simp only at h0 h1 h2 h3
          subst h0 h1 h2 h3
          simp [hkids]
        · simp only at h0 h2
          subst h0 h2
          simp [hkids, List.map_map, Function.comp_def]
theorem RFit.at {l : List Int} : ∀ {r up : RT}, r.at_ l = some up → RFit r → RFit up := by
  induction l with
  | nil =>
    intro r up hu hr
    obtain rfl : r = up := by simpa [RT.at_] using hu
    exact hr
  | cons j l ih =>
    intro r up hu hr
    simp only [RT.at_] at hu
    split at hu
    case isFalse => cases hu
    obtain ⟨k, hkj, hu2⟩ := Option.bind_eq_some_iff.1 hu
    have hkm : k ∈ r.kids := List.mem_of_getElem? hkj
    refine ih hu2 ?_
    cases hr with
    | mk i ty a d at_ ks h3 h4 h5 => exact h5 k hkm
end Go.Proofs.YtmfjbljdbkmkgaaDoor.PDom

/- Who stands within whom in a tree of nodes, and what becomes of it when a node's children come up into its place. Plain facts. -/
namespace Go.Proofs.YtmfjbljdbkmkgaaDoor.Dom
open Go.RowKit Go.Proofs.YtmfjbljdbkmkgaaDoorW.PrintWords Go.Proofs.YtmfjbljdbkmkgaaDoorW.PrintLast Go.Proofs.YtmfjbljdbkmkgaaDoorW.PrintMore Go.Proofs.YtmfjbljdbkmkgaaDoor.PDom
set_option linter.unusedVariables false
set_option linter.unusedSimpArgs false

/-- A property of a node in which its children have no part. -/
def Own (m : RT → Bool) : Prop := ∀ r K, m (r.withKids K) = m r
/-- One of the nodes above a place has it. -/
def RT.anyUp (m : RT → Bool) : RT → List Int → Bool
  | _, [] => false
  | r, j :: l => m r || (match r.kids[j.toNat]? with | some k => RT.anyUp m k l | none => false)
theorem at_cons {r y : RT} {j : Int} {l : List Int} (h : r.at_ (j :: l) = some y) : 0 ≤ j ∧ ∃ k, r.kids[j.toNat]? = some k ∧ k.at_ l = some y := by
  simp only [RT.at_] at h
  split at h
  · rename_i h0
    obtain ⟨k, hk, e⟩ := Option.bind_eq_some_iff.1 h
    exact ⟨h0, k, hk, e⟩
  · cases h
theorem anyUp_cons {m : RT → Bool} {r k : RT} {j : Int} {l : List Int} (hk : r.kids[j.toNat]? = some k) : r.anyUp m (j :: l) = (m r || k.anyUp m l) := by
  simp only [RT.anyUp, hk]
theorem anyUp_append {m : RT → Bool} (p : List Int) : ∀ (r k : RT) (l : List Int), r.at_ p = some k → r.anyUp m (p ++ l) = (r.anyUp m p || k.anyUp m l) := by
  induction p with
  | nil =>
    intro r k l h
    obtain rfl : r = k := by simpa [RT.at_] using h
    simp [RT.anyUp]
  | cons j p ih =>
    intro r k l h
    obtain ⟨_, c, hc, e⟩ := at_cons h
    rw [List.cons_append, anyUp_cons hc, anyUp_cons hc, ih c k l e, Bool.or_assoc]
/-- Each node of the one tree is one of the other, where it stands below at least as many. -/
structure Emb (m : RT → Bool) (r' r : RT) : Prop where
  idd : r'.id = r.id
  own : m r' = m r
  way : ∀ l' y', r'.at_ l' = some y' → ∃ l y, r.at_ l = some y ∧ y.id = y'.id ∧ m y = m y' ∧ (r'.anyUp m l' = true → r.anyUp m l = true)
theorem Emb.refl (m : RT → Bool) (r : RT) : Emb m r r := ⟨rfl, rfl, fun l y h => ⟨l, y, h, rfl, rfl, fun h => h⟩⟩
theorem Emb.node {m : RT → Bool} {r' r : RT} (hid : r'.id = r.id) (hm : m r' = m r) (h : ∀ (j : Nat) k', r'.kids[j]? = some k' → ∃ (j0 : Nat) (p : List Int) (k : RT), r.at_ ((j0 : Int) :: p) = some k ∧ Emb m k' k) : Emb m r' r := by
  refine ⟨hid, hm, fun l' y' hy => ?_⟩
  cases l' with
  | nil =>
    obtain rfl : r' = y' := by simpa [RT.at_] using hy
    exact ⟨[], r, rfl, hid.symm, hm.symm, fun h => by simp [RT.anyUp] at h⟩
  | cons j l' =>
    obtain ⟨_, k', hk', e⟩ := at_cons hy
    obtain ⟨j0, p, k, hp, E⟩ := h _ _ hk'
    obtain ⟨l, y, h1, h2, h3, h4⟩ := E.way _ _ e
    refine ⟨((j0 : Int) :: p) ++ l, y, by rw [at_append, hp]; exact h1, h2, h3, fun hu => ?_⟩
    rw [anyUp_cons hk'] at hu
    rw [anyUp_append _ _ _ _ hp]
    obtain ⟨_, c, hc, _⟩ := at_cons hp
    rw [anyUp_cons hc, ← hm]
    cases hmr : m r' with
    | true => simp
    | false =>
      rw [hmr, Bool.false_or] at hu
      rw [h4 hu]
      simp
/-! ### Which nodes a changed tree has -/
/-! ### A property of all nodes -/
inductive RT.All (P : RT → Prop) : RT → Prop
  | mk (r : RT) (h : P r) (hk : ∀ k ∈ r.kids, RT.All P k) : RT.All P r
theorem RT.All.at {P : RT → Prop} {l : List Int} : ∀ {r y : RT}, r.at_ l = some y → RT.All P r → RT.All P y := by
  induction l with
  | nil =>
    intro r y h ha
    obtain rfl : r = y := by simpa [RT.at_] using h
    exact ha
  | cons j l ih =>
    intro r y h ha
    obtain ⟨_, k, hk, e⟩ := at_cons h
    cases ha with
    | mk _ _ hks => exact ih e (hks k (List.mem_of_getElem? hk))
/-! ### The text -/
mutual
def RT.tx : RT → List UInt8
  | .node _ t _ d _ ks => if t = 1 then d.data.toList else if t = 4 then [] else RT.txL ks
def RT.txL : List RT → List UInt8
  | [] => []
  | k :: ks => k.tx ++ RT.txL ks
end
/-! ### One within another -/
mutual
def RT.within (m : RT → Bool) (b : Bool) : RT → Bool
  | .node i t a d at_ ks => (m (.node i t a d at_ []) && b) || RT.withinL m (b || m (.node i t a d at_ [])) ks
def RT.withinL (m : RT → Bool) (b : Bool) : List RT → Bool
  | [] => false
  | k :: ks => RT.within m b k || RT.withinL m b ks
end
/-! ### What stands while the nodes of a tree are gone through -/
structure Red (m : RT → Bool) (r0 r : RT) (j : Nat) : Prop where
  id : r.id = r0.id
  text : r.tx = r0.tx
  left : ∀ x ∈ r0.pre.drop j, x ∈ r.pre
  sub : ∀ x ∈ r.pre, x ∈ r0.pre
  done : ∀ l y, r.at_ l = some y → y.id ∈ r0.pre.take j → ¬ (m y = true ∧ r.anyUp m l = true)
  same : RT.within m false r0 = false → r = r0
  len : r.pre.length ≤ r0.pre.length
theorem Red.start (m : RT → Bool) (r : RT) : Red m r r 0 := ⟨rfl, rfl, fun x h => by simpa using h, fun x h => h, fun l y _ h => by simp at h, fun _ => rfl, Nat.le_refl _⟩
/-- Attributes that can be counted, and a kind that is known. -/
def okN (r : RT) : Prop := r.attrs.length ≤ 4398046510976 ∧ (r.ty = 1 ∨ r.ty = 3 ∨ r.ty = 4)
theorem rfit_all (r : RT) : RT.All okN r → r.pre.length ≤ 1000000000000 → RFit r := by
  induction r using RT.induct with
  | h i t a d at_ ks ih =>
    intro ha hl
    cases ha with
    | mk _ hp hk =>
      have h1 := RT.kids_lt (.node i t a d at_ ks)
      refine .mk i t a d at_ ks hp.1 ?_ (fun k hkm => ih k hkm (hk k hkm) ?_)
      · have : ks.length < (RT.node i t a d at_ ks).pre.length := h1
        omega
      · have := RT.kid_pre (r := .node i t a d at_ ks) hkm
        omega
end Go.Proofs.YtmfjbljdbkmkgaaDoor.Dom
