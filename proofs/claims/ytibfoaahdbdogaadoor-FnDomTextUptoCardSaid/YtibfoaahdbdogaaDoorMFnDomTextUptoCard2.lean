/- A part of the proof of FnDomTextUptoCard: Dom, DomX, EDomx0, EDomx1, EDomx2, one behind the other. -/
import Derived.Test.YtibfoaahdbdogaaDoorMFnDomTextUptoCard1
import Derived.Test.YtibfoaahdbdogaaDoorProg
import Derived.Below
import Derived.Deep.Draws
import Derived.Deep.AppendLies
import Derived.Maps.AppendAt
import Derived.OwnWalk
import Derived.Laws.BytesArg
import Derived.Laws.MakeOwn
import Derived.Laws.OwnMore
import Derived.Deep.OwnRows
import Derived.Tactics
import Derived.Lib.ConvBytes
import Derived.Laws.Slices
import Derived.WalkKit
import Derived.KernelRfl
import Derived.RowKit3
import Derived.Deep.LoopGhost
import Derived.Deep.QuietTactic
import Derived.BigQuiet
import Derived.WideLaws
import Derived.Deep.DeepCutAuto
import Derived.Deep.CutBlock
import Derived.Deep.RegionHeld3
import Derived.Laws.Rows
import Derived.Lib.AppendStr
import Derived.ArgAppend
import Derived.Laws.IdiomCopy
import Derived.OrdersHeld
import Derived.Laws.BitsLemmas
import Derived.RowKit
/- A page's nodes as a table: parents, children, and what each node's block in memory holds; what the three changes of a tree make of it. Plain facts on tables, and on memory that holds one. -/
namespace Go.Proofs.YtibfoaahdbdogaaDoor.Dom
open Go.RowKit Go.Proofs.YtibfoaahdbdogaaDoorW.PrintWords Go.Proofs.YtibfoaahdbdogaaDoorW.PrintLast Go.Proofs.YtibfoaahdbdogaaDoorW.PrintMore
set_option linter.unusedVariables false
set_option linter.unusedSimpArgs false

/-! ### Neighbours in a list -/
def nextIn : List Nat → Nat → Option Nat
  | [], _ => none
  | x :: l, b => if x = b then l.head? else nextIn l b
def prevIn (l : List Nat) (b : Nat) : Option Nat := nextIn l.reverse b
theorem nextIn_split {l1 l2 : List Nat} {b : Nat} (h : b ∉ l1) : nextIn (l1 ++ b :: l2) b = l2.head? := by
  induction l1 with
  | nil => simp [nextIn]
  | cons x l1 ih =>
    have hx : ¬ x = b := fun e => h (by simp [e])
    simp only [List.cons_append, nextIn, if_neg hx]
    exact ih fun hb => h (List.mem_cons_of_mem _ hb)
theorem prevIn_split {l1 l2 : List Nat} {b : Nat} (h : b ∉ l2) : prevIn (l1 ++ b :: l2) b = l1.getLast? := by
  unfold prevIn
  rw [List.reverse_append, List.reverse_cons, List.append_assoc, List.singleton_append, nextIn_split (by simpa using h), List.head?_reverse]
theorem nodup_split {l1 l2 : List Nat} {b : Nat} (h : (l1 ++ b :: l2).Nodup) : b ∉ l1 ∧ b ∉ l2 ∧ (l1 ++ l2).Nodup := by
  rw [List.nodup_append] at h
  obtain ⟨h1, h2, h3⟩ := h
  rw [List.nodup_cons] at h2
  refine ⟨fun hb => h3 b hb b (by simp) rfl, h2.1, ?_⟩
  rw [List.nodup_append]
  exact ⟨h1, h2.2, fun x hx y hy => h3 x hx y (List.mem_cons_of_mem _ hy)⟩

/-! ### A node's block -/
def ptr : Option Nat → Value
  | none => .pointer none
  | some b => .pointer (some ⟨b, 0, none⟩)
structure Rec where
  parent : Option Nat
  first : Option Nat
  last : Option Nat
  prev : Option Nat
  next : Option Nat
  ty : Int
  atom : Int
  data : ByteArray
  attr : Value
def Rec.cells (r : Rec) : Array Value := #[ptr r.parent, ptr r.first, ptr r.last, ptr r.prev, ptr r.next, .int .u32 r.ty, .int .u32 r.atom, .string r.data, .string ⟨#[]⟩, r.attr]
/-- The block b holds the node r. -/
def Has (w : World) (b : Nat) (r : Rec) : Prop := w.heap[b]? = some (.cells r.cells 64 (0, 0))
section
variable {w w1 : World} {b : Nat} {r : Rec}
theorem Has.lt (h : Has w b r) : b < w.heap.size := (Array.getElem?_eq_some_iff.1 h).1
theorem Has.cell (h : Has w b r) (i : Nat) : w.cell? ⟨b, i, none⟩ = r.cells[i]? := blk_cell h i
theorem Has.frozen (h : Has w b r) (i : Nat) : w.frozen? ⟨b, i, none⟩ = false := blk_frozen h i
theorem Has.cells10 (h : Has w b r) : w.cell? ⟨b, 0, none⟩ = some (ptr r.parent) ∧ w.cell? ⟨b, 1, none⟩ = some (ptr r.first) ∧ w.cell? ⟨b, 2, none⟩ = some (ptr r.last) ∧ w.cell? ⟨b, 3, none⟩ = some (ptr r.prev) ∧ w.cell? ⟨b, 4, none⟩ = some (ptr r.next) ∧
    w.cell? ⟨b, 5, none⟩ = some (.int .u32 r.ty) ∧ w.cell? ⟨b, 6, none⟩ = some (.int .u32 r.atom) ∧ w.cell? ⟨b, 7, none⟩ = some (.string r.data) ∧ w.cell? ⟨b, 8, none⟩ = some (.string ⟨#[]⟩) ∧ w.cell? ⟨b, 9, none⟩ = some r.attr :=
  ⟨h.cell 0, h.cell 1, h.cell 2, h.cell 3, h.cell 4, h.cell 5, h.cell 6, h.cell 7, h.cell 8, h.cell 9⟩
theorem Has.of_heap (h : Has w b r) (he : w1.heap[b]? = w.heap[b]?) : Has w1 b r := he.trans h
theorem Has.far (h : Has w b r) {p : Addr} (hp : b ≠ p.block) (u : Value) : Has (w.setCell p u) b r := h.of_heap (Below.heap_setCell w p u b hp)
theorem Has.put (h : Has w b r) (i : Nat) (u : Value) (r' : Rec) (hr : r'.cells = r.cells.setIfInBounds i u) : Has (w.setCell ⟨b, i, none⟩ u) b r' := by
  unfold Has
  rw [hr]
  exact blk_set h i u
end

/-! ### The table -/
structure Info where
  parent : Option Nat
  kids : List Nat
  ty : Int
  atom : Int
  data : ByteArray
  attrs : List (ByteArray × ByteArray)
/-- An attribute: no namespace, a key, a value. -/
def kA : Kd (ByteArray × ByteArray) := Kd.iso (Kd.pair Kd.string (Kd.pair Kd.string Kd.string)) (fun x => (⟨#[]⟩, x.1, x.2))
/-- The row of attributes. -/
def AttrAt (w : World) (v : Value) (l : List (ByteArray × ByteArray)) : Prop := kA.R 66 w 0 (fun _ => True) v l
theorem AttrAt.below {w w1 : World} {v : Value} {l : List (ByteArray × ByteArray)} (h : AttrAt w v l) (hb : Below w.heap.size w w1) : AttrAt w1 v l := Kd.R_below h hb
theorem AttrAt.set {w : World} {v : Value} {l : List (ByteArray × ByteArray)} (h : AttrAt w v l) {g : Nat} {r : Rec} (hg : Has w g r) (j : Nat) (u : Value) : AttrAt (w.setCell ⟨g, j, none⟩ u) v l :=
  Kd.R_set h hg (fun q hq => by
    have : q = 66 := by simpa [kA, Kd.iso, Kd.pair, Kd.string, Kd.scalar] using hq
    rw [this]
    decide) j u
abbrev Tab := Nat → Option Info
def kidsOf (D : Tab) (p : Nat) : List Nat := match D p with
  | some i => i.kids
  | none => []
/-- The children of a node's parent. -/
def sibs (D : Tab) (i : Info) : List Nat := match i.parent with
  | some p => kidsOf D p
  | none => []
def recOf (D : Tab) (b : Nat) (i : Info) (v : Value) : Rec := ⟨i.parent, i.kids.head?, i.kids.getLast?, prevIn (sibs D i) b, nextIn (sibs D i) b, i.ty, i.atom, i.data, v⟩
structure WF (D : Tab) : Prop where
  up : ∀ {b i p}, D b = some i → i.parent = some p → ∃ ip, D p = some ip ∧ b ∈ ip.kids
  down : ∀ {b i c}, D b = some i → c ∈ i.kids → ∃ ic, D c = some ic ∧ ic.parent = some b
  nodup : ∀ {b i}, D b = some i → i.kids.Nodup
structure Dom (w : World) (D : Tab) : Prop where
  wf : WF D
  has : ∀ {b i}, D b = some i → ∃ v, Has w b (recOf D b i v) ∧ AttrAt w v i.attrs
def put (D : Tab) (b : Nat) (i : Info) : Tab := fun x => if x = b then some i else D x
theorem put_same (D : Tab) (b : Nat) (i : Info) : put D b i b = some i := if_pos rfl
theorem put_other (D : Tab) {b x : Nat} (i : Info) (h : x ≠ b) : put D b i x = D x := if_neg h

theorem kidsOf_some {D : Tab} {p : Nat} {i : Info} (h : D p = some i) : kidsOf D p = i.kids := by unfold kidsOf; rw [h]
/-- A node that is nobody's child has no siblings. -/
theorem sibs_none {D : Tab} {i : Info} (h : i.parent = none) : sibs D i = [] := by unfold sibs; rw [h]
theorem sibs_some {D : Tab} {i : Info} {p : Nat} (h : i.parent = some p) : sibs D i = kidsOf D p := by unfold sibs; rw [h]

theorem kidsOf_put (D : Tab) (b : Nat) (i : Info) (p : Nat) : kidsOf (put D b i) p = if p = b then i.kids else kidsOf D p := by
  unfold kidsOf put
  by_cases h : p = b
  · simp [h]
  · simp [h]
theorem Dom.kid_ne {w : World} {D : Tab} (h : Dom w D) {n c : Nat} {i ic : Info} (hn : D n = some i) (hc : D c = some ic) (hroot : ic.parent = none) : c ∉ i.kids := fun hm => by
  obtain ⟨ic', h1, h2⟩ := h.wf.down hn hm
  rw [hc] at h1
  injection h1 with h1
  subst h1
  rw [hroot] at h2
  cases h2
theorem Dom.kid_parent {w : World} {D : Tab} (h : Dom w D) {n c : Nat} {i ic : Info} (hn : D n = some i) (hc : D c = some ic) (hm : c ∈ i.kids) : ic.parent = some n := by
  obtain ⟨ic', h1, h2⟩ := h.wf.down hn hm
  rw [hc] at h1
  injection h1 with h1
  subst h1
  exact h2
theorem Dom.kid_of {w : World} {D : Tab} (h : Dom w D) {n c : Nat} {i ic : Info} (hn : D n = some i) (hc : D c = some ic) (hp : ic.parent = some n) : c ∈ i.kids := by
  obtain ⟨i', h1, h2⟩ := h.wf.up hc hp
  rw [hn] at h1
  injection h1 with h1
  subst h1
  exact h2

/-! ### AppendChild -/
def appended (D : Tab) (n c : Nat) (i ic : Info) : Tab := put (put D n { i with kids := i.kids ++ [c] }) c { ic with parent := some n }
theorem Dom.append {w w' : World} {D : Tab} (h : Dom w D) {n c : Nat} {i ic : Info} (hn : D n = some i) (hc : D c = some ic) (hne : n ≠ c) (hroot : ic.parent = none) (hself : i.parent ≠ some n)
    (HA : ∀ v l, AttrAt w v l → AttrAt w' v l)
    (HN : ∀ v, Has w n (recOf D n i v) → Has w' n { recOf D n i v with first := (i.kids ++ [c]).head?, last := some c })
    (HC : ∀ v, Has w c (recOf D c ic v) → Has w' c { recOf D c ic v with parent := some n, prev := i.kids.getLast? })
    (HL : ∀ x ix v, i.kids.getLast? = some x → D x = some ix → Has w x (recOf D x ix v) → Has w' x { recOf D x ix v with next := some c })
    (HO : ∀ b, D b ≠ none → b ≠ n → b ≠ c → i.kids.getLast? ≠ some b → w'.heap[b]? = w.heap[b]?) : Dom w' (appended D n c i ic) := by
  have hcn : c ∉ i.kids := h.kid_ne hn hc hroot
  have hDn : appended D n c i ic n = some { i with kids := i.kids ++ [c] } := by unfold appended; rw [put_other _ _ hne, put_same]
  have hDc : appended D n c i ic c = some { ic with parent := some n } := put_same _ _ _
  have hDo : ∀ b, b ≠ n → b ≠ c → appended D n c i ic b = D b := fun b h1 h2 => by unfold appended; rw [put_other _ _ h2, put_other _ _ h1]
  have hk : ∀ p, kidsOf (appended D n c i ic) p = if p = n then i.kids ++ [c] else kidsOf D p := by
    intro p
    unfold appended
    rw [kidsOf_put, kidsOf_put]
    by_cases hp : p = c
    · subst hp
      rw [if_pos rfl, if_neg (fun e => hne e.symm), kidsOf_some hc]
    · rw [if_neg hp]
  refine ⟨⟨?_, ?_, ?_⟩, ?_⟩
  · intro b i' p hb hp
    by_cases hbc : b = c
    · subst hbc
      rw [hDc] at hb
      injection hb with hb
      subst hb
      injection hp with hp
      subst hp
      exact ⟨_, hDn, by simp⟩
    · have key : ∃ i0, D b = some i0 ∧ i0.parent = some p := by
        by_cases hbn : b = n
        · subst hbn
          rw [hDn] at hb
          injection hb with hb
          subst hb
          exact ⟨i, hn, hp⟩
        · rw [hDo b hbn hbc] at hb
          exact ⟨i', hb, hp⟩
      obtain ⟨i0, h0, hp0⟩ := key
      obtain ⟨ip, hip, hm⟩ := h.wf.up h0 hp0
      by_cases hpn : p = n
      · subst hpn
        rw [hn] at hip
        injection hip with hip
        subst hip
        exact ⟨_, hDn, List.mem_append_left _ hm⟩
      · by_cases hpc : p = c
        · subst hpc
          rw [hc] at hip
          injection hip with hip
          subst hip
          exact ⟨_, hDc, hm⟩
        · exact ⟨ip, by rw [hDo p hpn hpc]; exact hip, hm⟩
  · intro b i' x hb hx
    by_cases hbn : b = n
    · subst hbn
      rw [hDn] at hb
      injection hb with hb
      subst hb
      rcases List.mem_append.1 hx with hx | hx
      · obtain ⟨ix, hix, hpx⟩ := h.wf.down hn hx
        have hxc : x ≠ c := fun e => hcn (e ▸ hx)
        have hxn : x ≠ b := fun e => by
          subst e
          rw [hn] at hix
          injection hix with hix
          subst hix
          exact hself hpx
        exact ⟨ix, by rw [hDo x hxn hxc]; exact hix, hpx⟩
      · obtain rfl : x = c := by simpa using hx
        exact ⟨_, hDc, rfl⟩
    · have key : ∃ i0, D b = some i0 ∧ x ∈ i0.kids := by
        by_cases hbc : b = c
        · subst hbc
          rw [hDc] at hb
          injection hb with hb
          subst hb
          exact ⟨ic, hc, hx⟩
        · rw [hDo b hbn hbc] at hb
          exact ⟨i', hb, hx⟩
      obtain ⟨i0, h0, hx0⟩ := key
      obtain ⟨ix, hix, hpx⟩ := h.wf.down h0 hx0
      have hxc : x ≠ c := fun e => by
        subst e
        rw [hc] at hix
        injection hix with hix
        subst hix
        rw [hroot] at hpx
        cases hpx
      by_cases hxn : x = n
      · subst hxn
        rw [hn] at hix
        injection hix with hix
        subst hix
        exact ⟨_, hDn, hpx⟩
      · exact ⟨ix, by rw [hDo x hxn hxc]; exact hix, hpx⟩
  · intro b i' hb
    by_cases hbn : b = n
    · subst hbn
      rw [hDn] at hb
      injection hb with hb
      subst hb
      show (i.kids ++ [c]).Nodup
      rw [List.nodup_append]
      exact ⟨h.wf.nodup hn, by simp, fun x hx y hy e => by
        have hyc : y = c := by simpa using hy
        subst hyc
        subst e
        exact hcn hx⟩
    · by_cases hbc : b = c
      · subst hbc
        rw [hDc] at hb
        injection hb with hb
        subst hb
        show ic.kids.Nodup
        exact h.wf.nodup hc
      · rw [hDo b hbn hbc] at hb
        exact h.wf.nodup hb
  · intro b i' hb
    by_cases hbn : b = n
    · subst hbn
      rw [hDn] at hb
      injection hb with hb
      subst hb
      have hs : sibs (appended D b c i ic) { i with kids := i.kids ++ [c] } = sibs D i := by
        unfold sibs
        cases hp : i.parent with
        | none => rfl
        | some p =>
          simp only [hp]
          rw [hk, if_neg (fun e => hself (by rw [hp, e]))]
      have hl : (i.kids ++ [c]).getLast? = some c := by simp
      obtain ⟨v, hv, ha⟩ := h.has hn
      have HN' := HN v hv
      refine ⟨v, ?_, HA v _ ha⟩
      unfold recOf at HN' ⊢
      rw [hs]
      simp only [hl]
      exact HN'
    · by_cases hbc : b = c
      · subst hbc
        rw [hDc] at hb
        injection hb with hb
        subst hb
        have hs : sibs (appended D n b i ic) { ic with parent := some n } = i.kids ++ b :: [] := by
          unfold sibs
          simp only []
          rw [hk, if_pos rfl]
        obtain ⟨v, hv, ha⟩ := h.has hc
        have HC' := HC v hv
        refine ⟨v, ?_, HA v _ ha⟩
        unfold recOf at HC' ⊢
        rw [hs, prevIn_split (by simp), nextIn_split hcn]
        rw [sibs_none hroot] at HC'
        exact HC'
      · rw [hDo b hbn hbc] at hb
        by_cases hbl : i.kids.getLast? = some b
        · obtain ⟨v, hv, ha⟩ := h.has hb
          have hH := HL b i' v hbl hb hv
          refine ⟨v, ?_, HA v _ ha⟩
          obtain ⟨l1, hl1⟩ : ∃ l1, i.kids = l1 ++ [b] := by
            rw [List.getLast?_eq_some_iff] at hbl
            exact hbl
          have hp : i'.parent = some n := h.kid_parent hn hb (by rw [hl1]; simp)
          have hnd := nodup_split (l1 := l1) (l2 := []) (b := b) (by rw [← hl1]; exact h.wf.nodup hn)
          unfold recOf at hH ⊢
          rw [sibs_some hp, kidsOf_some hn, hl1, prevIn_split (l2 := []) (by simp)] at hH
          rw [sibs_some hp, hk, if_pos rfl, hl1, List.append_assoc, List.singleton_append, prevIn_split (by simpa using hbc), nextIn_split hnd.1]
          exact hH
        · have hsame := HO b (by rw [hb]; simp) hbn hbc hbl
          have hrec : ∀ v, recOf (appended D n c i ic) b i' v = recOf D b i' v := by
            intro v
            unfold recOf
            cases hp : i'.parent with
            | none => rw [sibs_none hp, sibs_none hp]
            | some p =>
              rw [sibs_some hp, sibs_some hp, hk]
              by_cases hpn : p = n
              · subst hpn
                have hm : b ∈ i.kids := h.kid_of hn hb hp
                obtain ⟨l1, l2, hl⟩ := List.append_of_mem hm
                have hnd := nodup_split (l1 := l1) (l2 := l2) (b := b) (by rw [← hl]; exact h.wf.nodup hn)
                have hl2 : l2 ≠ [] := fun e => hbl (by rw [hl, e]; simp)
                rw [if_pos rfl, kidsOf_some hn, hl, List.append_assoc, List.cons_append, prevIn_split hnd.2.1, nextIn_split hnd.1, prevIn_split (by simp [hnd.2.1, hbc]), nextIn_split hnd.1]
                cases l2 with
                | nil => exact absurd rfl hl2
                | cons y l2 => rfl
              · rw [if_neg hpn]
          obtain ⟨v, hv, ha⟩ := h.has hb
          exact ⟨v, by rw [hrec]; exact hv.of_heap hsame, HA v _ ha⟩

end Go.Proofs.YtibfoaahdbdogaaDoor.Dom

/- The walks of the changes of a tree: AppendChild. -/
namespace Go.Proofs.YtibfoaahdbdogaaDoor.Dom
open Go.RowKit Go.Proofs.YtibfoaahdbdogaaDoorW.PrintWords Go.Proofs.YtibfoaahdbdogaaDoorW.PrintLast Go.Proofs.YtibfoaahdbdogaaDoorW.PrintMore
set_option linter.unusedVariables false
set_option linter.unusedSimpArgs false

/-- What is where it was, but for a table's blocks. -/
structure Only (D : Tab) (w w' : World) : Prop where
  os : w'.os = w.os
  tape : w'.tape = w.tape
  output : w'.output = w.output
  size : w.heap.size ≤ w'.heap.size
  block : ∀ k, k < w.heap.size → D k = none → w'.heap[k]? = w.heap[k]?
theorem Only.below {D : Tab} {w w' : World} (h : Only D w w') {B : Nat} (hB : B ≤ w.heap.size) (hD : ∀ k, k < B → D k = none) : Below B w w' :=
  ⟨h.os, h.tape, h.output, h.size, fun k hk => h.block k (by omega) (hD k hk)⟩
theorem Only.refl (D : Tab) (w : World) : Only D w w := ⟨rfl, rfl, rfl, Nat.le_refl _, fun _ _ _ => rfl⟩
theorem Only.trans {D D' : Tab} {w w' w'' : World} (h : Only D w w') (h' : Only D' w' w'') (hD : ∀ k, D k = none → k < w.heap.size → D' k = none) : Only D w w'' :=
  ⟨h'.os.trans h.os, h'.tape.trans h.tape, h'.output.trans h.output, Nat.le_trans h.size h'.size, fun k hk hn => (h'.block k (Nat.lt_of_lt_of_le hk h.size) (hD k hn hk)).trans (h.block k hk hn)⟩

theorem Only.set {D : Tab} {w w1 : World} (h : Only D w w1) {p : Addr} (hp : D p.block ≠ none) (u : Value) : Only D w (w1.setCell p u) := by
  have b := (Below.refl p.block w1).setCell (p := p) (Nat.le_refl _) u
  exact ⟨b.os.trans h.os, b.tape.trans h.tape, b.output.trans h.output, Nat.le_trans h.size b.size, fun k hk hn => (Below.heap_setCell w1 p u k (fun e => hp (by rw [← e]; exact hn))).trans (h.block k hk hn)⟩

theorem Has.put0 {w : World} {b : Nat} {r : Rec} (h : Has w b r) (p : Option Nat) : Has (w.setCell ⟨b, 0, none⟩ (ptr p)) b { r with parent := p } := h.put 0 (ptr p) { r with parent := p } rfl
theorem Has.put1 {w : World} {b : Nat} {r : Rec} (h : Has w b r) (p : Option Nat) : Has (w.setCell ⟨b, 1, none⟩ (ptr p)) b { r with first := p } := h.put 1 (ptr p) { r with first := p } rfl
theorem Has.put2 {w : World} {b : Nat} {r : Rec} (h : Has w b r) (p : Option Nat) : Has (w.setCell ⟨b, 2, none⟩ (ptr p)) b { r with last := p } := h.put 2 (ptr p) { r with last := p } rfl
theorem Has.put3 {w : World} {b : Nat} {r : Rec} (h : Has w b r) (p : Option Nat) : Has (w.setCell ⟨b, 3, none⟩ (ptr p)) b { r with prev := p } := h.put 3 (ptr p) { r with prev := p } rfl
theorem Has.put4 {w : World} {b : Nat} {r : Rec} (h : Has w b r) (p : Option Nat) : Has (w.setCell ⟨b, 4, none⟩ (ptr p)) b { r with next := p } := h.put 4 (ptr p) { r with next := p } rfl
/-- A store into a node's block. -/
def st (w : World) (b k : Nat) (p : Option Nat) : World := w.setCell ⟨b, k, none⟩ (ptr p)
theorem st_heap (w : World) (b k : Nat) (p : Option Nat) {x : Nat} (h : x ≠ b) : (st w b k p).heap[x]? = w.heap[x]? := Below.heap_setCell w ⟨b, k, none⟩ (ptr p) x h
theorem Has.st {w : World} {b : Nat} {r : Rec} (h : Has w b r) {x : Nat} (hx : b ≠ x) (k : Nat) (p : Option Nat) : Has (st w x k p) b r := h.of_heap (st_heap w x k p hx)
theorem AttrAt.st {w : World} {v : Value} {l : List (ByteArray × ByteArray)} (h : AttrAt w v l) {g : Nat} {r : Rec} (hg : Has w g r) (j : Nat) (p : Option Nat) : AttrAt (Dom.st w g j p) v l := h.set hg j (ptr p)
theorem Only.st {D : Tab} {w w1 : World} (h : Only D w w1) {b : Nat} (hb : D b ≠ none) (k : Nat) (p : Option Nat) : Only D w (Dom.st w1 b k p) := h.set (p := ⟨b, k, none⟩) hb (ptr p)

theorem append_none (w : World) (D : Tab) (n c : Nat) (i ic : Info) (h : Dom w D) (hn : D n = some i) (hc : D c = some ic) (hne : n ≠ c) (hroot : ic.parent = none) (hself : i.parent ≠ some n) (hl : i.kids.getLast? = none) :
    Dom (st (st (st (st w n 1 (some c)) n 2 (some c)) c 0 (some n)) c 3 none) (appended D n c i ic) ∧ Only D w (st (st (st (st w n 1 (some c)) n 2 (some c)) c 0 (some n)) c 3 none) := by
  have hnc : c ≠ n := fun e => hne e.symm
  have en : D n ≠ none := by rw [hn]; simp
  have ec : D c ≠ none := by rw [hc]; simp
  refine ⟨?_, ((((Only.refl D w).st en 1 _).st en 2 _).st ec 0 _).st ec 3 _⟩
  have hk : i.kids = [] := List.getLast?_eq_none_iff.1 hl
  obtain ⟨vn, hHn, _⟩ := h.has hn
  obtain ⟨vc, hHc, _⟩ := h.has hc
  have A1 : ∀ v, Has w n (recOf D n i v) → Has (st w n 1 (some c)) n { recOf D n i v with first := some c } := fun v hv => hv.put1 (some c)
  have A2 : ∀ v, Has w n (recOf D n i v) → Has (st (st w n 1 (some c)) n 2 (some c)) n { recOf D n i v with first := some c, last := some c } := fun v hv => (A1 v hv).put2 (some c)
  have C2 : ∀ v, Has w c (recOf D c ic v) → Has (st (st w n 1 (some c)) n 2 (some c)) c (recOf D c ic v) := fun v hv => (hv.st hnc 1 _).st hnc 2 _
  have C3 : ∀ v, Has w c (recOf D c ic v) → Has (st (st (st w n 1 (some c)) n 2 (some c)) c 0 (some n)) c { recOf D c ic v with parent := some n } := fun v hv => (C2 v hv).put0 (some n)
  refine h.append hn hc hne hroot hself ?_ ?_ ?_ ?_ ?_
  · exact fun v l hA => (((hA.st hHn 1 _).st (A1 vn hHn) 2 _).st (C2 vc hHc) 0 _).st (C3 vc hHc) 3 _
  · intro v hv
    have := ((A2 v hv).st hne 0 (some n)).st hne 3 none
    rw [hk]
    exact this
  · intro v hv
    have := (C3 v hv).put3 none
    rw [hl]
    exact this
  · intro x ix v hx
    rw [hl] at hx
    cases hx
  · intro b _ hbn hbc _
    rw [st_heap _ _ _ _ hbc, st_heap _ _ _ _ hbc, st_heap _ _ _ _ hbn, st_heap _ _ _ _ hbn]

theorem append_some (w : World) (D : Tab) (n c x : Nat) (i ic ix : Info) (h : Dom w D) (hn : D n = some i) (hc : D c = some ic) (hix : D x = some ix) (hne : n ≠ c) (hroot : ic.parent = none) (hself : i.parent ≠ some n) (hl : i.kids.getLast? = some x) (hxn : x ≠ n) (hxc : x ≠ c) :
    Dom (st (st (st (st w x 4 (some c)) n 2 (some c)) c 0 (some n)) c 3 (some x)) (appended D n c i ic) ∧ Only D w (st (st (st (st w x 4 (some c)) n 2 (some c)) c 0 (some n)) c 3 (some x)) := by
  have hnc : c ≠ n := fun e => hne e.symm
  have hnx : n ≠ x := fun e => hxn e.symm
  have hcx : c ≠ x := fun e => hxc e.symm
  have en : D n ≠ none := by rw [hn]; simp
  have ec : D c ≠ none := by rw [hc]; simp
  have ex : D x ≠ none := by rw [hix]; simp
  refine ⟨?_, ((((Only.refl D w).st ex 4 _).st en 2 _).st ec 0 _).st ec 3 _⟩
  obtain ⟨vn, hHn, _⟩ := h.has hn
  obtain ⟨vc, hHc, _⟩ := h.has hc
  obtain ⟨vx, hHx, _⟩ := h.has hix
  have A1 : ∀ v, Has w n (recOf D n i v) → Has (st w x 4 (some c)) n (recOf D n i v) := fun v hv => hv.st hnx 4 _
  have A2 : ∀ v, Has w n (recOf D n i v) → Has (st (st w x 4 (some c)) n 2 (some c)) n { recOf D n i v with last := some c } := fun v hv => (A1 v hv).put2 (some c)
  have C2 : ∀ v, Has w c (recOf D c ic v) → Has (st (st w x 4 (some c)) n 2 (some c)) c (recOf D c ic v) := fun v hv => (hv.st hcx 4 _).st hnc 2 _
  have C3 : ∀ v, Has w c (recOf D c ic v) → Has (st (st (st w x 4 (some c)) n 2 (some c)) c 0 (some n)) c { recOf D c ic v with parent := some n } := fun v hv => (C2 v hv).put0 (some n)
  refine h.append hn hc hne hroot hself ?_ ?_ ?_ ?_ ?_
  · exact fun v l hA => (((hA.st hHx 4 _).st (A1 vn hHn) 2 _).st (C2 vc hHc) 0 _).st (C3 vc hHc) 3 _
  · intro v hv
    have := ((A2 v hv).st hne 0 (some n)).st hne 3 (some x)
    have hh : (i.kids ++ [c]).head? = i.kids.head? := by
      cases hk : i.kids with
      | nil => rw [hk] at hl; cases hl
      | cons y l => rfl
    rw [hh]
    exact this
  · intro v hv
    have := (C3 v hv).put3 (some x)
    rw [hl]
    exact this
  · intro x' ix' v hx hD hv
    have e : x = x' := Option.some.inj (hl.symm.trans hx)
    clear hx
    subst e
    exact (((hv.put4 (some c)).st hxn 2 (some c)).st hxc 0 (some n)).st hxc 3 (some x)
  · intro b _ hbn hbc hbl
    have hbx : b ≠ x := fun e => hbl (by rw [hl, e])
    rw [st_heap _ _ _ _ hbc, st_heap _ _ _ _ hbc, st_heap _ _ _ _ hbn, st_heap _ _ _ _ hbx]

set_option maxHeartbeats 4000000 in
set_option maxRecDepth 100000 in
theorem append_calls (w : World) (D : Tab) (n c : Nat) (i ic : Info) (h : Dom w D) (hn : D n = some i) (hc : D c = some ic) (hne : n ≠ c) (hroot : ic.parent = none) (hself : i.parent ≠ some n) :
    Calls Tryd.prog 30 #[ptr (some n), ptr (some c)] w fun e w' => e = .returned (.tuple #[]) ∧ Dom w' (appended D n c i ic) ∧ Only D w w' := by
  obtain ⟨vn, hHn, _⟩ := h.has hn
  obtain ⟨vc, hHc, _⟩ := h.has hc
  have hpc : (recOf D c ic vc).parent = none := hroot
  have hprev : (recOf D c ic vc).prev = none := by show prevIn (sibs D ic) c = none; rw [sibs_none hroot]; rfl
  have hnext : (recOf D c ic vc).next = none := by show nextIn (sibs D ic) c = none; rw [sibs_none hroot]; rfl
  have c0 : w.cell? ⟨c, 0, none⟩ = some (.pointer none) := by rw [hHc.cells10.1, hpc]; rfl
  have c3 : w.cell? ⟨c, 3, none⟩ = some (.pointer none) := by rw [hHc.cells10.2.2.2.1, hprev]; rfl
  have c4 : w.cell? ⟨c, 4, none⟩ = some (.pointer none) := by rw [hHc.cells10.2.2.2.2.1, hnext]; rfl
  have hfc := hHc.frozen 0
  have hfc3 := hHc.frozen 3
  have hfn1 := hHn.frozen 1
  have hfn2 := hHn.frozen 2
  have hnc : ¬ c = n := fun e => hne e.symm
  have HN := Aside0.mk hHn
  cases hl : i.kids.getLast? with
  | none =>
    have R := Aside0.mk (append_none w D n c i ic h hn hc hne hroot hself hl)
    have n2 : w.cell? ⟨n, 2, none⟩ = some (.pointer none) := by rw [HN.out.cells10.2.2.1]; show some (ptr i.kids.getLast?) = _; rw [hl]; rfl
    have n1 : w.cell? ⟨n, 1, none⟩ = some (ptr i.kids.head?) := HN.out.cells10.2.1
    clear hHn hHc h hpc hprev hnext hn hc hroot hself hl
    unfold ptr
    go_enter Tryd.func30, Tryd.ntmps30
    go_wp2
    go_end0
    exact ⟨rfl, R.out⟩
  | some x =>
    have n2 : w.cell? ⟨n, 2, none⟩ = some (.pointer (some ⟨x, 0, none⟩)) := by rw [HN.out.cells10.2.2.1]; show some (ptr i.kids.getLast?) = _; rw [hl]; rfl
    have hxm : x ∈ i.kids := List.mem_of_getLast? hl
    obtain ⟨ix, hix, hpx⟩ := h.wf.down hn hxm
    have hxn : ¬ x = n := fun e => by
      subst e
      rw [hn] at hix
      injection hix with hix
      subst hix
      exact hself hpx
    have hxc : ¬ x = c := fun e => h.kid_ne hn hc hroot (e ▸ hxm)
    have R := Aside0.mk (append_some w D n c x i ic ix h hn hc hix hne hroot hself hl hxn hxc)
    obtain ⟨vx, hHx, _⟩ := h.has hix
    have x4 : w.cell? ⟨x, 4, none⟩ = some (ptr (nextIn (sibs D ix) x)) := hHx.cells10.2.2.2.2.1
    have hfx := hHx.frozen 4
    have hnx : ¬ n = x := fun e => hxn e.symm
    have hcx : ¬ c = x := fun e => hxc e.symm
    clear hHx hHn hHc h hpc hprev hnext hn hc hroot hself hl hix hpx hxm
    unfold ptr
    go_enter Tryd.func30, Tryd.ntmps30
    go_wp2
    go_end0
    exact ⟨rfl, R.out⟩
end Go.Proofs.YtibfoaahdbdogaaDoor.Dom

/- Printed by the program extprint.py of this session, out of the kit's print and contracts of this session's own; Lean checks it. -/
namespace Go.Proofs.YtibfoaahdbdogaaDoor.PDom
open Go.RowKit Go.Proofs.YtibfoaahdbdogaaDoorW.PrintWords Go.Proofs.YtibfoaahdbdogaaDoorW.PrintLast Go.Proofs.YtibfoaahdbdogaaDoorW.PrintMore
attribute [local go_sem] max2_int min2_int max_two min_two max_three min_three max_four min_four   -- for this text's walks alone
set_option linter.unusedVariables false
set_option linter.unusedSimpArgs false



def errW : Option Int → Value
  | none => .nilIface
  | some c => .iface 0 (.int .i64 c)
theorem errW_none : errW none = .nilIface := rfl
theorem errW_some (c : Int) : errW (some c) = .iface 0 (.int .i64 c) := rfl

theorem info31 : (Tryd.prog.info? 31).map (fun i => (i.zero, i.size, i.bytes)) = some (some (.agg #[(.string ⟨#[]⟩), (.string ⟨#[]⟩)]), 2, 32) := by kernel_rfl
-- the values' own types
/-! #### struct type 31 -/
structure S31 where
  f0 : ByteArray
  f1 : ByteArray
def z31 : S31 := ⟨(⟨#[]⟩ : ByteArray), (⟨#[]⟩ : ByteArray)⟩
def k31 : Kd S31 := Kd.iso (Kd.pair Kd.string Kd.string) (fun x : S31 => (x.f0, x.f1))
theorem k31_open {w : World} {x : S31} {cs : List Value} (h : k31.K w x cs) : cs = [.string x.f0, .string x.f1] := by
  obtain ⟨_, _, rfl, rfl, rfl⟩ := h
  exact rfl
def rd_T31 (xs : List S31) (i : Int) : S31 := xs.getD i.toNat z31
theorem at_T31 {w : World} {A : Option Addr} {n : Nat} {xs : List S31} (h : Kd.C k31 w A n xs) (i : Int) (h0 : 0 ≤ i) (h1 : i < n) : ∃ ad , A = some ad ∧ w.cell? (ad.add (i.toNat * 2)) = some (.string (rd_T31 xs i).f0) ∧ w.cell? ⟨(ad.add (i.toNat * 2)).block, (ad.add (i.toNat * 2)).off + 1, none⟩ = some (.string (rd_T31 xs i).f1) := by
  obtain ⟨ad, c, e, _, hK, hc0⟩ := Kd.C_get h z31 i h0 h1
  have hc : ∀ j u, c[j]? = some u → w.cell? (ad.add (i.toNat * 2 + j)) = some u := hc0
  obtain rfl := k31_open hK
  exact ⟨ad, e, hc 0 _ rfl, by rw [← add_field _ _ 1 (by omega)]; exact hc 1 _ rfl⟩

/-! #### struct type 25, nested in itself -/
structure S25 where
  f0 : Int
  f1 : ByteArray
  f2 : ByteArray
  f3 : (List S31)
  f4 : (List S25)
def z25 : S25 := ⟨(0 : Int), (⟨#[]⟩ : ByteArray), (⟨#[]⟩ : ByteArray), ([] : List S31), ([] : List S25)⟩
def F25 (d : Kd S25) : Kd S25 := Kd.iso (Kd.pair (Kd.int .i64) (Kd.pair Kd.string (Kd.pair Kd.string (Kd.pair (Kd.slice 31 k31) (Kd.slice 25 d))))) (fun x : S25 => (x.f0, x.f1, x.f2, x.f3, x.f4))
theorem mono25 : Kd.Mono F25 := Kd.mono_iso _ (Kd.mono_pair (Kd.mono_const _) (Kd.mono_pair (Kd.mono_const _) (Kd.mono_pair (Kd.mono_const _) (Kd.mono_pair (Kd.mono_const _) (Kd.mono_slice 25 Kd.mono_id)))))
theorem sub25 : Kd.Sub F25 [25, 31] := Kd.sub_iso _ (Kd.sub_pair (Kd.sub_const _ (by decide)) (Kd.sub_pair (Kd.sub_const _ (by decide)) (Kd.sub_pair (Kd.sub_const _ (by decide)) (Kd.sub_pair (Kd.sub_const _ (by decide)) (Kd.sub_slice 25 (by decide) Kd.sub_id)))))
theorem sz25 : ∀ n, (Kd.upto F25 5 [25, 31] n).sz = 5 := Kd.upto_sz (fun _ => rfl)
def k25 : Kd S25 := Kd.fix F25 5 [25, 31] sz25 (Kd.upto_E sub25)
theorem k25_open {w : World} {x : S25} {cs : List Value} (h : k25.K w x cs) : ∃ A3 c3 A4 c4, cs = [.int .i64 x.f0, .string x.f1, .string x.f2, .slice A3 x.f3.length c3, .slice A4 x.f4.length c4] ∧ x.f3.length ≤ c3 ∧ k31.C w A3 x.f3.length x.f3 ∧ x.f4.length ≤ c4 ∧ k25.C w A4 x.f4.length x.f4 := by
  obtain ⟨n, h⟩ := h
  cases n with
  | zero => exact h.elim
  | succ n =>
    obtain ⟨_, _, rfl, rfl, ⟨_, _, rfl, rfl, ⟨_, _, rfl, rfl, ⟨_, _, rfl, ⟨A3, c3, rfl, l3, g3⟩, ⟨A4, c4, rfl, l4, g4⟩⟩⟩⟩⟩ := h
    exact ⟨A3, c3, A4, c4, rfl, l3, g3, l4, Kd.fix_C g4⟩
theorem k25_mk (w : World) (x : S25) {A3 : Option Addr} {c3 : Nat} (l3 : x.f3.length ≤ c3) (g3 : k31.C w A3 x.f3.length x.f3) {A4 : Option Addr} {c4 : Nat} (l4 : x.f4.length ≤ c4) (g4 : k25.C w A4 x.f4.length x.f4) : k25.K w x [.int .i64 x.f0, .string x.f1, .string x.f2, .slice A3 x.f3.length c3, .slice A4 x.f4.length c4] := by
  obtain ⟨n4, q4⟩ := Kd.fix_C_back mono25 g4
  have r4 := Kd.upto_C_le mono25 sz25 (show n4 ≤ n4 by omega) q4
  exact ⟨n4 + 1, ⟨[.int .i64 x.f0], [.string x.f1, .string x.f2, .slice A3 x.f3.length c3, .slice A4 x.f4.length c4], rfl, rfl, ⟨[.string x.f1], [.string x.f2, .slice A3 x.f3.length c3, .slice A4 x.f4.length c4], rfl, rfl, ⟨[.string x.f2], [.slice A3 x.f3.length c3, .slice A4 x.f4.length c4], rfl, rfl, ⟨[.slice A3 x.f3.length c3], [.slice A4 x.f4.length c4], rfl, ⟨A3, c3, rfl, l3, g3⟩, ⟨A4, c4, rfl, l4, r4⟩⟩⟩⟩⟩⟩
theorem k25_mkF (W : World) (ok : Nat → Prop) (x : S25) {A3 : Option Addr} {c3 : Nat} (l3 : x.f3.length ≤ c3) (g3 : Kd.F k31 W ok A3 x.f3.length x.f3) {A4 : Option Addr} {c4 : Nat} (l4 : x.f4.length ≤ c4) (g4 : Kd.F k25 W ok A4 x.f4.length x.f4) : Kd.FK k25 W ok x [.int .i64 x.f0, .string x.f1, .string x.f2, .slice A3 x.f3.length c3, .slice A4 x.f4.length c4] := fun W2 hW => k25_mk W2 x l3 (g3 W2 hW) l4 (g4 W2 hW)
def rd_T25 (xs : List S25) (i : Int) : S25 := xs.getD i.toNat z25
theorem at_T25 {w : World} {A : Option Addr} {n : Nat} {xs : List S25} (h : Kd.C k25 w A n xs) (i : Int) (h0 : 0 ≤ i) (h1 : i < n) : ∃ ad A3 c3 A4 c4, A = some ad ∧ w.cell? (ad.add (i.toNat * 5)) = some (.int .i64 (rd_T25 xs i).f0) ∧ w.cell? ⟨(ad.add (i.toNat * 5)).block, (ad.add (i.toNat * 5)).off + 1, none⟩ = some (.string (rd_T25 xs i).f1) ∧ w.cell? ⟨(ad.add (i.toNat * 5)).block, (ad.add (i.toNat * 5)).off + 2, none⟩ = some (.string (rd_T25 xs i).f2) ∧ w.cell? ⟨(ad.add (i.toNat * 5)).block, (ad.add (i.toNat * 5)).off + 3, none⟩ = some (.slice A3 (rd_T25 xs i).f3.length c3) ∧ w.cell? ⟨(ad.add (i.toNat * 5)).block, (ad.add (i.toNat * 5)).off + 4, none⟩ = some (.slice A4 (rd_T25 xs i).f4.length c4) ∧ (rd_T25 xs i).f3.length ≤ c3 ∧ k31.C w A3 (rd_T25 xs i).f3.length (rd_T25 xs i).f3 ∧ (rd_T25 xs i).f4.length ≤ c4 ∧ k25.C w A4 (rd_T25 xs i).f4.length (rd_T25 xs i).f4 := by
  obtain ⟨ad, c, e, _, hK, hc0⟩ := Kd.C_get h z25 i h0 h1
  have hc : ∀ j u, c[j]? = some u → w.cell? (ad.add (i.toNat * 5 + j)) = some u := hc0
  obtain ⟨A3, c3, A4, c4, rfl, l3, g3, l4, g4⟩ := k25_open hK
  exact ⟨ad, A3, c3, A4, c4, e, hc 0 _ rfl, by rw [← add_field _ _ 1 (by omega)]; exact hc 1 _ rfl, by rw [← add_field _ _ 2 (by omega)]; exact hc 2 _ rfl, by rw [← add_field _ _ 3 (by omega)]; exact hc 3 _ rfl, by rw [← add_field _ _ 4 (by omega)]; exact hc 4 _ rfl, l3, g3, l4, g4⟩

/-! #### struct type 97 -/
/-! #### struct type 100 -/
end Go.Proofs.YtibfoaahdbdogaaDoor.PDom

/- Printed by the program extprint.py of this session, out of the kit's print and contracts of this session's own; Lean checks it. -/
namespace Go.Proofs.YtibfoaahdbdogaaDoor.PDom
open Go.RowKit Go.Proofs.YtibfoaahdbdogaaDoorW.PrintWords Go.Proofs.YtibfoaahdbdogaaDoorW.PrintLast Go.Proofs.YtibfoaahdbdogaaDoorW.PrintMore
attribute [local go_sem] max2_int min2_int max_two min_two max_three min_three max_four min_four   -- for this text's walks alone
set_option linter.unusedVariables false
set_option linter.unusedSimpArgs false


/-! ### laws_zzFits4: function 25 -/
def laws_zzFits4.f (a0_0 : ByteArray) (a0_1 : ByteArray) : Option (Bool) := if (a0_0.size : Int) > 2147483647 then (some false) else (if (a0_1.size : Int) > 2147483647 then (some false) else (some true))
set_option maxHeartbeats 8000000 in
set_option maxRecDepth 100000 in
theorem laws_zzFits4.calls (a0_0 : ByteArray) (a0_1 : ByteArray) (r : Bool) (w : World) (h : laws_zzFits4.f a0_0 a0_1 = some r) :
    Calls Tryd.prog 25 #[.agg #[.string a0_0, .string a0_1]] w fun e w' => e = .returned (.bool r) ∧ Below w.heap.size w w' := by
  have hu31 := Tryd.underlying31
  have HB := Aside0.mk (Below.refl w.heap.size w)
  have H : (if (a0_0.size : Int) > 2147483647 then (some false) else (if (a0_1.size : Int) > 2147483647 then (some false) else (some true))) = some r := h
  clear h
  by_cases c2 : (a0_0.size : Int) > 2147483647
  · rw [if_pos c2] at H
    have c2b0 : decide (2147483647 < (a0_0.size : Int)) = true := decide_eq_true c2
    have c2b1 : decide (2147483647 < a0_0.size) = true := decide_eq_true (by omega)
    clear c2
    obtain rfl := Option.some.inj H
    go_enter Tryd.func25, Tryd.ntmps25
    go_wp2_with (first | ((with_reducible refine gate_dst (N := 1) rfl ?_); refine box_event ?hg (N := 1) ?hd (cs := #[.string a0_0, .string a0_1]) (t := 31) ?hr ?_; (case hd => rfl); (case hg => rfl); (case hr => first | (go_simp; done) | (go_simp; rfl)); intro gb101 hg w3 hbox hb; have n0_ := Aside0.mk (below_step (by repeat (first | (with_reducible first | exact HB.out | apply below_alloc | apply pw_below_drewN | apply below_drew1) | exact HB.out)) hb); have n1_ := Aside0.mk (hbox); have n2_ := Aside0.mk ((by rw [hg]; exact (below_size (by repeat (first | (with_reducible first | exact HB.out | apply below_alloc | apply pw_below_drewN | apply below_drew1) | exact HB.out))) : w.heap.size ≤ gb101)); have n3_ := Aside0.mk ((by rw [hg]; exact (below_size (by repeat (first | (with_reducible first | exact HB.out | apply below_alloc | apply pw_below_drewN | apply below_drew1) | exact HB.out))) : w.heap.size ≤ gb101)); clear HB; have HB := n0_; have BK101 := n1_; have GW101 := n2_; have GE101 := n3_; clear n0_ n1_ n2_ n3_; clear hb hbox hg; have hcz4_0 : w3.cell? ⟨gb101, 0, none⟩ = some (.string a0_0) := (blk_cell BK101.out 0).trans rfl; have hcz4_1 : w3.cell? ⟨gb101, 1, none⟩ = some (.string a0_1) := (blk_cell BK101.out 1).trans rfl; have hfz4_0 := blk_frozen BK101.out 0; have hfz4_1 := blk_frozen BK101.out 1))
    go_ret
    exact ⟨by first | rfl | (simp [errW_none, errW_some] <;> rfl) | (simp [*, errW_none, errW_some] <;> rfl), by repeat (first | (with_reducible first | exact HB.out | apply below_alloc | apply pw_below_drewN | apply below_drew1 | refine below_set ?_ GE101.out) | exact HB.out)⟩
  · rw [if_neg c2] at H
    have c2b0 : decide (2147483647 < (a0_0.size : Int)) = false := decide_eq_false c2
    have c2b1 : decide (2147483647 < a0_0.size) = false := decide_eq_false (by omega)
    clear c2
    by_cases c5 : (a0_1.size : Int) > 2147483647
    · rw [if_pos c5] at H
      have c5b0 : decide (2147483647 < (a0_1.size : Int)) = true := decide_eq_true c5
      have c5b1 : decide (2147483647 < a0_1.size) = true := decide_eq_true (by omega)
      clear c5
      obtain rfl := Option.some.inj H
      go_enter Tryd.func25, Tryd.ntmps25
      go_wp2_with (first | ((with_reducible refine gate_dst (N := 1) rfl ?_); refine box_event ?hg (N := 1) ?hd (cs := #[.string a0_0, .string a0_1]) (t := 31) ?hr ?_; (case hd => rfl); (case hg => rfl); (case hr => first | (go_simp; done) | (go_simp; rfl)); intro gb101 hg w6 hbox hb; have n0_ := Aside0.mk (below_step (by repeat (first | (with_reducible first | exact HB.out | apply below_alloc | apply pw_below_drewN | apply below_drew1) | exact HB.out)) hb); have n1_ := Aside0.mk (hbox); have n2_ := Aside0.mk ((by rw [hg]; exact (below_size (by repeat (first | (with_reducible first | exact HB.out | apply below_alloc | apply pw_below_drewN | apply below_drew1) | exact HB.out))) : w.heap.size ≤ gb101)); have n3_ := Aside0.mk ((by rw [hg]; exact (below_size (by repeat (first | (with_reducible first | exact HB.out | apply below_alloc | apply pw_below_drewN | apply below_drew1) | exact HB.out))) : w.heap.size ≤ gb101)); clear HB; have HB := n0_; have BK101 := n1_; have GW101 := n2_; have GE101 := n3_; clear n0_ n1_ n2_ n3_; clear hb hbox hg; have hcz7_0 : w6.cell? ⟨gb101, 0, none⟩ = some (.string a0_0) := (blk_cell BK101.out 0).trans rfl; have hcz7_1 : w6.cell? ⟨gb101, 1, none⟩ = some (.string a0_1) := (blk_cell BK101.out 1).trans rfl; have hfz7_0 := blk_frozen BK101.out 0; have hfz7_1 := blk_frozen BK101.out 1))
      go_ret
      exact ⟨by first | rfl | (simp [errW_none, errW_some] <;> rfl) | (simp [*, errW_none, errW_some] <;> rfl), by repeat (first | (with_reducible first | exact HB.out | apply below_alloc | apply pw_below_drewN | apply below_drew1 | refine below_set ?_ GE101.out) | exact HB.out)⟩
    · rw [if_neg c5] at H
      have c5b0 : decide (2147483647 < (a0_1.size : Int)) = false := decide_eq_false c5
      have c5b1 : decide (2147483647 < a0_1.size) = false := decide_eq_false (by omega)
      clear c5
      obtain rfl := Option.some.inj H
      go_enter Tryd.func25, Tryd.ntmps25
      go_wp2_with (first | ((with_reducible refine gate_dst (N := 1) rfl ?_); refine box_event ?hg (N := 1) ?hd (cs := #[.string a0_0, .string a0_1]) (t := 31) ?hr ?_; (case hd => rfl); (case hg => rfl); (case hr => first | (go_simp; done) | (go_simp; rfl)); intro gb101 hg w8 hbox hb; have n0_ := Aside0.mk (below_step (by repeat (first | (with_reducible first | exact HB.out | apply below_alloc | apply pw_below_drewN | apply below_drew1) | exact HB.out)) hb); have n1_ := Aside0.mk (hbox); have n2_ := Aside0.mk ((by rw [hg]; exact (below_size (by repeat (first | (with_reducible first | exact HB.out | apply below_alloc | apply pw_below_drewN | apply below_drew1) | exact HB.out))) : w.heap.size ≤ gb101)); have n3_ := Aside0.mk ((by rw [hg]; exact (below_size (by repeat (first | (with_reducible first | exact HB.out | apply below_alloc | apply pw_below_drewN | apply below_drew1) | exact HB.out))) : w.heap.size ≤ gb101)); clear HB; have HB := n0_; have BK101 := n1_; have GW101 := n2_; have GE101 := n3_; clear n0_ n1_ n2_ n3_; clear hb hbox hg; have hcz9_0 : w8.cell? ⟨gb101, 0, none⟩ = some (.string a0_0) := (blk_cell BK101.out 0).trans rfl; have hcz9_1 : w8.cell? ⟨gb101, 1, none⟩ = some (.string a0_1) := (blk_cell BK101.out 1).trans rfl; have hfz9_0 := blk_frozen BK101.out 0; have hfz9_1 := blk_frozen BK101.out 1))
      go_ret
      exact ⟨by first | rfl | (simp [errW_none, errW_some] <;> rfl) | (simp [*, errW_none, errW_some] <;> rfl), by repeat (first | (with_reducible first | exact HB.out | apply below_alloc | apply pw_below_drewN | apply below_drew1 | refine below_set ?_ GE101.out) | exact HB.out)⟩
/-! ### laws_zzFits3: function 14 -/
def laws_zzFits3.l0 : Nat → List (S31) → Int → Int → Option (Bool)
  | 0, _, _, _ => none
  | k + 1, x8, x9, x10 => if x10 < x9 then (if 0 ≤ x10 then (if x10 < (x8.length : Int) then ((laws_zzFits4.f ((rd_T31 x8 x10).f0) ((rd_T31 x8 x10).f1)).bind fun t104 => (if t104 = true then (laws_zzFits3.l0 k x8 x9 (wrap64 (x10 + 1))) else (some false))) else (none)) else (none)) else (some true)
def laws_zzFits3.f (k : Nat) (l0 : List (S31)) : Option (Bool) := if (l0.length : Int) > 2147483647 then (some false) else (laws_zzFits3.l0 k l0 (l0.length : Int) 0)
theorem laws_zzFits3.mono_l : ∀ k, (∀ y0 y1 y2, LeO (laws_zzFits3.l0 k y0 y1 y2) (laws_zzFits3.l0 (k + 1) y0 y1 y2))
  | 0 => fun _ _ _ r h => by simp [laws_zzFits3.l0] at h
  | k + 1 => by
    have ih0 := laws_zzFits3.mono_l k
    · intro y0 y1 y2
      unfold laws_zzFits3.l0
      repeat' first
      | (with_reducible exact ih0 _ _ _)
      | (with_reducible exact LeO.refl _)
      | (with_reducible exact LeO.none _)
      | (with_reducible refine LeO.ite ?_ ?_)
      | (with_reducible refine LeO.bind ?_ (fun _ => ?_))
      | exact ih0 _ _ _
      | exact LeO.none _
      | refine LeO.ite ?_ ?_
      | refine LeO.bind ?_ (fun _ => ?_)
theorem laws_zzFits3.mono : ∀ a0 k, LeO (laws_zzFits3.f k a0) (laws_zzFits3.f (k + 1) a0) := by
  intro a0 k
  have ih0 := laws_zzFits3.mono_l k
  unfold laws_zzFits3.f
  repeat' first
      | (with_reducible exact ih0 _ _ _)
      | (with_reducible exact LeO.refl _)
      | (with_reducible exact LeO.none _)
      | (with_reducible refine LeO.ite ?_ ?_)
      | (with_reducible refine LeO.bind ?_ (fun _ => ?_))
      | exact ih0 _ _ _
      | exact LeO.none _
      | refine LeO.ite ?_ ?_
      | refine LeO.bind ?_ (fun _ => ?_)
set_option maxHeartbeats 8000000 in
set_option maxRecDepth 100000 in
theorem laws_zzFits3.calls (k : Nat) (A0 : Option Addr) (c0 : Nat) (l0 : List (S31)) (r : Bool) (w : World) (hr0 : Kd.C k31 w A0 l0.length l0) (hc0 : l0.length ≤ c0) (h : laws_zzFits3.f k l0 = some r) :
    Calls Tryd.prog 14 #[.slice A0 l0.length c0] w fun e w' => e = .returned (.bool r) ∧ Below w.heap.size w w' := by
  have hu31 := Tryd.underlying31
  have HR0 := Aside0.mk hr0
  have HC0 := Aside0.mk hc0
  clear hr0 hc0
  have HB := Aside0.mk (Below.refl w.heap.size w)
  have H : (if (l0.length : Int) > 2147483647 then (some false) else (laws_zzFits3.l0 k l0 (l0.length : Int) 0)) = some r := h
  clear h
  by_cases c2 : (l0.length : Int) > 2147483647
  · rw [if_pos c2] at H
    have c2b0 : decide (2147483647 < (l0.length : Int)) = true := decide_eq_true c2
    have c2b1 : decide (2147483647 < l0.length) = true := decide_eq_true (by omega)
    clear c2
    obtain rfl := Option.some.inj H
    go_enter Tryd.func14, Tryd.ntmps14
    go_wp2
    go_ret
    exact ⟨by first | rfl | (simp [errW_none, errW_some] <;> rfl) | (simp [*, errW_none, errW_some] <;> rfl), by repeat (first | (with_reducible first | exact HB.out | apply below_alloc | apply pw_below_drewN | apply below_drew1) | exact HB.out)⟩
  · rw [if_neg c2] at H
    have c2b0 : decide (2147483647 < (l0.length : Int)) = false := decide_eq_false c2
    have c2b1 : decide (2147483647 < l0.length) = false := decide_eq_false (by omega)
    clear c2
    have H' := Aside0.mk H
    clear H
    go_enter Tryd.func14, Tryd.ntmps14
    go_wp2
    go_loopg [10] k (fun kq v10 w' => ∃ (x10_1 : Int), v10 = .int .i64 x10_1 ∧ Aside0 (laws_zzFits3.l0 kq l0 (l0.length : Int) x10_1 = some r) ∧ Aside0 (kq ≤ k) ∧ Aside0 (Below w.heap.size w w'))
    case atStart => exact ⟨(0), (by first | rfl | (simp; done) | (simp [*]; done)), H', ⟨Nat.le_refl _⟩, ⟨by repeat (first | (with_reducible first | exact HB.out | apply below_alloc | apply pw_below_drewN | apply below_drew1) | exact HB.out)⟩⟩
    case round =>
      clear H'
      try clear c1
      try clear c2
      try clear c2b0
      try clear c2b1
      try clear p2
      obtain ⟨x10_1, rfl, HA, HK1, HB⟩ := hrel
      cases gk with
      | zero => exact absurd HA.out (by simp [laws_zzFits3.l0])
      | succ k1 =>
        have H := HA.out
        clear HA
        simp only [laws_zzFits3.l0] at H
        by_cases c3 : x10_1 < (l0.length : Int)
        · rw [if_pos c3] at H
          have c3b0 : decide (x10_1 < (l0.length : Int)) = true := decide_eq_true c3
          clear c3
          by_cases c4 : 0 ≤ x10_1
          · rw [if_pos c4] at H
            have c4b0 : decide (0 ≤ x10_1) = true := decide_eq_true c4
            clear c4
            by_cases c5 : x10_1 < (l0.length : Int)
            · rw [if_pos c5] at H
              have c5b0 : decide (x10_1 < (l0.length : Int)) = true := decide_eq_true c5
              clear c5
              replace H := Option.bind_eq_some_iff.mp H
              obtain ⟨t104, A60, H⟩ := H
              replace H : (if t104 = true then (laws_zzFits3.l0 k1 l0 (l0.length : Int) (wrap64 (x10_1 + 1))) else (some false)) = some r := H
              have A6 := Aside0.mk A60
              clear A60
              by_cases c7 : t104 = true
              · subst c7
                have H1 : (laws_zzFits3.l0 k1 l0 (l0.length : Int) (wrap64 (x10_1 + 1))) = some r := by rw [if_pos rfl] at H; exact H
                clear H
                have H := H1
                clear H1
                have H' := Aside0.mk H
                clear H
                have p102 : 0 ≤ (x10_1 : Int) := of_decide_eq_true (by first | (with_reducible assumption) | assumption)
                have q102 : x10_1 < (l0.length : Int) := of_decide_eq_true (by first | (with_reducible assumption) | assumption)
                obtain ⟨ad102, e102, hx102_0, hx102_1⟩ := at_T31 HR0.out x10_1 p102 q102
                cases e102
                replace hx102_0 := (HB.out.cell (World.block_lt_of_cell? w _ hx102_0)).trans hx102_0
                replace hx102_1 := (HB.out.cell (World.block_lt_of_cell? w _ hx102_1)).trans hx102_1
                replace p102 := eq_true p102
                replace q102 := eq_true q102
                go_wp2_with (first | ((with_reducible refine gate_dst (N := 4) rfl ?_); refine box_event ?hg (N := 4) ?hd (cs := #[.string (⟨#[]⟩ : ByteArray), .string (⟨#[]⟩ : ByteArray)]) (t := 31) ?hr ?_; (case hd => rfl); (case hg => rfl); (case hr => first | (go_simp; done) | (go_simp; rfl)); intro gb103 hg w8 hbox hb; have n0_ := Aside0.mk (below_step (by repeat (first | (with_reducible first | exact HB.out | apply below_alloc | apply pw_below_drewN | apply below_drew1) | exact HB.out)) hb); have n1_ := Aside0.mk (hbox); have n2_ := Aside0.mk ((by rw [hg]; exact (below_size (by repeat (first | (with_reducible first | exact HB.out | apply below_alloc | apply pw_below_drewN | apply below_drew1) | exact HB.out))) : w.heap.size ≤ gb103)); have n3_ := Aside0.mk ((by rw [hg]; exact (below_size (by repeat (first | (with_reducible first | exact HB.out | apply below_alloc | apply pw_below_drewN | apply below_drew1) | exact HB.out))) : w.heap.size ≤ gb103)); clear HB; have HB := n0_; have BK103 := n1_; have GW103 := n2_; have GE103 := n3_; clear n0_ n1_ n2_ n3_; clear hb hbox hg; have hcz9_0 : w8.cell? ⟨gb103, 0, none⟩ = some (.string (⟨#[]⟩ : ByteArray)) := (blk_cell BK103.out 0).trans rfl; have hcz9_1 : w8.cell? ⟨gb103, 1, none⟩ = some (.string (⟨#[]⟩ : ByteArray)) := (blk_cell BK103.out 1).trans rfl; have hfz9_0 := blk_frozen BK103.out 0; have hfz9_1 := blk_frozen BK103.out 1) | ((with_reducible refine gate_callee (f := 25) rfl ?_); refine goesL_ (some 15) rfl rfl Tryd.func25 (by kernel_rfl) rfl #[.agg #[.string ((rd_T31 l0 x10_1).f0), .string ((rd_T31 l0 x10_1).f1)]] rfl (by (try simp only [List.map_toArray, List.map_cons, List.map_nil]); first | done | rfl | (simp only [List.length_drop, List.length_take]; rfl)) ?_; (with_reducible refine (laws_zzFits4.calls ((rd_T31 l0 x10_1).f0) ((rd_T31 l0 x10_1).f1) true _ A6.out).mono ?_); rintro e w10 ⟨rfl, hb⟩; refine ⟨_, rfl, ?_⟩; have n0_ := Aside0.mk (blk_below (g := gb103) (o := .cells #[.string ((rd_T31 l0 x10_1).f0), .string ((rd_T31 l0 x10_1).f1)] 31 (0, 0)) (by (with_reducible repeat (first | refine blk_drewN ?_ _ | refine blk_drew ?_ | refine blk_alloc ?_ _)); refine blk_put (cs := #[.string ((rd_T31 l0 x10_1).f0), .string (⟨#[]⟩ : ByteArray)]) ?_ 1 _ rfl; (with_reducible repeat (first | refine blk_drewN ?_ _ | refine blk_drew ?_ | refine blk_alloc ?_ _)); refine blk_put (cs := #[.string (⟨#[]⟩ : ByteArray), .string (⟨#[]⟩ : ByteArray)]) ?_ 0 _ rfl; (with_reducible repeat (first | refine blk_drewN ?_ _ | refine blk_drew ?_ | refine blk_alloc ?_ _)); exact BK103.out) hb); have n1_ := Aside0.mk (below_step (by repeat (first | (with_reducible first | exact HB.out | apply below_alloc | apply pw_below_drewN | apply below_drew1 | refine below_set ?_ GE103.out) | exact HB.out)) hb); clear BK103; clear HB; have BK103 := n0_; have HB := n1_; clear n0_ n1_; (try clear hb); (try clear hb2); (try clear hk); (try clear hi)))
                go_roundg k1
                case measure => have := HK1.out; omega
                case rel => exact ⟨(wrap64 (x10_1 + 1)), (by first | rfl | (simp; done) | (simp [*]; done)), H', ⟨by have := HK1.out; omega⟩, ⟨by repeat (first | (with_reducible first | exact HB.out | apply below_alloc | apply pw_below_drewN | apply below_drew1 | refine below_set ?_ GE103.out) | exact HB.out)⟩⟩
              · replace c7 := Bool.eq_false_iff.mpr c7
                subst c7
                have H1 : (some false) = some r := by rw [if_neg (show ¬ (false = true) by decide)] at H; exact H
                clear H
                have H := H1
                clear H1
                obtain rfl := Option.some.inj H
                have p102 : 0 ≤ (x10_1 : Int) := of_decide_eq_true (by first | (with_reducible assumption) | assumption)
                have q102 : x10_1 < (l0.length : Int) := of_decide_eq_true (by first | (with_reducible assumption) | assumption)
                obtain ⟨ad102, e102, hx102_0, hx102_1⟩ := at_T31 HR0.out x10_1 p102 q102
                cases e102
                replace hx102_0 := (HB.out.cell (World.block_lt_of_cell? w _ hx102_0)).trans hx102_0
                replace hx102_1 := (HB.out.cell (World.block_lt_of_cell? w _ hx102_1)).trans hx102_1
                replace p102 := eq_true p102
                replace q102 := eq_true q102
                go_wp2_with (first | ((with_reducible refine gate_dst (N := 4) rfl ?_); refine box_event ?hg (N := 4) ?hd (cs := #[.string (⟨#[]⟩ : ByteArray), .string (⟨#[]⟩ : ByteArray)]) (t := 31) ?hr ?_; (case hd => rfl); (case hg => rfl); (case hr => first | (go_simp; done) | (go_simp; rfl)); intro gb103 hg w11 hbox hb; have n0_ := Aside0.mk (below_step (by repeat (first | (with_reducible first | exact HB.out | apply below_alloc | apply pw_below_drewN | apply below_drew1) | exact HB.out)) hb); have n1_ := Aside0.mk (hbox); have n2_ := Aside0.mk ((by rw [hg]; exact (below_size (by repeat (first | (with_reducible first | exact HB.out | apply below_alloc | apply pw_below_drewN | apply below_drew1) | exact HB.out))) : w.heap.size ≤ gb103)); have n3_ := Aside0.mk ((by rw [hg]; exact (below_size (by repeat (first | (with_reducible first | exact HB.out | apply below_alloc | apply pw_below_drewN | apply below_drew1) | exact HB.out))) : w.heap.size ≤ gb103)); clear HB; have HB := n0_; have BK103 := n1_; have GW103 := n2_; have GE103 := n3_; clear n0_ n1_ n2_ n3_; clear hb hbox hg; have hcz12_0 : w11.cell? ⟨gb103, 0, none⟩ = some (.string (⟨#[]⟩ : ByteArray)) := (blk_cell BK103.out 0).trans rfl; have hcz12_1 : w11.cell? ⟨gb103, 1, none⟩ = some (.string (⟨#[]⟩ : ByteArray)) := (blk_cell BK103.out 1).trans rfl; have hfz12_0 := blk_frozen BK103.out 0; have hfz12_1 := blk_frozen BK103.out 1) | ((with_reducible refine gate_callee (f := 25) rfl ?_); refine goesL_ (some 15) rfl rfl Tryd.func25 (by kernel_rfl) rfl #[.agg #[.string ((rd_T31 l0 x10_1).f0), .string ((rd_T31 l0 x10_1).f1)]] rfl (by (try simp only [List.map_toArray, List.map_cons, List.map_nil]); first | done | rfl | (simp only [List.length_drop, List.length_take]; rfl)) ?_; (with_reducible refine (laws_zzFits4.calls ((rd_T31 l0 x10_1).f0) ((rd_T31 l0 x10_1).f1) false _ A6.out).mono ?_); rintro e w13 ⟨rfl, hb⟩; refine ⟨_, rfl, ?_⟩; have n0_ := Aside0.mk (blk_below (g := gb103) (o := .cells #[.string ((rd_T31 l0 x10_1).f0), .string ((rd_T31 l0 x10_1).f1)] 31 (0, 0)) (by (with_reducible repeat (first | refine blk_drewN ?_ _ | refine blk_drew ?_ | refine blk_alloc ?_ _)); refine blk_put (cs := #[.string ((rd_T31 l0 x10_1).f0), .string (⟨#[]⟩ : ByteArray)]) ?_ 1 _ rfl; (with_reducible repeat (first | refine blk_drewN ?_ _ | refine blk_drew ?_ | refine blk_alloc ?_ _)); refine blk_put (cs := #[.string (⟨#[]⟩ : ByteArray), .string (⟨#[]⟩ : ByteArray)]) ?_ 0 _ rfl; (with_reducible repeat (first | refine blk_drewN ?_ _ | refine blk_drew ?_ | refine blk_alloc ?_ _)); exact BK103.out) hb); have n1_ := Aside0.mk (below_step (by repeat (first | (with_reducible first | exact HB.out | apply below_alloc | apply pw_below_drewN | apply below_drew1 | refine below_set ?_ GE103.out) | exact HB.out)) hb); clear BK103; clear HB; have BK103 := n0_; have HB := n1_; clear n0_ n1_; (try clear hb); (try clear hb2); (try clear hk); (try clear hi)))
                go_ret
                exact ⟨by first | rfl | (simp [errW_none, errW_some] <;> rfl) | (simp [*, errW_none, errW_some] <;> rfl), by repeat (first | (with_reducible first | exact HB.out | apply below_alloc | apply pw_below_drewN | apply below_drew1 | refine below_set ?_ GE103.out) | exact HB.out)⟩
            · rw [if_neg c5] at H
              exact absurd H (by simp)
          · rw [if_neg c4] at H
            exact absurd H (by simp)
        · rw [if_neg c3] at H
          have c3b0 : decide (x10_1 < (l0.length : Int)) = false := decide_eq_false c3
          clear c3
          obtain rfl := Option.some.inj H
          go_wp2
          go_ret
          exact ⟨by first | rfl | (simp [errW_none, errW_some] <;> rfl) | (simp [*, errW_none, errW_some] <;> rfl), by repeat (first | (with_reducible first | exact HB.out | apply below_alloc | apply pw_below_drewN | apply below_drew1) | exact HB.out)⟩
/-! ### laws_zzFits2: function 5 -/
def laws_zzFits2.f (k : Nat) (a0_0 : Int) (a0_1 : ByteArray) (a0_2 : ByteArray) (l0_3 : List (S31)) (l0_4 : List (S25)) : Option (Bool) := if (a0_1.size : Int) > 2147483647 then (some false) else (if (a0_2.size : Int) > 2147483647 then (some false) else ((laws_zzFits3.f k l0_3).bind fun t106 => (if t106 = true then (if (l0_4.length : Int) > 2147483647 then (some false) else (some true)) else (some false))))
theorem laws_zzFits2.mono : ∀ a0 a1 a2 a3 a4 k, LeO (laws_zzFits2.f k a0 a1 a2 a3 a4) (laws_zzFits2.f (k + 1) a0 a1 a2 a3 a4) := by
  intro a0 a1 a2 a3 a4 k
  unfold laws_zzFits2.f
  repeat' first
      | (with_reducible exact laws_zzFits3.mono _ _)
      | (with_reducible exact LeO.refl _)
      | (with_reducible exact LeO.none _)
      | (with_reducible refine LeO.ite ?_ ?_)
      | (with_reducible refine LeO.bind ?_ (fun _ => ?_))
      | exact laws_zzFits3.mono _ _
      | exact LeO.none _
      | refine LeO.ite ?_ ?_
      | refine LeO.bind ?_ (fun _ => ?_)
set_option maxHeartbeats 8000000 in
set_option maxRecDepth 100000 in
theorem laws_zzFits2.calls (k : Nat) (a0_0 : Int) (a0_1 : ByteArray) (a0_2 : ByteArray) (A0_3 : Option Addr) (c0_3 : Nat) (l0_3 : List (S31)) (A0_4 : Option Addr) (c0_4 : Nat) (l0_4 : List (S25)) (r : Bool) (w : World) (hr0_3 : Kd.C k31 w A0_3 l0_3.length l0_3) (hc0_3 : l0_3.length ≤ c0_3) (hr0_4 : Kd.C k25 w A0_4 l0_4.length l0_4) (hc0_4 : l0_4.length ≤ c0_4) (h : laws_zzFits2.f k a0_0 a0_1 a0_2 l0_3 l0_4 = some r) :
    Calls Tryd.prog 5 #[.agg #[.int .i64 a0_0, .string a0_1, .string a0_2, .slice A0_3 l0_3.length c0_3, .slice A0_4 l0_4.length c0_4]] w fun e w' => e = .returned (.bool r) ∧ Below w.heap.size w w' := by
  have hu25 := Tryd.underlying25
  have HR0_3 := Aside0.mk hr0_3
  have HC0_3 := Aside0.mk hc0_3
  clear hr0_3 hc0_3
  have HR0_4 := Aside0.mk hr0_4
  have HC0_4 := Aside0.mk hc0_4
  clear hr0_4 hc0_4
  have HB := Aside0.mk (Below.refl w.heap.size w)
  have H : (if (a0_1.size : Int) > 2147483647 then (some false) else (if (a0_2.size : Int) > 2147483647 then (some false) else ((laws_zzFits3.f k l0_3).bind fun t106 => (if t106 = true then (if (l0_4.length : Int) > 2147483647 then (some false) else (some true)) else (some false))))) = some r := h
  clear h
  by_cases c2 : (a0_1.size : Int) > 2147483647
  · rw [if_pos c2] at H
    have c2b0 : decide (2147483647 < (a0_1.size : Int)) = true := decide_eq_true c2
    have c2b1 : decide (2147483647 < a0_1.size) = true := decide_eq_true (by omega)
    clear c2
    obtain rfl := Option.some.inj H
    go_enter Tryd.func5, Tryd.ntmps5
    go_wp2_with (first | ((with_reducible refine gate_dst (N := 1) rfl ?_); refine box_event ?hg (N := 1) ?hd (cs := #[.int .i64 a0_0, .string a0_1, .string a0_2, .slice A0_3 l0_3.length c0_3, .slice A0_4 l0_4.length c0_4]) (t := 25) ?hr ?_; (case hd => rfl); (case hg => rfl); (case hr => first | (go_simp; done) | (go_simp; rfl)); intro gb105 hg w3 hbox hb; have n0_ := Aside0.mk (below_step (by repeat (first | (with_reducible first | exact HB.out | apply below_alloc | apply pw_below_drewN | apply below_drew1) | exact HB.out)) hb); have n1_ := Aside0.mk (hbox); have n2_ := Aside0.mk ((by rw [hg]; exact (below_size (by repeat (first | (with_reducible first | exact HB.out | apply below_alloc | apply pw_below_drewN | apply below_drew1) | exact HB.out))) : w.heap.size ≤ gb105)); have n3_ := Aside0.mk ((by rw [hg]; exact (below_size (by repeat (first | (with_reducible first | exact HB.out | apply below_alloc | apply pw_below_drewN | apply below_drew1) | exact HB.out))) : w.heap.size ≤ gb105)); clear HB; have HB := n0_; have BK105 := n1_; have GW105 := n2_; have GE105 := n3_; clear n0_ n1_ n2_ n3_; clear hb hbox hg; have hcz4_0 : w3.cell? ⟨gb105, 0, none⟩ = some (.int .i64 a0_0) := (blk_cell BK105.out 0).trans rfl; have hcz4_1 : w3.cell? ⟨gb105, 1, none⟩ = some (.string a0_1) := (blk_cell BK105.out 1).trans rfl; have hcz4_2 : w3.cell? ⟨gb105, 2, none⟩ = some (.string a0_2) := (blk_cell BK105.out 2).trans rfl; have hcz4_3 : w3.cell? ⟨gb105, 3, none⟩ = some (.slice A0_3 l0_3.length c0_3) := (blk_cell BK105.out 3).trans rfl; have hcz4_4 : w3.cell? ⟨gb105, 4, none⟩ = some (.slice A0_4 l0_4.length c0_4) := (blk_cell BK105.out 4).trans rfl; have hfz4_0 := blk_frozen BK105.out 0; have hfz4_1 := blk_frozen BK105.out 1; have hfz4_2 := blk_frozen BK105.out 2; have hfz4_3 := blk_frozen BK105.out 3; have hfz4_4 := blk_frozen BK105.out 4))
    go_ret
    exact ⟨by first | rfl | (simp [errW_none, errW_some] <;> rfl) | (simp [*, errW_none, errW_some] <;> rfl), by repeat (first | (with_reducible first | exact HB.out | apply below_alloc | apply pw_below_drewN | apply below_drew1 | refine below_set ?_ GE105.out) | exact HB.out)⟩
  · rw [if_neg c2] at H
    have c2b0 : decide (2147483647 < (a0_1.size : Int)) = false := decide_eq_false c2
    have c2b1 : decide (2147483647 < a0_1.size) = false := decide_eq_false (by omega)
    clear c2
    by_cases c5 : (a0_2.size : Int) > 2147483647
    · rw [if_pos c5] at H
      have c5b0 : decide (2147483647 < (a0_2.size : Int)) = true := decide_eq_true c5
      have c5b1 : decide (2147483647 < a0_2.size) = true := decide_eq_true (by omega)
      clear c5
      obtain rfl := Option.some.inj H
      go_enter Tryd.func5, Tryd.ntmps5
      go_wp2_with (first | ((with_reducible refine gate_dst (N := 1) rfl ?_); refine box_event ?hg (N := 1) ?hd (cs := #[.int .i64 a0_0, .string a0_1, .string a0_2, .slice A0_3 l0_3.length c0_3, .slice A0_4 l0_4.length c0_4]) (t := 25) ?hr ?_; (case hd => rfl); (case hg => rfl); (case hr => first | (go_simp; done) | (go_simp; rfl)); intro gb105 hg w6 hbox hb; have n0_ := Aside0.mk (below_step (by repeat (first | (with_reducible first | exact HB.out | apply below_alloc | apply pw_below_drewN | apply below_drew1) | exact HB.out)) hb); have n1_ := Aside0.mk (hbox); have n2_ := Aside0.mk ((by rw [hg]; exact (below_size (by repeat (first | (with_reducible first | exact HB.out | apply below_alloc | apply pw_below_drewN | apply below_drew1) | exact HB.out))) : w.heap.size ≤ gb105)); have n3_ := Aside0.mk ((by rw [hg]; exact (below_size (by repeat (first | (with_reducible first | exact HB.out | apply below_alloc | apply pw_below_drewN | apply below_drew1) | exact HB.out))) : w.heap.size ≤ gb105)); clear HB; have HB := n0_; have BK105 := n1_; have GW105 := n2_; have GE105 := n3_; clear n0_ n1_ n2_ n3_; clear hb hbox hg; have hcz7_0 : w6.cell? ⟨gb105, 0, none⟩ = some (.int .i64 a0_0) := (blk_cell BK105.out 0).trans rfl; have hcz7_1 : w6.cell? ⟨gb105, 1, none⟩ = some (.string a0_1) := (blk_cell BK105.out 1).trans rfl; have hcz7_2 : w6.cell? ⟨gb105, 2, none⟩ = some (.string a0_2) := (blk_cell BK105.out 2).trans rfl; have hcz7_3 : w6.cell? ⟨gb105, 3, none⟩ = some (.slice A0_3 l0_3.length c0_3) := (blk_cell BK105.out 3).trans rfl; have hcz7_4 : w6.cell? ⟨gb105, 4, none⟩ = some (.slice A0_4 l0_4.length c0_4) := (blk_cell BK105.out 4).trans rfl; have hfz7_0 := blk_frozen BK105.out 0; have hfz7_1 := blk_frozen BK105.out 1; have hfz7_2 := blk_frozen BK105.out 2; have hfz7_3 := blk_frozen BK105.out 3; have hfz7_4 := blk_frozen BK105.out 4))
      go_ret
      exact ⟨by first | rfl | (simp [errW_none, errW_some] <;> rfl) | (simp [*, errW_none, errW_some] <;> rfl), by repeat (first | (with_reducible first | exact HB.out | apply below_alloc | apply pw_below_drewN | apply below_drew1 | refine below_set ?_ GE105.out) | exact HB.out)⟩
    · rw [if_neg c5] at H
      have c5b0 : decide (2147483647 < (a0_2.size : Int)) = false := decide_eq_false c5
      have c5b1 : decide (2147483647 < a0_2.size) = false := decide_eq_false (by omega)
      clear c5
      replace H := Option.bind_eq_some_iff.mp H
      obtain ⟨t106, A80, H⟩ := H
      replace H : (if t106 = true then (if (l0_4.length : Int) > 2147483647 then (some false) else (some true)) else (some false)) = some r := H
      have A8 := Aside0.mk A80
      clear A80
      by_cases c9 : t106 = true
      · subst c9
        have H1 : (if (l0_4.length : Int) > 2147483647 then (some false) else (some true)) = some r := by rw [if_pos rfl] at H; exact H
        clear H
        have H := H1
        clear H1
        by_cases c10 : (l0_4.length : Int) > 2147483647
        · rw [if_pos c10] at H
          have c10b0 : decide (2147483647 < (l0_4.length : Int)) = true := decide_eq_true c10
          have c10b1 : decide (2147483647 < l0_4.length) = true := decide_eq_true (by omega)
          clear c10
          obtain rfl := Option.some.inj H
          go_enter Tryd.func5, Tryd.ntmps5
          go_wp2_with (first | ((with_reducible refine gate_dst (N := 1) rfl ?_); refine box_event ?hg (N := 1) ?hd (cs := #[.int .i64 a0_0, .string a0_1, .string a0_2, .slice A0_3 l0_3.length c0_3, .slice A0_4 l0_4.length c0_4]) (t := 25) ?hr ?_; (case hd => rfl); (case hg => rfl); (case hr => first | (go_simp; done) | (go_simp; rfl)); intro gb105 hg w11 hbox hb; have n0_ := Aside0.mk (below_step (by repeat (first | (with_reducible first | exact HB.out | apply below_alloc | apply pw_below_drewN | apply below_drew1) | exact HB.out)) hb); have n1_ := Aside0.mk (hbox); have n2_ := Aside0.mk ((by rw [hg]; exact (below_size (by repeat (first | (with_reducible first | exact HB.out | apply below_alloc | apply pw_below_drewN | apply below_drew1) | exact HB.out))) : w.heap.size ≤ gb105)); have n3_ := Aside0.mk ((by rw [hg]; exact (below_size (by repeat (first | (with_reducible first | exact HB.out | apply below_alloc | apply pw_below_drewN | apply below_drew1) | exact HB.out))) : w.heap.size ≤ gb105)); clear HB; have HB := n0_; have BK105 := n1_; have GW105 := n2_; have GE105 := n3_; clear n0_ n1_ n2_ n3_; clear hb hbox hg; have hcz12_0 : w11.cell? ⟨gb105, 0, none⟩ = some (.int .i64 a0_0) := (blk_cell BK105.out 0).trans rfl; have hcz12_1 : w11.cell? ⟨gb105, 1, none⟩ = some (.string a0_1) := (blk_cell BK105.out 1).trans rfl; have hcz12_2 : w11.cell? ⟨gb105, 2, none⟩ = some (.string a0_2) := (blk_cell BK105.out 2).trans rfl; have hcz12_3 : w11.cell? ⟨gb105, 3, none⟩ = some (.slice A0_3 l0_3.length c0_3) := (blk_cell BK105.out 3).trans rfl; have hcz12_4 : w11.cell? ⟨gb105, 4, none⟩ = some (.slice A0_4 l0_4.length c0_4) := (blk_cell BK105.out 4).trans rfl; have hfz12_0 := blk_frozen BK105.out 0; have hfz12_1 := blk_frozen BK105.out 1; have hfz12_2 := blk_frozen BK105.out 2; have hfz12_3 := blk_frozen BK105.out 3; have hfz12_4 := blk_frozen BK105.out 4) | ((with_reducible refine gate_callee (f := 14) rfl ?_); refine goesL_ (some 13) rfl rfl Tryd.func14 (by kernel_rfl) rfl #[.slice A0_3 l0_3.length c0_3] rfl (by (try simp only [List.map_toArray, List.map_cons, List.map_nil]); first | done | rfl | (simp only [List.length_drop, List.length_take]; rfl)) ?_; (with_reducible refine (laws_zzFits3.calls k _ _ l0_3 true _ ?side1 ?side2 A8.out).mono ?_); (case side1 => repeat (first | exact (Kd.C_below HR0_3.out HB.out) | (with_reducible refine Kd.C_alloc ?_ _) | (with_reducible refine Kd.C_drewN ?_ _) | (with_reducible refine Kd.C_drew ?_))); (case side2 => exact HC0_3.out); rintro e w13 ⟨rfl, hb⟩; refine ⟨_, rfl, ?_⟩; have n0_ := Aside0.mk (blk_below (g := gb105) (o := .cells #[.int .i64 a0_0, .string a0_1, .string a0_2, .slice A0_3 l0_3.length c0_3, .slice A0_4 l0_4.length c0_4] 25 (0, 0)) (by (with_reducible repeat (first | refine blk_drewN ?_ _ | refine blk_drew ?_ | refine blk_alloc ?_ _)); exact BK105.out) hb); have n1_ := Aside0.mk (below_step (by repeat (first | (with_reducible first | exact HB.out | apply below_alloc | apply pw_below_drewN | apply below_drew1 | refine below_set ?_ GE105.out) | exact HB.out)) hb); clear BK105; clear HB; have BK105 := n0_; have HB := n1_; clear n0_ n1_; (try clear hb); (try clear hb2); (try clear hk); (try clear hi); have hcz14_0 : w13.cell? ⟨gb105, 0, none⟩ = some (.int .i64 a0_0) := (blk_cell BK105.out 0).trans rfl; have hcz14_1 : w13.cell? ⟨gb105, 1, none⟩ = some (.string a0_1) := (blk_cell BK105.out 1).trans rfl; have hcz14_2 : w13.cell? ⟨gb105, 2, none⟩ = some (.string a0_2) := (blk_cell BK105.out 2).trans rfl; have hcz14_3 : w13.cell? ⟨gb105, 3, none⟩ = some (.slice A0_3 l0_3.length c0_3) := (blk_cell BK105.out 3).trans rfl; have hcz14_4 : w13.cell? ⟨gb105, 4, none⟩ = some (.slice A0_4 l0_4.length c0_4) := (blk_cell BK105.out 4).trans rfl; have hfz14_0 := blk_frozen BK105.out 0; have hfz14_1 := blk_frozen BK105.out 1; have hfz14_2 := blk_frozen BK105.out 2; have hfz14_3 := blk_frozen BK105.out 3; have hfz14_4 := blk_frozen BK105.out 4))
          go_ret
          exact ⟨by first | rfl | (simp [errW_none, errW_some] <;> rfl) | (simp [*, errW_none, errW_some] <;> rfl), by repeat (first | (with_reducible first | exact HB.out | apply below_alloc | apply pw_below_drewN | apply below_drew1 | refine below_set ?_ GE105.out) | exact HB.out)⟩
        · rw [if_neg c10] at H
          have c10b0 : decide (2147483647 < (l0_4.length : Int)) = false := decide_eq_false c10
          have c10b1 : decide (2147483647 < l0_4.length) = false := decide_eq_false (by omega)
          clear c10
          obtain rfl := Option.some.inj H
          go_enter Tryd.func5, Tryd.ntmps5
          go_wp2_with (first | ((with_reducible refine gate_dst (N := 1) rfl ?_); refine box_event ?hg (N := 1) ?hd (cs := #[.int .i64 a0_0, .string a0_1, .string a0_2, .slice A0_3 l0_3.length c0_3, .slice A0_4 l0_4.length c0_4]) (t := 25) ?hr ?_; (case hd => rfl); (case hg => rfl); (case hr => first | (go_simp; done) | (go_simp; rfl)); intro gb105 hg w15 hbox hb; have n0_ := Aside0.mk (below_step (by repeat (first | (with_reducible first | exact HB.out | apply below_alloc | apply pw_below_drewN | apply below_drew1) | exact HB.out)) hb); have n1_ := Aside0.mk (hbox); have n2_ := Aside0.mk ((by rw [hg]; exact (below_size (by repeat (first | (with_reducible first | exact HB.out | apply below_alloc | apply pw_below_drewN | apply below_drew1) | exact HB.out))) : w.heap.size ≤ gb105)); have n3_ := Aside0.mk ((by rw [hg]; exact (below_size (by repeat (first | (with_reducible first | exact HB.out | apply below_alloc | apply pw_below_drewN | apply below_drew1) | exact HB.out))) : w.heap.size ≤ gb105)); clear HB; have HB := n0_; have BK105 := n1_; have GW105 := n2_; have GE105 := n3_; clear n0_ n1_ n2_ n3_; clear hb hbox hg; have hcz16_0 : w15.cell? ⟨gb105, 0, none⟩ = some (.int .i64 a0_0) := (blk_cell BK105.out 0).trans rfl; have hcz16_1 : w15.cell? ⟨gb105, 1, none⟩ = some (.string a0_1) := (blk_cell BK105.out 1).trans rfl; have hcz16_2 : w15.cell? ⟨gb105, 2, none⟩ = some (.string a0_2) := (blk_cell BK105.out 2).trans rfl; have hcz16_3 : w15.cell? ⟨gb105, 3, none⟩ = some (.slice A0_3 l0_3.length c0_3) := (blk_cell BK105.out 3).trans rfl; have hcz16_4 : w15.cell? ⟨gb105, 4, none⟩ = some (.slice A0_4 l0_4.length c0_4) := (blk_cell BK105.out 4).trans rfl; have hfz16_0 := blk_frozen BK105.out 0; have hfz16_1 := blk_frozen BK105.out 1; have hfz16_2 := blk_frozen BK105.out 2; have hfz16_3 := blk_frozen BK105.out 3; have hfz16_4 := blk_frozen BK105.out 4) | ((with_reducible refine gate_callee (f := 14) rfl ?_); refine goesL_ (some 13) rfl rfl Tryd.func14 (by kernel_rfl) rfl #[.slice A0_3 l0_3.length c0_3] rfl (by (try simp only [List.map_toArray, List.map_cons, List.map_nil]); first | done | rfl | (simp only [List.length_drop, List.length_take]; rfl)) ?_; (with_reducible refine (laws_zzFits3.calls k _ _ l0_3 true _ ?side1 ?side2 A8.out).mono ?_); (case side1 => repeat (first | exact (Kd.C_below HR0_3.out HB.out) | (with_reducible refine Kd.C_alloc ?_ _) | (with_reducible refine Kd.C_drewN ?_ _) | (with_reducible refine Kd.C_drew ?_))); (case side2 => exact HC0_3.out); rintro e w17 ⟨rfl, hb⟩; refine ⟨_, rfl, ?_⟩; have n0_ := Aside0.mk (blk_below (g := gb105) (o := .cells #[.int .i64 a0_0, .string a0_1, .string a0_2, .slice A0_3 l0_3.length c0_3, .slice A0_4 l0_4.length c0_4] 25 (0, 0)) (by (with_reducible repeat (first | refine blk_drewN ?_ _ | refine blk_drew ?_ | refine blk_alloc ?_ _)); exact BK105.out) hb); have n1_ := Aside0.mk (below_step (by repeat (first | (with_reducible first | exact HB.out | apply below_alloc | apply pw_below_drewN | apply below_drew1 | refine below_set ?_ GE105.out) | exact HB.out)) hb); clear BK105; clear HB; have BK105 := n0_; have HB := n1_; clear n0_ n1_; (try clear hb); (try clear hb2); (try clear hk); (try clear hi); have hcz18_0 : w17.cell? ⟨gb105, 0, none⟩ = some (.int .i64 a0_0) := (blk_cell BK105.out 0).trans rfl; have hcz18_1 : w17.cell? ⟨gb105, 1, none⟩ = some (.string a0_1) := (blk_cell BK105.out 1).trans rfl; have hcz18_2 : w17.cell? ⟨gb105, 2, none⟩ = some (.string a0_2) := (blk_cell BK105.out 2).trans rfl; have hcz18_3 : w17.cell? ⟨gb105, 3, none⟩ = some (.slice A0_3 l0_3.length c0_3) := (blk_cell BK105.out 3).trans rfl; have hcz18_4 : w17.cell? ⟨gb105, 4, none⟩ = some (.slice A0_4 l0_4.length c0_4) := (blk_cell BK105.out 4).trans rfl; have hfz18_0 := blk_frozen BK105.out 0; have hfz18_1 := blk_frozen BK105.out 1; have hfz18_2 := blk_frozen BK105.out 2; have hfz18_3 := blk_frozen BK105.out 3; have hfz18_4 := blk_frozen BK105.out 4))
          go_ret
          exact ⟨by first | rfl | (simp [errW_none, errW_some] <;> rfl) | (simp [*, errW_none, errW_some] <;> rfl), by repeat (first | (with_reducible first | exact HB.out | apply below_alloc | apply pw_below_drewN | apply below_drew1 | refine below_set ?_ GE105.out) | exact HB.out)⟩
      · replace c9 := Bool.eq_false_iff.mpr c9
        subst c9
        have H1 : (some false) = some r := by rw [if_neg (show ¬ (false = true) by decide)] at H; exact H
        clear H
        have H := H1
        clear H1
        obtain rfl := Option.some.inj H
        go_enter Tryd.func5, Tryd.ntmps5
        go_wp2_with (first | ((with_reducible refine gate_dst (N := 1) rfl ?_); refine box_event ?hg (N := 1) ?hd (cs := #[.int .i64 a0_0, .string a0_1, .string a0_2, .slice A0_3 l0_3.length c0_3, .slice A0_4 l0_4.length c0_4]) (t := 25) ?hr ?_; (case hd => rfl); (case hg => rfl); (case hr => first | (go_simp; done) | (go_simp; rfl)); intro gb105 hg w19 hbox hb; have n0_ := Aside0.mk (below_step (by repeat (first | (with_reducible first | exact HB.out | apply below_alloc | apply pw_below_drewN | apply below_drew1) | exact HB.out)) hb); have n1_ := Aside0.mk (hbox); have n2_ := Aside0.mk ((by rw [hg]; exact (below_size (by repeat (first | (with_reducible first | exact HB.out | apply below_alloc | apply pw_below_drewN | apply below_drew1) | exact HB.out))) : w.heap.size ≤ gb105)); have n3_ := Aside0.mk ((by rw [hg]; exact (below_size (by repeat (first | (with_reducible first | exact HB.out | apply below_alloc | apply pw_below_drewN | apply below_drew1) | exact HB.out))) : w.heap.size ≤ gb105)); clear HB; have HB := n0_; have BK105 := n1_; have GW105 := n2_; have GE105 := n3_; clear n0_ n1_ n2_ n3_; clear hb hbox hg; have hcz20_0 : w19.cell? ⟨gb105, 0, none⟩ = some (.int .i64 a0_0) := (blk_cell BK105.out 0).trans rfl; have hcz20_1 : w19.cell? ⟨gb105, 1, none⟩ = some (.string a0_1) := (blk_cell BK105.out 1).trans rfl; have hcz20_2 : w19.cell? ⟨gb105, 2, none⟩ = some (.string a0_2) := (blk_cell BK105.out 2).trans rfl; have hcz20_3 : w19.cell? ⟨gb105, 3, none⟩ = some (.slice A0_3 l0_3.length c0_3) := (blk_cell BK105.out 3).trans rfl; have hcz20_4 : w19.cell? ⟨gb105, 4, none⟩ = some (.slice A0_4 l0_4.length c0_4) := (blk_cell BK105.out 4).trans rfl; have hfz20_0 := blk_frozen BK105.out 0; have hfz20_1 := blk_frozen BK105.out 1; have hfz20_2 := blk_frozen BK105.out 2; have hfz20_3 := blk_frozen BK105.out 3; have hfz20_4 := blk_frozen BK105.out 4) | ((with_reducible refine gate_callee (f := 14) rfl ?_); refine goesL_ (some 13) rfl rfl Tryd.func14 (by kernel_rfl) rfl #[.slice A0_3 l0_3.length c0_3] rfl (by (try simp only [List.map_toArray, List.map_cons, List.map_nil]); first | done | rfl | (simp only [List.length_drop, List.length_take]; rfl)) ?_; (with_reducible refine (laws_zzFits3.calls k _ _ l0_3 false _ ?side1 ?side2 A8.out).mono ?_); (case side1 => repeat (first | exact (Kd.C_below HR0_3.out HB.out) | (with_reducible refine Kd.C_alloc ?_ _) | (with_reducible refine Kd.C_drewN ?_ _) | (with_reducible refine Kd.C_drew ?_))); (case side2 => exact HC0_3.out); rintro e w21 ⟨rfl, hb⟩; refine ⟨_, rfl, ?_⟩; have n0_ := Aside0.mk (blk_below (g := gb105) (o := .cells #[.int .i64 a0_0, .string a0_1, .string a0_2, .slice A0_3 l0_3.length c0_3, .slice A0_4 l0_4.length c0_4] 25 (0, 0)) (by (with_reducible repeat (first | refine blk_drewN ?_ _ | refine blk_drew ?_ | refine blk_alloc ?_ _)); exact BK105.out) hb); have n1_ := Aside0.mk (below_step (by repeat (first | (with_reducible first | exact HB.out | apply below_alloc | apply pw_below_drewN | apply below_drew1 | refine below_set ?_ GE105.out) | exact HB.out)) hb); clear BK105; clear HB; have BK105 := n0_; have HB := n1_; clear n0_ n1_; (try clear hb); (try clear hb2); (try clear hk); (try clear hi)))
        go_ret
        exact ⟨by first | rfl | (simp [errW_none, errW_some] <;> rfl) | (simp [*, errW_none, errW_some] <;> rfl), by repeat (first | (with_reducible first | exact HB.out | apply below_alloc | apply pw_below_drewN | apply below_drew1 | refine below_set ?_ GE105.out) | exact HB.out)⟩
/-! ### laws_size29: function 15 -/
mutual
def laws_size29.l0 : Nat → Int → Int → List (S25) → Int → Int → Option (Int)
  | 0, _, _, _, _, _ => none
  | k + 1, x1, x5, x11, x12, x13 => if x13 < x12 then (if 0 ≤ x13 then (if x13 < (x11.length : Int) then ((laws_size29.f k ((rd_T25 x11 x13).f0) ((rd_T25 x11 x13).f1) ((rd_T25 x11 x13).f2) ((rd_T25 x11 x13).f3) ((rd_T25 x11 x13).f4) (wrap64 (x1 + 1))).bind fun t110 => (if (wrap64 (x5 + t110)) > 300 then (some (wrap64 (x5 + t110))) else (laws_size29.l0 k x1 (wrap64 (x5 + t110)) x11 x12 (wrap64 (x13 + 1))))) else (none)) else (none)) else (some x5)
def laws_size29.f : Nat → Int → ByteArray → ByteArray → List (S31) → List (S25) → Int → Option (Int)
  | 0, _, _, _, _, _, _ => none
  | k + 1, a0_0, a0_1, a0_2, l0_3, l0_4, a1 => if a1 > 60 then (some 301) else (laws_size29.l0 k a1 1 l0_4 (l0_4.length : Int) 0)
end
theorem laws_size29.mono_l : ∀ k, (∀ y0 y1 y2 y3 y4 y5, LeO (laws_size29.f k y0 y1 y2 y3 y4 y5) (laws_size29.f (k + 1) y0 y1 y2 y3 y4 y5)) ∧ (∀ y0 y1 y2 y3 y4, LeO (laws_size29.l0 k y0 y1 y2 y3 y4) (laws_size29.l0 (k + 1) y0 y1 y2 y3 y4))
  | 0 => ⟨fun _ _ _ _ _ _ r h => by simp [laws_size29.f] at h, fun _ _ _ _ _ r h => by simp [laws_size29.l0] at h⟩
  | k + 1 => by
    obtain ⟨ih0, ih1⟩ := laws_size29.mono_l k
    refine ⟨?_, ?_⟩
    · intro y0 y1 y2 y3 y4 y5
      unfold laws_size29.f
      repeat' first
      | (with_reducible exact ih0 _ _ _ _ _ _)
      | (with_reducible exact ih1 _ _ _ _ _)
      | (with_reducible exact LeO.refl _)
      | (with_reducible exact LeO.none _)
      | (with_reducible refine LeO.ite ?_ ?_)
      | (with_reducible refine LeO.bind ?_ (fun _ => ?_))
      | exact ih0 _ _ _ _ _ _
      | exact ih1 _ _ _ _ _
      | exact LeO.none _
      | refine LeO.ite ?_ ?_
      | refine LeO.bind ?_ (fun _ => ?_)
    · intro y0 y1 y2 y3 y4
      unfold laws_size29.l0
      repeat' first
      | (with_reducible exact ih0 _ _ _ _ _ _)
      | (with_reducible exact ih1 _ _ _ _ _)
      | (with_reducible exact LeO.refl _)
      | (with_reducible exact LeO.none _)
      | (with_reducible refine LeO.ite ?_ ?_)
      | (with_reducible refine LeO.bind ?_ (fun _ => ?_))
      | exact ih0 _ _ _ _ _ _
      | exact ih1 _ _ _ _ _
      | exact LeO.none _
      | refine LeO.ite ?_ ?_
      | refine LeO.bind ?_ (fun _ => ?_)
theorem laws_size29.mono : ∀ a0 a1 a2 a3 a4 a5 k, LeO (laws_size29.f k a0 a1 a2 a3 a4 a5) (laws_size29.f (k + 1) a0 a1 a2 a3 a4 a5) := by
  intro a0 a1 a2 a3 a4 a5 k
  obtain ⟨ih0, ih1⟩ := laws_size29.mono_l k
  exact ih0 a0 a1 a2 a3 a4 a5
set_option maxHeartbeats 8000000 in
set_option maxRecDepth 100000 in
theorem laws_size29.calls (k : Nat) : ∀ (a0_0 : Int) (a0_1 : ByteArray) (a0_2 : ByteArray) (A0_3 : Option Addr) (c0_3 : Nat) (l0_3 : List (S31)) (A0_4 : Option Addr) (c0_4 : Nat) (l0_4 : List (S25)) (a1 : Int) (r : Int) (w : World) (hr0_3 : Kd.C k31 w A0_3 l0_3.length l0_3) (hc0_3 : l0_3.length ≤ c0_3) (hr0_4 : Kd.C k25 w A0_4 l0_4.length l0_4) (hc0_4 : l0_4.length ≤ c0_4) (h : laws_size29.f k a0_0 a0_1 a0_2 l0_3 l0_4 a1 = some r),
    Calls Tryd.prog 15 #[.agg #[.int .i64 a0_0, .string a0_1, .string a0_2, .slice A0_3 l0_3.length c0_3, .slice A0_4 l0_4.length c0_4], .int .i64 a1] w fun e w' => e = .returned (.int .i64 r) ∧ Below w.heap.size w w' := by
  induction k using Nat.strongRecOn with
  | _ k ih =>
  intro a0_0 a0_1 a0_2 A0_3 c0_3 l0_3 A0_4 c0_4 l0_4 a1 r w hr0_3 hc0_3 hr0_4 hc0_4 h
  cases k with
  | zero => exact absurd h (by simp [laws_size29.f])
  | succ k =>
  simp only [laws_size29.f] at h
  have hu25 := Tryd.underlying25
  have HR0_3 := Aside0.mk hr0_3
  have HC0_3 := Aside0.mk hc0_3
  clear hr0_3 hc0_3
  have HR0_4 := Aside0.mk hr0_4
  have HC0_4 := Aside0.mk hc0_4
  clear hr0_4 hc0_4
  have HB := Aside0.mk (Below.refl w.heap.size w)
  have H : (if a1 > 60 then (some 301) else (laws_size29.l0 k a1 1 l0_4 (l0_4.length : Int) 0)) = some r := h
  clear h
  by_cases c3 : a1 > 60
  · rw [if_pos c3] at H
    have c3b0 : decide (60 < a1) = true := decide_eq_true c3
    clear c3
    obtain rfl := Option.some.inj H
    go_enter Tryd.func15, Tryd.ntmps15
    go_wp2_with (first | ((with_reducible refine gate_dst (N := 2) rfl ?_); refine box_event ?hg (N := 2) ?hd (cs := #[.int .i64 a0_0, .string a0_1, .string a0_2, .slice A0_3 l0_3.length c0_3, .slice A0_4 l0_4.length c0_4]) (t := 25) ?hr ?_; (case hd => rfl); (case hg => rfl); (case hr => first | (go_simp; done) | (go_simp; rfl)); intro gb107 hg w4 hbox hb; have n0_ := Aside0.mk (below_step (by repeat (first | (with_reducible first | exact HB.out | apply below_alloc | apply pw_below_drewN | apply below_drew1) | exact HB.out)) hb); have n1_ := Aside0.mk (hbox); have n2_ := Aside0.mk ((by rw [hg]; exact (below_size (by repeat (first | (with_reducible first | exact HB.out | apply below_alloc | apply pw_below_drewN | apply below_drew1) | exact HB.out))) : w.heap.size ≤ gb107)); have n3_ := Aside0.mk ((by rw [hg]; exact (below_size (by repeat (first | (with_reducible first | exact HB.out | apply below_alloc | apply pw_below_drewN | apply below_drew1) | exact HB.out))) : w.heap.size ≤ gb107)); clear HB; have HB := n0_; have BK107 := n1_; have GW107 := n2_; have GE107 := n3_; clear n0_ n1_ n2_ n3_; clear hb hbox hg))
    go_ret
    exact ⟨by first | rfl | (simp [errW_none, errW_some] <;> rfl) | (simp [*, errW_none, errW_some] <;> rfl), by repeat (first | (with_reducible first | exact HB.out | apply below_alloc | apply pw_below_drewN | apply below_drew1 | refine below_set ?_ GE107.out) | exact HB.out)⟩
  · rw [if_neg c3] at H
    have c3b0 : decide (60 < a1) = false := decide_eq_false c3
    clear c3
    have H' := Aside0.mk H
    clear H
    go_enter Tryd.func15, Tryd.ntmps15
    go_wp2_with (first | ((with_reducible refine gate_dst (N := 2) rfl ?_); refine box_event ?hg (N := 2) ?hd (cs := #[.int .i64 a0_0, .string a0_1, .string a0_2, .slice A0_3 l0_3.length c0_3, .slice A0_4 l0_4.length c0_4]) (t := 25) ?hr ?_; (case hd => rfl); (case hg => rfl); (case hr => first | (go_simp; done) | (go_simp; rfl)); intro gb107 hg w5 hbox hb; have n0_ := Aside0.mk (below_step (by repeat (first | (with_reducible first | exact HB.out | apply below_alloc | apply pw_below_drewN | apply below_drew1) | exact HB.out)) hb); have n1_ := Aside0.mk (hbox); have n2_ := Aside0.mk ((by rw [hg]; exact (below_size (by repeat (first | (with_reducible first | exact HB.out | apply below_alloc | apply pw_below_drewN | apply below_drew1) | exact HB.out))) : w.heap.size ≤ gb107)); have n3_ := Aside0.mk ((by rw [hg]; exact (below_size (by repeat (first | (with_reducible first | exact HB.out | apply below_alloc | apply pw_below_drewN | apply below_drew1) | exact HB.out))) : w.heap.size ≤ gb107)); clear HB; have HB := n0_; have BK107 := n1_; have GW107 := n2_; have GE107 := n3_; clear n0_ n1_ n2_ n3_; clear hb hbox hg; have hcz6_0 : w5.cell? ⟨gb107, 0, none⟩ = some (.int .i64 a0_0) := (blk_cell BK107.out 0).trans rfl; have hcz6_1 : w5.cell? ⟨gb107, 1, none⟩ = some (.string a0_1) := (blk_cell BK107.out 1).trans rfl; have hcz6_2 : w5.cell? ⟨gb107, 2, none⟩ = some (.string a0_2) := (blk_cell BK107.out 2).trans rfl; have hcz6_3 : w5.cell? ⟨gb107, 3, none⟩ = some (.slice A0_3 l0_3.length c0_3) := (blk_cell BK107.out 3).trans rfl; have hcz6_4 : w5.cell? ⟨gb107, 4, none⟩ = some (.slice A0_4 l0_4.length c0_4) := (blk_cell BK107.out 4).trans rfl; have hfz6_0 := blk_frozen BK107.out 0; have hfz6_1 := blk_frozen BK107.out 1; have hfz6_2 := blk_frozen BK107.out 2; have hfz6_3 := blk_frozen BK107.out 3; have hfz6_4 := blk_frozen BK107.out 4))
    go_loopg [5, 13] k (fun kq v5 v13 w' => ∃ (x5_1 : Int) (x13_1 : Int), v5 = .int .i64 x5_1 ∧ v13 = .int .i64 x13_1 ∧ Aside0 (laws_size29.l0 kq a1 x5_1 l0_4 (l0_4.length : Int) x13_1 = some r) ∧ Aside0 (kq ≤ k) ∧ Aside0 (w'.heap[gb107]? = some (.cells #[.int .i64 a0_0, .string a0_1, .string a0_2, (.slice A0_3 l0_3.length c0_3), (.slice A0_4 l0_4.length c0_4)] 25 (0, 0))) ∧ Aside0 (Below w.heap.size w w'))
    case atStart => exact ⟨(1), (0), (by first | rfl | (simp; done) | (simp [*]; done)), (by first | rfl | (simp; done) | (simp [*]; done)), H', ⟨Nat.le_refl _⟩, ⟨by (with_reducible repeat (first | refine blk_drewN ?_ _ | refine blk_drew ?_ | refine blk_alloc ?_ _)); exact BK107.out⟩, ⟨by repeat (first | (with_reducible first | exact HB.out | apply below_alloc | apply pw_below_drewN | apply below_drew1 | refine below_set ?_ GE107.out) | exact HB.out)⟩⟩
    case round =>
      clear H'
      try clear c1
      try clear p2
      try clear c3
      try clear c3b0
      try clear hcz6_0
      try clear hcz6_1
      try clear hcz6_2
      try clear hcz6_3
      try clear hcz6_4
      try clear hfz6_0
      try clear hfz6_1
      try clear hfz6_2
      try clear hfz6_3
      try clear hfz6_4
      obtain ⟨x5_1, x13_1, rfl, rfl, HA, HK1, BK107, HB⟩ := hrel
      cases gk with
      | zero => exact absurd HA.out (by simp [laws_size29.l0])
      | succ k1 =>
        have H := HA.out
        clear HA
        simp only [laws_size29.l0] at H
        by_cases c7 : x13_1 < (l0_4.length : Int)
        · rw [if_pos c7] at H
          have c7b0 : decide (x13_1 < (l0_4.length : Int)) = true := decide_eq_true c7
          clear c7
          by_cases c8 : 0 ≤ x13_1
          · rw [if_pos c8] at H
            have c8b0 : decide (0 ≤ x13_1) = true := decide_eq_true c8
            clear c8
            by_cases c9 : x13_1 < (l0_4.length : Int)
            · rw [if_pos c9] at H
              have c9b0 : decide (x13_1 < (l0_4.length : Int)) = true := decide_eq_true c9
              clear c9
              replace H := Option.bind_eq_some_iff.mp H
              obtain ⟨t110, A100, H⟩ := H
              replace H : (if (wrap64 (x5_1 + t110)) > 300 then (some (wrap64 (x5_1 + t110))) else (laws_size29.l0 k1 a1 (wrap64 (x5_1 + t110)) l0_4 (l0_4.length : Int) (wrap64 (x13_1 + 1)))) = some r := H
              have A10 := Aside0.mk A100
              clear A100
              by_cases c11 : (wrap64 (x5_1 + t110)) > 300
              · rw [if_pos c11] at H
                have c11b0 : decide (300 < (wrap64 (x5_1 + t110))) = true := decide_eq_true c11
                clear c11
                obtain rfl := Option.some.inj H
                have p108 : 0 ≤ (x13_1 : Int) := of_decide_eq_true (by first | (with_reducible assumption) | assumption)
                have q108 : x13_1 < (l0_4.length : Int) := of_decide_eq_true (by first | (with_reducible assumption) | assumption)
                obtain ⟨ad108, A108_3, c108_3, A108_4, c108_4, e108, hx108_0, hx108_1, hx108_2, hx108_3, hx108_4, hl108_3, hi108_3, hl108_4, hi108_4⟩ := at_T25 HR0_4.out x13_1 p108 q108
                cases e108
                replace hx108_0 := (HB.out.cell (World.block_lt_of_cell? w _ hx108_0)).trans hx108_0
                replace hx108_1 := (HB.out.cell (World.block_lt_of_cell? w _ hx108_1)).trans hx108_1
                replace hx108_2 := (HB.out.cell (World.block_lt_of_cell? w _ hx108_2)).trans hx108_2
                replace hx108_3 := (HB.out.cell (World.block_lt_of_cell? w _ hx108_3)).trans hx108_3
                replace hx108_4 := (HB.out.cell (World.block_lt_of_cell? w _ hx108_4)).trans hx108_4
                have HR108_3 := Aside0.mk hi108_3
                have HC108_3 := Aside0.mk hl108_3
                clear hi108_3 hl108_3
                have HR108_4 := Aside0.mk hi108_4
                have HC108_4 := Aside0.mk hl108_4
                clear hi108_4 hl108_4
                replace p108 := eq_true p108
                replace q108 := eq_true q108
                go_wp2_with (first | ((with_reducible refine gate_dst (N := 7) rfl ?_); refine box_event ?hg (N := 7) ?hd (cs := #[.int .i64 0, .string (⟨#[]⟩ : ByteArray), .string (⟨#[]⟩ : ByteArray), .slice none 0 0, .slice none 0 0]) (t := 25) ?hr ?_; (case hd => rfl); (case hg => rfl); (case hr => first | (go_simp; done) | (go_simp; rfl)); intro gb109 hg w12 hbox hb; have n0_ := Aside0.mk (blk_below (g := gb107) (o := .cells #[.int .i64 a0_0, .string a0_1, .string a0_2, .slice A0_3 l0_3.length c0_3, .slice (some ad108) l0_4.length c0_4] 25 (0, 0)) (by (with_reducible repeat (first | refine blk_drewN ?_ _ | refine blk_drew ?_ | refine blk_alloc ?_ _)); exact BK107.out) hb); have n1_ := Aside0.mk (below_step (by repeat (first | (with_reducible first | exact HB.out | apply below_alloc | apply pw_below_drewN | apply below_drew1 | refine below_set ?_ GE107.out) | exact HB.out)) hb); have n2_ := Aside0.mk (hbox); have n3_ := Aside0.mk ((by rw [hg]; exact (below_size (by repeat (first | (with_reducible first | exact HB.out | apply below_alloc | apply pw_below_drewN | apply below_drew1 | refine below_set ?_ GE107.out) | exact HB.out))) : w.heap.size ≤ gb109)); have n4_ := Aside0.mk ((by rw [hg]; exact (below_size (by repeat (first | (with_reducible first | exact HB.out | apply below_alloc | apply pw_below_drewN | apply below_drew1 | refine below_set ?_ GE107.out) | exact HB.out))) : w.heap.size ≤ gb109)); have n5_ := Aside0.mk ((by rw [hg]; exact Nat.ne_of_lt (blk_lt (g := gb107) (o := .cells #[.int .i64 a0_0, .string a0_1, .string a0_2, .slice A0_3 l0_3.length c0_3, .slice (some ad108) l0_4.length c0_4] 25 (0, 0)) (by (with_reducible repeat (first | refine blk_drewN ?_ _ | refine blk_drew ?_ | refine blk_alloc ?_ _)); exact BK107.out)) : gb107 ≠ gb109)); have n6_ := Aside0.mk ((by rw [hg]; exact Nat.ne_of_gt (blk_lt (g := gb107) (o := .cells #[.int .i64 a0_0, .string a0_1, .string a0_2, .slice A0_3 l0_3.length c0_3, .slice (some ad108) l0_4.length c0_4] 25 (0, 0)) (by (with_reducible repeat (first | refine blk_drewN ?_ _ | refine blk_drew ?_ | refine blk_alloc ?_ _)); exact BK107.out)) : gb109 ≠ gb107)); clear BK107; clear HB; have BK107 := n0_; have HB := n1_; have BK109 := n2_; have GW109 := n3_; have GE109 := n4_; have NB107_109 := n5_; have NB109_107 := n6_; clear n0_ n1_ n2_ n3_ n4_ n5_ n6_; clear hb hbox hg; have hnb13 := NB109_107.out; have hnc13 := NB107_109.out; have hcz14_0 : w12.cell? ⟨gb109, 0, none⟩ = some (.int .i64 0) := (blk_cell BK109.out 0).trans rfl; have hcz14_1 : w12.cell? ⟨gb109, 1, none⟩ = some (.string (⟨#[]⟩ : ByteArray)) := (blk_cell BK109.out 1).trans rfl; have hcz14_2 : w12.cell? ⟨gb109, 2, none⟩ = some (.string (⟨#[]⟩ : ByteArray)) := (blk_cell BK109.out 2).trans rfl; have hcz14_3 : w12.cell? ⟨gb109, 3, none⟩ = some (.slice none 0 0) := (blk_cell BK109.out 3).trans rfl; have hcz14_4 : w12.cell? ⟨gb109, 4, none⟩ = some (.slice none 0 0) := (blk_cell BK109.out 4).trans rfl; have hfz14_0 := blk_frozen BK109.out 0; have hfz14_1 := blk_frozen BK109.out 1; have hfz14_2 := blk_frozen BK109.out 2; have hfz14_3 := blk_frozen BK109.out 3; have hfz14_4 := blk_frozen BK109.out 4) | ((with_reducible refine gate_callee (f := 15) rfl ?_); refine goesL_ (some 21) rfl rfl Tryd.func15 (by kernel_rfl) rfl #[.agg #[.int .i64 ((rd_T25 l0_4 x13_1).f0), .string ((rd_T25 l0_4 x13_1).f1), .string ((rd_T25 l0_4 x13_1).f2), .slice A108_3 ((rd_T25 l0_4 x13_1).f3).length c108_3, .slice A108_4 ((rd_T25 l0_4 x13_1).f4).length c108_4], .int .i64 (wrap64 (a1 + 1))] rfl (by (try simp only [List.map_toArray, List.map_cons, List.map_nil]); first | done | rfl | (simp only [List.length_drop, List.length_take]; rfl)) ?_; (with_reducible refine (ih k1 (by have := HK1.out; omega) ((rd_T25 l0_4 x13_1).f0) ((rd_T25 l0_4 x13_1).f1) ((rd_T25 l0_4 x13_1).f2) _ _ ((rd_T25 l0_4 x13_1).f3) _ _ ((rd_T25 l0_4 x13_1).f4) (wrap64 (a1 + 1)) t110 _ ?side1 ?side2 ?side3 ?side4 A10.out).mono ?_); (case side1 => exact Kd.C_below HR108_3.out (by repeat (first | (with_reducible first | exact HB.out | apply below_alloc | apply pw_below_drewN | apply below_drew1 | refine below_set ?_ GE107.out | refine below_set ?_ GE109.out) | exact HB.out))); (case side2 => exact HC108_3.out); (case side3 => exact Kd.C_below HR108_4.out (by repeat (first | (with_reducible first | exact HB.out | apply below_alloc | apply pw_below_drewN | apply below_drew1 | refine below_set ?_ GE107.out | refine below_set ?_ GE109.out) | exact HB.out))); (case side4 => exact HC108_4.out); rintro e w15 ⟨rfl, hb⟩; refine ⟨_, rfl, ?_⟩; have n0_ := Aside0.mk (blk_below (g := gb107) (o := .cells #[.int .i64 a0_0, .string a0_1, .string a0_2, .slice A0_3 l0_3.length c0_3, .slice (some ad108) l0_4.length c0_4] 25 (0, 0)) (by (with_reducible repeat (first | refine blk_drewN ?_ _ | refine blk_drew ?_ | refine blk_alloc ?_ _)); refine blk_far ?_ NB107_109.out _; (with_reducible repeat (first | refine blk_drewN ?_ _ | refine blk_drew ?_ | refine blk_alloc ?_ _)); refine blk_far ?_ NB107_109.out _; (with_reducible repeat (first | refine blk_drewN ?_ _ | refine blk_drew ?_ | refine blk_alloc ?_ _)); refine blk_far ?_ NB107_109.out _; (with_reducible repeat (first | refine blk_drewN ?_ _ | refine blk_drew ?_ | refine blk_alloc ?_ _)); refine blk_far ?_ NB107_109.out _; (with_reducible repeat (first | refine blk_drewN ?_ _ | refine blk_drew ?_ | refine blk_alloc ?_ _)); refine blk_far ?_ NB107_109.out _; (with_reducible repeat (first | refine blk_drewN ?_ _ | refine blk_drew ?_ | refine blk_alloc ?_ _)); exact BK107.out) hb); have n1_ := Aside0.mk (blk_below (g := gb109) (o := .cells #[.int .i64 ((rd_T25 l0_4 x13_1).f0), .string ((rd_T25 l0_4 x13_1).f1), .string ((rd_T25 l0_4 x13_1).f2), .slice A108_3 ((rd_T25 l0_4 x13_1).f3).length c108_3, .slice A108_4 ((rd_T25 l0_4 x13_1).f4).length c108_4] 25 (0, 0)) (by (with_reducible repeat (first | refine blk_drewN ?_ _ | refine blk_drew ?_ | refine blk_alloc ?_ _)); refine blk_put (cs := #[.int .i64 ((rd_T25 l0_4 x13_1).f0), .string ((rd_T25 l0_4 x13_1).f1), .string ((rd_T25 l0_4 x13_1).f2), .slice A108_3 ((rd_T25 l0_4 x13_1).f3).length c108_3, .slice none 0 0]) ?_ 4 _ rfl; (with_reducible repeat (first | refine blk_drewN ?_ _ | refine blk_drew ?_ | refine blk_alloc ?_ _)); refine blk_put (cs := #[.int .i64 ((rd_T25 l0_4 x13_1).f0), .string ((rd_T25 l0_4 x13_1).f1), .string ((rd_T25 l0_4 x13_1).f2), .slice none 0 0, .slice none 0 0]) ?_ 3 _ rfl; (with_reducible repeat (first | refine blk_drewN ?_ _ | refine blk_drew ?_ | refine blk_alloc ?_ _)); refine blk_put (cs := #[.int .i64 ((rd_T25 l0_4 x13_1).f0), .string ((rd_T25 l0_4 x13_1).f1), .string (⟨#[]⟩ : ByteArray), .slice none 0 0, .slice none 0 0]) ?_ 2 _ rfl; (with_reducible repeat (first | refine blk_drewN ?_ _ | refine blk_drew ?_ | refine blk_alloc ?_ _)); refine blk_put (cs := #[.int .i64 ((rd_T25 l0_4 x13_1).f0), .string (⟨#[]⟩ : ByteArray), .string (⟨#[]⟩ : ByteArray), .slice none 0 0, .slice none 0 0]) ?_ 1 _ rfl; (with_reducible repeat (first | refine blk_drewN ?_ _ | refine blk_drew ?_ | refine blk_alloc ?_ _)); refine blk_put (cs := #[.int .i64 0, .string (⟨#[]⟩ : ByteArray), .string (⟨#[]⟩ : ByteArray), .slice none 0 0, .slice none 0 0]) ?_ 0 _ rfl; (with_reducible repeat (first | refine blk_drewN ?_ _ | refine blk_drew ?_ | refine blk_alloc ?_ _)); exact BK109.out) hb); have n2_ := Aside0.mk (below_step (by repeat (first | (with_reducible first | exact HB.out | apply below_alloc | apply pw_below_drewN | apply below_drew1 | refine below_set ?_ GE107.out | refine below_set ?_ GE109.out) | exact HB.out)) hb); clear BK107; clear BK109; clear HB; have BK107 := n0_; have BK109 := n1_; have HB := n2_; clear n0_ n1_ n2_; (try clear hb); (try clear hb2); (try clear hk); (try clear hi)))
                go_ret
                exact ⟨by first | rfl | (simp [errW_none, errW_some] <;> rfl) | (simp [*, errW_none, errW_some] <;> rfl), by repeat (first | (with_reducible first | exact HB.out | apply below_alloc | apply pw_below_drewN | apply below_drew1 | refine below_set ?_ GE107.out | refine below_set ?_ GE109.out) | exact HB.out)⟩
              · rw [if_neg c11] at H
                have c11b0 : decide (300 < (wrap64 (x5_1 + t110))) = false := decide_eq_false c11
                clear c11
                have H' := Aside0.mk H
                clear H
                have p108 : 0 ≤ (x13_1 : Int) := of_decide_eq_true (by first | (with_reducible assumption) | assumption)
                have q108 : x13_1 < (l0_4.length : Int) := of_decide_eq_true (by first | (with_reducible assumption) | assumption)
                obtain ⟨ad108, A108_3, c108_3, A108_4, c108_4, e108, hx108_0, hx108_1, hx108_2, hx108_3, hx108_4, hl108_3, hi108_3, hl108_4, hi108_4⟩ := at_T25 HR0_4.out x13_1 p108 q108
                cases e108
                replace hx108_0 := (HB.out.cell (World.block_lt_of_cell? w _ hx108_0)).trans hx108_0
                replace hx108_1 := (HB.out.cell (World.block_lt_of_cell? w _ hx108_1)).trans hx108_1
                replace hx108_2 := (HB.out.cell (World.block_lt_of_cell? w _ hx108_2)).trans hx108_2
                replace hx108_3 := (HB.out.cell (World.block_lt_of_cell? w _ hx108_3)).trans hx108_3
                replace hx108_4 := (HB.out.cell (World.block_lt_of_cell? w _ hx108_4)).trans hx108_4
                have HR108_3 := Aside0.mk hi108_3
                have HC108_3 := Aside0.mk hl108_3
                clear hi108_3 hl108_3
                have HR108_4 := Aside0.mk hi108_4
                have HC108_4 := Aside0.mk hl108_4
                clear hi108_4 hl108_4
                replace p108 := eq_true p108
                replace q108 := eq_true q108
                go_wp2_with (first | ((with_reducible refine gate_dst (N := 7) rfl ?_); refine box_event ?hg (N := 7) ?hd (cs := #[.int .i64 0, .string (⟨#[]⟩ : ByteArray), .string (⟨#[]⟩ : ByteArray), .slice none 0 0, .slice none 0 0]) (t := 25) ?hr ?_; (case hd => rfl); (case hg => rfl); (case hr => first | (go_simp; done) | (go_simp; rfl)); intro gb109 hg w16 hbox hb; have n0_ := Aside0.mk (blk_below (g := gb107) (o := .cells #[.int .i64 a0_0, .string a0_1, .string a0_2, .slice A0_3 l0_3.length c0_3, .slice (some ad108) l0_4.length c0_4] 25 (0, 0)) (by (with_reducible repeat (first | refine blk_drewN ?_ _ | refine blk_drew ?_ | refine blk_alloc ?_ _)); exact BK107.out) hb); have n1_ := Aside0.mk (below_step (by repeat (first | (with_reducible first | exact HB.out | apply below_alloc | apply pw_below_drewN | apply below_drew1 | refine below_set ?_ GE107.out) | exact HB.out)) hb); have n2_ := Aside0.mk (hbox); have n3_ := Aside0.mk ((by rw [hg]; exact (below_size (by repeat (first | (with_reducible first | exact HB.out | apply below_alloc | apply pw_below_drewN | apply below_drew1 | refine below_set ?_ GE107.out) | exact HB.out))) : w.heap.size ≤ gb109)); have n4_ := Aside0.mk ((by rw [hg]; exact (below_size (by repeat (first | (with_reducible first | exact HB.out | apply below_alloc | apply pw_below_drewN | apply below_drew1 | refine below_set ?_ GE107.out) | exact HB.out))) : w.heap.size ≤ gb109)); have n5_ := Aside0.mk ((by rw [hg]; exact Nat.ne_of_lt (blk_lt (g := gb107) (o := .cells #[.int .i64 a0_0, .string a0_1, .string a0_2, .slice A0_3 l0_3.length c0_3, .slice (some ad108) l0_4.length c0_4] 25 (0, 0)) (by (with_reducible repeat (first | refine blk_drewN ?_ _ | refine blk_drew ?_ | refine blk_alloc ?_ _)); exact BK107.out)) : gb107 ≠ gb109)); have n6_ := Aside0.mk ((by rw [hg]; exact Nat.ne_of_gt (blk_lt (g := gb107) (o := .cells #[.int .i64 a0_0, .string a0_1, .string a0_2, .slice A0_3 l0_3.length c0_3, .slice (some ad108) l0_4.length c0_4] 25 (0, 0)) (by (with_reducible repeat (first | refine blk_drewN ?_ _ | refine blk_drew ?_ | refine blk_alloc ?_ _)); exact BK107.out)) : gb109 ≠ gb107)); clear BK107; clear HB; have BK107 := n0_; have HB := n1_; have BK109 := n2_; have GW109 := n3_; have GE109 := n4_; have NB107_109 := n5_; have NB109_107 := n6_; clear n0_ n1_ n2_ n3_ n4_ n5_ n6_; clear hb hbox hg; have hnb17 := NB109_107.out; have hnc17 := NB107_109.out; have hcz18_0 : w16.cell? ⟨gb109, 0, none⟩ = some (.int .i64 0) := (blk_cell BK109.out 0).trans rfl; have hcz18_1 : w16.cell? ⟨gb109, 1, none⟩ = some (.string (⟨#[]⟩ : ByteArray)) := (blk_cell BK109.out 1).trans rfl; have hcz18_2 : w16.cell? ⟨gb109, 2, none⟩ = some (.string (⟨#[]⟩ : ByteArray)) := (blk_cell BK109.out 2).trans rfl; have hcz18_3 : w16.cell? ⟨gb109, 3, none⟩ = some (.slice none 0 0) := (blk_cell BK109.out 3).trans rfl; have hcz18_4 : w16.cell? ⟨gb109, 4, none⟩ = some (.slice none 0 0) := (blk_cell BK109.out 4).trans rfl; have hfz18_0 := blk_frozen BK109.out 0; have hfz18_1 := blk_frozen BK109.out 1; have hfz18_2 := blk_frozen BK109.out 2; have hfz18_3 := blk_frozen BK109.out 3; have hfz18_4 := blk_frozen BK109.out 4) | ((with_reducible refine gate_callee (f := 15) rfl ?_); refine goesL_ (some 21) rfl rfl Tryd.func15 (by kernel_rfl) rfl #[.agg #[.int .i64 ((rd_T25 l0_4 x13_1).f0), .string ((rd_T25 l0_4 x13_1).f1), .string ((rd_T25 l0_4 x13_1).f2), .slice A108_3 ((rd_T25 l0_4 x13_1).f3).length c108_3, .slice A108_4 ((rd_T25 l0_4 x13_1).f4).length c108_4], .int .i64 (wrap64 (a1 + 1))] rfl (by (try simp only [List.map_toArray, List.map_cons, List.map_nil]); first | done | rfl | (simp only [List.length_drop, List.length_take]; rfl)) ?_; (with_reducible refine (ih k1 (by have := HK1.out; omega) ((rd_T25 l0_4 x13_1).f0) ((rd_T25 l0_4 x13_1).f1) ((rd_T25 l0_4 x13_1).f2) _ _ ((rd_T25 l0_4 x13_1).f3) _ _ ((rd_T25 l0_4 x13_1).f4) (wrap64 (a1 + 1)) t110 _ ?side1 ?side2 ?side3 ?side4 A10.out).mono ?_); (case side1 => exact Kd.C_below HR108_3.out (by repeat (first | (with_reducible first | exact HB.out | apply below_alloc | apply pw_below_drewN | apply below_drew1 | refine below_set ?_ GE107.out | refine below_set ?_ GE109.out) | exact HB.out))); (case side2 => exact HC108_3.out); (case side3 => exact Kd.C_below HR108_4.out (by repeat (first | (with_reducible first | exact HB.out | apply below_alloc | apply pw_below_drewN | apply below_drew1 | refine below_set ?_ GE107.out | refine below_set ?_ GE109.out) | exact HB.out))); (case side4 => exact HC108_4.out); rintro e w19 ⟨rfl, hb⟩; refine ⟨_, rfl, ?_⟩; have n0_ := Aside0.mk (blk_below (g := gb107) (o := .cells #[.int .i64 a0_0, .string a0_1, .string a0_2, .slice A0_3 l0_3.length c0_3, .slice (some ad108) l0_4.length c0_4] 25 (0, 0)) (by (with_reducible repeat (first | refine blk_drewN ?_ _ | refine blk_drew ?_ | refine blk_alloc ?_ _)); refine blk_far ?_ NB107_109.out _; (with_reducible repeat (first | refine blk_drewN ?_ _ | refine blk_drew ?_ | refine blk_alloc ?_ _)); refine blk_far ?_ NB107_109.out _; (with_reducible repeat (first | refine blk_drewN ?_ _ | refine blk_drew ?_ | refine blk_alloc ?_ _)); refine blk_far ?_ NB107_109.out _; (with_reducible repeat (first | refine blk_drewN ?_ _ | refine blk_drew ?_ | refine blk_alloc ?_ _)); refine blk_far ?_ NB107_109.out _; (with_reducible repeat (first | refine blk_drewN ?_ _ | refine blk_drew ?_ | refine blk_alloc ?_ _)); refine blk_far ?_ NB107_109.out _; (with_reducible repeat (first | refine blk_drewN ?_ _ | refine blk_drew ?_ | refine blk_alloc ?_ _)); exact BK107.out) hb); have n1_ := Aside0.mk (blk_below (g := gb109) (o := .cells #[.int .i64 ((rd_T25 l0_4 x13_1).f0), .string ((rd_T25 l0_4 x13_1).f1), .string ((rd_T25 l0_4 x13_1).f2), .slice A108_3 ((rd_T25 l0_4 x13_1).f3).length c108_3, .slice A108_4 ((rd_T25 l0_4 x13_1).f4).length c108_4] 25 (0, 0)) (by (with_reducible repeat (first | refine blk_drewN ?_ _ | refine blk_drew ?_ | refine blk_alloc ?_ _)); refine blk_put (cs := #[.int .i64 ((rd_T25 l0_4 x13_1).f0), .string ((rd_T25 l0_4 x13_1).f1), .string ((rd_T25 l0_4 x13_1).f2), .slice A108_3 ((rd_T25 l0_4 x13_1).f3).length c108_3, .slice none 0 0]) ?_ 4 _ rfl; (with_reducible repeat (first | refine blk_drewN ?_ _ | refine blk_drew ?_ | refine blk_alloc ?_ _)); refine blk_put (cs := #[.int .i64 ((rd_T25 l0_4 x13_1).f0), .string ((rd_T25 l0_4 x13_1).f1), .string ((rd_T25 l0_4 x13_1).f2), .slice none 0 0, .slice none 0 0]) ?_ 3 _ rfl; (with_reducible repeat (first | refine blk_drewN ?_ _ | refine blk_drew ?_ | refine blk_alloc ?_ _)); refine blk_put (cs := #[.int .i64 ((rd_T25 l0_4 x13_1).f0), .string ((rd_T25 l0_4 x13_1).f1), .string (⟨#[]⟩ : ByteArray), .slice none 0 0, .slice none 0 0]) ?_ 2 _ rfl; (with_reducible repeat (first | refine blk_drewN ?_ _ | refine blk_drew ?_ | refine blk_alloc ?_ _)); refine blk_put (cs := #[.int .i64 ((rd_T25 l0_4 x13_1).f0), .string (⟨#[]⟩ : ByteArray), .string (⟨#[]⟩ : ByteArray), .slice none 0 0, .slice none 0 0]) ?_ 1 _ rfl; (with_reducible repeat (first | refine blk_drewN ?_ _ | refine blk_drew ?_ | refine blk_alloc ?_ _)); refine blk_put (cs := #[.int .i64 0, .string (⟨#[]⟩ : ByteArray), .string (⟨#[]⟩ : ByteArray), .slice none 0 0, .slice none 0 0]) ?_ 0 _ rfl; (with_reducible repeat (first | refine blk_drewN ?_ _ | refine blk_drew ?_ | refine blk_alloc ?_ _)); exact BK109.out) hb); have n2_ := Aside0.mk (below_step (by repeat (first | (with_reducible first | exact HB.out | apply below_alloc | apply pw_below_drewN | apply below_drew1 | refine below_set ?_ GE107.out | refine below_set ?_ GE109.out) | exact HB.out)) hb); clear BK107; clear BK109; clear HB; have BK107 := n0_; have BK109 := n1_; have HB := n2_; clear n0_ n1_ n2_; (try clear hb); (try clear hb2); (try clear hk); (try clear hi)))
                go_roundg k1
                case measure => have := HK1.out; omega
                case rel => exact ⟨(wrap64 (x5_1 + t110)), (wrap64 (x13_1 + 1)), (by first | rfl | (simp; done) | (simp [*]; done)), (by first | rfl | (simp; done) | (simp [*]; done)), H', ⟨by have := HK1.out; omega⟩, ⟨by (with_reducible repeat (first | refine blk_drewN ?_ _ | refine blk_drew ?_ | refine blk_alloc ?_ _)); exact BK107.out⟩, ⟨by repeat (first | (with_reducible first | exact HB.out | apply below_alloc | apply pw_below_drewN | apply below_drew1 | refine below_set ?_ GE107.out | refine below_set ?_ GE109.out) | exact HB.out)⟩⟩
            · rw [if_neg c9] at H
              exact absurd H (by simp)
          · rw [if_neg c8] at H
            exact absurd H (by simp)
        · rw [if_neg c7] at H
          have c7b0 : decide (x13_1 < (l0_4.length : Int)) = false := decide_eq_false c7
          clear c7
          obtain rfl := Option.some.inj H
          go_wp2
          go_ret
          exact ⟨by first | rfl | (simp [errW_none, errW_some] <;> rfl) | (simp [*, errW_none, errW_some] <;> rfl), by repeat (first | (with_reducible first | exact HB.out | apply below_alloc | apply pw_below_drewN | apply below_drew1 | refine below_set ?_ GE107.out) | exact HB.out)⟩
/-! ### laws_name29: function 26 -/
def laws_name29.l0 : Nat → ByteArray → Int → Int → Option (Bool)
  | 0, _, _, _ => none
  | k + 1, x0, x5, x6 => if x6 < x5 then (if 0 ≤ x6 then (if x6 < (x0.size : Int) then (if (bt x0 x6) < 97 then (if x6 = 0 then (some false) else (if (bt x0 x6) < 48 then (some false) else (if (bt x0 x6) > 57 then (some false) else (laws_name29.l0 k x0 x5 (wrap64 (x6 + 1)))))) else (if (bt x0 x6) > 122 then (if x6 = 0 then (some false) else (if (bt x0 x6) < 48 then (some false) else (if (bt x0 x6) > 57 then (some false) else (laws_name29.l0 k x0 x5 (wrap64 (x6 + 1)))))) else (laws_name29.l0 k x0 x5 (wrap64 (x6 + 1))))) else (none)) else (none)) else (some (x0.toList != ([] : List UInt8)))
def laws_name29.f (k : Nat) (a0 : ByteArray) : Option (Bool) := laws_name29.l0 k a0 (a0.size : Int) 0
theorem laws_name29.mono_l : ∀ k, (∀ y0 y1 y2, LeO (laws_name29.l0 k y0 y1 y2) (laws_name29.l0 (k + 1) y0 y1 y2))
  | 0 => fun _ _ _ r h => by simp [laws_name29.l0] at h
  | k + 1 => by
    have ih0 := laws_name29.mono_l k
    · intro y0 y1 y2
      unfold laws_name29.l0
      repeat' first
      | (with_reducible exact ih0 _ _ _)
      | (with_reducible exact LeO.refl _)
      | (with_reducible exact LeO.none _)
      | (with_reducible refine LeO.ite ?_ ?_)
      | (with_reducible refine LeO.bind ?_ (fun _ => ?_))
      | exact ih0 _ _ _
      | exact LeO.none _
      | refine LeO.ite ?_ ?_
      | refine LeO.bind ?_ (fun _ => ?_)
theorem laws_name29.mono : ∀ a0 k, LeO (laws_name29.f k a0) (laws_name29.f (k + 1) a0) := by
  intro a0 k
  have ih0 := laws_name29.mono_l k
  unfold laws_name29.f
  repeat' first
      | (with_reducible exact ih0 _ _ _)
      | (with_reducible exact LeO.refl _)
      | (with_reducible exact LeO.none _)
      | (with_reducible refine LeO.ite ?_ ?_)
      | (with_reducible refine LeO.bind ?_ (fun _ => ?_))
      | exact ih0 _ _ _
      | exact LeO.none _
      | refine LeO.ite ?_ ?_
      | refine LeO.bind ?_ (fun _ => ?_)
set_option maxHeartbeats 8000000 in
set_option maxRecDepth 100000 in
theorem laws_name29.calls (k : Nat) (a0 : ByteArray) (r : Bool) (w : World) (h : laws_name29.f k a0 = some r) :
    Calls Tryd.prog 26 #[.string a0] w fun e w' => e = .returned (.bool r) ∧ Drawn0 w w' := by
  have H : (laws_name29.l0 k a0 (a0.size : Int) 0) = some r := h
  clear h
  have H' := Aside0.mk H
  clear H
  go_enter Tryd.func26, Tryd.ntmps26
  go_wp2
  go_loopg [6] k (fun kq v6 w' => ∃ (x6_1 : Int), v6 = .int .i64 x6_1 ∧ Aside0 (laws_name29.l0 kq a0 (a0.size : Int) x6_1 = some r) ∧ Aside0 (kq ≤ k) ∧ Drawn0 w w')
  case atStart => exact ⟨(0), (by first | rfl | (simp; done) | (simp [*]; done)), H', ⟨Nat.le_refl _⟩, by repeat (first | exact Drawn0.refl _ | apply Drawn0.step)⟩
  case round =>
    clear H'
    obtain ⟨x6_1, rfl, HA, HK1, ⟨m1, rfl⟩⟩ := hrel
    cases gk with
    | zero => exact absurd HA.out (by simp [laws_name29.l0])
    | succ k1 =>
      have H := HA.out
      clear HA
      simp only [laws_name29.l0] at H
      by_cases c2 : x6_1 < (a0.size : Int)
      · rw [if_pos c2] at H
        have c2b0 : decide (x6_1 < (a0.size : Int)) = true := decide_eq_true c2
        clear c2
        by_cases c3 : 0 ≤ x6_1
        · rw [if_pos c3] at H
          have c3b0 : decide (0 ≤ x6_1) = true := decide_eq_true c3
          clear c3
          by_cases c4 : x6_1 < (a0.size : Int)
          · rw [if_pos c4] at H
            have c4b0 : decide (x6_1 < (a0.size : Int)) = true := decide_eq_true c4
            clear c4
            by_cases c6 : (bt a0 x6_1) < 97
            · rw [if_pos c6] at H
              have c6b0 : decide ((bt a0 x6_1) < 97) = true := decide_eq_true c6
              clear c6
              by_cases c7 : x6_1 = 0
              · rw [if_pos c7] at H
                have c7b0 : (x6_1 == 0) = true := beq_iff_eq.mpr c7
                have c7b1 : (x6_1 != 0) = false := bne_eq_false_iff_eq.mpr c7
                clear c7
                obtain rfl := Option.some.inj H
                have p5 : 0 ≤ (x6_1 : Int) := of_decide_eq_true (by first | (with_reducible assumption) | assumption)
                have q5 : x6_1 < (a0.size : Int) := of_decide_eq_true (by first | (with_reducible assumption) | assumption)
                have hx5 := bt_at a0 x6_1
                replace p5 := eq_true p5
                replace q5 := eq_true q5
                go_wp2
                go_ret
                exact ⟨by first | rfl | (simp; done) | (simp [*]; done), by repeat (first | exact Drawn0.refl _ | apply Drawn0.step)⟩
              · rw [if_neg c7] at H
                have c7b0 : (x6_1 == 0) = false := beq_eq_false_iff_ne.mpr c7
                have c7b1 : (x6_1 != 0) = true := bne_iff_ne.mpr c7
                by_cases c9 : (bt a0 x6_1) < 48
                · rw [if_pos c9] at H
                  have c9b0 : decide ((bt a0 x6_1) < 48) = true := decide_eq_true c9
                  clear c9
                  obtain rfl := Option.some.inj H
                  have p5 : 0 ≤ (x6_1 : Int) := of_decide_eq_true (by first | (with_reducible assumption) | assumption)
                  have q5 : x6_1 < (a0.size : Int) := of_decide_eq_true (by first | (with_reducible assumption) | assumption)
                  have hx5 := bt_at a0 x6_1
                  replace p5 := eq_true p5
                  replace q5 := eq_true q5
                  have p8 : 0 ≤ (x6_1 : Int) := of_decide_eq_true (by first | (with_reducible assumption) | assumption)
                  have q8 : x6_1 < (a0.size : Int) := of_decide_eq_true (by first | (with_reducible assumption) | assumption)
                  have hx8 := bt_at a0 x6_1
                  replace p8 := eq_true p8
                  replace q8 := eq_true q8
                  go_wp2
                  go_ret
                  exact ⟨by first | rfl | (simp; done) | (simp [*]; done), by repeat (first | exact Drawn0.refl _ | apply Drawn0.step)⟩
                · rw [if_neg c9] at H
                  have c9b0 : decide ((bt a0 x6_1) < 48) = false := decide_eq_false c9
                  clear c9
                  by_cases c11 : (bt a0 x6_1) > 57
                  · rw [if_pos c11] at H
                    have c11b0 : decide (57 < (bt a0 x6_1)) = true := decide_eq_true c11
                    clear c11
                    obtain rfl := Option.some.inj H
                    have p5 : 0 ≤ (x6_1 : Int) := of_decide_eq_true (by first | (with_reducible assumption) | assumption)
                    have q5 : x6_1 < (a0.size : Int) := of_decide_eq_true (by first | (with_reducible assumption) | assumption)
                    have hx5 := bt_at a0 x6_1
                    replace p5 := eq_true p5
                    replace q5 := eq_true q5
                    have p8 : 0 ≤ (x6_1 : Int) := of_decide_eq_true (by first | (with_reducible assumption) | assumption)
                    have q8 : x6_1 < (a0.size : Int) := of_decide_eq_true (by first | (with_reducible assumption) | assumption)
                    have hx8 := bt_at a0 x6_1
                    replace p8 := eq_true p8
                    replace q8 := eq_true q8
                    have p10 : 0 ≤ (x6_1 : Int) := of_decide_eq_true (by first | (with_reducible assumption) | assumption)
                    have q10 : x6_1 < (a0.size : Int) := of_decide_eq_true (by first | (with_reducible assumption) | assumption)
                    have hx10 := bt_at a0 x6_1
                    replace p10 := eq_true p10
                    replace q10 := eq_true q10
                    go_wp2
                    go_ret
                    exact ⟨by first | rfl | (simp; done) | (simp [*]; done), by repeat (first | exact Drawn0.refl _ | apply Drawn0.step)⟩
                  · rw [if_neg c11] at H
                    have c11b0 : decide (57 < (bt a0 x6_1)) = false := decide_eq_false c11
                    clear c11
                    have H' := Aside0.mk H
                    clear H
                    have p5 : 0 ≤ (x6_1 : Int) := of_decide_eq_true (by first | (with_reducible assumption) | assumption)
                    have q5 : x6_1 < (a0.size : Int) := of_decide_eq_true (by first | (with_reducible assumption) | assumption)
                    have hx5 := bt_at a0 x6_1
                    replace p5 := eq_true p5
                    replace q5 := eq_true q5
                    have p8 : 0 ≤ (x6_1 : Int) := of_decide_eq_true (by first | (with_reducible assumption) | assumption)
                    have q8 : x6_1 < (a0.size : Int) := of_decide_eq_true (by first | (with_reducible assumption) | assumption)
                    have hx8 := bt_at a0 x6_1
                    replace p8 := eq_true p8
                    replace q8 := eq_true q8
                    have p10 : 0 ≤ (x6_1 : Int) := of_decide_eq_true (by first | (with_reducible assumption) | assumption)
                    have q10 : x6_1 < (a0.size : Int) := of_decide_eq_true (by first | (with_reducible assumption) | assumption)
                    have hx10 := bt_at a0 x6_1
                    replace p10 := eq_true p10
                    replace q10 := eq_true q10
                    go_wp2
                    go_roundg k1
                    case measure => have := HK1.out; omega
                    case rel => exact ⟨(wrap64 (x6_1 + 1)), (by first | rfl | (simp; done) | (simp [*]; done)), H', ⟨by have := HK1.out; omega⟩, by repeat (first | exact Drawn0.refl _ | apply Drawn0.step)⟩
            · rw [if_neg c6] at H
              have c6b0 : decide ((bt a0 x6_1) < 97) = false := decide_eq_false c6
              clear c6
              by_cases c13 : (bt a0 x6_1) > 122
              · rw [if_pos c13] at H
                have c13b0 : decide (122 < (bt a0 x6_1)) = true := decide_eq_true c13
                clear c13
                by_cases c14 : x6_1 = 0
                · rw [if_pos c14] at H
                  have c14b0 : (x6_1 == 0) = true := beq_iff_eq.mpr c14
                  have c14b1 : (x6_1 != 0) = false := bne_eq_false_iff_eq.mpr c14
                  clear c14
                  obtain rfl := Option.some.inj H
                  have p5 : 0 ≤ (x6_1 : Int) := of_decide_eq_true (by first | (with_reducible assumption) | assumption)
                  have q5 : x6_1 < (a0.size : Int) := of_decide_eq_true (by first | (with_reducible assumption) | assumption)
                  have hx5 := bt_at a0 x6_1
                  replace p5 := eq_true p5
                  replace q5 := eq_true q5
                  have p12 : 0 ≤ (x6_1 : Int) := of_decide_eq_true (by first | (with_reducible assumption) | assumption)
                  have q12 : x6_1 < (a0.size : Int) := of_decide_eq_true (by first | (with_reducible assumption) | assumption)
                  have hx12 := bt_at a0 x6_1
                  replace p12 := eq_true p12
                  replace q12 := eq_true q12
                  go_wp2
                  go_ret
                  exact ⟨by first | rfl | (simp; done) | (simp [*]; done), by repeat (first | exact Drawn0.refl _ | apply Drawn0.step)⟩
                · rw [if_neg c14] at H
                  have c14b0 : (x6_1 == 0) = false := beq_eq_false_iff_ne.mpr c14
                  have c14b1 : (x6_1 != 0) = true := bne_iff_ne.mpr c14
                  by_cases c16 : (bt a0 x6_1) < 48
                  · rw [if_pos c16] at H
                    have c16b0 : decide ((bt a0 x6_1) < 48) = true := decide_eq_true c16
                    clear c16
                    obtain rfl := Option.some.inj H
                    have p5 : 0 ≤ (x6_1 : Int) := of_decide_eq_true (by first | (with_reducible assumption) | assumption)
                    have q5 : x6_1 < (a0.size : Int) := of_decide_eq_true (by first | (with_reducible assumption) | assumption)
                    have hx5 := bt_at a0 x6_1
                    replace p5 := eq_true p5
                    replace q5 := eq_true q5
                    have p12 : 0 ≤ (x6_1 : Int) := of_decide_eq_true (by first | (with_reducible assumption) | assumption)
                    have q12 : x6_1 < (a0.size : Int) := of_decide_eq_true (by first | (with_reducible assumption) | assumption)
                    have hx12 := bt_at a0 x6_1
                    replace p12 := eq_true p12
                    replace q12 := eq_true q12
                    have p15 : 0 ≤ (x6_1 : Int) := of_decide_eq_true (by first | (with_reducible assumption) | assumption)
                    have q15 : x6_1 < (a0.size : Int) := of_decide_eq_true (by first | (with_reducible assumption) | assumption)
                    have hx15 := bt_at a0 x6_1
                    replace p15 := eq_true p15
                    replace q15 := eq_true q15
                    go_wp2
                    go_ret
                    exact ⟨by first | rfl | (simp; done) | (simp [*]; done), by repeat (first | exact Drawn0.refl _ | apply Drawn0.step)⟩
                  · rw [if_neg c16] at H
                    have c16b0 : decide ((bt a0 x6_1) < 48) = false := decide_eq_false c16
                    clear c16
                    by_cases c18 : (bt a0 x6_1) > 57
                    · rw [if_pos c18] at H
                      have c18b0 : decide (57 < (bt a0 x6_1)) = true := decide_eq_true c18
                      clear c18
                      obtain rfl := Option.some.inj H
                      have p5 : 0 ≤ (x6_1 : Int) := of_decide_eq_true (by first | (with_reducible assumption) | assumption)
                      have q5 : x6_1 < (a0.size : Int) := of_decide_eq_true (by first | (with_reducible assumption) | assumption)
                      have hx5 := bt_at a0 x6_1
                      replace p5 := eq_true p5
                      replace q5 := eq_true q5
                      have p12 : 0 ≤ (x6_1 : Int) := of_decide_eq_true (by first | (with_reducible assumption) | assumption)
                      have q12 : x6_1 < (a0.size : Int) := of_decide_eq_true (by first | (with_reducible assumption) | assumption)
                      have hx12 := bt_at a0 x6_1
                      replace p12 := eq_true p12
                      replace q12 := eq_true q12
                      have p15 : 0 ≤ (x6_1 : Int) := of_decide_eq_true (by first | (with_reducible assumption) | assumption)
                      have q15 : x6_1 < (a0.size : Int) := of_decide_eq_true (by first | (with_reducible assumption) | assumption)
                      have hx15 := bt_at a0 x6_1
                      replace p15 := eq_true p15
                      replace q15 := eq_true q15
                      have p17 : 0 ≤ (x6_1 : Int) := of_decide_eq_true (by first | (with_reducible assumption) | assumption)
                      have q17 : x6_1 < (a0.size : Int) := of_decide_eq_true (by first | (with_reducible assumption) | assumption)
                      have hx17 := bt_at a0 x6_1
                      replace p17 := eq_true p17
                      replace q17 := eq_true q17
                      go_wp2
                      go_ret
                      exact ⟨by first | rfl | (simp; done) | (simp [*]; done), by repeat (first | exact Drawn0.refl _ | apply Drawn0.step)⟩
                    · rw [if_neg c18] at H
                      have c18b0 : decide (57 < (bt a0 x6_1)) = false := decide_eq_false c18
                      clear c18
                      have H' := Aside0.mk H
                      clear H
                      have p5 : 0 ≤ (x6_1 : Int) := of_decide_eq_true (by first | (with_reducible assumption) | assumption)
                      have q5 : x6_1 < (a0.size : Int) := of_decide_eq_true (by first | (with_reducible assumption) | assumption)
                      have hx5 := bt_at a0 x6_1
                      replace p5 := eq_true p5
                      replace q5 := eq_true q5
                      have p12 : 0 ≤ (x6_1 : Int) := of_decide_eq_true (by first | (with_reducible assumption) | assumption)
                      have q12 : x6_1 < (a0.size : Int) := of_decide_eq_true (by first | (with_reducible assumption) | assumption)
                      have hx12 := bt_at a0 x6_1
                      replace p12 := eq_true p12
                      replace q12 := eq_true q12
                      have p15 : 0 ≤ (x6_1 : Int) := of_decide_eq_true (by first | (with_reducible assumption) | assumption)
                      have q15 : x6_1 < (a0.size : Int) := of_decide_eq_true (by first | (with_reducible assumption) | assumption)
                      have hx15 := bt_at a0 x6_1
                      replace p15 := eq_true p15
                      replace q15 := eq_true q15
                      have p17 : 0 ≤ (x6_1 : Int) := of_decide_eq_true (by first | (with_reducible assumption) | assumption)
                      have q17 : x6_1 < (a0.size : Int) := of_decide_eq_true (by first | (with_reducible assumption) | assumption)
                      have hx17 := bt_at a0 x6_1
                      replace p17 := eq_true p17
                      replace q17 := eq_true q17
                      go_wp2
                      go_roundg k1
                      case measure => have := HK1.out; omega
                      case rel => exact ⟨(wrap64 (x6_1 + 1)), (by first | rfl | (simp; done) | (simp [*]; done)), H', ⟨by have := HK1.out; omega⟩, by repeat (first | exact Drawn0.refl _ | apply Drawn0.step)⟩
              · rw [if_neg c13] at H
                have c13b0 : decide (122 < (bt a0 x6_1)) = false := decide_eq_false c13
                clear c13
                have H' := Aside0.mk H
                clear H
                have p5 : 0 ≤ (x6_1 : Int) := of_decide_eq_true (by first | (with_reducible assumption) | assumption)
                have q5 : x6_1 < (a0.size : Int) := of_decide_eq_true (by first | (with_reducible assumption) | assumption)
                have hx5 := bt_at a0 x6_1
                replace p5 := eq_true p5
                replace q5 := eq_true q5
                have p12 : 0 ≤ (x6_1 : Int) := of_decide_eq_true (by first | (with_reducible assumption) | assumption)
                have q12 : x6_1 < (a0.size : Int) := of_decide_eq_true (by first | (with_reducible assumption) | assumption)
                have hx12 := bt_at a0 x6_1
                replace p12 := eq_true p12
                replace q12 := eq_true q12
                go_wp2
                go_roundg k1
                case measure => have := HK1.out; omega
                case rel => exact ⟨(wrap64 (x6_1 + 1)), (by first | rfl | (simp; done) | (simp [*]; done)), H', ⟨by have := HK1.out; omega⟩, by repeat (first | exact Drawn0.refl _ | apply Drawn0.step)⟩
          · rw [if_neg c4] at H
            exact absurd H (by simp)
        · rw [if_neg c3] at H
          exact absurd H (by simp)
      · rw [if_neg c2] at H
        have c2b0 : decide (x6_1 < (a0.size : Int)) = false := decide_eq_false c2
        clear c2
        obtain rfl := Option.some.inj H
        go_wp2
        go_ret
        refine ⟨?_, by repeat (first | exact Drawn0.refl _ | apply Drawn0.step)⟩
        simp
        cases a0.toList <;> rfl
end Go.Proofs.YtibfoaahdbdogaaDoor.PDom

/- Printed by the program extprint.py of this session, out of the kit's print and contracts of this session's own; Lean checks it. -/
namespace Go.Proofs.YtibfoaahdbdogaaDoor.PDom
open Go.RowKit Go.Proofs.YtibfoaahdbdogaaDoorW.PrintWords Go.Proofs.YtibfoaahdbdogaaDoorW.PrintLast Go.Proofs.YtibfoaahdbdogaaDoorW.PrintMore
attribute [local go_sem] max2_int min2_int max_two min_two max_three min_three max_four min_four   -- for this text's walks alone
set_option linter.unusedVariables false
set_option linter.unusedSimpArgs false


/-! ### laws_right29: function 16 -/
mutual
def laws_right29.j4 : Nat → Int → ByteArray → ByteArray → List (S31) → List (S25) → Option (Bool)
  | 0, _, _, _, _, _ => none
  | k + 1, x112000, x112001, x112002, x112003, x112004 => laws_right29.l2 k x112004 (x112004.length : Int) 0
def laws_right29.l2 : Nat → List (S25) → Int → Int → Option (Bool)
  | 0, _, _, _ => none
  | k + 1, x87, x88, x89 => if x89 < x88 then (if 0 ≤ x89 then (if x89 < (x87.length : Int) then ((laws_right29.f k ((rd_T25 x87 x89).f0) ((rd_T25 x87 x89).f1) ((rd_T25 x87 x89).f2) ((rd_T25 x87 x89).f3) ((rd_T25 x87 x89).f4) false).bind fun t123 => (if t123 = true then (laws_right29.l2 k x87 x88 (wrap64 (x89 + 1))) else (some false))) else (none)) else (none)) else (some true)
def laws_right29.j0 : Nat → Bool → Int → Bool → Int → ByteArray → ByteArray → List (S31) → List (S25) → Option (Bool)
  | 0, _, _, _, _, _, _, _, _ => none
  | k + 1, x1, x12, x13, x112000, x112001, x112002, x112003, x112004 => if x13 = true then (if (x112004.length : Int) = 0 then (if x112001.toList = ([] : List UInt8) then (some ((x112003.length : Int) == 0)) else (some false)) else (some false)) else (if x12 = 3 then (if x1 = true then (if x112001.toList = ([] : List UInt8) then (if x112002.toList = ([] : List UInt8) then (if (x112003.length : Int) > 0 then (some false) else (laws_right29.j4 k x112000 x112001 x112002 x112003 x112004)) else (some false)) else (some false)) else (some false)) else (if x12 = 0 then ((laws_name29.f k x112001).bind fun t112 => (if t112 = true then (laws_right29.j1 k (x112002.toList != ([] : List UInt8)) x112000 x112001 x112002 x112003 x112004) else (laws_right29.j1 k true x112000 x112001 x112002 x112003 x112004))) else (some false)))
def laws_right29.j1 : Nat → Bool → Int → ByteArray → ByteArray → List (S31) → List (S25) → Option (Bool)
  | 0, _, _, _, _, _, _ => none
  | k + 1, x61, x112000, x112001, x112002, x112003, x112004 => if x61 = true then (some false) else (laws_right29.l0 k x112003 (x112003.length : Int) 0 x112000 x112001 x112002 x112003 x112004)
def laws_right29.l0 : Nat → List (S31) → Int → Int → Int → ByteArray → ByteArray → List (S31) → List (S25) → Option (Bool)
  | 0, _, _, _, _, _, _, _, _ => none
  | k + 1, x63, x64, x65, x112000, x112001, x112002, x112003, x112004 => if x65 < x64 then (if 0 ≤ x65 then (if x65 < (x63.length : Int) then (if x65 ≤ (x112003.length : Int) then ((some (x112003.take (x65 : Int).toNat : List (S31))).bind fun y115 => (laws_right29.l1 k x63 x64 x65 y115 (y115.length : Int) 0 x112000 x112001 x112002 x112003 x112004 ((rd_T31 x63 x65).f0) ((rd_T31 x63 x65).f1))) else (none)) else (none)) else (none)) else (laws_right29.j4 k x112000 x112001 x112002 x112003 x112004)
def laws_right29.l1 : Nat → List (S31) → Int → Int → List (S31) → Int → Int → Int → ByteArray → ByteArray → List (S31) → List (S25) → ByteArray → ByteArray → Option (Bool)
  | 0, _, _, _, _, _, _, _, _, _, _, _, _, _ => none
  | k + 1, x63, x64, x65, x73, x74, x75, x112000, x112001, x112002, x112003, x112004, x115000, x115001 => if x75 < x74 then (if 0 ≤ x75 then (if x75 < (x73.length : Int) then (if x115000.toList = ((rd_T31 x73 x75).f0).toList then (some false) else (laws_right29.l1 k x63 x64 x65 x73 x74 (wrap64 (x75 + 1)) x112000 x112001 x112002 x112003 x112004 x115000 x115001)) else (none)) else (none)) else (laws_right29.l0 k x63 x64 (wrap64 (x65 + 1)) x112000 x112001 x112002 x112003 x112004)
def laws_right29.f : Nat → Int → ByteArray → ByteArray → List (S31) → List (S25) → Bool → Option (Bool)
  | 0, _, _, _, _, _, _ => none
  | k + 1, a0_0, a0_1, a0_2, l0_3, l0_4, a1 => if a0_0 = 1 then (laws_right29.j0 k a1 a0_0 (a0_0 == 1) a0_0 a0_1 a0_2 l0_3 l0_4) else (laws_right29.j0 k a1 a0_0 (a0_0 == 2) a0_0 a0_1 a0_2 l0_3 l0_4)
end
theorem laws_right29.mono_l : ∀ k, (∀ y0 y1 y2 y3 y4 y5, LeO (laws_right29.f k y0 y1 y2 y3 y4 y5) (laws_right29.f (k + 1) y0 y1 y2 y3 y4 y5)) ∧ (∀ y0 y1 y2 y3 y4, LeO (laws_right29.j4 k y0 y1 y2 y3 y4) (laws_right29.j4 (k + 1) y0 y1 y2 y3 y4)) ∧ (∀ y0 y1 y2, LeO (laws_right29.l2 k y0 y1 y2) (laws_right29.l2 (k + 1) y0 y1 y2)) ∧ (∀ y0 y1 y2 y3 y4 y5 y6 y7, LeO (laws_right29.j0 k y0 y1 y2 y3 y4 y5 y6 y7) (laws_right29.j0 (k + 1) y0 y1 y2 y3 y4 y5 y6 y7)) ∧ (∀ y0 y1 y2 y3 y4 y5, LeO (laws_right29.j1 k y0 y1 y2 y3 y4 y5) (laws_right29.j1 (k + 1) y0 y1 y2 y3 y4 y5)) ∧ (∀ y0 y1 y2 y3 y4 y5 y6 y7, LeO (laws_right29.l0 k y0 y1 y2 y3 y4 y5 y6 y7) (laws_right29.l0 (k + 1) y0 y1 y2 y3 y4 y5 y6 y7)) ∧ (∀ y0 y1 y2 y3 y4 y5 y6 y7 y8 y9 y10 y11 y12, LeO (laws_right29.l1 k y0 y1 y2 y3 y4 y5 y6 y7 y8 y9 y10 y11 y12) (laws_right29.l1 (k + 1) y0 y1 y2 y3 y4 y5 y6 y7 y8 y9 y10 y11 y12))
  | 0 => ⟨fun _ _ _ _ _ _ r h => by simp [laws_right29.f] at h, fun _ _ _ _ _ r h => by simp [laws_right29.j4] at h, fun _ _ _ r h => by simp [laws_right29.l2] at h, fun _ _ _ _ _ _ _ _ r h => by simp [laws_right29.j0] at h, fun _ _ _ _ _ _ r h => by simp [laws_right29.j1] at h, fun _ _ _ _ _ _ _ _ r h => by simp [laws_right29.l0] at h, fun _ _ _ _ _ _ _ _ _ _ _ _ _ r h => by simp [laws_right29.l1] at h⟩
  | k + 1 => by
    obtain ⟨ih0, ih1, ih2, ih3, ih4, ih5, ih6⟩ := laws_right29.mono_l k
    refine ⟨?_, ?_, ?_, ?_, ?_, ?_, ?_⟩
    · intro y0 y1 y2 y3 y4 y5
      unfold laws_right29.f
      repeat' first
      | (with_reducible exact ih0 _ _ _ _ _ _)
      | (with_reducible exact ih1 _ _ _ _ _)
      | (with_reducible exact ih2 _ _ _)
      | (with_reducible exact ih3 _ _ _ _ _ _ _ _)
      | (with_reducible exact ih4 _ _ _ _ _ _)
      | (with_reducible exact ih5 _ _ _ _ _ _ _ _)
      | (with_reducible exact ih6 _ _ _ _ _ _ _ _ _ _ _ _ _)
      | (with_reducible exact laws_name29.mono _ _)
      | (with_reducible exact LeO.refl _)
      | (with_reducible exact LeO.none _)
      | (with_reducible refine LeO.ite ?_ ?_)
      | (with_reducible refine LeO.bind ?_ (fun _ => ?_))
      | exact ih0 _ _ _ _ _ _
      | exact ih1 _ _ _ _ _
      | exact ih2 _ _ _
      | exact ih3 _ _ _ _ _ _ _ _
      | exact ih4 _ _ _ _ _ _
      | exact ih5 _ _ _ _ _ _ _ _
      | exact ih6 _ _ _ _ _ _ _ _ _ _ _ _ _
      | exact laws_name29.mono _ _
      | exact LeO.none _
      | refine LeO.ite ?_ ?_
      | refine LeO.bind ?_ (fun _ => ?_)
    · intro y0 y1 y2 y3 y4
      unfold laws_right29.j4
      repeat' first
      | (with_reducible exact ih0 _ _ _ _ _ _)
      | (with_reducible exact ih1 _ _ _ _ _)
      | (with_reducible exact ih2 _ _ _)
      | (with_reducible exact ih3 _ _ _ _ _ _ _ _)
      | (with_reducible exact ih4 _ _ _ _ _ _)
      | (with_reducible exact ih5 _ _ _ _ _ _ _ _)
      | (with_reducible exact ih6 _ _ _ _ _ _ _ _ _ _ _ _ _)
      | (with_reducible exact laws_name29.mono _ _)
      | (with_reducible exact LeO.refl _)
      | (with_reducible exact LeO.none _)
      | (with_reducible refine LeO.ite ?_ ?_)
      | (with_reducible refine LeO.bind ?_ (fun _ => ?_))
      | exact ih0 _ _ _ _ _ _
      | exact ih1 _ _ _ _ _
      | exact ih2 _ _ _
      | exact ih3 _ _ _ _ _ _ _ _
      | exact ih4 _ _ _ _ _ _
      | exact ih5 _ _ _ _ _ _ _ _
      | exact ih6 _ _ _ _ _ _ _ _ _ _ _ _ _
      | exact laws_name29.mono _ _
      | exact LeO.none _
      | refine LeO.ite ?_ ?_
      | refine LeO.bind ?_ (fun _ => ?_)
    · intro y0 y1 y2
      unfold laws_right29.l2
      repeat' first
      | (with_reducible exact ih0 _ _ _ _ _ _)
      | (with_reducible exact ih1 _ _ _ _ _)
      | (with_reducible exact ih2 _ _ _)
      | (with_reducible exact ih3 _ _ _ _ _ _ _ _)
      | (with_reducible exact ih4 _ _ _ _ _ _)
      | (with_reducible exact ih5 _ _ _ _ _ _ _ _)
      | (with_reducible exact ih6 _ _ _ _ _ _ _ _ _ _ _ _ _)
      | (with_reducible exact laws_name29.mono _ _)
      | (with_reducible exact LeO.refl _)
      | (with_reducible exact LeO.none _)
      | (with_reducible refine LeO.ite ?_ ?_)
      | (with_reducible refine LeO.bind ?_ (fun _ => ?_))
      | exact ih0 _ _ _ _ _ _
      | exact ih1 _ _ _ _ _
      | exact ih2 _ _ _
      | exact ih3 _ _ _ _ _ _ _ _
      | exact ih4 _ _ _ _ _ _
      | exact ih5 _ _ _ _ _ _ _ _
      | exact ih6 _ _ _ _ _ _ _ _ _ _ _ _ _
      | exact laws_name29.mono _ _
      | exact LeO.none _
      | refine LeO.ite ?_ ?_
      | refine LeO.bind ?_ (fun _ => ?_)
    · intro y0 y1 y2 y3 y4 y5 y6 y7
      unfold laws_right29.j0
      repeat' first
      | (with_reducible exact ih0 _ _ _ _ _ _)
      | (with_reducible exact ih1 _ _ _ _ _)
      | (with_reducible exact ih2 _ _ _)
      | (with_reducible exact ih3 _ _ _ _ _ _ _ _)
      | (with_reducible exact ih4 _ _ _ _ _ _)
      | (with_reducible exact ih5 _ _ _ _ _ _ _ _)
      | (with_reducible exact ih6 _ _ _ _ _ _ _ _ _ _ _ _ _)
      | (with_reducible exact laws_name29.mono _ _)
      | (with_reducible exact LeO.refl _)
      | (with_reducible exact LeO.none _)
      | (with_reducible refine LeO.ite ?_ ?_)
      | (with_reducible refine LeO.bind ?_ (fun _ => ?_))
      | exact ih0 _ _ _ _ _ _
      | exact ih1 _ _ _ _ _
      | exact ih2 _ _ _
      | exact ih3 _ _ _ _ _ _ _ _
      | exact ih4 _ _ _ _ _ _
      | exact ih5 _ _ _ _ _ _ _ _
      | exact ih6 _ _ _ _ _ _ _ _ _ _ _ _ _
      | exact laws_name29.mono _ _
      | exact LeO.none _
      | refine LeO.ite ?_ ?_
      | refine LeO.bind ?_ (fun _ => ?_)
    · intro y0 y1 y2 y3 y4 y5
      unfold laws_right29.j1
      repeat' first
      | (with_reducible exact ih0 _ _ _ _ _ _)
      | (with_reducible exact ih1 _ _ _ _ _)
      | (with_reducible exact ih2 _ _ _)
      | (with_reducible exact ih3 _ _ _ _ _ _ _ _)
      | (with_reducible exact ih4 _ _ _ _ _ _)
      | (with_reducible exact ih5 _ _ _ _ _ _ _ _)
      | (with_reducible exact ih6 _ _ _ _ _ _ _ _ _ _ _ _ _)
      | (with_reducible exact laws_name29.mono _ _)
      | (with_reducible exact LeO.refl _)
      | (with_reducible exact LeO.none _)
      | (with_reducible refine LeO.ite ?_ ?_)
      | (with_reducible refine LeO.bind ?_ (fun _ => ?_))
      | exact ih0 _ _ _ _ _ _
      | exact ih1 _ _ _ _ _
      | exact ih2 _ _ _
      | exact ih3 _ _ _ _ _ _ _ _
      | exact ih4 _ _ _ _ _ _
      | exact ih5 _ _ _ _ _ _ _ _
      | exact ih6 _ _ _ _ _ _ _ _ _ _ _ _ _
      | exact laws_name29.mono _ _
      | exact LeO.none _
      | refine LeO.ite ?_ ?_
      | refine LeO.bind ?_ (fun _ => ?_)
    · intro y0 y1 y2 y3 y4 y5 y6 y7
      unfold laws_right29.l0
      repeat' first
      | (with_reducible exact ih0 _ _ _ _ _ _)
      | (with_reducible exact ih1 _ _ _ _ _)
      | (with_reducible exact ih2 _ _ _)
      | (with_reducible exact ih3 _ _ _ _ _ _ _ _)
      | (with_reducible exact ih4 _ _ _ _ _ _)
      | (with_reducible exact ih5 _ _ _ _ _ _ _ _)
      | (with_reducible exact ih6 _ _ _ _ _ _ _ _ _ _ _ _ _)
      | (with_reducible exact laws_name29.mono _ _)
      | (with_reducible exact LeO.refl _)
      | (with_reducible exact LeO.none _)
      | (with_reducible refine LeO.ite ?_ ?_)
      | (with_reducible refine LeO.bind ?_ (fun _ => ?_))
      | exact ih0 _ _ _ _ _ _
      | exact ih1 _ _ _ _ _
      | exact ih2 _ _ _
      | exact ih3 _ _ _ _ _ _ _ _
      | exact ih4 _ _ _ _ _ _
      | exact ih5 _ _ _ _ _ _ _ _
      | exact ih6 _ _ _ _ _ _ _ _ _ _ _ _ _
      | exact laws_name29.mono _ _
      | exact LeO.none _
      | refine LeO.ite ?_ ?_
      | refine LeO.bind ?_ (fun _ => ?_)
    · intro y0 y1 y2 y3 y4 y5 y6 y7 y8 y9 y10 y11 y12
      unfold laws_right29.l1
      repeat' first
      | (with_reducible exact ih0 _ _ _ _ _ _)
      | (with_reducible exact ih1 _ _ _ _ _)
      | (with_reducible exact ih2 _ _ _)
      | (with_reducible exact ih3 _ _ _ _ _ _ _ _)
      | (with_reducible exact ih4 _ _ _ _ _ _)
      | (with_reducible exact ih5 _ _ _ _ _ _ _ _)
      | (with_reducible exact ih6 _ _ _ _ _ _ _ _ _ _ _ _ _)
      | (with_reducible exact laws_name29.mono _ _)
      | (with_reducible exact LeO.refl _)
      | (with_reducible exact LeO.none _)
      | (with_reducible refine LeO.ite ?_ ?_)
      | (with_reducible refine LeO.bind ?_ (fun _ => ?_))
      | exact ih0 _ _ _ _ _ _
      | exact ih1 _ _ _ _ _
      | exact ih2 _ _ _
      | exact ih3 _ _ _ _ _ _ _ _
      | exact ih4 _ _ _ _ _ _
      | exact ih5 _ _ _ _ _ _ _ _
      | exact ih6 _ _ _ _ _ _ _ _ _ _ _ _ _
      | exact laws_name29.mono _ _
      | exact LeO.none _
      | refine LeO.ite ?_ ?_
      | refine LeO.bind ?_ (fun _ => ?_)
theorem laws_right29.mono : ∀ a0 a1 a2 a3 a4 a5 k, LeO (laws_right29.f k a0 a1 a2 a3 a4 a5) (laws_right29.f (k + 1) a0 a1 a2 a3 a4 a5) := by
  intro a0 a1 a2 a3 a4 a5 k
  obtain ⟨ih0, ih1, ih2, ih3, ih4, ih5, ih6⟩ := laws_right29.mono_l k
  exact ih0 a0 a1 a2 a3 a4 a5
set_option maxHeartbeats 8000000 in
set_option maxRecDepth 100000 in
theorem laws_right29.calls (k : Nat) : ∀ (a0_0 : Int) (a0_1 : ByteArray) (a0_2 : ByteArray) (A0_3 : Option Addr) (c0_3 : Nat) (l0_3 : List (S31)) (A0_4 : Option Addr) (c0_4 : Nat) (l0_4 : List (S25)) (a1 : Bool) (r : Bool) (w : World) (hr0_3 : Kd.C k31 w A0_3 l0_3.length l0_3) (hc0_3 : l0_3.length ≤ c0_3) (hr0_4 : Kd.C k25 w A0_4 l0_4.length l0_4) (hc0_4 : l0_4.length ≤ c0_4) (h : laws_right29.f k a0_0 a0_1 a0_2 l0_3 l0_4 a1 = some r),
    Calls Tryd.prog 16 #[.agg #[.int .i64 a0_0, .string a0_1, .string a0_2, .slice A0_3 l0_3.length c0_3, .slice A0_4 l0_4.length c0_4], .bool a1] w fun e w' => e = .returned (.bool r) ∧ Below w.heap.size w w' := by
  induction k using Nat.strongRecOn with
  | _ k ih =>
  intro a0_0 a0_1 a0_2 A0_3 c0_3 l0_3 A0_4 c0_4 l0_4 a1 r w hr0_3 hc0_3 hr0_4 hc0_4 h
  cases k with
  | zero => exact absurd h (by simp [laws_right29.f])
  | succ k =>
  simp only [laws_right29.f] at h
  have hu25 := Tryd.underlying25
  have hu31 := Tryd.underlying31
  have HR0_3 := Aside0.mk hr0_3
  have HC0_3 := Aside0.mk hc0_3
  clear hr0_3 hc0_3
  have HR0_4 := Aside0.mk hr0_4
  have HC0_4 := Aside0.mk hc0_4
  clear hr0_4 hc0_4
  have HB := Aside0.mk (Below.refl w.heap.size w)
  have H : (if a0_0 = 1 then (laws_right29.j0 k a1 a0_0 (a0_0 == 1) a0_0 a0_1 a0_2 l0_3 l0_4) else (laws_right29.j0 k a1 a0_0 (a0_0 == 2) a0_0 a0_1 a0_2 l0_3 l0_4)) = some r := h
  clear h
  have HC3 := Aside0.mk H
  clear H
  go_enter Tryd.func16, Tryd.ntmps16
  go_upto_block 0 with (first | ((with_reducible refine gate_dst (N := 2) rfl ?_); (try (refine gate_guard (by rfl) ?_; dsimp only)); refine box_event ?hg (N := 2) ?hd (cs := #[.int .i64 a0_0, .string a0_1, .string a0_2, .slice A0_3 l0_3.length c0_3, .slice A0_4 l0_4.length c0_4]) (t := 25) ?hr ?_; (case hd => rfl); (case hg => rfl); (case hr => first | (go_simp; done) | (go_simp; rfl)); intro gb111 hg w4 hbox hb; have n0_ := Aside0.mk (below_step (by repeat (first | (with_reducible first | exact HB.out | apply below_alloc | apply pw_below_drewN | apply below_drew1) | exact HB.out)) hb); have n1_ := Aside0.mk (hbox); have n2_ := Aside0.mk ((by rw [hg]; exact (below_size (by repeat (first | (with_reducible first | exact HB.out | apply below_alloc | apply pw_below_drewN | apply below_drew1) | exact HB.out))) : w.heap.size ≤ gb111)); have n3_ := Aside0.mk ((by rw [hg]; exact (below_size (by repeat (first | (with_reducible first | exact HB.out | apply below_alloc | apply pw_below_drewN | apply below_drew1) | exact HB.out))) : w.heap.size ≤ gb111)); clear HB; have HB := n0_; have BK111 := n1_; have GW111 := n2_; have GE111 := n3_; clear n0_ n1_ n2_ n3_; clear hb hbox hg; have hcz5_0 : w4.cell? ⟨gb111, 0, none⟩ = some (.int .i64 a0_0) := (blk_cell BK111.out 0).trans rfl; have hcz5_1 : w4.cell? ⟨gb111, 1, none⟩ = some (.string a0_1) := (blk_cell BK111.out 1).trans rfl; have hcz5_2 : w4.cell? ⟨gb111, 2, none⟩ = some (.string a0_2) := (blk_cell BK111.out 2).trans rfl; have hcz5_3 : w4.cell? ⟨gb111, 3, none⟩ = some (.slice A0_3 l0_3.length c0_3) := (blk_cell BK111.out 3).trans rfl; have hcz5_4 : w4.cell? ⟨gb111, 4, none⟩ = some (.slice A0_4 l0_4.length c0_4) := (blk_cell BK111.out 4).trans rfl; have hfz5_0 := blk_frozen BK111.out 0; have hfz5_1 := blk_frozen BK111.out 1; have hfz5_2 := blk_frozen BK111.out 2; have hfz5_3 := blk_frozen BK111.out 3; have hfz5_4 := blk_frozen BK111.out 4))
  (try simp only [Act.put, List.setIfInBounds_toArray, List.set_cons_zero, List.set_cons_succ])
  go_cut [] (fun wc => ∃ (kq : Nat), Aside0 (laws_right29.j4 kq a0_0 a0_1 a0_2 l0_3 l0_4 = some r) ∧ Aside0 (kq ≤ k) ∧ Aside0 (wc.heap[gb111]? = some (.cells #[.int .i64 a0_0, .string a0_1, .string a0_2, (.slice A0_3 l0_3.length c0_3), (.slice A0_4 l0_4.length c0_4)] 25 (0, 0))) ∧ Aside0 (Below w.heap.size w wc))
  case first =>
    have H := HC3.out
    clear HC3
    have HC6 := Aside0.mk H
    clear H
    go_upto_if 13 with (fail)
    go_cut [13] (fun v13 wc => ∃ (kq : Nat) (x13_5 : Bool), v13 = .bool x13_5 ∧ Aside0 (laws_right29.j0 kq a1 a0_0 x13_5 a0_0 a0_1 a0_2 l0_3 l0_4 = some r) ∧ Aside0 (kq ≤ k) ∧ Aside0 (wc.heap[gb111]? = some (.cells #[.int .i64 a0_0, .string a0_1, .string a0_2, (.slice A0_3 l0_3.length c0_3), (.slice A0_4 l0_4.length c0_4)] 25 (0, 0))) ∧ Aside0 (Below w.heap.size w wc))
    case first =>
      have H := HC6.out
      clear HC6
      by_cases c7 : a0_0 = 1
      · rw [if_pos c7] at H
        have c7b0 : (a0_0 == 1) = true := beq_iff_eq.mpr c7
        have c7b1 : (a0_0 != 1) = false := bne_eq_false_iff_eq.mpr c7
        clear c7
        (first | rw [c7b0] | (simp only [i64_w, i32_w]; rw [c7b0]) | skip)
        have H' := Aside0.mk H
        clear H
        go_wp2
        go_meet
        case rel => exact ⟨_, ((a0_0 == 1)), (by first | rfl | (simp; done) | (simp [*]; done)), H', ⟨by first | omega | exact Nat.le_refl _⟩, ⟨by (with_reducible repeat (first | refine blk_drewN ?_ _ | refine blk_drew ?_ | refine blk_alloc ?_ _)); exact BK111.out⟩, ⟨by repeat (first | (with_reducible first | exact HB.out | apply below_alloc | apply pw_below_drewN | apply below_drew1 | refine below_set ?_ GE111.out) | exact HB.out)⟩⟩
      · rw [if_neg c7] at H
        have c7b0 : (a0_0 == 1) = false := beq_eq_false_iff_ne.mpr c7
        have c7b1 : (a0_0 != 1) = true := bne_iff_ne.mpr c7
        (first | rw [c7b0] | (simp only [i64_w, i32_w]; rw [c7b0]) | skip)
        have H' := Aside0.mk H
        clear H
        go_wp2
        go_meet
        case rel => exact ⟨_, ((a0_0 == 2)), (by first | rfl | (simp; done) | (simp [*]; done)), H', ⟨by first | omega | exact Nat.le_refl _⟩, ⟨by (with_reducible repeat (first | refine blk_drewN ?_ _ | refine blk_drew ?_ | refine blk_alloc ?_ _)); exact BK111.out⟩, ⟨by repeat (first | (with_reducible first | exact HB.out | apply below_alloc | apply pw_below_drewN | apply below_drew1 | refine below_set ?_ GE111.out) | exact HB.out)⟩⟩
    case rest =>
      clear HC6
      try clear c1
      try clear p2
      try clear c7
      try clear c7b0
      try clear c7b1
      try clear hcz5_0
      try clear hcz5_1
      try clear hcz5_2
      try clear hcz5_3
      try clear hcz5_4
      try clear hfz5_0
      try clear hfz5_1
      try clear hfz5_2
      try clear hfz5_3
      try clear hfz5_4
      obtain ⟨kq, x13_5, rfl, HA, HJ5, BK111, HB⟩ := hcut
      cases kq with
      | zero => exact absurd HA.out (by simp [laws_right29.j0])
      | succ kj5 =>
        have H := HA.out
        clear HA
        simp only [laws_right29.j0] at H
        by_cases c8 : x13_5 = true
        · subst c8
          have H1 : (if (l0_4.length : Int) = 0 then (if a0_1.toList = ([] : List UInt8) then (some ((l0_3.length : Int) == 0)) else (some false)) else (some false)) = some r := by rw [if_pos rfl] at H; exact H
          clear H
          have H := H1
          clear H1
          by_cases c9 : (l0_4.length : Int) = 0
          · rw [if_pos c9] at H
            have c9b0 : ((l0_4.length : Int) == 0) = true := beq_iff_eq.mpr c9
            have c9b1 : ((l0_4.length : Int) != 0) = false := bne_eq_false_iff_eq.mpr c9
            clear c9
            by_cases c10 : a0_1.toList = ([] : List UInt8)
            · rw [if_pos c10] at H
              have c10b0 : (a0_1.toList == ([] : List UInt8)) = true := beq_iff_eq.mpr c10
              have c10b1 : (a0_1.toList != ([] : List UInt8)) = false := bne_eq_false_iff_eq.mpr c10
              clear c10
              obtain rfl := Option.some.inj H
              have hcz11_0 : wc.cell? ⟨gb111, 0, none⟩ = some (.int .i64 a0_0) := (blk_cell BK111.out 0).trans rfl
              have hcz11_1 : wc.cell? ⟨gb111, 1, none⟩ = some (.string a0_1) := (blk_cell BK111.out 1).trans rfl
              have hcz11_2 : wc.cell? ⟨gb111, 2, none⟩ = some (.string a0_2) := (blk_cell BK111.out 2).trans rfl
              have hcz11_3 : wc.cell? ⟨gb111, 3, none⟩ = some (.slice A0_3 l0_3.length c0_3) := (blk_cell BK111.out 3).trans rfl
              have hcz11_4 : wc.cell? ⟨gb111, 4, none⟩ = some (.slice A0_4 l0_4.length c0_4) := (blk_cell BK111.out 4).trans rfl
              have hfz11_0 := blk_frozen BK111.out 0
              have hfz11_1 := blk_frozen BK111.out 1
              have hfz11_2 := blk_frozen BK111.out 2
              have hfz11_3 := blk_frozen BK111.out 3
              have hfz11_4 := blk_frozen BK111.out 4
              go_wp2
              go_ret
              exact ⟨by first | rfl | (simp [errW_none, errW_some] <;> rfl) | (simp [*, errW_none, errW_some] <;> rfl), by repeat (first | (with_reducible first | exact HB.out | apply below_alloc | apply pw_below_drewN | apply below_drew1 | refine below_set ?_ GE111.out) | exact HB.out)⟩
            · rw [if_neg c10] at H
              have c10b0 : (a0_1.toList == ([] : List UInt8)) = false := beq_eq_false_iff_ne.mpr c10
              have c10b1 : (a0_1.toList != ([] : List UInt8)) = true := bne_iff_ne.mpr c10
              obtain rfl := Option.some.inj H
              have hcz12_0 : wc.cell? ⟨gb111, 0, none⟩ = some (.int .i64 a0_0) := (blk_cell BK111.out 0).trans rfl
              have hcz12_1 : wc.cell? ⟨gb111, 1, none⟩ = some (.string a0_1) := (blk_cell BK111.out 1).trans rfl
              have hcz12_2 : wc.cell? ⟨gb111, 2, none⟩ = some (.string a0_2) := (blk_cell BK111.out 2).trans rfl
              have hcz12_3 : wc.cell? ⟨gb111, 3, none⟩ = some (.slice A0_3 l0_3.length c0_3) := (blk_cell BK111.out 3).trans rfl
              have hcz12_4 : wc.cell? ⟨gb111, 4, none⟩ = some (.slice A0_4 l0_4.length c0_4) := (blk_cell BK111.out 4).trans rfl
              have hfz12_0 := blk_frozen BK111.out 0
              have hfz12_1 := blk_frozen BK111.out 1
              have hfz12_2 := blk_frozen BK111.out 2
              have hfz12_3 := blk_frozen BK111.out 3
              have hfz12_4 := blk_frozen BK111.out 4
              go_wp2
              go_ret
              exact ⟨by first | rfl | (simp [errW_none, errW_some] <;> rfl) | (simp [*, errW_none, errW_some] <;> rfl), by repeat (first | (with_reducible first | exact HB.out | apply below_alloc | apply pw_below_drewN | apply below_drew1 | refine below_set ?_ GE111.out) | exact HB.out)⟩
          · rw [if_neg c9] at H
            have c9b0 : ((l0_4.length : Int) == 0) = false := beq_eq_false_iff_ne.mpr c9
            have c9b1 : ((l0_4.length : Int) != 0) = true := bne_iff_ne.mpr c9
            have c9b2 : ¬ (l0_4 = []) := fun h_ => c9 (by rw [h_]; rfl)
            obtain rfl := Option.some.inj H
            have hcz13_0 : wc.cell? ⟨gb111, 0, none⟩ = some (.int .i64 a0_0) := (blk_cell BK111.out 0).trans rfl
            have hcz13_1 : wc.cell? ⟨gb111, 1, none⟩ = some (.string a0_1) := (blk_cell BK111.out 1).trans rfl
            have hcz13_2 : wc.cell? ⟨gb111, 2, none⟩ = some (.string a0_2) := (blk_cell BK111.out 2).trans rfl
            have hcz13_3 : wc.cell? ⟨gb111, 3, none⟩ = some (.slice A0_3 l0_3.length c0_3) := (blk_cell BK111.out 3).trans rfl
            have hcz13_4 : wc.cell? ⟨gb111, 4, none⟩ = some (.slice A0_4 l0_4.length c0_4) := (blk_cell BK111.out 4).trans rfl
            have hfz13_0 := blk_frozen BK111.out 0
            have hfz13_1 := blk_frozen BK111.out 1
            have hfz13_2 := blk_frozen BK111.out 2
            have hfz13_3 := blk_frozen BK111.out 3
            have hfz13_4 := blk_frozen BK111.out 4
            go_wp2
            go_ret
            exact ⟨by first | rfl | (simp [errW_none, errW_some] <;> rfl) | (simp [*, errW_none, errW_some] <;> rfl), by repeat (first | (with_reducible first | exact HB.out | apply below_alloc | apply pw_below_drewN | apply below_drew1 | refine below_set ?_ GE111.out) | exact HB.out)⟩
        · replace c8 := Bool.eq_false_iff.mpr c8
          subst c8
          have H1 : (if a0_0 = 3 then (if a1 = true then (if a0_1.toList = ([] : List UInt8) then (if a0_2.toList = ([] : List UInt8) then (if (l0_3.length : Int) > 0 then (some false) else (laws_right29.j4 kj5 a0_0 a0_1 a0_2 l0_3 l0_4)) else (some false)) else (some false)) else (some false)) else (if a0_0 = 0 then ((laws_name29.f kj5 a0_1).bind fun t112 => (if t112 = true then (laws_right29.j1 kj5 (a0_2.toList != ([] : List UInt8)) a0_0 a0_1 a0_2 l0_3 l0_4) else (laws_right29.j1 kj5 true a0_0 a0_1 a0_2 l0_3 l0_4))) else (some false))) = some r := by rw [if_neg (show ¬ (false = true) by decide)] at H; exact H
          clear H
          have H := H1
          clear H1
          by_cases c14 : a0_0 = 3
          · rw [if_pos c14] at H
            have c14b0 : (a0_0 == 3) = true := beq_iff_eq.mpr c14
            have c14b1 : (a0_0 != 3) = false := bne_eq_false_iff_eq.mpr c14
            clear c14
            by_cases c15 : a1 = true
            · subst c15
              have H1 : (if a0_1.toList = ([] : List UInt8) then (if a0_2.toList = ([] : List UInt8) then (if (l0_3.length : Int) > 0 then (some false) else (laws_right29.j4 kj5 a0_0 a0_1 a0_2 l0_3 l0_4)) else (some false)) else (some false)) = some r := by rw [if_pos rfl] at H; exact H
              clear H
              have H := H1
              clear H1
              by_cases c16 : a0_1.toList = ([] : List UInt8)
              · rw [if_pos c16] at H
                have c16b0 : (a0_1.toList == ([] : List UInt8)) = true := beq_iff_eq.mpr c16
                have c16b1 : (a0_1.toList != ([] : List UInt8)) = false := bne_eq_false_iff_eq.mpr c16
                clear c16
                by_cases c17 : a0_2.toList = ([] : List UInt8)
                · rw [if_pos c17] at H
                  have c17b0 : (a0_2.toList == ([] : List UInt8)) = true := beq_iff_eq.mpr c17
                  have c17b1 : (a0_2.toList != ([] : List UInt8)) = false := bne_eq_false_iff_eq.mpr c17
                  clear c17
                  by_cases c18 : (l0_3.length : Int) > 0
                  · rw [if_pos c18] at H
                    have c18b0 : decide (0 < (l0_3.length : Int)) = true := decide_eq_true c18
                    have c18b1 : decide (0 < l0_3.length) = true := decide_eq_true (by omega)
                    clear c18
                    obtain rfl := Option.some.inj H
                    have hcz19_0 : wc.cell? ⟨gb111, 0, none⟩ = some (.int .i64 a0_0) := (blk_cell BK111.out 0).trans rfl
                    have hcz19_1 : wc.cell? ⟨gb111, 1, none⟩ = some (.string a0_1) := (blk_cell BK111.out 1).trans rfl
                    have hcz19_2 : wc.cell? ⟨gb111, 2, none⟩ = some (.string a0_2) := (blk_cell BK111.out 2).trans rfl
                    have hcz19_3 : wc.cell? ⟨gb111, 3, none⟩ = some (.slice A0_3 l0_3.length c0_3) := (blk_cell BK111.out 3).trans rfl
                    have hcz19_4 : wc.cell? ⟨gb111, 4, none⟩ = some (.slice A0_4 l0_4.length c0_4) := (blk_cell BK111.out 4).trans rfl
                    have hfz19_0 := blk_frozen BK111.out 0
                    have hfz19_1 := blk_frozen BK111.out 1
                    have hfz19_2 := blk_frozen BK111.out 2
                    have hfz19_3 := blk_frozen BK111.out 3
                    have hfz19_4 := blk_frozen BK111.out 4
                    go_wp2
                    go_ret
                    exact ⟨by first | rfl | (simp [errW_none, errW_some] <;> rfl) | (simp [*, errW_none, errW_some] <;> rfl), by repeat (first | (with_reducible first | exact HB.out | apply below_alloc | apply pw_below_drewN | apply below_drew1 | refine below_set ?_ GE111.out) | exact HB.out)⟩
                  · rw [if_neg c18] at H
                    have c18b0 : decide (0 < (l0_3.length : Int)) = false := decide_eq_false c18
                    have c18b1 : decide (0 < l0_3.length) = false := decide_eq_false (by omega)
                    clear c18
                    have H' := Aside0.mk H
                    clear H
                    have hcz20_0 : wc.cell? ⟨gb111, 0, none⟩ = some (.int .i64 a0_0) := (blk_cell BK111.out 0).trans rfl
                    have hcz20_1 : wc.cell? ⟨gb111, 1, none⟩ = some (.string a0_1) := (blk_cell BK111.out 1).trans rfl
                    have hcz20_2 : wc.cell? ⟨gb111, 2, none⟩ = some (.string a0_2) := (blk_cell BK111.out 2).trans rfl
                    have hcz20_3 : wc.cell? ⟨gb111, 3, none⟩ = some (.slice A0_3 l0_3.length c0_3) := (blk_cell BK111.out 3).trans rfl
                    have hcz20_4 : wc.cell? ⟨gb111, 4, none⟩ = some (.slice A0_4 l0_4.length c0_4) := (blk_cell BK111.out 4).trans rfl
                    have hfz20_0 := blk_frozen BK111.out 0
                    have hfz20_1 := blk_frozen BK111.out 1
                    have hfz20_2 := blk_frozen BK111.out 2
                    have hfz20_3 := blk_frozen BK111.out 3
                    have hfz20_4 := blk_frozen BK111.out 4
                    go_wp2
                    go_meet
                    case rel => exact ⟨_, H', ⟨by have := HJ5.out; first | omega | exact Nat.le_refl _⟩, ⟨by (with_reducible repeat (first | refine blk_drewN ?_ _ | refine blk_drew ?_ | refine blk_alloc ?_ _)); exact BK111.out⟩, ⟨by repeat (first | (with_reducible first | exact HB.out | apply below_alloc | apply pw_below_drewN | apply below_drew1 | refine below_set ?_ GE111.out) | exact HB.out)⟩⟩
                · rw [if_neg c17] at H
                  have c17b0 : (a0_2.toList == ([] : List UInt8)) = false := beq_eq_false_iff_ne.mpr c17
                  have c17b1 : (a0_2.toList != ([] : List UInt8)) = true := bne_iff_ne.mpr c17
                  obtain rfl := Option.some.inj H
                  have hcz21_0 : wc.cell? ⟨gb111, 0, none⟩ = some (.int .i64 a0_0) := (blk_cell BK111.out 0).trans rfl
                  have hcz21_1 : wc.cell? ⟨gb111, 1, none⟩ = some (.string a0_1) := (blk_cell BK111.out 1).trans rfl
                  have hcz21_2 : wc.cell? ⟨gb111, 2, none⟩ = some (.string a0_2) := (blk_cell BK111.out 2).trans rfl
                  have hcz21_3 : wc.cell? ⟨gb111, 3, none⟩ = some (.slice A0_3 l0_3.length c0_3) := (blk_cell BK111.out 3).trans rfl
                  have hcz21_4 : wc.cell? ⟨gb111, 4, none⟩ = some (.slice A0_4 l0_4.length c0_4) := (blk_cell BK111.out 4).trans rfl
                  have hfz21_0 := blk_frozen BK111.out 0
                  have hfz21_1 := blk_frozen BK111.out 1
                  have hfz21_2 := blk_frozen BK111.out 2
                  have hfz21_3 := blk_frozen BK111.out 3
                  have hfz21_4 := blk_frozen BK111.out 4
                  go_wp2
                  go_ret
                  exact ⟨by first | rfl | (simp [errW_none, errW_some] <;> rfl) | (simp [*, errW_none, errW_some] <;> rfl), by repeat (first | (with_reducible first | exact HB.out | apply below_alloc | apply pw_below_drewN | apply below_drew1 | refine below_set ?_ GE111.out) | exact HB.out)⟩
              · rw [if_neg c16] at H
                have c16b0 : (a0_1.toList == ([] : List UInt8)) = false := beq_eq_false_iff_ne.mpr c16
                have c16b1 : (a0_1.toList != ([] : List UInt8)) = true := bne_iff_ne.mpr c16
                obtain rfl := Option.some.inj H
                have hcz22_0 : wc.cell? ⟨gb111, 0, none⟩ = some (.int .i64 a0_0) := (blk_cell BK111.out 0).trans rfl
                have hcz22_1 : wc.cell? ⟨gb111, 1, none⟩ = some (.string a0_1) := (blk_cell BK111.out 1).trans rfl
                have hcz22_2 : wc.cell? ⟨gb111, 2, none⟩ = some (.string a0_2) := (blk_cell BK111.out 2).trans rfl
                have hcz22_3 : wc.cell? ⟨gb111, 3, none⟩ = some (.slice A0_3 l0_3.length c0_3) := (blk_cell BK111.out 3).trans rfl
                have hcz22_4 : wc.cell? ⟨gb111, 4, none⟩ = some (.slice A0_4 l0_4.length c0_4) := (blk_cell BK111.out 4).trans rfl
                have hfz22_0 := blk_frozen BK111.out 0
                have hfz22_1 := blk_frozen BK111.out 1
                have hfz22_2 := blk_frozen BK111.out 2
                have hfz22_3 := blk_frozen BK111.out 3
                have hfz22_4 := blk_frozen BK111.out 4
                go_wp2
                go_ret
                exact ⟨by first | rfl | (simp [errW_none, errW_some] <;> rfl) | (simp [*, errW_none, errW_some] <;> rfl), by repeat (first | (with_reducible first | exact HB.out | apply below_alloc | apply pw_below_drewN | apply below_drew1 | refine below_set ?_ GE111.out) | exact HB.out)⟩
            · replace c15 := Bool.eq_false_iff.mpr c15
              subst c15
              have H1 : (some false) = some r := by rw [if_neg (show ¬ (false = true) by decide)] at H; exact H
              clear H
              have H := H1
              clear H1
              obtain rfl := Option.some.inj H
              go_wp2
              go_ret
              exact ⟨by first | rfl | (simp [errW_none, errW_some] <;> rfl) | (simp [*, errW_none, errW_some] <;> rfl), by repeat (first | (with_reducible first | exact HB.out | apply below_alloc | apply pw_below_drewN | apply below_drew1 | refine below_set ?_ GE111.out) | exact HB.out)⟩
          · rw [if_neg c14] at H
            have c14b0 : (a0_0 == 3) = false := beq_eq_false_iff_ne.mpr c14
            have c14b1 : (a0_0 != 3) = true := bne_iff_ne.mpr c14
            by_cases c23 : a0_0 = 0
            · rw [if_pos c23] at H
              have c23b0 : (a0_0 == 0) = true := beq_iff_eq.mpr c23
              have c23b1 : (a0_0 != 0) = false := bne_eq_false_iff_eq.mpr c23
              clear c23
              have HC24 := Aside0.mk H
              clear H
              go_upto_region 10 with (fail)
              go_cut [61] (fun v61 wc => ∃ (kq : Nat) (x61_23 : Bool), v61 = .bool x61_23 ∧ Aside0 (laws_right29.j1 kq x61_23 a0_0 a0_1 a0_2 l0_3 l0_4 = some r) ∧ Aside0 (kq ≤ kj5) ∧ Aside0 (wc.heap[gb111]? = some (.cells #[.int .i64 a0_0, .string a0_1, .string a0_2, (.slice A0_3 l0_3.length c0_3), (.slice A0_4 l0_4.length c0_4)] 25 (0, 0))) ∧ Aside0 (Below w.heap.size w wc))
              case first =>
                have H := HC24.out
                clear HC24
                replace H := Option.bind_eq_some_iff.mp H
                obtain ⟨t112, A250, H⟩ := H
                replace H : (if t112 = true then (laws_right29.j1 kj5 (a0_2.toList != ([] : List UInt8)) a0_0 a0_1 a0_2 l0_3 l0_4) else (laws_right29.j1 kj5 true a0_0 a0_1 a0_2 l0_3 l0_4)) = some r := H
                have A25 := Aside0.mk A250
                clear A250
                by_cases c26 : t112 = true
                · subst c26
                  have H1 : (laws_right29.j1 kj5 (a0_2.toList != ([] : List UInt8)) a0_0 a0_1 a0_2 l0_3 l0_4) = some r := by rw [if_pos rfl] at H; exact H
                  clear H
                  have H := H1
                  clear H1
                  have H' := Aside0.mk H
                  clear H
                  have hcz27_0 : wc.cell? ⟨gb111, 0, none⟩ = some (.int .i64 a0_0) := (blk_cell BK111.out 0).trans rfl
                  have hcz27_1 : wc.cell? ⟨gb111, 1, none⟩ = some (.string a0_1) := (blk_cell BK111.out 1).trans rfl
                  have hcz27_2 : wc.cell? ⟨gb111, 2, none⟩ = some (.string a0_2) := (blk_cell BK111.out 2).trans rfl
                  have hcz27_3 : wc.cell? ⟨gb111, 3, none⟩ = some (.slice A0_3 l0_3.length c0_3) := (blk_cell BK111.out 3).trans rfl
                  have hcz27_4 : wc.cell? ⟨gb111, 4, none⟩ = some (.slice A0_4 l0_4.length c0_4) := (blk_cell BK111.out 4).trans rfl
                  have hfz27_0 := blk_frozen BK111.out 0
                  have hfz27_1 := blk_frozen BK111.out 1
                  have hfz27_2 := blk_frozen BK111.out 2
                  have hfz27_3 := blk_frozen BK111.out 3
                  have hfz27_4 := blk_frozen BK111.out 4
                  go_wp2_with (first | ((with_reducible refine gate_callee (f := 26) rfl ?_); refine goesL_ (some 55) rfl rfl Tryd.func26 (by kernel_rfl) rfl #[.string a0_1] rfl (by (try simp only [List.map_toArray, List.map_cons, List.map_nil]); first | done | rfl | (simp only [List.length_drop, List.length_take]; rfl)) ?_; (with_reducible refine (laws_name29.calls kj5 a0_1 true _ A25.out).mono ?_); rintro e w' ⟨rfl, ⟨nd, rfl⟩⟩; refine ⟨_, rfl, ?_⟩))
                  go_meet
                  case rel => exact ⟨_, ((a0_2.toList != ([] : List UInt8))), (by first | rfl | (simp; done) | (simp [*]; done) | (simp [show ∀ l_ : List UInt8, (l_ != []) = !l_.isEmpty from fun l_ => by cases l_ <;> rfl]; done)), H', ⟨by have := HJ5.out; first | omega | exact Nat.le_refl _⟩, ⟨by (with_reducible repeat (first | refine blk_drewN ?_ _ | refine blk_drew ?_ | refine blk_alloc ?_ _)); exact BK111.out⟩, ⟨by repeat (first | (with_reducible first | exact HB.out | apply below_alloc | apply pw_below_drewN | apply below_drew1 | refine below_set ?_ GE111.out) | exact HB.out)⟩⟩
                · replace c26 := Bool.eq_false_iff.mpr c26
                  subst c26
                  have H1 : (laws_right29.j1 kj5 true a0_0 a0_1 a0_2 l0_3 l0_4) = some r := by rw [if_neg (show ¬ (false = true) by decide)] at H; exact H
                  clear H
                  have H := H1
                  clear H1
                  have H' := Aside0.mk H
                  clear H
                  have hcz28_0 : wc.cell? ⟨gb111, 0, none⟩ = some (.int .i64 a0_0) := (blk_cell BK111.out 0).trans rfl
                  have hcz28_1 : wc.cell? ⟨gb111, 1, none⟩ = some (.string a0_1) := (blk_cell BK111.out 1).trans rfl
                  have hcz28_2 : wc.cell? ⟨gb111, 2, none⟩ = some (.string a0_2) := (blk_cell BK111.out 2).trans rfl
                  have hcz28_3 : wc.cell? ⟨gb111, 3, none⟩ = some (.slice A0_3 l0_3.length c0_3) := (blk_cell BK111.out 3).trans rfl
                  have hcz28_4 : wc.cell? ⟨gb111, 4, none⟩ = some (.slice A0_4 l0_4.length c0_4) := (blk_cell BK111.out 4).trans rfl
                  have hfz28_0 := blk_frozen BK111.out 0
                  have hfz28_1 := blk_frozen BK111.out 1
                  have hfz28_2 := blk_frozen BK111.out 2
                  have hfz28_3 := blk_frozen BK111.out 3
                  have hfz28_4 := blk_frozen BK111.out 4
                  go_wp2_with (first | ((with_reducible refine gate_callee (f := 26) rfl ?_); refine goesL_ (some 55) rfl rfl Tryd.func26 (by kernel_rfl) rfl #[.string a0_1] rfl (by (try simp only [List.map_toArray, List.map_cons, List.map_nil]); first | done | rfl | (simp only [List.length_drop, List.length_take]; rfl)) ?_; (with_reducible refine (laws_name29.calls kj5 a0_1 false _ A25.out).mono ?_); rintro e w' ⟨rfl, ⟨nd, rfl⟩⟩; refine ⟨_, rfl, ?_⟩))
                  go_meet
                  case rel => exact ⟨_, (true), (by first | rfl | (simp; done) | (simp [*]; done)), H', ⟨by have := HJ5.out; first | omega | exact Nat.le_refl _⟩, ⟨by (with_reducible repeat (first | refine blk_drewN ?_ _ | refine blk_drew ?_ | refine blk_alloc ?_ _)); exact BK111.out⟩, ⟨by repeat (first | (with_reducible first | exact HB.out | apply below_alloc | apply pw_below_drewN | apply below_drew1 | refine below_set ?_ GE111.out) | exact HB.out)⟩⟩
              case rest =>
                clear HC24
                try clear c1
                try clear c2
                try clear p2
                try clear c7
                try clear c7b0
                try clear c7b1
                try clear c8
                try clear c9
                try clear c9b0
                try clear c9b1
                try clear c9b2
                try clear c10
                try clear c10b0
                try clear c10b1
                try clear c14
                try clear c14b0
                try clear c14b1
                try clear c15
                try clear c16
                try clear c16b0
                try clear c16b1
                try clear c17
                try clear c17b0
                try clear c17b1
                try clear c18
                try clear c18b0
                try clear c18b1
                try clear c23
                try clear c23b0
                try clear c23b1
                try clear c26
                try clear hcz11_0
                try clear hcz11_1
                try clear hcz11_2
                try clear hcz11_3
                try clear hcz11_4
                try clear hcz12_0
                try clear hcz12_1
                try clear hcz12_2
                try clear hcz12_3
                try clear hcz12_4
                try clear hcz13_0
                try clear hcz13_1
                try clear hcz13_2
                try clear hcz13_3
                try clear hcz13_4
                try clear hcz19_0
                try clear hcz19_1
                try clear hcz19_2
                try clear hcz19_3
                try clear hcz19_4
                try clear hcz20_0
                try clear hcz20_1
                try clear hcz20_2
                try clear hcz20_3
                try clear hcz20_4
                try clear hcz21_0
                try clear hcz21_1
                try clear hcz21_2
                try clear hcz21_3
                try clear hcz21_4
                try clear hcz22_0
                try clear hcz22_1
                try clear hcz22_2
                try clear hcz22_3
                try clear hcz22_4
                try clear hcz27_0
                try clear hcz27_1
                try clear hcz27_2
                try clear hcz27_3
                try clear hcz27_4
                try clear hcz28_0
                try clear hcz28_1
                try clear hcz28_2
                try clear hcz28_3
                try clear hcz28_4
                try clear hcz5_0
                try clear hcz5_1
                try clear hcz5_2
                try clear hcz5_3
                try clear hcz5_4
                try clear hfz11_0
                try clear hfz11_1
                try clear hfz11_2
                try clear hfz11_3
                try clear hfz11_4
                try clear hfz12_0
                try clear hfz12_1
                try clear hfz12_2
                try clear hfz12_3
                try clear hfz12_4
                try clear hfz13_0
                try clear hfz13_1
                try clear hfz13_2
                try clear hfz13_3
                try clear hfz13_4
                try clear hfz19_0
                try clear hfz19_1
                try clear hfz19_2
                try clear hfz19_3
                try clear hfz19_4
                try clear hfz20_0
                try clear hfz20_1
                try clear hfz20_2
                try clear hfz20_3
                try clear hfz20_4
                try clear hfz21_0
                try clear hfz21_1
                try clear hfz21_2
                try clear hfz21_3
                try clear hfz21_4
                try clear hfz22_0
                try clear hfz22_1
                try clear hfz22_2
                try clear hfz22_3
                try clear hfz22_4
                try clear hfz27_0
                try clear hfz27_1
                try clear hfz27_2
                try clear hfz27_3
                try clear hfz27_4
                try clear hfz28_0
                try clear hfz28_1
                try clear hfz28_2
                try clear hfz28_3
                try clear hfz28_4
                try clear hfz5_0
                try clear hfz5_1
                try clear hfz5_2
                try clear hfz5_3
                try clear hfz5_4
                try clear p2
                obtain ⟨kq, x61_23, rfl, HA, HJ23, BK111, HB⟩ := hcut
                cases kq with
                | zero => exact absurd HA.out (by simp [laws_right29.j1])
                | succ kj23 =>
                  have H := HA.out
                  clear HA
                  simp only [laws_right29.j1] at H
                  by_cases c29 : x61_23 = true
                  · subst c29
                    have H1 : (some false) = some r := by rw [if_pos rfl] at H; exact H
                    clear H
                    have H := H1
                    clear H1
                    obtain rfl := Option.some.inj H
                    go_wp2
                    go_ret
                    exact ⟨by first | rfl | (simp [errW_none, errW_some] <;> rfl) | (simp [*, errW_none, errW_some] <;> rfl), by repeat (first | (with_reducible first | exact HB.out | apply below_alloc | apply pw_below_drewN | apply below_drew1 | refine below_set ?_ GE111.out) | exact HB.out)⟩
                  · replace c29 := Bool.eq_false_iff.mpr c29
                    subst c29
                    have H1 : (laws_right29.l0 kj23 l0_3 (l0_3.length : Int) 0 a0_0 a0_1 a0_2 l0_3 l0_4) = some r := by rw [if_neg (show ¬ (false = true) by decide)] at H; exact H
                    clear H
                    have H := H1
                    clear H1
                    have H' := Aside0.mk H
                    clear H
                    have hcz30_0 : wc.cell? ⟨gb111, 0, none⟩ = some (.int .i64 a0_0) := (blk_cell BK111.out 0).trans rfl
                    have hcz30_1 : wc.cell? ⟨gb111, 1, none⟩ = some (.string a0_1) := (blk_cell BK111.out 1).trans rfl
                    have hcz30_2 : wc.cell? ⟨gb111, 2, none⟩ = some (.string a0_2) := (blk_cell BK111.out 2).trans rfl
                    have hcz30_3 : wc.cell? ⟨gb111, 3, none⟩ = some (.slice A0_3 l0_3.length c0_3) := (blk_cell BK111.out 3).trans rfl
                    have hcz30_4 : wc.cell? ⟨gb111, 4, none⟩ = some (.slice A0_4 l0_4.length c0_4) := (blk_cell BK111.out 4).trans rfl
                    have hfz30_0 := blk_frozen BK111.out 0
                    have hfz30_1 := blk_frozen BK111.out 1
                    have hfz30_2 := blk_frozen BK111.out 2
                    have hfz30_3 := blk_frozen BK111.out 3
                    have hfz30_4 := blk_frozen BK111.out 4
                    go_wp2
                    go_loopg [65] kj23 (fun kq v65 w' => ∃ (x65_3 : Int), v65 = .int .i64 x65_3 ∧ Aside0 (laws_right29.l0 kq l0_3 (l0_3.length : Int) x65_3 a0_0 a0_1 a0_2 l0_3 l0_4 = some r) ∧ Aside0 (kq ≤ kj23) ∧ Aside0 (w'.heap[gb111]? = some (.cells #[.int .i64 a0_0, .string a0_1, .string a0_2, (.slice A0_3 l0_3.length c0_3), (.slice A0_4 l0_4.length c0_4)] 25 (0, 0))) ∧ Aside0 (Below w.heap.size w w'))
                    case atStart => exact ⟨(0), (by first | rfl | (simp; done) | (simp [*]; done)), H', ⟨Nat.le_refl _⟩, ⟨by (with_reducible repeat (first | refine blk_drewN ?_ _ | refine blk_drew ?_ | refine blk_alloc ?_ _)); exact BK111.out⟩, ⟨by repeat (first | (with_reducible first | exact HB.out | apply below_alloc | apply pw_below_drewN | apply below_drew1 | refine below_set ?_ GE111.out) | exact HB.out)⟩⟩
                    case round =>
                      clear H'
                      try clear c1
                      try clear c2
                      try clear p2
                      try clear c7
                      try clear c7b0
                      try clear c7b1
                      try clear c8
                      try clear c9
                      try clear c9b0
                      try clear c9b1
                      try clear c9b2
                      try clear c10
                      try clear c10b0
                      try clear c10b1
                      try clear c14
                      try clear c14b0
                      try clear c14b1
                      try clear c15
                      try clear c16
                      try clear c16b0
                      try clear c16b1
                      try clear c17
                      try clear c17b0
                      try clear c17b1
                      try clear c18
                      try clear c18b0
                      try clear c18b1
                      try clear c23
                      try clear c23b0
                      try clear c23b1
                      try clear c26
                      try clear c29
                      try clear hcz11_0
                      try clear hcz11_1
                      try clear hcz11_2
                      try clear hcz11_3
                      try clear hcz11_4
                      try clear hcz12_0
                      try clear hcz12_1
                      try clear hcz12_2
                      try clear hcz12_3
                      try clear hcz12_4
                      try clear hcz13_0
                      try clear hcz13_1
                      try clear hcz13_2
                      try clear hcz13_3
                      try clear hcz13_4
                      try clear hcz19_0
                      try clear hcz19_1
                      try clear hcz19_2
                      try clear hcz19_3
                      try clear hcz19_4
                      try clear hcz20_0
                      try clear hcz20_1
                      try clear hcz20_2
                      try clear hcz20_3
                      try clear hcz20_4
                      try clear hcz21_0
                      try clear hcz21_1
                      try clear hcz21_2
                      try clear hcz21_3
                      try clear hcz21_4
                      try clear hcz22_0
                      try clear hcz22_1
                      try clear hcz22_2
                      try clear hcz22_3
                      try clear hcz22_4
                      try clear hcz27_0
                      try clear hcz27_1
                      try clear hcz27_2
                      try clear hcz27_3
                      try clear hcz27_4
                      try clear hcz28_0
                      try clear hcz28_1
                      try clear hcz28_2
                      try clear hcz28_3
                      try clear hcz28_4
                      try clear hcz30_0
                      try clear hcz30_1
                      try clear hcz30_2
                      try clear hcz30_3
                      try clear hcz30_4
                      try clear hcz5_0
                      try clear hcz5_1
                      try clear hcz5_2
                      try clear hcz5_3
                      try clear hcz5_4
                      try clear hfz11_0
                      try clear hfz11_1
                      try clear hfz11_2
                      try clear hfz11_3
                      try clear hfz11_4
                      try clear hfz12_0
                      try clear hfz12_1
                      try clear hfz12_2
                      try clear hfz12_3
                      try clear hfz12_4
                      try clear hfz13_0
                      try clear hfz13_1
                      try clear hfz13_2
                      try clear hfz13_3
                      try clear hfz13_4
                      try clear hfz19_0
                      try clear hfz19_1
                      try clear hfz19_2
                      try clear hfz19_3
                      try clear hfz19_4
                      try clear hfz20_0
                      try clear hfz20_1
                      try clear hfz20_2
                      try clear hfz20_3
                      try clear hfz20_4
                      try clear hfz21_0
                      try clear hfz21_1
                      try clear hfz21_2
                      try clear hfz21_3
                      try clear hfz21_4
                      try clear hfz22_0
                      try clear hfz22_1
                      try clear hfz22_2
                      try clear hfz22_3
                      try clear hfz22_4
                      try clear hfz27_0
                      try clear hfz27_1
                      try clear hfz27_2
                      try clear hfz27_3
                      try clear hfz27_4
                      try clear hfz28_0
                      try clear hfz28_1
                      try clear hfz28_2
                      try clear hfz28_3
                      try clear hfz28_4
                      try clear hfz30_0
                      try clear hfz30_1
                      try clear hfz30_2
                      try clear hfz30_3
                      try clear hfz30_4
                      try clear hfz5_0
                      try clear hfz5_1
                      try clear hfz5_2
                      try clear hfz5_3
                      try clear hfz5_4
                      try clear p2
                      obtain ⟨x65_3, rfl, HA, HK3, BK111, HB⟩ := hrel
                      cases gk with
                      | zero => exact absurd HA.out (by simp [laws_right29.l0])
                      | succ k3 =>
                        have H := HA.out
                        clear HA
                        simp only [laws_right29.l0] at H
                        by_cases c31 : x65_3 < (l0_3.length : Int)
                        · rw [if_pos c31] at H
                          have c31b0 : decide (x65_3 < (l0_3.length : Int)) = true := decide_eq_true c31
                          clear c31
                          by_cases c32 : 0 ≤ x65_3
                          · rw [if_pos c32] at H
                            have c32b0 : decide (0 ≤ x65_3) = true := decide_eq_true c32
                            clear c32
                            by_cases c33 : x65_3 < (l0_3.length : Int)
                            · rw [if_pos c33] at H
                              have c33b0 : decide (x65_3 < (l0_3.length : Int)) = true := decide_eq_true c33
                              clear c33
                              have c34b0 := eq_true (of_decide_eq_true (by first | (with_reducible assumption) | assumption) : 0 ≤ x65_3)
                              by_cases c35 : x65_3 ≤ (l0_3.length : Int)
                              · rw [if_pos c35] at H
                                have c35b0 := eq_true c35
                                have c35b1 : decide (x65_3 ≤ (l0_3.length : Int)) = true := decide_eq_true c35
                                clear c35
                                obtain ⟨y115, hy115⟩ : ∃ y_ : List (S31), y_ = (l0_3.take (x65_3 : Int).toNat) := ⟨_, rfl⟩
                                replace H : (laws_right29.l1 k3 l0_3 (l0_3.length : Int) x65_3 y115 (y115.length : Int) 0 a0_0 a0_1 a0_2 l0_3 l0_4 ((rd_T31 l0_3 x65_3).f0) ((rd_T31 l0_3 x65_3).f1)) = some r := by first | (rw [hy115]; with_reducible exact H) | (have H2_ := (Option.bind_some _ _).symm.trans H; rw [hy115]; with_reducible exact H2_) | (have H2_ := (Option.bind_some _ _).symm.trans H; with_reducible exact H2_) | with_reducible exact H | (rw [hy115]; exact H) | exact H
                                have Ny115 := Aside0.mk hy115
                                clear hy115
                                have H' := Aside0.mk H
                                clear H
                                have p113 : 0 ≤ (x65_3 : Int) := of_decide_eq_true (by first | (with_reducible assumption) | assumption)
                                have q113 : x65_3 < (l0_3.length : Int) := of_decide_eq_true (by first | (with_reducible assumption) | assumption)
                                obtain ⟨ad113, e113, hx113_0, hx113_1⟩ := at_T31 HR0_3.out x65_3 p113 q113
                                cases e113
                                replace hx113_0 := (HB.out.cell (World.block_lt_of_cell? w _ hx113_0)).trans hx113_0
                                replace hx113_1 := (HB.out.cell (World.block_lt_of_cell? w _ hx113_1)).trans hx113_1
                                replace p113 := eq_true p113
                                replace q113 := eq_true q113
                                go_wp2_with (first | ((with_reducible refine gate_dst (N := 6) rfl ?_); (try (refine gate_guard (by rfl) ?_; dsimp only)); refine box_event ?hg (N := 6) ?hd (cs := #[.string (⟨#[]⟩ : ByteArray), .string (⟨#[]⟩ : ByteArray)]) (t := 31) ?hr ?_; (case hd => rfl); (case hg => rfl); (case hr => first | (go_simp; done) | (go_simp; rfl)); intro gb114 hg w36 hbox hb; have n0_ := Aside0.mk (blk_below (g := gb111) (o := .cells #[.int .i64 a0_0, .string a0_1, .string a0_2, .slice (some ad113) l0_3.length c0_3, .slice A0_4 l0_4.length c0_4] 25 (0, 0)) (by (with_reducible repeat (first | refine blk_drewN ?_ _ | refine blk_drew ?_ | refine blk_alloc ?_ _)); exact BK111.out) hb); have n1_ := Aside0.mk (below_step (by repeat (first | (with_reducible first | exact HB.out | apply below_alloc | apply pw_below_drewN | apply below_drew1 | refine below_set ?_ GE111.out) | exact HB.out)) hb); have n2_ := Aside0.mk (hbox); have n3_ := Aside0.mk ((by rw [hg]; exact (below_size (by repeat (first | (with_reducible first | exact HB.out | apply below_alloc | apply pw_below_drewN | apply below_drew1 | refine below_set ?_ GE111.out) | exact HB.out))) : w.heap.size ≤ gb114)); have n4_ := Aside0.mk ((by rw [hg]; exact (below_size (by repeat (first | (with_reducible first | exact HB.out | apply below_alloc | apply pw_below_drewN | apply below_drew1 | refine below_set ?_ GE111.out) | exact HB.out))) : w.heap.size ≤ gb114)); have n5_ := Aside0.mk ((by rw [hg]; exact Nat.ne_of_lt (blk_lt (g := gb111) (o := .cells #[.int .i64 a0_0, .string a0_1, .string a0_2, .slice (some ad113) l0_3.length c0_3, .slice A0_4 l0_4.length c0_4] 25 (0, 0)) (by (with_reducible repeat (first | refine blk_drewN ?_ _ | refine blk_drew ?_ | refine blk_alloc ?_ _)); exact BK111.out)) : gb111 ≠ gb114)); have n6_ := Aside0.mk ((by rw [hg]; exact Nat.ne_of_gt (blk_lt (g := gb111) (o := .cells #[.int .i64 a0_0, .string a0_1, .string a0_2, .slice (some ad113) l0_3.length c0_3, .slice A0_4 l0_4.length c0_4] 25 (0, 0)) (by (with_reducible repeat (first | refine blk_drewN ?_ _ | refine blk_drew ?_ | refine blk_alloc ?_ _)); exact BK111.out)) : gb114 ≠ gb111)); clear BK111; clear HB; have BK111 := n0_; have HB := n1_; have BK114 := n2_; have GW114 := n3_; have GE114 := n4_; have NB111_114 := n5_; have NB114_111 := n6_; clear n0_ n1_ n2_ n3_ n4_ n5_ n6_; clear hb hbox hg; have hnb37 := NB114_111.out; have hnc37 := NB111_114.out; have hcz38_0 : w36.cell? ⟨gb114, 0, none⟩ = some (.string (⟨#[]⟩ : ByteArray)) := (blk_cell BK114.out 0).trans rfl; have hcz38_1 : w36.cell? ⟨gb114, 1, none⟩ = some (.string (⟨#[]⟩ : ByteArray)) := (blk_cell BK114.out 1).trans rfl; have hfz38_0 := blk_frozen BK114.out 0; have hfz38_1 := blk_frozen BK114.out 1) | ((with_reducible refine gate_store (t := 31) (p := 6) rfl ?_); refine store_event (t := 31) (p := 6) (v := ?vo_w39) (w1 := ((w36.setCell ⟨gb114, 0, none⟩ (.string ((rd_T31 l0_3 x65_3).f0))).setCell ⟨gb114, 1, none⟩ (.string ((rd_T31 l0_3 x65_3).f1)))) ?hg ?ho ?hn ?hr ?_; (case ho => rfl); (case hg => rfl); (case hn => rfl); (case hr => first | (go_simp; done) | (go_simp; rfl)); intro w39 hw; have n0_ : Aside0 (w39.heap[gb111]? = some (.cells #[.int .i64 a0_0, .string a0_1, .string a0_2, .slice (some ad113) l0_3.length c0_3, .slice A0_4 l0_4.length c0_4] 25 (0, 0))) := ⟨(by rw [hw]; exact (by (with_reducible repeat (first | refine blk_drewN ?_ _ | refine blk_drew ?_ | refine blk_alloc ?_ _)); refine blk_far ?_ NB111_114.out _; (with_reducible repeat (first | refine blk_drewN ?_ _ | refine blk_drew ?_ | refine blk_alloc ?_ _)); refine blk_far ?_ NB111_114.out _; (with_reducible repeat (first | refine blk_drewN ?_ _ | refine blk_drew ?_ | refine blk_alloc ?_ _)); exact BK111.out))⟩; have n1_ : Aside0 (w39.heap[gb114]? = some (.cells #[.string ((rd_T31 l0_3 x65_3).f0), .string ((rd_T31 l0_3 x65_3).f1)] 31 (0, 0))) := ⟨(by rw [hw]; exact (by (with_reducible repeat (first | refine blk_drewN ?_ _ | refine blk_drew ?_ | refine blk_alloc ?_ _)); refine blk_put (cs := #[.string ((rd_T31 l0_3 x65_3).f0), .string (⟨#[]⟩ : ByteArray)]) ?_ 1 _ rfl; (with_reducible repeat (first | refine blk_drewN ?_ _ | refine blk_drew ?_ | refine blk_alloc ?_ _)); refine blk_put (cs := #[.string (⟨#[]⟩ : ByteArray), .string (⟨#[]⟩ : ByteArray)]) ?_ 0 _ rfl; (with_reducible repeat (first | refine blk_drewN ?_ _ | refine blk_drew ?_ | refine blk_alloc ?_ _)); exact BK114.out))⟩; have n2_ : Aside0 (Below w.heap.size w w39) := ⟨(by rw [hw]; exact (by repeat (first | (with_reducible first | exact HB.out | apply below_alloc | apply pw_below_drewN | apply below_drew1 | refine below_set ?_ GE111.out | refine below_set ?_ GE114.out) | exact HB.out)))⟩; clear hw; clear BK111; clear BK114; clear HB; have BK111 := n0_; have BK114 := n1_; have HB := n2_; clear n0_ n1_ n2_; have hcz40_0 : w39.cell? ⟨gb111, 0, none⟩ = some (.int .i64 a0_0) := (blk_cell BK111.out 0).trans rfl; have hcz40_1 : w39.cell? ⟨gb111, 1, none⟩ = some (.string a0_1) := (blk_cell BK111.out 1).trans rfl; have hcz40_2 : w39.cell? ⟨gb111, 2, none⟩ = some (.string a0_2) := (blk_cell BK111.out 2).trans rfl; have hcz40_3 : w39.cell? ⟨gb111, 3, none⟩ = some (.slice (some ad113) l0_3.length c0_3) := (blk_cell BK111.out 3).trans rfl; have hcz40_4 : w39.cell? ⟨gb111, 4, none⟩ = some (.slice A0_4 l0_4.length c0_4) := (blk_cell BK111.out 4).trans rfl; have hfz40_0 := blk_frozen BK111.out 0; have hfz40_1 := blk_frozen BK111.out 1; have hfz40_2 := blk_frozen BK111.out 2; have hfz40_3 := blk_frozen BK111.out 3; have hfz40_4 := blk_frozen BK111.out 4; have q41 : (x65_3 : Int) ≤ ((l0_3.length : Int) : Int) := of_decide_eq_true (by first | (with_reducible assumption) | assumption); obtain ⟨i041, hi041, _, hsz41, _⟩ := info_parts info31; have hroom41 : l0_3.length ≤ c0_3 := HC0_3.out; have hC41 : Kd.C k31 _ (some ad113) l0_3.length l0_3 := HR0_3.out; have hcut41 := cut_to (P := Tryd.prog) 22 31 .i64 Tryd.underlying22 hi041 (some ad113) l0_3.length c0_3 x65_3 (of_decide_eq_true (by first | (with_reducible assumption) | assumption)) q41 hroom41; have hr41 := Kd.C_take (m := (x65_3 : Int).toNat) hC41 (by omega); have hy41 : y115.length = (x65_3 : Int).toNat := (by rw [Ny115.out, List.length_take]; omega); rw [← Ny115.out] at hr41; rw [← hy41] at hcut41; have HR118 := Aside0.mk hr41; have HC118 := Aside0.mk (show y115.length ≤ c0_3 from by omega); clear hr41 hC41 hroom41 hi041 hsz41; have KY41 := Aside0.mk hy41; clear hy41; replace q41 := eq_true q41))
                                go_loopg [75] k3 (fun kq v75 w' => ∃ (x75_4 : Int), v75 = .int .i64 x75_4 ∧ Aside0 (laws_right29.l1 kq l0_3 (l0_3.length : Int) x65_3 y115 (y115.length : Int) x75_4 a0_0 a0_1 a0_2 l0_3 l0_4 ((rd_T31 l0_3 x65_3).f0) ((rd_T31 l0_3 x65_3).f1) = some r) ∧ Aside0 (kq ≤ k3) ∧ Aside0 (w'.heap[gb111]? = some (.cells #[.int .i64 a0_0, .string a0_1, .string a0_2, (.slice (some ad113) l0_3.length c0_3), (.slice A0_4 l0_4.length c0_4)] 25 (0, 0))) ∧ Aside0 (w'.heap[gb114]? = some (.cells #[.string ((rd_T31 l0_3 x65_3).f0), .string ((rd_T31 l0_3 x65_3).f1)] 31 (0, 0))) ∧ Aside0 (Below w.heap.size w w'))
                                case atStart => exact ⟨(0), (by first | rfl | (simp; done) | (simp [*]; done)), H', ⟨Nat.le_refl _⟩, ⟨by (with_reducible repeat (first | refine blk_drewN ?_ _ | refine blk_drew ?_ | refine blk_alloc ?_ _)); exact BK111.out⟩, ⟨by (with_reducible repeat (first | refine blk_drewN ?_ _ | refine blk_drew ?_ | refine blk_alloc ?_ _)); exact BK114.out⟩, ⟨by repeat (first | (with_reducible first | exact HB.out | apply below_alloc | apply pw_below_drewN | apply below_drew1 | refine below_set ?_ GE111.out | refine below_set ?_ GE114.out) | exact HB.out)⟩⟩
                                case round =>
                                  clear H'
                                  try clear c1
                                  try clear p1
                                  try clear q1
                                  try clear hx1
                                  try clear c2
                                  try clear p2
                                  try clear c3
                                  try clear q4
                                  try clear c7
                                  try clear c7b0
                                  try clear c7b1
                                  try clear c8
                                  try clear c9
                                  try clear c9b0
                                  try clear c9b1
                                  try clear c9b2
                                  try clear c10
                                  try clear c10b0
                                  try clear c10b1
                                  try clear p11
                                  try clear q11
                                  try clear hx11
                                  try clear c14
                                  try clear c14b0
                                  try clear c14b1
                                  try clear c15
                                  try clear c16
                                  try clear c16b0
                                  try clear c16b1
                                  try clear c17
                                  try clear c17b0
                                  try clear c17b1
                                  try clear c18
                                  try clear c18b0
                                  try clear c18b1
                                  try clear c23
                                  try clear c23b0
                                  try clear c23b1
                                  try clear c26
                                  try clear c29
                                  try clear c31
                                  try clear c31b0
                                  try clear c32
                                  try clear c32b0
                                  try clear c33
                                  try clear c33b0
                                  try clear c34
                                  try clear c34b0
                                  try clear c35
                                  try clear c35b0
                                  try clear c35b1
                                  try clear c37
                                  try clear q41
                                  try clear hcz11_0
                                  try clear hcz11_1
                                  try clear hcz11_2
                                  try clear hcz11_3
                                  try clear hcz11_4
                                  try clear hcz12_0
                                  try clear hcz12_1
                                  try clear hcz12_2
                                  try clear hcz12_3
                                  try clear hcz12_4
                                  try clear hcz13_0
                                  try clear hcz13_1
                                  try clear hcz13_2
                                  try clear hcz13_3
                                  try clear hcz13_4
                                  try clear hcz19_0
                                  try clear hcz19_1
                                  try clear hcz19_2
                                  try clear hcz19_3
                                  try clear hcz19_4
                                  try clear hcz20_0
                                  try clear hcz20_1
                                  try clear hcz20_2
                                  try clear hcz20_3
                                  try clear hcz20_4
                                  try clear hcz21_0
                                  try clear hcz21_1
                                  try clear hcz21_2
                                  try clear hcz21_3
                                  try clear hcz21_4
                                  try clear hcz22_0
                                  try clear hcz22_1
                                  try clear hcz22_2
                                  try clear hcz22_3
                                  try clear hcz22_4
                                  try clear hcz27_0
                                  try clear hcz27_1
                                  try clear hcz27_2
                                  try clear hcz27_3
                                  try clear hcz27_4
                                  try clear hcz28_0
                                  try clear hcz28_1
                                  try clear hcz28_2
                                  try clear hcz28_3
                                  try clear hcz28_4
                                  try clear hcz30_0
                                  try clear hcz30_1
                                  try clear hcz30_2
                                  try clear hcz30_3
                                  try clear hcz30_4
                                  try clear hcz38_0
                                  try clear hcz38_1
                                  try clear hcz40_0
                                  try clear hcz40_1
                                  try clear hcz40_2
                                  try clear hcz40_3
                                  try clear hcz40_4
                                  try clear hcz5_0
                                  try clear hcz5_1
                                  try clear hcz5_2
                                  try clear hcz5_3
                                  try clear hcz5_4
                                  try clear hfz11_0
                                  try clear hfz11_1
                                  try clear hfz11_2
                                  try clear hfz11_3
                                  try clear hfz11_4
                                  try clear hfz12_0
                                  try clear hfz12_1
                                  try clear hfz12_2
                                  try clear hfz12_3
                                  try clear hfz12_4
                                  try clear hfz13_0
                                  try clear hfz13_1
                                  try clear hfz13_2
                                  try clear hfz13_3
                                  try clear hfz13_4
                                  try clear hfz19_0
                                  try clear hfz19_1
                                  try clear hfz19_2
                                  try clear hfz19_3
                                  try clear hfz19_4
                                  try clear hfz20_0
                                  try clear hfz20_1
                                  try clear hfz20_2
                                  try clear hfz20_3
                                  try clear hfz20_4
                                  try clear hfz21_0
                                  try clear hfz21_1
                                  try clear hfz21_2
                                  try clear hfz21_3
                                  try clear hfz21_4
                                  try clear hfz22_0
                                  try clear hfz22_1
                                  try clear hfz22_2
                                  try clear hfz22_3
                                  try clear hfz22_4
                                  try clear hfz27_0
                                  try clear hfz27_1
                                  try clear hfz27_2
                                  try clear hfz27_3
                                  try clear hfz27_4
                                  try clear hfz28_0
                                  try clear hfz28_1
                                  try clear hfz28_2
                                  try clear hfz28_3
                                  try clear hfz28_4
                                  try clear hfz30_0
                                  try clear hfz30_1
                                  try clear hfz30_2
                                  try clear hfz30_3
                                  try clear hfz30_4
                                  try clear hfz38_0
                                  try clear hfz38_1
                                  try clear hfz40_0
                                  try clear hfz40_1
                                  try clear hfz40_2
                                  try clear hfz40_3
                                  try clear hfz40_4
                                  try clear hfz5_0
                                  try clear hfz5_1
                                  try clear hfz5_2
                                  try clear hfz5_3
                                  try clear hfz5_4
                                  try clear hx113_0
                                  try clear hx113_1
                                  try clear p113
                                  try clear p2
                                  try clear q113
                                  try clear q41
                                  obtain ⟨x75_4, rfl, HA, HK4, BK111, BK114, HB⟩ := hrel
                                  cases gk with
                                  | zero => exact absurd HA.out (by simp [laws_right29.l1])
                                  | succ k4 =>
                                    have H := HA.out
                                    clear HA
                                    simp only [laws_right29.l1] at H
                                    by_cases c42 : x75_4 < (y115.length : Int)
                                    · rw [if_pos c42] at H
                                      have c42b0 : decide (x75_4 < (y115.length : Int)) = true := decide_eq_true c42
                                      clear c42
                                      by_cases c43 : 0 ≤ x75_4
                                      · rw [if_pos c43] at H
                                        have c43b0 : decide (0 ≤ x75_4) = true := decide_eq_true c43
                                        clear c43
                                        by_cases c44 : x75_4 < (y115.length : Int)
                                        · rw [if_pos c44] at H
                                          have c44b0 : decide (x75_4 < (y115.length : Int)) = true := decide_eq_true c44
                                          clear c44
                                          by_cases c45 : ((rd_T31 l0_3 x65_3).f0).toList = ((rd_T31 y115 x75_4).f0).toList
                                          · rw [if_pos c45] at H
                                            have c45b0 : (((rd_T31 l0_3 x65_3).f0).toList == ((rd_T31 y115 x75_4).f0).toList) = true := beq_iff_eq.mpr c45
                                            have c45b1 : (((rd_T31 l0_3 x65_3).f0).toList != ((rd_T31 y115 x75_4).f0).toList) = false := bne_eq_false_iff_eq.mpr c45
                                            clear c45
                                            obtain rfl := Option.some.inj H
                                            have p119 : 0 ≤ (x75_4 : Int) := of_decide_eq_true (by first | (with_reducible assumption) | assumption)
                                            have q119 : x75_4 < (y115.length : Int) := of_decide_eq_true (by first | (with_reducible assumption) | assumption)
                                            obtain ⟨ad119, e119, hx119_0, hx119_1⟩ := at_T31 HR118.out x75_4 p119 q119
                                            obtain rfl : ad113 = ad119 := (by injection e119)
                                            replace hx119_0 := (HB.out.cell (World.block_lt_of_cell? w _ hx119_0)).trans hx119_0
                                            replace hx119_1 := (HB.out.cell (World.block_lt_of_cell? w _ hx119_1)).trans hx119_1
                                            replace p119 := eq_true p119
                                            replace q119 := eq_true q119
                                            go_wp2_with (first | ((with_reducible refine gate_dst (N := 8) rfl ?_); (try (refine gate_guard (by rfl) ?_; dsimp only)); refine box_event ?hg (N := 8) ?hd (cs := #[.string (⟨#[]⟩ : ByteArray), .string (⟨#[]⟩ : ByteArray)]) (t := 31) ?hr ?_; (case hd => rfl); (case hg => rfl); (case hr => first | (go_simp; done) | (go_simp; rfl)); intro gb120 hg w46 hbox hb; have n0_ := Aside0.mk (blk_below (g := gb111) (o := .cells #[.int .i64 a0_0, .string a0_1, .string a0_2, .slice (some ad113) l0_3.length c0_3, .slice A0_4 l0_4.length c0_4] 25 (0, 0)) (by (with_reducible repeat (first | refine blk_drewN ?_ _ | refine blk_drew ?_ | refine blk_alloc ?_ _)); exact BK111.out) hb); have n1_ := Aside0.mk (blk_below (g := gb114) (o := .cells #[.string ((rd_T31 l0_3 x65_3).f0), .string ((rd_T31 l0_3 x65_3).f1)] 31 (0, 0)) (by (with_reducible repeat (first | refine blk_drewN ?_ _ | refine blk_drew ?_ | refine blk_alloc ?_ _)); exact BK114.out) hb); have n2_ := Aside0.mk (below_step (by repeat (first | (with_reducible first | exact HB.out | apply below_alloc | apply pw_below_drewN | apply below_drew1 | refine below_set ?_ GE111.out | refine below_set ?_ GE114.out) | exact HB.out)) hb); have n3_ := Aside0.mk (hbox); have n4_ := Aside0.mk ((by rw [hg]; exact (below_size (by repeat (first | (with_reducible first | exact HB.out | apply below_alloc | apply pw_below_drewN | apply below_drew1 | refine below_set ?_ GE111.out | refine below_set ?_ GE114.out) | exact HB.out))) : w.heap.size ≤ gb120)); have n5_ := Aside0.mk ((by rw [hg]; exact (below_size (by repeat (first | (with_reducible first | exact HB.out | apply below_alloc | apply pw_below_drewN | apply below_drew1 | refine below_set ?_ GE111.out | refine below_set ?_ GE114.out) | exact HB.out))) : w.heap.size ≤ gb120)); have n6_ := Aside0.mk ((by rw [hg]; exact Nat.ne_of_lt (blk_lt (g := gb111) (o := .cells #[.int .i64 a0_0, .string a0_1, .string a0_2, .slice (some ad113) l0_3.length c0_3, .slice A0_4 l0_4.length c0_4] 25 (0, 0)) (by (with_reducible repeat (first | refine blk_drewN ?_ _ | refine blk_drew ?_ | refine blk_alloc ?_ _)); exact BK111.out)) : gb111 ≠ gb120)); have n7_ := Aside0.mk ((by rw [hg]; exact Nat.ne_of_gt (blk_lt (g := gb111) (o := .cells #[.int .i64 a0_0, .string a0_1, .string a0_2, .slice (some ad113) l0_3.length c0_3, .slice A0_4 l0_4.length c0_4] 25 (0, 0)) (by (with_reducible repeat (first | refine blk_drewN ?_ _ | refine blk_drew ?_ | refine blk_alloc ?_ _)); exact BK111.out)) : gb120 ≠ gb111)); have n8_ := Aside0.mk ((by rw [hg]; exact Nat.ne_of_lt (blk_lt (g := gb114) (o := .cells #[.string ((rd_T31 l0_3 x65_3).f0), .string ((rd_T31 l0_3 x65_3).f1)] 31 (0, 0)) (by (with_reducible repeat (first | refine blk_drewN ?_ _ | refine blk_drew ?_ | refine blk_alloc ?_ _)); exact BK114.out)) : gb114 ≠ gb120)); have n9_ := Aside0.mk ((by rw [hg]; exact Nat.ne_of_gt (blk_lt (g := gb114) (o := .cells #[.string ((rd_T31 l0_3 x65_3).f0), .string ((rd_T31 l0_3 x65_3).f1)] 31 (0, 0)) (by (with_reducible repeat (first | refine blk_drewN ?_ _ | refine blk_drew ?_ | refine blk_alloc ?_ _)); exact BK114.out)) : gb120 ≠ gb114)); clear BK111; clear BK114; clear HB; have BK111 := n0_; have BK114 := n1_; have HB := n2_; have BK120 := n3_; have GW120 := n4_; have GE120 := n5_; have NB111_120 := n6_; have NB120_111 := n7_; have NB114_120 := n8_; have NB120_114 := n9_; clear n0_ n1_ n2_ n3_ n4_ n5_ n6_ n7_ n8_ n9_; clear hb hbox hg; have hnb47 := NB120_111.out; have hnc47 := NB111_120.out; have hnb48 := NB120_114.out; have hnc48 := NB114_120.out; have hcz49_0 : w46.cell? ⟨gb120, 0, none⟩ = some (.string (⟨#[]⟩ : ByteArray)) := (blk_cell BK120.out 0).trans rfl; have hcz49_1 : w46.cell? ⟨gb120, 1, none⟩ = some (.string (⟨#[]⟩ : ByteArray)) := (blk_cell BK120.out 1).trans rfl; have hfz49_0 := blk_frozen BK120.out 0; have hfz49_1 := blk_frozen BK120.out 1; have hnb50 := NB114_111.out; have hnc50 := NB111_114.out; have hcz51_0 : w46.cell? ⟨gb114, 0, none⟩ = some (.string ((rd_T31 l0_3 x65_3).f0)) := (blk_cell BK114.out 0).trans rfl; have hcz51_1 : w46.cell? ⟨gb114, 1, none⟩ = some (.string ((rd_T31 l0_3 x65_3).f1)) := (blk_cell BK114.out 1).trans rfl; have hfz51_0 := blk_frozen BK114.out 0; have hfz51_1 := blk_frozen BK114.out 1))
                                            go_ret
                                            exact ⟨by first | rfl | (simp [errW_none, errW_some] <;> rfl) | (simp [*, errW_none, errW_some] <;> rfl), by repeat (first | (with_reducible first | exact HB.out | apply below_alloc | apply pw_below_drewN | apply below_drew1 | refine below_set ?_ GE111.out | refine below_set ?_ GE114.out | refine below_set ?_ GE120.out) | exact HB.out)⟩
                                          · rw [if_neg c45] at H
                                            have c45b0 : (((rd_T31 l0_3 x65_3).f0).toList == ((rd_T31 y115 x75_4).f0).toList) = false := beq_eq_false_iff_ne.mpr c45
                                            have c45b1 : (((rd_T31 l0_3 x65_3).f0).toList != ((rd_T31 y115 x75_4).f0).toList) = true := bne_iff_ne.mpr c45
                                            have H' := Aside0.mk H
                                            clear H
                                            have p119 : 0 ≤ (x75_4 : Int) := of_decide_eq_true (by first | (with_reducible assumption) | assumption)
                                            have q119 : x75_4 < (y115.length : Int) := of_decide_eq_true (by first | (with_reducible assumption) | assumption)
                                            obtain ⟨ad119, e119, hx119_0, hx119_1⟩ := at_T31 HR118.out x75_4 p119 q119
                                            obtain rfl : ad113 = ad119 := (by injection e119)
                                            replace hx119_0 := (HB.out.cell (World.block_lt_of_cell? w _ hx119_0)).trans hx119_0
                                            replace hx119_1 := (HB.out.cell (World.block_lt_of_cell? w _ hx119_1)).trans hx119_1
                                            replace p119 := eq_true p119
                                            replace q119 := eq_true q119
                                            go_wp2_with (first | ((with_reducible refine gate_dst (N := 8) rfl ?_); (try (refine gate_guard (by rfl) ?_; dsimp only)); refine box_event ?hg (N := 8) ?hd (cs := #[.string (⟨#[]⟩ : ByteArray), .string (⟨#[]⟩ : ByteArray)]) (t := 31) ?hr ?_; (case hd => rfl); (case hg => rfl); (case hr => first | (go_simp; done) | (go_simp; rfl)); intro gb120 hg w52 hbox hb; have n0_ := Aside0.mk (blk_below (g := gb111) (o := .cells #[.int .i64 a0_0, .string a0_1, .string a0_2, .slice (some ad113) l0_3.length c0_3, .slice A0_4 l0_4.length c0_4] 25 (0, 0)) (by (with_reducible repeat (first | refine blk_drewN ?_ _ | refine blk_drew ?_ | refine blk_alloc ?_ _)); exact BK111.out) hb); have n1_ := Aside0.mk (blk_below (g := gb114) (o := .cells #[.string ((rd_T31 l0_3 x65_3).f0), .string ((rd_T31 l0_3 x65_3).f1)] 31 (0, 0)) (by (with_reducible repeat (first | refine blk_drewN ?_ _ | refine blk_drew ?_ | refine blk_alloc ?_ _)); exact BK114.out) hb); have n2_ := Aside0.mk (below_step (by repeat (first | (with_reducible first | exact HB.out | apply below_alloc | apply pw_below_drewN | apply below_drew1 | refine below_set ?_ GE111.out | refine below_set ?_ GE114.out) | exact HB.out)) hb); have n3_ := Aside0.mk (hbox); have n4_ := Aside0.mk ((by rw [hg]; exact (below_size (by repeat (first | (with_reducible first | exact HB.out | apply below_alloc | apply pw_below_drewN | apply below_drew1 | refine below_set ?_ GE111.out | refine below_set ?_ GE114.out) | exact HB.out))) : w.heap.size ≤ gb120)); have n5_ := Aside0.mk ((by rw [hg]; exact (below_size (by repeat (first | (with_reducible first | exact HB.out | apply below_alloc | apply pw_below_drewN | apply below_drew1 | refine below_set ?_ GE111.out | refine below_set ?_ GE114.out) | exact HB.out))) : w.heap.size ≤ gb120)); have n6_ := Aside0.mk ((by rw [hg]; exact Nat.ne_of_lt (blk_lt (g := gb111) (o := .cells #[.int .i64 a0_0, .string a0_1, .string a0_2, .slice (some ad113) l0_3.length c0_3, .slice A0_4 l0_4.length c0_4] 25 (0, 0)) (by (with_reducible repeat (first | refine blk_drewN ?_ _ | refine blk_drew ?_ | refine blk_alloc ?_ _)); exact BK111.out)) : gb111 ≠ gb120)); have n7_ := Aside0.mk ((by rw [hg]; exact Nat.ne_of_gt (blk_lt (g := gb111) (o := .cells #[.int .i64 a0_0, .string a0_1, .string a0_2, .slice (some ad113) l0_3.length c0_3, .slice A0_4 l0_4.length c0_4] 25 (0, 0)) (by (with_reducible repeat (first | refine blk_drewN ?_ _ | refine blk_drew ?_ | refine blk_alloc ?_ _)); exact BK111.out)) : gb120 ≠ gb111)); have n8_ := Aside0.mk ((by rw [hg]; exact Nat.ne_of_lt (blk_lt (g := gb114) (o := .cells #[.string ((rd_T31 l0_3 x65_3).f0), .string ((rd_T31 l0_3 x65_3).f1)] 31 (0, 0)) (by (with_reducible repeat (first | refine blk_drewN ?_ _ | refine blk_drew ?_ | refine blk_alloc ?_ _)); exact BK114.out)) : gb114 ≠ gb120)); have n9_ := Aside0.mk ((by rw [hg]; exact Nat.ne_of_gt (blk_lt (g := gb114) (o := .cells #[.string ((rd_T31 l0_3 x65_3).f0), .string ((rd_T31 l0_3 x65_3).f1)] 31 (0, 0)) (by (with_reducible repeat (first | refine blk_drewN ?_ _ | refine blk_drew ?_ | refine blk_alloc ?_ _)); exact BK114.out)) : gb120 ≠ gb114)); clear BK111; clear BK114; clear HB; have BK111 := n0_; have BK114 := n1_; have HB := n2_; have BK120 := n3_; have GW120 := n4_; have GE120 := n5_; have NB111_120 := n6_; have NB120_111 := n7_; have NB114_120 := n8_; have NB120_114 := n9_; clear n0_ n1_ n2_ n3_ n4_ n5_ n6_ n7_ n8_ n9_; clear hb hbox hg; have hnb53 := NB120_111.out; have hnc53 := NB111_120.out; have hnb54 := NB120_114.out; have hnc54 := NB114_120.out; have hcz55_0 : w52.cell? ⟨gb120, 0, none⟩ = some (.string (⟨#[]⟩ : ByteArray)) := (blk_cell BK120.out 0).trans rfl; have hcz55_1 : w52.cell? ⟨gb120, 1, none⟩ = some (.string (⟨#[]⟩ : ByteArray)) := (blk_cell BK120.out 1).trans rfl; have hfz55_0 := blk_frozen BK120.out 0; have hfz55_1 := blk_frozen BK120.out 1; have hnb56 := NB114_111.out; have hnc56 := NB111_114.out; have hcz57_0 : w52.cell? ⟨gb114, 0, none⟩ = some (.string ((rd_T31 l0_3 x65_3).f0)) := (blk_cell BK114.out 0).trans rfl; have hcz57_1 : w52.cell? ⟨gb114, 1, none⟩ = some (.string ((rd_T31 l0_3 x65_3).f1)) := (blk_cell BK114.out 1).trans rfl; have hfz57_0 := blk_frozen BK114.out 0; have hfz57_1 := blk_frozen BK114.out 1))
                                            go_roundg k4
                                            case measure => have := HJ5.out; have := HJ23.out; have := HK3.out; have := HK4.out; omega
                                            case rel => exact ⟨(wrap64 (x75_4 + 1)), (by first | rfl | (simp; done) | (simp [*]; done)), H', ⟨by have := HJ5.out; have := HJ23.out; have := HK3.out; have := HK4.out; omega⟩, ⟨by (with_reducible repeat (first | refine blk_drewN ?_ _ | refine blk_drew ?_ | refine blk_alloc ?_ _)); refine blk_far ?_ NB111_120.out _; (with_reducible repeat (first | refine blk_drewN ?_ _ | refine blk_drew ?_ | refine blk_alloc ?_ _)); refine blk_far ?_ NB111_120.out _; (with_reducible repeat (first | refine blk_drewN ?_ _ | refine blk_drew ?_ | refine blk_alloc ?_ _)); exact BK111.out⟩, ⟨by (with_reducible repeat (first | refine blk_drewN ?_ _ | refine blk_drew ?_ | refine blk_alloc ?_ _)); refine blk_far ?_ NB114_120.out _; (with_reducible repeat (first | refine blk_drewN ?_ _ | refine blk_drew ?_ | refine blk_alloc ?_ _)); refine blk_far ?_ NB114_120.out _; (with_reducible repeat (first | refine blk_drewN ?_ _ | refine blk_drew ?_ | refine blk_alloc ?_ _)); exact BK114.out⟩, ⟨by repeat (first | (with_reducible first | exact HB.out | apply below_alloc | apply pw_below_drewN | apply below_drew1 | refine below_set ?_ GE111.out | refine below_set ?_ GE114.out | refine below_set ?_ GE120.out) | exact HB.out)⟩⟩
                                        · rw [if_neg c44] at H
                                          exact absurd H (by simp)
                                      · rw [if_neg c43] at H
                                        exact absurd H (by simp)
                                    · rw [if_neg c42] at H
                                      have c42b0 : decide (x75_4 < (y115.length : Int)) = false := decide_eq_false c42
                                      clear c42
                                      have H' := Aside0.mk H
                                      clear H
                                      go_wp2
                                      go_roundg k4
                                      case measure => have := HJ5.out; have := HJ23.out; have := HK3.out; have := HK4.out; omega
                                      case rel => exact ⟨(wrap64 (x65_3 + 1)), (by first | rfl | (simp; done) | (simp [*]; done)), H', ⟨by have := HJ5.out; have := HJ23.out; have := HK3.out; have := HK4.out; omega⟩, ⟨by (with_reducible repeat (first | refine blk_drewN ?_ _ | refine blk_drew ?_ | refine blk_alloc ?_ _)); exact BK111.out⟩, ⟨by repeat (first | (with_reducible first | exact HB.out | apply below_alloc | apply pw_below_drewN | apply below_drew1 | refine below_set ?_ GE111.out | refine below_set ?_ GE114.out) | exact HB.out)⟩⟩
                              · rw [if_neg c35] at H
                                exact absurd H (by simp)
                            · rw [if_neg c33] at H
                              exact absurd H (by simp)
                          · rw [if_neg c32] at H
                            exact absurd H (by simp)
                        · rw [if_neg c31] at H
                          have c31b0 : decide (x65_3 < (l0_3.length : Int)) = false := decide_eq_false c31
                          clear c31
                          have H' := Aside0.mk H
                          clear H
                          go_wp2
                          go_meet
                          case rel => exact ⟨_, H', ⟨by have := HJ5.out; have := HJ23.out; have := HK3.out; first | omega | exact Nat.le_refl _⟩, ⟨by (with_reducible repeat (first | refine blk_drewN ?_ _ | refine blk_drew ?_ | refine blk_alloc ?_ _)); exact BK111.out⟩, ⟨by repeat (first | (with_reducible first | exact HB.out | apply below_alloc | apply pw_below_drewN | apply below_drew1 | refine below_set ?_ GE111.out) | exact HB.out)⟩⟩
            · rw [if_neg c23] at H
              have c23b0 : (a0_0 == 0) = false := beq_eq_false_iff_ne.mpr c23
              have c23b1 : (a0_0 != 0) = true := bne_iff_ne.mpr c23
              obtain rfl := Option.some.inj H
              go_wp2
              go_ret
              exact ⟨by first | rfl | (simp [errW_none, errW_some] <;> rfl) | (simp [*, errW_none, errW_some] <;> rfl), by repeat (first | (with_reducible first | exact HB.out | apply below_alloc | apply pw_below_drewN | apply below_drew1 | refine below_set ?_ GE111.out) | exact HB.out)⟩
  case rest =>
    clear HC3
    try clear c1
    try clear p1
    try clear q1
    try clear hx1
    try clear c2
    try clear p2
    try clear c3
    try clear c4
    try clear q4
    try clear c5
    try clear p6
    try clear c7
    try clear c7b0
    try clear c7b1
    try clear c8
    try clear c9
    try clear c9b0
    try clear c9b1
    try clear c9b2
    try clear c10
    try clear c10b0
    try clear c10b1
    try clear p11
    try clear q11
    try clear hx11
    try clear c14
    try clear c14b0
    try clear c14b1
    try clear c15
    try clear c16
    try clear c16b0
    try clear c16b1
    try clear c17
    try clear c17b0
    try clear c17b1
    try clear c18
    try clear c18b0
    try clear c18b1
    try clear c23
    try clear c23b0
    try clear c23b1
    try clear c26
    try clear c29
    try clear c31
    try clear c31b0
    try clear c32
    try clear c32b0
    try clear c33
    try clear c33b0
    try clear c34
    try clear c34b0
    try clear c35
    try clear c35b0
    try clear c35b1
    try clear c37
    try clear q41
    try clear c42
    try clear c42b0
    try clear c43
    try clear c43b0
    try clear c44
    try clear c44b0
    try clear c45
    try clear c45b0
    try clear c45b1
    try clear c47
    try clear c48
    try clear c50
    try clear c53
    try clear c54
    try clear c56
    try clear hcz11_0
    try clear hcz11_1
    try clear hcz11_2
    try clear hcz11_3
    try clear hcz11_4
    try clear hcz12_0
    try clear hcz12_1
    try clear hcz12_2
    try clear hcz12_3
    try clear hcz12_4
    try clear hcz13_0
    try clear hcz13_1
    try clear hcz13_2
    try clear hcz13_3
    try clear hcz13_4
    try clear hcz19_0
    try clear hcz19_1
    try clear hcz19_2
    try clear hcz19_3
    try clear hcz19_4
    try clear hcz20_0
    try clear hcz20_1
    try clear hcz20_2
    try clear hcz20_3
    try clear hcz20_4
    try clear hcz21_0
    try clear hcz21_1
    try clear hcz21_2
    try clear hcz21_3
    try clear hcz21_4
    try clear hcz22_0
    try clear hcz22_1
    try clear hcz22_2
    try clear hcz22_3
    try clear hcz22_4
    try clear hcz27_0
    try clear hcz27_1
    try clear hcz27_2
    try clear hcz27_3
    try clear hcz27_4
    try clear hcz28_0
    try clear hcz28_1
    try clear hcz28_2
    try clear hcz28_3
    try clear hcz28_4
    try clear hcz30_0
    try clear hcz30_1
    try clear hcz30_2
    try clear hcz30_3
    try clear hcz30_4
    try clear hcz38_0
    try clear hcz38_1
    try clear hcz40_0
    try clear hcz40_1
    try clear hcz40_2
    try clear hcz40_3
    try clear hcz40_4
    try clear hcz49_0
    try clear hcz49_1
    try clear hcz51_0
    try clear hcz51_1
    try clear hcz55_0
    try clear hcz55_1
    try clear hcz57_0
    try clear hcz57_1
    try clear hcz5_0
    try clear hcz5_1
    try clear hcz5_2
    try clear hcz5_3
    try clear hcz5_4
    try clear hfz11_0
    try clear hfz11_1
    try clear hfz11_2
    try clear hfz11_3
    try clear hfz11_4
    try clear hfz12_0
    try clear hfz12_1
    try clear hfz12_2
    try clear hfz12_3
    try clear hfz12_4
    try clear hfz13_0
    try clear hfz13_1
    try clear hfz13_2
    try clear hfz13_3
    try clear hfz13_4
    try clear hfz19_0
    try clear hfz19_1
    try clear hfz19_2
    try clear hfz19_3
    try clear hfz19_4
    try clear hfz20_0
    try clear hfz20_1
    try clear hfz20_2
    try clear hfz20_3
    try clear hfz20_4
    try clear hfz21_0
    try clear hfz21_1
    try clear hfz21_2
    try clear hfz21_3
    try clear hfz21_4
    try clear hfz22_0
    try clear hfz22_1
    try clear hfz22_2
    try clear hfz22_3
    try clear hfz22_4
    try clear hfz27_0
    try clear hfz27_1
    try clear hfz27_2
    try clear hfz27_3
    try clear hfz27_4
    try clear hfz28_0
    try clear hfz28_1
    try clear hfz28_2
    try clear hfz28_3
    try clear hfz28_4
    try clear hfz30_0
    try clear hfz30_1
    try clear hfz30_2
    try clear hfz30_3
    try clear hfz30_4
    try clear hfz38_0
    try clear hfz38_1
    try clear hfz40_0
    try clear hfz40_1
    try clear hfz40_2
    try clear hfz40_3
    try clear hfz40_4
    try clear hfz49_0
    try clear hfz49_1
    try clear hfz51_0
    try clear hfz51_1
    try clear hfz55_0
    try clear hfz55_1
    try clear hfz57_0
    try clear hfz57_1
    try clear hfz5_0
    try clear hfz5_1
    try clear hfz5_2
    try clear hfz5_3
    try clear hfz5_4
    try clear hx113_0
    try clear hx113_1
    try clear hx119_0
    try clear hx119_1
    try clear p1
    try clear p11
    try clear p113
    try clear p119
    try clear p2
    try clear q1
    try clear q11
    try clear q113
    try clear q119
    try clear q4
    try clear q41
    obtain ⟨kq, HA, HJ2, BK111, HB⟩ := hcut
    cases kq with
    | zero => exact absurd HA.out (by simp [laws_right29.j4])
    | succ kj2 =>
      have H := HA.out
      clear HA
      simp only [laws_right29.j4] at H
      have H' := Aside0.mk H
      clear H
      have hcz58_0 : wc.cell? ⟨gb111, 0, none⟩ = some (.int .i64 a0_0) := (blk_cell BK111.out 0).trans rfl
      have hcz58_1 : wc.cell? ⟨gb111, 1, none⟩ = some (.string a0_1) := (blk_cell BK111.out 1).trans rfl
      have hcz58_2 : wc.cell? ⟨gb111, 2, none⟩ = some (.string a0_2) := (blk_cell BK111.out 2).trans rfl
      have hcz58_3 : wc.cell? ⟨gb111, 3, none⟩ = some (.slice A0_3 l0_3.length c0_3) := (blk_cell BK111.out 3).trans rfl
      have hcz58_4 : wc.cell? ⟨gb111, 4, none⟩ = some (.slice A0_4 l0_4.length c0_4) := (blk_cell BK111.out 4).trans rfl
      have hfz58_0 := blk_frozen BK111.out 0
      have hfz58_1 := blk_frozen BK111.out 1
      have hfz58_2 := blk_frozen BK111.out 2
      have hfz58_3 := blk_frozen BK111.out 3
      have hfz58_4 := blk_frozen BK111.out 4
      go_wp2
      go_loopg [89] kj2 (fun kq v89 w' => ∃ (x89_2 : Int), v89 = .int .i64 x89_2 ∧ Aside0 (laws_right29.l2 kq l0_4 (l0_4.length : Int) x89_2 = some r) ∧ Aside0 (kq ≤ kj2) ∧ Aside0 (w'.heap[gb111]? = some (.cells #[.int .i64 a0_0, .string a0_1, .string a0_2, (.slice A0_3 l0_3.length c0_3), (.slice A0_4 l0_4.length c0_4)] 25 (0, 0))) ∧ Aside0 (Below w.heap.size w w'))
      case atStart => exact ⟨(0), (by first | rfl | (simp; done) | (simp [*]; done)), H', ⟨Nat.le_refl _⟩, ⟨by (with_reducible repeat (first | refine blk_drewN ?_ _ | refine blk_drew ?_ | refine blk_alloc ?_ _)); exact BK111.out⟩, ⟨by repeat (first | (with_reducible first | exact HB.out | apply below_alloc | apply pw_below_drewN | apply below_drew1 | refine below_set ?_ GE111.out) | exact HB.out)⟩⟩
      case round =>
        clear H'
        try clear c1
        try clear p1
        try clear q1
        try clear hx1
        try clear c2
        try clear p2
        try clear c3
        try clear c4
        try clear q4
        try clear c5
        try clear p6
        try clear c7
        try clear c7b0
        try clear c7b1
        try clear c8
        try clear c9
        try clear c9b0
        try clear c9b1
        try clear c9b2
        try clear c10
        try clear c10b0
        try clear c10b1
        try clear p11
        try clear q11
        try clear hx11
        try clear c14
        try clear c14b0
        try clear c14b1
        try clear c15
        try clear c16
        try clear c16b0
        try clear c16b1
        try clear c17
        try clear c17b0
        try clear c17b1
        try clear c18
        try clear c18b0
        try clear c18b1
        try clear c23
        try clear c23b0
        try clear c23b1
        try clear c26
        try clear c29
        try clear c31
        try clear c31b0
        try clear c32
        try clear c32b0
        try clear c33
        try clear c33b0
        try clear c34
        try clear c34b0
        try clear c35
        try clear c35b0
        try clear c35b1
        try clear c37
        try clear q41
        try clear c42
        try clear c42b0
        try clear c43
        try clear c43b0
        try clear c44
        try clear c44b0
        try clear c45
        try clear c45b0
        try clear c45b1
        try clear c47
        try clear c48
        try clear c50
        try clear c53
        try clear c54
        try clear c56
        try clear hcz11_0
        try clear hcz11_1
        try clear hcz11_2
        try clear hcz11_3
        try clear hcz11_4
        try clear hcz12_0
        try clear hcz12_1
        try clear hcz12_2
        try clear hcz12_3
        try clear hcz12_4
        try clear hcz13_0
        try clear hcz13_1
        try clear hcz13_2
        try clear hcz13_3
        try clear hcz13_4
        try clear hcz19_0
        try clear hcz19_1
        try clear hcz19_2
        try clear hcz19_3
        try clear hcz19_4
        try clear hcz20_0
        try clear hcz20_1
        try clear hcz20_2
        try clear hcz20_3
        try clear hcz20_4
        try clear hcz21_0
        try clear hcz21_1
        try clear hcz21_2
        try clear hcz21_3
        try clear hcz21_4
        try clear hcz22_0
        try clear hcz22_1
        try clear hcz22_2
        try clear hcz22_3
        try clear hcz22_4
        try clear hcz27_0
        try clear hcz27_1
        try clear hcz27_2
        try clear hcz27_3
        try clear hcz27_4
        try clear hcz28_0
        try clear hcz28_1
        try clear hcz28_2
        try clear hcz28_3
        try clear hcz28_4
        try clear hcz30_0
        try clear hcz30_1
        try clear hcz30_2
        try clear hcz30_3
        try clear hcz30_4
        try clear hcz38_0
        try clear hcz38_1
        try clear hcz40_0
        try clear hcz40_1
        try clear hcz40_2
        try clear hcz40_3
        try clear hcz40_4
        try clear hcz49_0
        try clear hcz49_1
        try clear hcz51_0
        try clear hcz51_1
        try clear hcz55_0
        try clear hcz55_1
        try clear hcz57_0
        try clear hcz57_1
        try clear hcz58_0
        try clear hcz58_1
        try clear hcz58_2
        try clear hcz58_3
        try clear hcz58_4
        try clear hcz5_0
        try clear hcz5_1
        try clear hcz5_2
        try clear hcz5_3
        try clear hcz5_4
        try clear hfz11_0
        try clear hfz11_1
        try clear hfz11_2
        try clear hfz11_3
        try clear hfz11_4
        try clear hfz12_0
        try clear hfz12_1
        try clear hfz12_2
        try clear hfz12_3
        try clear hfz12_4
        try clear hfz13_0
        try clear hfz13_1
        try clear hfz13_2
        try clear hfz13_3
        try clear hfz13_4
        try clear hfz19_0
        try clear hfz19_1
        try clear hfz19_2
        try clear hfz19_3
        try clear hfz19_4
        try clear hfz20_0
        try clear hfz20_1
        try clear hfz20_2
        try clear hfz20_3
        try clear hfz20_4
        try clear hfz21_0
        try clear hfz21_1
        try clear hfz21_2
        try clear hfz21_3
        try clear hfz21_4
        try clear hfz22_0
        try clear hfz22_1
        try clear hfz22_2
        try clear hfz22_3
        try clear hfz22_4
        try clear hfz27_0
        try clear hfz27_1
        try clear hfz27_2
        try clear hfz27_3
        try clear hfz27_4
        try clear hfz28_0
        try clear hfz28_1
        try clear hfz28_2
        try clear hfz28_3
        try clear hfz28_4
        try clear hfz30_0
        try clear hfz30_1
        try clear hfz30_2
        try clear hfz30_3
        try clear hfz30_4
        try clear hfz38_0
        try clear hfz38_1
        try clear hfz40_0
        try clear hfz40_1
        try clear hfz40_2
        try clear hfz40_3
        try clear hfz40_4
        try clear hfz49_0
        try clear hfz49_1
        try clear hfz51_0
        try clear hfz51_1
        try clear hfz55_0
        try clear hfz55_1
        try clear hfz57_0
        try clear hfz57_1
        try clear hfz58_0
        try clear hfz58_1
        try clear hfz58_2
        try clear hfz58_3
        try clear hfz58_4
        try clear hfz5_0
        try clear hfz5_1
        try clear hfz5_2
        try clear hfz5_3
        try clear hfz5_4
        try clear hx113_0
        try clear hx113_1
        try clear hx119_0
        try clear hx119_1
        try clear p1
        try clear p11
        try clear p113
        try clear p119
        try clear p2
        try clear p6
        try clear q1
        try clear q11
        try clear q113
        try clear q119
        try clear q4
        try clear q41
        obtain ⟨x89_2, rfl, HA, HK2, BK111, HB⟩ := hrel
        cases gk with
        | zero => exact absurd HA.out (by simp [laws_right29.l2])
        | succ k2 =>
          have H := HA.out
          clear HA
          simp only [laws_right29.l2] at H
          by_cases c59 : x89_2 < (l0_4.length : Int)
          · rw [if_pos c59] at H
            have c59b0 : decide (x89_2 < (l0_4.length : Int)) = true := decide_eq_true c59
            clear c59
            by_cases c60 : 0 ≤ x89_2
            · rw [if_pos c60] at H
              have c60b0 : decide (0 ≤ x89_2) = true := decide_eq_true c60
              clear c60
              by_cases c61 : x89_2 < (l0_4.length : Int)
              · rw [if_pos c61] at H
                have c61b0 : decide (x89_2 < (l0_4.length : Int)) = true := decide_eq_true c61
                clear c61
                replace H := Option.bind_eq_some_iff.mp H
                obtain ⟨t123, A620, H⟩ := H
                replace H : (if t123 = true then (laws_right29.l2 k2 l0_4 (l0_4.length : Int) (wrap64 (x89_2 + 1))) else (some false)) = some r := H
                have A62 := Aside0.mk A620
                clear A620
                by_cases c63 : t123 = true
                · subst c63
                  have H1 : (laws_right29.l2 k2 l0_4 (l0_4.length : Int) (wrap64 (x89_2 + 1))) = some r := by rw [if_pos rfl] at H; exact H
                  clear H
                  have H := H1
                  clear H1
                  have H' := Aside0.mk H
                  clear H
                  have p121 : 0 ≤ (x89_2 : Int) := of_decide_eq_true (by first | (with_reducible assumption) | assumption)
                  have q121 : x89_2 < (l0_4.length : Int) := of_decide_eq_true (by first | (with_reducible assumption) | assumption)
                  obtain ⟨ad121, A121_3, c121_3, A121_4, c121_4, e121, hx121_0, hx121_1, hx121_2, hx121_3, hx121_4, hl121_3, hi121_3, hl121_4, hi121_4⟩ := at_T25 HR0_4.out x89_2 p121 q121
                  cases e121
                  replace hx121_0 := (HB.out.cell (World.block_lt_of_cell? w _ hx121_0)).trans hx121_0
                  replace hx121_1 := (HB.out.cell (World.block_lt_of_cell? w _ hx121_1)).trans hx121_1
                  replace hx121_2 := (HB.out.cell (World.block_lt_of_cell? w _ hx121_2)).trans hx121_2
                  replace hx121_3 := (HB.out.cell (World.block_lt_of_cell? w _ hx121_3)).trans hx121_3
                  replace hx121_4 := (HB.out.cell (World.block_lt_of_cell? w _ hx121_4)).trans hx121_4
                  have HR121_3 := Aside0.mk hi121_3
                  have HC121_3 := Aside0.mk hl121_3
                  clear hi121_3 hl121_3
                  have HR121_4 := Aside0.mk hi121_4
                  have HC121_4 := Aside0.mk hl121_4
                  clear hi121_4 hl121_4
                  replace p121 := eq_true p121
                  replace q121 := eq_true q121
                  go_wp2_with (first | ((with_reducible refine gate_dst (N := 10) rfl ?_); (try (refine gate_guard (by rfl) ?_; dsimp only)); refine box_event ?hg (N := 10) ?hd (cs := #[.int .i64 0, .string (⟨#[]⟩ : ByteArray), .string (⟨#[]⟩ : ByteArray), .slice none 0 0, .slice none 0 0]) (t := 25) ?hr ?_; (case hd => rfl); (case hg => rfl); (case hr => first | (go_simp; done) | (go_simp; rfl)); intro gb122 hg w64 hbox hb; have n0_ := Aside0.mk (blk_below (g := gb111) (o := .cells #[.int .i64 a0_0, .string a0_1, .string a0_2, .slice A0_3 l0_3.length c0_3, .slice (some ad121) l0_4.length c0_4] 25 (0, 0)) (by (with_reducible repeat (first | refine blk_drewN ?_ _ | refine blk_drew ?_ | refine blk_alloc ?_ _)); exact BK111.out) hb); have n1_ := Aside0.mk (below_step (by repeat (first | (with_reducible first | exact HB.out | apply below_alloc | apply pw_below_drewN | apply below_drew1 | refine below_set ?_ GE111.out) | exact HB.out)) hb); have n2_ := Aside0.mk (hbox); have n3_ := Aside0.mk ((by rw [hg]; exact (below_size (by repeat (first | (with_reducible first | exact HB.out | apply below_alloc | apply pw_below_drewN | apply below_drew1 | refine below_set ?_ GE111.out) | exact HB.out))) : w.heap.size ≤ gb122)); have n4_ := Aside0.mk ((by rw [hg]; exact (below_size (by repeat (first | (with_reducible first | exact HB.out | apply below_alloc | apply pw_below_drewN | apply below_drew1 | refine below_set ?_ GE111.out) | exact HB.out))) : w.heap.size ≤ gb122)); have n5_ := Aside0.mk ((by rw [hg]; exact Nat.ne_of_lt (blk_lt (g := gb111) (o := .cells #[.int .i64 a0_0, .string a0_1, .string a0_2, .slice A0_3 l0_3.length c0_3, .slice (some ad121) l0_4.length c0_4] 25 (0, 0)) (by (with_reducible repeat (first | refine blk_drewN ?_ _ | refine blk_drew ?_ | refine blk_alloc ?_ _)); exact BK111.out)) : gb111 ≠ gb122)); have n6_ := Aside0.mk ((by rw [hg]; exact Nat.ne_of_gt (blk_lt (g := gb111) (o := .cells #[.int .i64 a0_0, .string a0_1, .string a0_2, .slice A0_3 l0_3.length c0_3, .slice (some ad121) l0_4.length c0_4] 25 (0, 0)) (by (with_reducible repeat (first | refine blk_drewN ?_ _ | refine blk_drew ?_ | refine blk_alloc ?_ _)); exact BK111.out)) : gb122 ≠ gb111)); clear BK111; clear HB; have BK111 := n0_; have HB := n1_; have BK122 := n2_; have GW122 := n3_; have GE122 := n4_; have NB111_122 := n5_; have NB122_111 := n6_; clear n0_ n1_ n2_ n3_ n4_ n5_ n6_; clear hb hbox hg; have hnb65 := NB122_111.out; have hnc65 := NB111_122.out; have hcz66_0 : w64.cell? ⟨gb122, 0, none⟩ = some (.int .i64 0) := (blk_cell BK122.out 0).trans rfl; have hcz66_1 : w64.cell? ⟨gb122, 1, none⟩ = some (.string (⟨#[]⟩ : ByteArray)) := (blk_cell BK122.out 1).trans rfl; have hcz66_2 : w64.cell? ⟨gb122, 2, none⟩ = some (.string (⟨#[]⟩ : ByteArray)) := (blk_cell BK122.out 2).trans rfl; have hcz66_3 : w64.cell? ⟨gb122, 3, none⟩ = some (.slice none 0 0) := (blk_cell BK122.out 3).trans rfl; have hcz66_4 : w64.cell? ⟨gb122, 4, none⟩ = some (.slice none 0 0) := (blk_cell BK122.out 4).trans rfl; have hfz66_0 := blk_frozen BK122.out 0; have hfz66_1 := blk_frozen BK122.out 1; have hfz66_2 := blk_frozen BK122.out 2; have hfz66_3 := blk_frozen BK122.out 3; have hfz66_4 := blk_frozen BK122.out 4) | ((with_reducible refine gate_callee (f := 16) rfl ?_); refine goesL_ (some 94) rfl rfl Tryd.func16 (by kernel_rfl) rfl #[.agg #[.int .i64 ((rd_T25 l0_4 x89_2).f0), .string ((rd_T25 l0_4 x89_2).f1), .string ((rd_T25 l0_4 x89_2).f2), .slice A121_3 ((rd_T25 l0_4 x89_2).f3).length c121_3, .slice A121_4 ((rd_T25 l0_4 x89_2).f4).length c121_4], .bool false] rfl (by (try simp only [List.map_toArray, List.map_cons, List.map_nil]); first | done | rfl | (simp only [List.length_drop, List.length_take]; rfl)) ?_; (with_reducible refine (ih k2 (by have := HJ2.out; have := HK2.out; omega) ((rd_T25 l0_4 x89_2).f0) ((rd_T25 l0_4 x89_2).f1) ((rd_T25 l0_4 x89_2).f2) _ _ ((rd_T25 l0_4 x89_2).f3) _ _ ((rd_T25 l0_4 x89_2).f4) false true _ ?side1 ?side2 ?side3 ?side4 A62.out).mono ?_); (case side1 => exact Kd.C_below HR121_3.out (by repeat (first | (with_reducible first | exact HB.out | apply below_alloc | apply pw_below_drewN | apply below_drew1 | refine below_set ?_ GE111.out | refine below_set ?_ GE122.out) | exact HB.out))); (case side2 => exact HC121_3.out); (case side3 => exact Kd.C_below HR121_4.out (by repeat (first | (with_reducible first | exact HB.out | apply below_alloc | apply pw_below_drewN | apply below_drew1 | refine below_set ?_ GE111.out | refine below_set ?_ GE122.out) | exact HB.out))); (case side4 => exact HC121_4.out); rintro e w67 ⟨rfl, hb⟩; refine ⟨_, rfl, ?_⟩; have n0_ := Aside0.mk (blk_below (g := gb111) (o := .cells #[.int .i64 a0_0, .string a0_1, .string a0_2, .slice A0_3 l0_3.length c0_3, .slice (some ad121) l0_4.length c0_4] 25 (0, 0)) (by (with_reducible repeat (first | refine blk_drewN ?_ _ | refine blk_drew ?_ | refine blk_alloc ?_ _)); refine blk_far ?_ NB111_122.out _; (with_reducible repeat (first | refine blk_drewN ?_ _ | refine blk_drew ?_ | refine blk_alloc ?_ _)); refine blk_far ?_ NB111_122.out _; (with_reducible repeat (first | refine blk_drewN ?_ _ | refine blk_drew ?_ | refine blk_alloc ?_ _)); refine blk_far ?_ NB111_122.out _; (with_reducible repeat (first | refine blk_drewN ?_ _ | refine blk_drew ?_ | refine blk_alloc ?_ _)); refine blk_far ?_ NB111_122.out _; (with_reducible repeat (first | refine blk_drewN ?_ _ | refine blk_drew ?_ | refine blk_alloc ?_ _)); refine blk_far ?_ NB111_122.out _; (with_reducible repeat (first | refine blk_drewN ?_ _ | refine blk_drew ?_ | refine blk_alloc ?_ _)); exact BK111.out) hb); have n1_ := Aside0.mk (blk_below (g := gb122) (o := .cells #[.int .i64 ((rd_T25 l0_4 x89_2).f0), .string ((rd_T25 l0_4 x89_2).f1), .string ((rd_T25 l0_4 x89_2).f2), .slice A121_3 ((rd_T25 l0_4 x89_2).f3).length c121_3, .slice A121_4 ((rd_T25 l0_4 x89_2).f4).length c121_4] 25 (0, 0)) (by (with_reducible repeat (first | refine blk_drewN ?_ _ | refine blk_drew ?_ | refine blk_alloc ?_ _)); refine blk_put (cs := #[.int .i64 ((rd_T25 l0_4 x89_2).f0), .string ((rd_T25 l0_4 x89_2).f1), .string ((rd_T25 l0_4 x89_2).f2), .slice A121_3 ((rd_T25 l0_4 x89_2).f3).length c121_3, .slice none 0 0]) ?_ 4 _ rfl; (with_reducible repeat (first | refine blk_drewN ?_ _ | refine blk_drew ?_ | refine blk_alloc ?_ _)); refine blk_put (cs := #[.int .i64 ((rd_T25 l0_4 x89_2).f0), .string ((rd_T25 l0_4 x89_2).f1), .string ((rd_T25 l0_4 x89_2).f2), .slice none 0 0, .slice none 0 0]) ?_ 3 _ rfl; (with_reducible repeat (first | refine blk_drewN ?_ _ | refine blk_drew ?_ | refine blk_alloc ?_ _)); refine blk_put (cs := #[.int .i64 ((rd_T25 l0_4 x89_2).f0), .string ((rd_T25 l0_4 x89_2).f1), .string (⟨#[]⟩ : ByteArray), .slice none 0 0, .slice none 0 0]) ?_ 2 _ rfl; (with_reducible repeat (first | refine blk_drewN ?_ _ | refine blk_drew ?_ | refine blk_alloc ?_ _)); refine blk_put (cs := #[.int .i64 ((rd_T25 l0_4 x89_2).f0), .string (⟨#[]⟩ : ByteArray), .string (⟨#[]⟩ : ByteArray), .slice none 0 0, .slice none 0 0]) ?_ 1 _ rfl; (with_reducible repeat (first | refine blk_drewN ?_ _ | refine blk_drew ?_ | refine blk_alloc ?_ _)); refine blk_put (cs := #[.int .i64 0, .string (⟨#[]⟩ : ByteArray), .string (⟨#[]⟩ : ByteArray), .slice none 0 0, .slice none 0 0]) ?_ 0 _ rfl; (with_reducible repeat (first | refine blk_drewN ?_ _ | refine blk_drew ?_ | refine blk_alloc ?_ _)); exact BK122.out) hb); have n2_ := Aside0.mk (below_step (by repeat (first | (with_reducible first | exact HB.out | apply below_alloc | apply pw_below_drewN | apply below_drew1 | refine below_set ?_ GE111.out | refine below_set ?_ GE122.out) | exact HB.out)) hb); clear BK111; clear BK122; clear HB; have BK111 := n0_; have BK122 := n1_; have HB := n2_; clear n0_ n1_ n2_; (try clear hb); (try clear hb2); (try clear hk); (try clear hi)))
                  go_roundg k2
                  case measure => have := HJ2.out; have := HK2.out; omega
                  case rel => exact ⟨(wrap64 (x89_2 + 1)), (by first | rfl | (simp; done) | (simp [*]; done)), H', ⟨by have := HJ2.out; have := HK2.out; omega⟩, ⟨by (with_reducible repeat (first | refine blk_drewN ?_ _ | refine blk_drew ?_ | refine blk_alloc ?_ _)); exact BK111.out⟩, ⟨by repeat (first | (with_reducible first | exact HB.out | apply below_alloc | apply pw_below_drewN | apply below_drew1 | refine below_set ?_ GE111.out | refine below_set ?_ GE122.out) | exact HB.out)⟩⟩
                · replace c63 := Bool.eq_false_iff.mpr c63
                  subst c63
                  have H1 : (some false) = some r := by rw [if_neg (show ¬ (false = true) by decide)] at H; exact H
                  clear H
                  have H := H1
                  clear H1
                  obtain rfl := Option.some.inj H
                  have p121 : 0 ≤ (x89_2 : Int) := of_decide_eq_true (by first | (with_reducible assumption) | assumption)
                  have q121 : x89_2 < (l0_4.length : Int) := of_decide_eq_true (by first | (with_reducible assumption) | assumption)
                  obtain ⟨ad121, A121_3, c121_3, A121_4, c121_4, e121, hx121_0, hx121_1, hx121_2, hx121_3, hx121_4, hl121_3, hi121_3, hl121_4, hi121_4⟩ := at_T25 HR0_4.out x89_2 p121 q121
                  cases e121
                  replace hx121_0 := (HB.out.cell (World.block_lt_of_cell? w _ hx121_0)).trans hx121_0
                  replace hx121_1 := (HB.out.cell (World.block_lt_of_cell? w _ hx121_1)).trans hx121_1
                  replace hx121_2 := (HB.out.cell (World.block_lt_of_cell? w _ hx121_2)).trans hx121_2
                  replace hx121_3 := (HB.out.cell (World.block_lt_of_cell? w _ hx121_3)).trans hx121_3
                  replace hx121_4 := (HB.out.cell (World.block_lt_of_cell? w _ hx121_4)).trans hx121_4
                  have HR121_3 := Aside0.mk hi121_3
                  have HC121_3 := Aside0.mk hl121_3
                  clear hi121_3 hl121_3
                  have HR121_4 := Aside0.mk hi121_4
                  have HC121_4 := Aside0.mk hl121_4
                  clear hi121_4 hl121_4
                  replace p121 := eq_true p121
                  replace q121 := eq_true q121
                  go_wp2_with (first | ((with_reducible refine gate_dst (N := 10) rfl ?_); (try (refine gate_guard (by rfl) ?_; dsimp only)); refine box_event ?hg (N := 10) ?hd (cs := #[.int .i64 0, .string (⟨#[]⟩ : ByteArray), .string (⟨#[]⟩ : ByteArray), .slice none 0 0, .slice none 0 0]) (t := 25) ?hr ?_; (case hd => rfl); (case hg => rfl); (case hr => first | (go_simp; done) | (go_simp; rfl)); intro gb122 hg w68 hbox hb; have n0_ := Aside0.mk (blk_below (g := gb111) (o := .cells #[.int .i64 a0_0, .string a0_1, .string a0_2, .slice A0_3 l0_3.length c0_3, .slice (some ad121) l0_4.length c0_4] 25 (0, 0)) (by (with_reducible repeat (first | refine blk_drewN ?_ _ | refine blk_drew ?_ | refine blk_alloc ?_ _)); exact BK111.out) hb); have n1_ := Aside0.mk (below_step (by repeat (first | (with_reducible first | exact HB.out | apply below_alloc | apply pw_below_drewN | apply below_drew1 | refine below_set ?_ GE111.out) | exact HB.out)) hb); have n2_ := Aside0.mk (hbox); have n3_ := Aside0.mk ((by rw [hg]; exact (below_size (by repeat (first | (with_reducible first | exact HB.out | apply below_alloc | apply pw_below_drewN | apply below_drew1 | refine below_set ?_ GE111.out) | exact HB.out))) : w.heap.size ≤ gb122)); have n4_ := Aside0.mk ((by rw [hg]; exact (below_size (by repeat (first | (with_reducible first | exact HB.out | apply below_alloc | apply pw_below_drewN | apply below_drew1 | refine below_set ?_ GE111.out) | exact HB.out))) : w.heap.size ≤ gb122)); have n5_ := Aside0.mk ((by rw [hg]; exact Nat.ne_of_lt (blk_lt (g := gb111) (o := .cells #[.int .i64 a0_0, .string a0_1, .string a0_2, .slice A0_3 l0_3.length c0_3, .slice (some ad121) l0_4.length c0_4] 25 (0, 0)) (by (with_reducible repeat (first | refine blk_drewN ?_ _ | refine blk_drew ?_ | refine blk_alloc ?_ _)); exact BK111.out)) : gb111 ≠ gb122)); have n6_ := Aside0.mk ((by rw [hg]; exact Nat.ne_of_gt (blk_lt (g := gb111) (o := .cells #[.int .i64 a0_0, .string a0_1, .string a0_2, .slice A0_3 l0_3.length c0_3, .slice (some ad121) l0_4.length c0_4] 25 (0, 0)) (by (with_reducible repeat (first | refine blk_drewN ?_ _ | refine blk_drew ?_ | refine blk_alloc ?_ _)); exact BK111.out)) : gb122 ≠ gb111)); clear BK111; clear HB; have BK111 := n0_; have HB := n1_; have BK122 := n2_; have GW122 := n3_; have GE122 := n4_; have NB111_122 := n5_; have NB122_111 := n6_; clear n0_ n1_ n2_ n3_ n4_ n5_ n6_; clear hb hbox hg; have hnb69 := NB122_111.out; have hnc69 := NB111_122.out; have hcz70_0 : w68.cell? ⟨gb122, 0, none⟩ = some (.int .i64 0) := (blk_cell BK122.out 0).trans rfl; have hcz70_1 : w68.cell? ⟨gb122, 1, none⟩ = some (.string (⟨#[]⟩ : ByteArray)) := (blk_cell BK122.out 1).trans rfl; have hcz70_2 : w68.cell? ⟨gb122, 2, none⟩ = some (.string (⟨#[]⟩ : ByteArray)) := (blk_cell BK122.out 2).trans rfl; have hcz70_3 : w68.cell? ⟨gb122, 3, none⟩ = some (.slice none 0 0) := (blk_cell BK122.out 3).trans rfl; have hcz70_4 : w68.cell? ⟨gb122, 4, none⟩ = some (.slice none 0 0) := (blk_cell BK122.out 4).trans rfl; have hfz70_0 := blk_frozen BK122.out 0; have hfz70_1 := blk_frozen BK122.out 1; have hfz70_2 := blk_frozen BK122.out 2; have hfz70_3 := blk_frozen BK122.out 3; have hfz70_4 := blk_frozen BK122.out 4) | ((with_reducible refine gate_callee (f := 16) rfl ?_); refine goesL_ (some 94) rfl rfl Tryd.func16 (by kernel_rfl) rfl #[.agg #[.int .i64 ((rd_T25 l0_4 x89_2).f0), .string ((rd_T25 l0_4 x89_2).f1), .string ((rd_T25 l0_4 x89_2).f2), .slice A121_3 ((rd_T25 l0_4 x89_2).f3).length c121_3, .slice A121_4 ((rd_T25 l0_4 x89_2).f4).length c121_4], .bool false] rfl (by (try simp only [List.map_toArray, List.map_cons, List.map_nil]); first | done | rfl | (simp only [List.length_drop, List.length_take]; rfl)) ?_; (with_reducible refine (ih k2 (by have := HJ2.out; have := HK2.out; omega) ((rd_T25 l0_4 x89_2).f0) ((rd_T25 l0_4 x89_2).f1) ((rd_T25 l0_4 x89_2).f2) _ _ ((rd_T25 l0_4 x89_2).f3) _ _ ((rd_T25 l0_4 x89_2).f4) false false _ ?side1 ?side2 ?side3 ?side4 A62.out).mono ?_); (case side1 => exact Kd.C_below HR121_3.out (by repeat (first | (with_reducible first | exact HB.out | apply below_alloc | apply pw_below_drewN | apply below_drew1 | refine below_set ?_ GE111.out | refine below_set ?_ GE122.out) | exact HB.out))); (case side2 => exact HC121_3.out); (case side3 => exact Kd.C_below HR121_4.out (by repeat (first | (with_reducible first | exact HB.out | apply below_alloc | apply pw_below_drewN | apply below_drew1 | refine below_set ?_ GE111.out | refine below_set ?_ GE122.out) | exact HB.out))); (case side4 => exact HC121_4.out); rintro e w71 ⟨rfl, hb⟩; refine ⟨_, rfl, ?_⟩; have n0_ := Aside0.mk (blk_below (g := gb111) (o := .cells #[.int .i64 a0_0, .string a0_1, .string a0_2, .slice A0_3 l0_3.length c0_3, .slice (some ad121) l0_4.length c0_4] 25 (0, 0)) (by (with_reducible repeat (first | refine blk_drewN ?_ _ | refine blk_drew ?_ | refine blk_alloc ?_ _)); refine blk_far ?_ NB111_122.out _; (with_reducible repeat (first | refine blk_drewN ?_ _ | refine blk_drew ?_ | refine blk_alloc ?_ _)); refine blk_far ?_ NB111_122.out _; (with_reducible repeat (first | refine blk_drewN ?_ _ | refine blk_drew ?_ | refine blk_alloc ?_ _)); refine blk_far ?_ NB111_122.out _; (with_reducible repeat (first | refine blk_drewN ?_ _ | refine blk_drew ?_ | refine blk_alloc ?_ _)); refine blk_far ?_ NB111_122.out _; (with_reducible repeat (first | refine blk_drewN ?_ _ | refine blk_drew ?_ | refine blk_alloc ?_ _)); refine blk_far ?_ NB111_122.out _; (with_reducible repeat (first | refine blk_drewN ?_ _ | refine blk_drew ?_ | refine blk_alloc ?_ _)); exact BK111.out) hb); have n1_ := Aside0.mk (blk_below (g := gb122) (o := .cells #[.int .i64 ((rd_T25 l0_4 x89_2).f0), .string ((rd_T25 l0_4 x89_2).f1), .string ((rd_T25 l0_4 x89_2).f2), .slice A121_3 ((rd_T25 l0_4 x89_2).f3).length c121_3, .slice A121_4 ((rd_T25 l0_4 x89_2).f4).length c121_4] 25 (0, 0)) (by (with_reducible repeat (first | refine blk_drewN ?_ _ | refine blk_drew ?_ | refine blk_alloc ?_ _)); refine blk_put (cs := #[.int .i64 ((rd_T25 l0_4 x89_2).f0), .string ((rd_T25 l0_4 x89_2).f1), .string ((rd_T25 l0_4 x89_2).f2), .slice A121_3 ((rd_T25 l0_4 x89_2).f3).length c121_3, .slice none 0 0]) ?_ 4 _ rfl; (with_reducible repeat (first | refine blk_drewN ?_ _ | refine blk_drew ?_ | refine blk_alloc ?_ _)); refine blk_put (cs := #[.int .i64 ((rd_T25 l0_4 x89_2).f0), .string ((rd_T25 l0_4 x89_2).f1), .string ((rd_T25 l0_4 x89_2).f2), .slice none 0 0, .slice none 0 0]) ?_ 3 _ rfl; (with_reducible repeat (first | refine blk_drewN ?_ _ | refine blk_drew ?_ | refine blk_alloc ?_ _)); refine blk_put (cs := #[.int .i64 ((rd_T25 l0_4 x89_2).f0), .string ((rd_T25 l0_4 x89_2).f1), .string (⟨#[]⟩ : ByteArray), .slice none 0 0, .slice none 0 0]) ?_ 2 _ rfl; (with_reducible repeat (first | refine blk_drewN ?_ _ | refine blk_drew ?_ | refine blk_alloc ?_ _)); refine blk_put (cs := #[.int .i64 ((rd_T25 l0_4 x89_2).f0), .string (⟨#[]⟩ : ByteArray), .string (⟨#[]⟩ : ByteArray), .slice none 0 0, .slice none 0 0]) ?_ 1 _ rfl; (with_reducible repeat (first | refine blk_drewN ?_ _ | refine blk_drew ?_ | refine blk_alloc ?_ _)); refine blk_put (cs := #[.int .i64 0, .string (⟨#[]⟩ : ByteArray), .string (⟨#[]⟩ : ByteArray), .slice none 0 0, .slice none 0 0]) ?_ 0 _ rfl; (with_reducible repeat (first | refine blk_drewN ?_ _ | refine blk_drew ?_ | refine blk_alloc ?_ _)); exact BK122.out) hb); have n2_ := Aside0.mk (below_step (by repeat (first | (with_reducible first | exact HB.out | apply below_alloc | apply pw_below_drewN | apply below_drew1 | refine below_set ?_ GE111.out | refine below_set ?_ GE122.out) | exact HB.out)) hb); clear BK111; clear BK122; clear HB; have BK111 := n0_; have BK122 := n1_; have HB := n2_; clear n0_ n1_ n2_; (try clear hb); (try clear hb2); (try clear hk); (try clear hi)))
                  go_ret
                  exact ⟨by first | rfl | (simp [errW_none, errW_some] <;> rfl) | (simp [*, errW_none, errW_some] <;> rfl), by repeat (first | (with_reducible first | exact HB.out | apply below_alloc | apply pw_below_drewN | apply below_drew1 | refine below_set ?_ GE111.out | refine below_set ?_ GE122.out) | exact HB.out)⟩
              · rw [if_neg c61] at H
                exact absurd H (by simp)
            · rw [if_neg c60] at H
              exact absurd H (by simp)
          · rw [if_neg c59] at H
            have c59b0 : decide (x89_2 < (l0_4.length : Int)) = false := decide_eq_false c59
            clear c59
            obtain rfl := Option.some.inj H
            go_wp2
            go_ret
            exact ⟨by first | rfl | (simp [errW_none, errW_some] <;> rfl) | (simp [*, errW_none, errW_some] <;> rfl), by repeat (first | (with_reducible first | exact HB.out | apply below_alloc | apply pw_below_drewN | apply below_drew1 | refine below_set ?_ GE111.out) | exact HB.out)⟩
end Go.Proofs.YtibfoaahdbdogaaDoor.PDom
