/- A page's nodes as a table: parents, children, and what each node's block in memory holds; what the three changes of a tree make of it. Plain facts on tables, and on memory that holds one. -/
import Derived.Test.YtibfoaahdbdogaaWMore
import Derived.Test.YtibfoaahdbdogaaProg
namespace Go.Proofs.Ytibfoaahdbdogaa.Dom
open Go.RowKit Go.Proofs.YtibfoaahdbdogaaW.PrintWords Go.Proofs.YtibfoaahdbdogaaW.PrintLast Go.Proofs.YtibfoaahdbdogaaW.PrintMore
set_option linter.unusedVariables false
set_option linter.unusedSimpArgs false

/-! ### Neighbours in a list -/
def nextIn : List Nat → Nat → Option Nat
  | [], _ => none
  | x :: l, b => if x = b then l.head? else nextIn l b
def prevIn (l : List Nat) (b : Nat) : Option Nat := nextIn l.reverse b
theorem nextIn_split {l1 l2 : List Nat} {b : Nat} (h : b ∉ l1) : nextIn (l1 ++ b :: l2) b = l2.head? := by
  induction l1 with
  | nil => simp [nextIn]
  | cons x l1 ih =>
    have hx : ¬ x = b := fun e => h (by simp [e])
    simp only [List.cons_append, nextIn, if_neg hx]
    exact ih fun hb => h (List.mem_cons_of_mem _ hb)
theorem prevIn_split {l1 l2 : List Nat} {b : Nat} (h : b ∉ l2) : prevIn (l1 ++ b :: l2) b = l1.getLast? := by
  unfold prevIn
  rw [List.reverse_append, List.reverse_cons, List.append_assoc, List.singleton_append, nextIn_split (by simpa using h), List.head?_reverse]
theorem nodup_split {l1 l2 : List Nat} {b : Nat} (h : (l1 ++ b :: l2).Nodup) : b ∉ l1 ∧ b ∉ l2 ∧ (l1 ++ l2).Nodup := by
  rw [List.nodup_append] at h
  obtain ⟨h1, h2, h3⟩ := h
  rw [List.nodup_cons] at h2
  refine ⟨fun hb => h3 b hb b (by simp) rfl, h2.1, ?_⟩
  rw [List.nodup_append]
  exact ⟨h1, h2.2, fun x hx y hy => h3 x hx y (List.mem_cons_of_mem _ hy)⟩

/-! ### A node's block -/
def ptr : Option Nat → Value
  | none => .pointer none
  | some b => .pointer (some ⟨b, 0, none⟩)
structure Rec where
  parent : Option Nat
  first : Option Nat
  last : Option Nat
  prev : Option Nat
  next : Option Nat
  ty : Int
  atom : Int
  data : ByteArray
  attr : Value
def Rec.cells (r : Rec) : Array Value := #[ptr r.parent, ptr r.first, ptr r.last, ptr r.prev, ptr r.next, .int .u32 r.ty, .int .u32 r.atom, .string r.data, .string ⟨#[]⟩, r.attr]
/-- The block b holds the node r. -/
def Has (w : World) (b : Nat) (r : Rec) : Prop := w.heap[b]? = some (.cells r.cells 86 (0, 0))
section
variable {w w1 : World} {b : Nat} {r : Rec}
theorem Has.lt (h : Has w b r) : b < w.heap.size := (Array.getElem?_eq_some_iff.1 h).1
theorem Has.cell (h : Has w b r) (i : Nat) : w.cell? ⟨b, i, none⟩ = r.cells[i]? := blk_cell h i
theorem Has.frozen (h : Has w b r) (i : Nat) : w.frozen? ⟨b, i, none⟩ = false := blk_frozen h i
theorem Has.cells10 (h : Has w b r) : w.cell? ⟨b, 0, none⟩ = some (ptr r.parent) ∧ w.cell? ⟨b, 1, none⟩ = some (ptr r.first) ∧ w.cell? ⟨b, 2, none⟩ = some (ptr r.last) ∧ w.cell? ⟨b, 3, none⟩ = some (ptr r.prev) ∧ w.cell? ⟨b, 4, none⟩ = some (ptr r.next) ∧
    w.cell? ⟨b, 5, none⟩ = some (.int .u32 r.ty) ∧ w.cell? ⟨b, 6, none⟩ = some (.int .u32 r.atom) ∧ w.cell? ⟨b, 7, none⟩ = some (.string r.data) ∧ w.cell? ⟨b, 8, none⟩ = some (.string ⟨#[]⟩) ∧ w.cell? ⟨b, 9, none⟩ = some r.attr :=
  ⟨h.cell 0, h.cell 1, h.cell 2, h.cell 3, h.cell 4, h.cell 5, h.cell 6, h.cell 7, h.cell 8, h.cell 9⟩
theorem Has.of_heap (h : Has w b r) (he : w1.heap[b]? = w.heap[b]?) : Has w1 b r := he.trans h
theorem Has.far (h : Has w b r) {p : Addr} (hp : b ≠ p.block) (u : Value) : Has (w.setCell p u) b r := h.of_heap (Below.heap_setCell w p u b hp)
theorem Has.put (h : Has w b r) (i : Nat) (u : Value) (r' : Rec) (hr : r'.cells = r.cells.setIfInBounds i u) : Has (w.setCell ⟨b, i, none⟩ u) b r' := by
  unfold Has
  rw [hr]
  exact blk_set h i u
end

/-! ### The table -/
structure Info where
  parent : Option Nat
  kids : List Nat
  ty : Int
  atom : Int
  data : ByteArray
  attrs : List (ByteArray × ByteArray)
/-- An attribute: no namespace, a key, a value. -/
def kA : Kd (ByteArray × ByteArray) := Kd.iso (Kd.pair Kd.string (Kd.pair Kd.string Kd.string)) (fun x => (⟨#[]⟩, x.1, x.2))
/-- The row of attributes. -/
def AttrAt (w : World) (v : Value) (l : List (ByteArray × ByteArray)) : Prop := kA.R 89 w 0 (fun _ => True) v l
theorem AttrAt.below {w w1 : World} {v : Value} {l : List (ByteArray × ByteArray)} (h : AttrAt w v l) (hb : Below w.heap.size w w1) : AttrAt w1 v l := Kd.R_below h hb
theorem AttrAt.set {w : World} {v : Value} {l : List (ByteArray × ByteArray)} (h : AttrAt w v l) {g : Nat} {r : Rec} (hg : Has w g r) (j : Nat) (u : Value) : AttrAt (w.setCell ⟨g, j, none⟩ u) v l :=
  Kd.R_set h hg (fun q hq => by
    have : q = 89 := by simpa [kA, Kd.iso, Kd.pair, Kd.string, Kd.scalar] using hq
    rw [this]
    decide) j u
abbrev Tab := Nat → Option Info
def kidsOf (D : Tab) (p : Nat) : List Nat := match D p with
  | some i => i.kids
  | none => []
/-- The children of a node's parent. -/
def sibs (D : Tab) (i : Info) : List Nat := match i.parent with
  | some p => kidsOf D p
  | none => []
def recOf (D : Tab) (b : Nat) (i : Info) (v : Value) : Rec := ⟨i.parent, i.kids.head?, i.kids.getLast?, prevIn (sibs D i) b, nextIn (sibs D i) b, i.ty, i.atom, i.data, v⟩
structure WF (D : Tab) : Prop where
  up : ∀ {b i p}, D b = some i → i.parent = some p → ∃ ip, D p = some ip ∧ b ∈ ip.kids
  down : ∀ {b i c}, D b = some i → c ∈ i.kids → ∃ ic, D c = some ic ∧ ic.parent = some b
  nodup : ∀ {b i}, D b = some i → i.kids.Nodup
structure Dom (w : World) (D : Tab) : Prop where
  wf : WF D
  has : ∀ {b i}, D b = some i → ∃ v, Has w b (recOf D b i v) ∧ AttrAt w v i.attrs
def put (D : Tab) (b : Nat) (i : Info) : Tab := fun x => if x = b then some i else D x
theorem put_same (D : Tab) (b : Nat) (i : Info) : put D b i b = some i := if_pos rfl
theorem put_other (D : Tab) {b x : Nat} (i : Info) (h : x ≠ b) : put D b i x = D x := if_neg h

theorem kidsOf_some {D : Tab} {p : Nat} {i : Info} (h : D p = some i) : kidsOf D p = i.kids := by unfold kidsOf; rw [h]
/-- A node that is nobody's child has no siblings. -/
theorem sibs_none {D : Tab} {i : Info} (h : i.parent = none) : sibs D i = [] := by unfold sibs; rw [h]
theorem sibs_some {D : Tab} {i : Info} {p : Nat} (h : i.parent = some p) : sibs D i = kidsOf D p := by unfold sibs; rw [h]

theorem kidsOf_put (D : Tab) (b : Nat) (i : Info) (p : Nat) : kidsOf (put D b i) p = if p = b then i.kids else kidsOf D p := by
  unfold kidsOf put
  by_cases h : p = b
  · simp [h]
  · simp [h]
theorem Dom.kid_ne {w : World} {D : Tab} (h : Dom w D) {n c : Nat} {i ic : Info} (hn : D n = some i) (hc : D c = some ic) (hroot : ic.parent = none) : c ∉ i.kids := fun hm => by
  obtain ⟨ic', h1, h2⟩ := h.wf.down hn hm
  rw [hc] at h1
  injection h1 with h1
  subst h1
  rw [hroot] at h2
  cases h2
theorem Dom.kid_parent {w : World} {D : Tab} (h : Dom w D) {n c : Nat} {i ic : Info} (hn : D n = some i) (hc : D c = some ic) (hm : c ∈ i.kids) : ic.parent = some n := by
  obtain ⟨ic', h1, h2⟩ := h.wf.down hn hm
  rw [hc] at h1
  injection h1 with h1
  subst h1
  exact h2
theorem Dom.kid_of {w : World} {D : Tab} (h : Dom w D) {n c : Nat} {i ic : Info} (hn : D n = some i) (hc : D c = some ic) (hp : ic.parent = some n) : c ∈ i.kids := by
  obtain ⟨i', h1, h2⟩ := h.wf.up hc hp
  rw [hn] at h1
  injection h1 with h1
  subst h1
  exact h2

/-! ### AppendChild -/
def appended (D : Tab) (n c : Nat) (i ic : Info) : Tab := put (put D n { i with kids := i.kids ++ [c] }) c { ic with parent := some n }
theorem Dom.append {w w' : World} {D : Tab} (h : Dom w D) {n c : Nat} {i ic : Info} (hn : D n = some i) (hc : D c = some ic) (hne : n ≠ c) (hroot : ic.parent = none) (hself : i.parent ≠ some n)
    (HA : ∀ v l, AttrAt w v l → AttrAt w' v l)
    (HN : ∀ v, Has w n (recOf D n i v) → Has w' n { recOf D n i v with first := (i.kids ++ [c]).head?, last := some c })
    (HC : ∀ v, Has w c (recOf D c ic v) → Has w' c { recOf D c ic v with parent := some n, prev := i.kids.getLast? })
    (HL : ∀ x ix v, i.kids.getLast? = some x → D x = some ix → Has w x (recOf D x ix v) → Has w' x { recOf D x ix v with next := some c })
    (HO : ∀ b, D b ≠ none → b ≠ n → b ≠ c → i.kids.getLast? ≠ some b → w'.heap[b]? = w.heap[b]?) : Dom w' (appended D n c i ic) := by
  have hcn : c ∉ i.kids := h.kid_ne hn hc hroot
  have hDn : appended D n c i ic n = some { i with kids := i.kids ++ [c] } := by unfold appended; rw [put_other _ _ hne, put_same]
  have hDc : appended D n c i ic c = some { ic with parent := some n } := put_same _ _ _
  have hDo : ∀ b, b ≠ n → b ≠ c → appended D n c i ic b = D b := fun b h1 h2 => by unfold appended; rw [put_other _ _ h2, put_other _ _ h1]
  have hk : ∀ p, kidsOf (appended D n c i ic) p = if p = n then i.kids ++ [c] else kidsOf D p := by
    intro p
    unfold appended
    rw [kidsOf_put, kidsOf_put]
    by_cases hp : p = c
    · subst hp
      rw [if_pos rfl, if_neg (fun e => hne e.symm), kidsOf_some hc]
    · rw [if_neg hp]
  refine ⟨⟨?_, ?_, ?_⟩, ?_⟩
  · intro b i' p hb hp
    by_cases hbc : b = c
    · subst hbc
      rw [hDc] at hb
      injection hb with hb
      subst hb
      injection hp with hp
      subst hp
      exact ⟨_, hDn, by simp⟩
    · have key : ∃ i0, D b = some i0 ∧ i0.parent = some p := by
        by_cases hbn : b = n
        · subst hbn
          rw [hDn] at hb
          injection hb with hb
          subst hb
          exact ⟨i, hn, hp⟩
        · rw [hDo b hbn hbc] at hb
          exact ⟨i', hb, hp⟩
      obtain ⟨i0, h0, hp0⟩ := key
      obtain ⟨ip, hip, hm⟩ := h.wf.up h0 hp0
      by_cases hpn : p = n
      · subst hpn
        rw [hn] at hip
        injection hip with hip
        subst hip
        exact ⟨_, hDn, List.mem_append_left _ hm⟩
      · by_cases hpc : p = c
        · subst hpc
          rw [hc] at hip
          injection hip with hip
          subst hip
          exact ⟨_, hDc, hm⟩
        · exact ⟨ip, by rw [hDo p hpn hpc]; exact hip, hm⟩
  · intro b i' x hb hx
    by_cases hbn : b = n
    · subst hbn
      rw [hDn] at hb
      injection hb with hb
      subst hb
      rcases List.mem_append.1 hx with hx | hx
      · obtain ⟨ix, hix, hpx⟩ := h.wf.down hn hx
        have hxc : x ≠ c := fun e => hcn (e ▸ hx)
        have hxn : x ≠ b := fun e => by
          subst e
          rw [hn] at hix
          injection hix with hix
          subst hix
          exact hself hpx
        exact ⟨ix, by rw [hDo x hxn hxc]; exact hix, hpx⟩
      · obtain rfl : x = c := by simpa using hx
        exact ⟨_, hDc, rfl⟩
    · have key : ∃ i0, D b = some i0 ∧ x ∈ i0.kids := by
        by_cases hbc : b = c
        · subst hbc
          rw [hDc] at hb
          injection hb with hb
          subst hb
          exact ⟨ic, hc, hx⟩
        · rw [hDo b hbn hbc] at hb
          exact ⟨i', hb, hx⟩
      obtain ⟨i0, h0, hx0⟩ := key
      obtain ⟨ix, hix, hpx⟩ := h.wf.down h0 hx0
      have hxc : x ≠ c := fun e => by
        subst e
        rw [hc] at hix
        injection hix with hix
        subst hix
        rw [hroot] at hpx
        cases hpx
      by_cases hxn : x = n
      · subst hxn
        rw [hn] at hix
        injection hix with hix
        subst hix
        exact ⟨_, hDn, hpx⟩
      · exact ⟨ix, by rw [hDo x hxn hxc]; exact hix, hpx⟩
  · intro b i' hb
    by_cases hbn : b = n
    · subst hbn
      rw [hDn] at hb
      injection hb with hb
      subst hb
      show (i.kids ++ [c]).Nodup
      rw [List.nodup_append]
      exact ⟨h.wf.nodup hn, by simp, fun x hx y hy e => by
        have hyc : y = c := by simpa using hy
        subst hyc
        subst e
        exact hcn hx⟩
    · by_cases hbc : b = c
      · subst hbc
        rw [hDc] at hb
        injection hb with hb
        subst hb
        show ic.kids.Nodup
        exact h.wf.nodup hc
      · rw [hDo b hbn hbc] at hb
        exact h.wf.nodup hb
  · intro b i' hb
    by_cases hbn : b = n
    · subst hbn
      rw [hDn] at hb
      injection hb with hb
      subst hb
      have hs : sibs (appended D b c i ic) { i with kids := i.kids ++ [c] } = sibs D i := by
        unfold sibs
        cases hp : i.parent with
        | none => rfl
        | some p =>
          simp only [hp]
          rw [hk, if_neg (fun e => hself (by rw [hp, e]))]
      have hl : (i.kids ++ [c]).getLast? = some c := by simp
      obtain ⟨v, hv, ha⟩ := h.has hn
      have HN' := HN v hv
      refine ⟨v, ?_, HA v _ ha⟩
      unfold recOf at HN' ⊢
      rw [hs]
      simp only [hl]
      exact HN'
    · by_cases hbc : b = c
      · subst hbc
        rw [hDc] at hb
        injection hb with hb
        subst hb
        have hs : sibs (appended D n b i ic) { ic with parent := some n } = i.kids ++ b :: [] := by
          unfold sibs
          simp only []
          rw [hk, if_pos rfl]
        obtain ⟨v, hv, ha⟩ := h.has hc
        have HC' := HC v hv
        refine ⟨v, ?_, HA v _ ha⟩
        unfold recOf at HC' ⊢
        rw [hs, prevIn_split (by simp), nextIn_split hcn]
        rw [sibs_none hroot] at HC'
        exact HC'
      · rw [hDo b hbn hbc] at hb
        by_cases hbl : i.kids.getLast? = some b
        · obtain ⟨v, hv, ha⟩ := h.has hb
          have hH := HL b i' v hbl hb hv
          refine ⟨v, ?_, HA v _ ha⟩
          obtain ⟨l1, hl1⟩ : ∃ l1, i.kids = l1 ++ [b] := by
            rw [List.getLast?_eq_some_iff] at hbl
            exact hbl
          have hp : i'.parent = some n := h.kid_parent hn hb (by rw [hl1]; simp)
          have hnd := nodup_split (l1 := l1) (l2 := []) (b := b) (by rw [← hl1]; exact h.wf.nodup hn)
          unfold recOf at hH ⊢
          rw [sibs_some hp, kidsOf_some hn, hl1, prevIn_split (l2 := []) (by simp)] at hH
          rw [sibs_some hp, hk, if_pos rfl, hl1, List.append_assoc, List.singleton_append, prevIn_split (by simpa using hbc), nextIn_split hnd.1]
          exact hH
        · have hsame := HO b (by rw [hb]; simp) hbn hbc hbl
          have hrec : ∀ v, recOf (appended D n c i ic) b i' v = recOf D b i' v := by
            intro v
            unfold recOf
            cases hp : i'.parent with
            | none => rw [sibs_none hp, sibs_none hp]
            | some p =>
              rw [sibs_some hp, sibs_some hp, hk]
              by_cases hpn : p = n
              · subst hpn
                have hm : b ∈ i.kids := h.kid_of hn hb hp
                obtain ⟨l1, l2, hl⟩ := List.append_of_mem hm
                have hnd := nodup_split (l1 := l1) (l2 := l2) (b := b) (by rw [← hl]; exact h.wf.nodup hn)
                have hl2 : l2 ≠ [] := fun e => hbl (by rw [hl, e]; simp)
                rw [if_pos rfl, kidsOf_some hn, hl, List.append_assoc, List.cons_append, prevIn_split hnd.2.1, nextIn_split hnd.1, prevIn_split (by simp [hnd.2.1, hbc]), nextIn_split hnd.1]
                cases l2 with
                | nil => exact absurd rfl hl2
                | cons y l2 => rfl
              · rw [if_neg hpn]
          obtain ⟨v, hv, ha⟩ := h.has hb
          exact ⟨v, by rw [hrec]; exact hv.of_heap hsame, HA v _ ha⟩

end Go.Proofs.Ytibfoaahdbdogaa.Dom
