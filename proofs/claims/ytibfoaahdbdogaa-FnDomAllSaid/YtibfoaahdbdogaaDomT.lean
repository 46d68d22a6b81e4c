/- Tables side by side; a table that is a tree. Plain facts. -/
import Derived.Test.YtibfoaahdbdogaaDomX
import Derived.Test.YtibfoaahdbdogaaEDomx4
namespace Go.Proofs.Ytibfoaahdbdogaa.Dom
open Go.RowKit Go.Proofs.YtibfoaahdbdogaaW.PrintWords Go.Proofs.YtibfoaahdbdogaaW.PrintLast Go.Proofs.YtibfoaahdbdogaaW.PrintMore Go.Proofs.Ytibfoaahdbdogaa.PDom
set_option linter.unusedVariables false
set_option linter.unusedSimpArgs false

theorem Dom.below {w w' : World} {D : Tab} (h : Dom w D) (hb : Below w.heap.size w w') : Dom w' D :=
  ⟨h.wf, fun hd => by
    obtain ⟨v, h1, h2⟩ := h.has hd
    exact ⟨v, h1.of_heap (hb.block _ h1.lt), h2.below hb⟩⟩
theorem Dom.lt {w : World} {D : Tab} (h : Dom w D) {b : Nat} (hb : D b ≠ none) : b < w.heap.size := by
  cases hd : D b with
  | none => exact absurd hd hb
  | some i =>
    obtain ⟨v, h1, _⟩ := h.has hd
    exact h1.lt

/-- One node alone. -/
def none_ : Tab := fun _ => none
theorem Dom.one {w : World} {b : Nat} {ty atom : Int} {data : ByteArray} {v : Value} {attrs : List (ByteArray × ByteArray)} (h : Has w b ⟨none, none, none, none, none, ty, atom, data, v⟩) (ha : AttrAt w v attrs) :
    Dom w (put none_ b ⟨none, [], ty, atom, data, attrs⟩) := by
  have hs : ∀ {x i}, put none_ b ⟨none, [], ty, atom, data, attrs⟩ x = some i → x = b ∧ i = ⟨none, [], ty, atom, data, attrs⟩ := by
    intro x i hx
    by_cases hxb : x = b
    · subst hxb
      rw [put_same] at hx
      exact ⟨rfl, (Option.some.inj hx).symm⟩
    · rw [put_other _ _ hxb] at hx
      cases hx
  refine ⟨⟨?_, ?_, ?_⟩, ?_⟩
  · intro x i p hx hp
    obtain ⟨_, rfl⟩ := hs hx
    cases hp
  · intro x i c hx hc
    obtain ⟨_, rfl⟩ := hs hx
    cases hc
  · intro x i hx
    obtain ⟨_, rfl⟩ := hs hx
    exact List.nodup_nil
  · intro x i hx
    obtain ⟨rfl, rfl⟩ := hs hx
    exact ⟨v, h, ha⟩

/-- Two tables side by side. -/
def uni (D D' : Tab) : Tab := fun x => match D x with
  | some i => some i
  | none => D' x
theorem uni_left {D D' : Tab} {x : Nat} {i : Info} (h : D x = some i) : uni D D' x = some i := by unfold uni; rw [h]
theorem uni_right {D D' : Tab} {x : Nat} (h : D x = none) : uni D D' x = D' x := by unfold uni; rw [h]
theorem uni_some {D D' : Tab} {x : Nat} {i : Info} (h : uni D D' x = some i) : D x = some i ∨ (D x = none ∧ D' x = some i) := by
  cases hd : D x with
  | some j => rw [uni_left hd] at h; exact .inl h
  | none => rw [uni_right hd] at h; exact .inr ⟨rfl, h⟩
theorem Dom.union {w : World} {D D' : Tab} (h : Dom w D) (h' : Dom w D') (hd : ∀ x, D x ≠ none → D' x = none) : Dom w (uni D D') := by
  have hr : ∀ {x i}, D' x = some i → uni D D' x = some i := by
    intro x i hx
    have : D x = none := by
      cases hD : D x with
      | none => rfl
      | some j => have := hd x (by rw [hD]; simp); rw [hx] at this; cases this
    rw [uni_right this]
    exact hx
  refine ⟨⟨?_, ?_, ?_⟩, ?_⟩
  · intro b i p hb hp
    rcases uni_some hb with hb | ⟨_, hb⟩
    · obtain ⟨ip, h1, h2⟩ := h.wf.up hb hp
      exact ⟨ip, uni_left h1, h2⟩
    · obtain ⟨ip, h1, h2⟩ := h'.wf.up hb hp
      exact ⟨ip, hr h1, h2⟩
  · intro b i c hb hc
    rcases uni_some hb with hb | ⟨_, hb⟩
    · obtain ⟨ip, h1, h2⟩ := h.wf.down hb hc
      exact ⟨ip, uni_left h1, h2⟩
    · obtain ⟨ip, h1, h2⟩ := h'.wf.down hb hc
      exact ⟨ip, hr h1, h2⟩
  · intro b i hb
    rcases uni_some hb with hb | ⟨_, hb⟩
    · exact h.wf.nodup hb
    · exact h'.wf.nodup hb
  · intro b i hb
    rcases uni_some hb with hb | ⟨_, hb⟩
    · obtain ⟨v, h1, h2⟩ := h.has hb
      refine ⟨v, ?_, h2⟩
      have hs : sibs (uni D D') i = sibs D i := by
        cases hp : i.parent with
        | none => rw [sibs_none hp, sibs_none hp]
        | some p =>
          obtain ⟨ip, h3, _⟩ := h.wf.up hb hp
          rw [sibs_some hp, sibs_some hp, kidsOf_some h3, kidsOf_some (uni_left h3)]
      unfold recOf at h1 ⊢
      rw [hs]
      exact h1
    · obtain ⟨v, h1, h2⟩ := h'.has hb
      refine ⟨v, ?_, h2⟩
      have hs : sibs (uni D D') i = sibs D' i := by
        cases hp : i.parent with
        | none => rw [sibs_none hp, sibs_none hp]
        | some p =>
          obtain ⟨ip, h3, _⟩ := h'.wf.up hb hp
          rw [sibs_some hp, sibs_some hp, kidsOf_some h3, kidsOf_some (hr h3)]
      unfold recOf at h1 ⊢
      rw [hs]
      exact h1

/-! ### A tree -/
abbrev T := S25
def tyOf (k : Int) : Int := if k = 0 then 3 else if k = 1 then 1 else if k = 2 then 4 else 2
def flat (t : T) : Prop := t.f0 = 1 ∨ t.f0 = 2
instance (t : T) : Decidable (flat t) := by unfold flat; exact inferInstance
def dataOf (t : T) : ByteArray := if t.f0 = 0 then t.f1 else if flat t then t.f2 else ⟨#[]⟩
def attrsOf (t : T) : List (ByteArray × ByteArray) := if t.f0 = 0 then t.f3.map fun a => (a.f0, a.f1) else []
def atomOf (t : T) : Int := if t.f0 = 0 then (atom_ZzAtom.f t.f1).getD 0 else 0
def kidsT (t : T) : List T := if flat t then [] else t.f4
structure Match (i : Info) (t : T) : Prop where
  ty : i.ty = tyOf t.f0
  atom : i.atom = atomOf t
  data : i.data = dataOf t
  attrs : i.attrs = attrsOf t
inductive IsT (D : Tab) : Nat → T → Prop
  | mk (b : Nat) (t : T) (i : Info) (h : D b = some i) (hm : Match i t) (hl : i.kids.length = (kidsT t).length) (hk : ∀ j (h1 : j < i.kids.length) (h2 : j < (kidsT t).length), IsT D i.kids[j] (kidsT t)[j]) : IsT D b t
/-- What is in the one table is in the other one, but for who the parent is. -/
def Sub (D D2 : Tab) : Prop := ∀ b i, D b = some i → ∃ p, D2 b = some { i with parent := p }
theorem IsT.mono {D D2 : Tab} (hs : Sub D D2) {b : Nat} {t : T} (h : IsT D b t) : IsT D2 b t := by
  induction h with
  | mk b t i h hm hl hk ih =>
    obtain ⟨p, h2⟩ := hs b i h
    exact IsT.mk b t { i with parent := p } h2 ⟨hm.ty, hm.atom, hm.data, hm.attrs⟩ hl ih
/-- The part of a table that lies above a block. -/
def above (n : Nat) (D : Tab) : Tab := fun x => if n < x then D x else none
theorem above_sub (n : Nat) (D : Tab) : Sub (above n D) D := by
  intro b i h
  unfold above at h
  split at h
  · exact ⟨i.parent, h⟩
  · cases h

/-- One more child. -/
theorem grow {D D' : Tab} {n c : Nat} {i ic : Info} (hn : D n = some i) (hc : D' c = some ic) (hd : ∀ x, D x ≠ none → D' x = none) (hlt : ∀ x, D' x ≠ none → n < x) :
    Sub (above n D) (above n (appended (uni D D') n c i ic)) ∧ Sub D' (above n (appended (uni D D') n c i ic)) := by
  have hcn : n < c := hlt c (by rw [hc]; simp)
  constructor
  · intro b ib hb
    unfold above at hb
    split at hb
    case isFalse => cases hb
    rename_i hnb
    have hbc : b ≠ c := fun e => by
      subst e
      have := hd b (by rw [hb]; simp)
      rw [hc] at this
      cases this
    refine ⟨ib.parent, ?_⟩
    unfold above
    rw [if_pos hnb]
    unfold appended
    rw [put_other _ _ hbc, put_other _ _ (by omega), uni_left hb]
  · intro b ib hb
    have hnb := hlt b (by rw [hb]; simp)
    have hD : D b = none := by
      cases hD : D b with
      | none => rfl
      | some j => have := hd b (by rw [hD]; simp); rw [hb] at this; cases this
    unfold above
    rw [if_pos hnb]
    unfold appended
    by_cases hbc : b = c
    · subst hbc
      rw [hc] at hb
      obtain rfl := Option.some.inj hb
      exact ⟨some n, put_same _ _ _⟩
    · exact ⟨ib.parent, by rw [put_other _ _ hbc, put_other _ _ (by omega), uni_right hD, hb]⟩
end Go.Proofs.Ytibfoaahdbdogaa.Dom
