/- The states of replaceAnyWhitespaceWithSpace's loop, as plain data. -/
import Derived.Test.YtbhcoeabhdangaaDoorBlankL
namespace Go.Proofs.YtbhcoeabhdangaaDoor.Blank
set_option linter.unusedVariables false
set_option linter.unusedSimpArgs false

def seg (l : List Int) (a b : Nat) : List Int := (l.take b).drop a
theorem seg_succ {l : List Int} {a b : Nat} (h : a ≤ b) (hb : b < l.length) : seg l a (b + 1) = seg l a b ++ [l[b]] := by
  unfold seg
  rw [List.take_succ_eq_append_getElem hb, List.drop_append_of_le_length (by rw [List.length_take]; omega)]
theorem seg_self (l : List Int) (a : Nat) : seg l a a = [] := by
  unfold seg
  rw [List.drop_eq_nil_of_le (by rw [List.length_take]; omega)]
theorem seg_split {l : List Int} {a b : Nat} (h : a ≤ b) : l.take b = l.take a ++ seg l a b := by
  unfold seg
  rw [show l.take a = (l.take b).take a from by rw [List.take_take, Nat.min_eq_left h], List.take_append_drop]
structure St (l : List Int) (sn : Nat) (sm : Option Nat) (i : Nat) (R : List Int) : Prop where
  sni : sn ≤ i
  none_ : sm = none → R ++ seg l sn i = norm false (l.take i) ∧ endW false (l.take i) = false
  some_ : ∀ m, sm = some m → sn ≤ m ∧ m < i ∧ R ++ seg l sn m = norm false (l.take m) ∧ endW false (l.take m) = false ∧ ∀ c ∈ seg l m i, ws c = true
theorem St.start (l : List Int) : St l 0 none 0 [] := ⟨Nat.le_refl _, fun _ => ⟨by simp [seg, norm], by simp [endW]⟩, fun m h => by cases h⟩
theorem St.first {l : List Int} {sn i : Nat} {R : List Int} (h : St l sn none i R) (hi : i < l.length) (hw : ws l[i] = true) : St l sn (some i) (i + 1) R := by
  obtain ⟨h1, h2⟩ := h.none_ rfl
  refine ⟨by have := h.sni; omega, fun e => (by cases e), fun m e => ?_⟩
  obtain rfl := Option.some.inj e
  refine ⟨h.sni, by omega, h1, h2, fun c hc => ?_⟩
  rw [seg_succ (Nat.le_refl _) hi, seg_self, List.nil_append] at hc
  rw [List.mem_singleton.1 hc]
  exact hw
theorem St.more {l : List Int} {sn m i : Nat} {R : List Int} (h : St l sn (some m) i R) (hi : i < l.length) (hw : ws l[i] = true) : St l sn (some m) (i + 1) R := by
  obtain ⟨h1, h2, h3, h4, h5⟩ := h.some_ m rfl
  refine ⟨by have := h.sni; omega, fun e => (by cases e), fun m' e => ?_⟩
  obtain rfl := Option.some.inj e
  refine ⟨h1, by omega, h3, h4, fun c hc => ?_⟩
  rw [seg_succ (by omega) hi] at hc
  rcases List.mem_append.1 hc with hc | hc
  · exact h5 c hc
  · rw [List.mem_singleton.1 hc]
    exact hw
theorem norm_one {c : Int} (hc : ws c = false) (b : Bool) : norm b [c] = [c] ∧ endW b [c] = false := by
  constructor
  · simp [norm, hc]
  · simpa [endW] using hc
theorem St.plain {l : List Int} {sn i : Nat} {R : List Int} (h : St l sn none i R) (hi : i < l.length) (hw : ws l[i] = false) : St l sn none (i + 1) R := by
  obtain ⟨h1, h2⟩ := h.none_ rfl
  refine ⟨by have := h.sni; omega, fun _ => ?_, fun m e => by cases e⟩
  rw [seg_succ h.sni hi, ← List.append_assoc, h1, List.take_succ_eq_append_getElem hi, norm_append, endW_append, (norm_one hw _).1, (norm_one hw _).2]
  exact ⟨rfl, rfl⟩
/-- What stands ahead of place i, where white space stands from m on. -/
theorem St.norm_at {l : List Int} {sn m i : Nat} {R : List Int} (h : St l sn (some m) i R) (hi : i ≤ l.length) : norm false (l.take i) = R ++ seg l sn m ++ [32] ∧ endW false (l.take i) = true := by
  obtain ⟨h1, h2, h3, h4, h5⟩ := h.some_ m rfl
  have hne : seg l m i ≠ [] := by
    unfold seg
    intro e
    have := congrArg List.length e
    simp at this
    omega
  rw [seg_split (l := l) (Nat.le_of_lt h2), norm_append, endW_append, h4, norm_run _ h5 hne, endW_run _ h5 hne, h3]
  exact ⟨rfl, rfl⟩
theorem St.same {l : List Int} {sn m i : Nat} {R : List Int} (h : St l sn (some m) i R) (hi : i < l.length) (hw : ws l[i] = false) (hm : i = m + 1) (hb : l[m]? = some 32) : St l sn none (i + 1) R := by
  obtain ⟨e1, e2⟩ := h.norm_at (Nat.le_of_lt hi)
  obtain ⟨h1, h2, h3, h4, h5⟩ := h.some_ m rfl
  refine ⟨by have := h.sni; omega, fun _ => ?_, fun m e => by cases e⟩
  subst hm
  have hml : m < l.length := by omega
  have hb' : l[m] = 32 := by rw [List.getElem?_eq_getElem hml] at hb; exact Option.some.inj hb
  rw [seg_succ h.sni hi, seg_succ h1 hml, hb', List.take_succ_eq_append_getElem hi, norm_append, endW_append, e1, (norm_one hw _).1, (norm_one hw _).2]
  exact ⟨by simp, rfl⟩
theorem St.turn {l : List Int} {sn m i : Nat} {R : List Int} (h : St l sn (some m) i R) (hi : i < l.length) (hw : ws l[i] = false) : St l i none (i + 1) (R ++ seg l sn m ++ [32]) := by
  obtain ⟨e1, e2⟩ := h.norm_at (Nat.le_of_lt hi)
  refine ⟨by omega, fun _ => ?_, fun m e => by cases e⟩
  rw [seg_succ (Nat.le_refl _) hi, seg_self, List.nil_append, List.take_succ_eq_append_getElem hi, norm_append, endW_append, e1, (norm_one hw _).1, (norm_one hw _).2]
  exact ⟨rfl, rfl⟩
theorem St.firstG {l : List Int} {sn i : Nat} {R : List Int} {c : Int} (h : St l sn none i R) (hg : l[i]? = some c) (hw : ws c = true) : St l sn (some i) (i + 1) R := by
  obtain ⟨hi, rfl⟩ := List.getElem?_eq_some_iff.1 hg
  exact h.first hi hw
theorem St.moreG {l : List Int} {sn m i : Nat} {R : List Int} {c : Int} (h : St l sn (some m) i R) (hg : l[i]? = some c) (hw : ws c = true) : St l sn (some m) (i + 1) R := by
  obtain ⟨hi, rfl⟩ := List.getElem?_eq_some_iff.1 hg
  exact h.more hi hw
theorem St.plainG {l : List Int} {sn i : Nat} {R : List Int} {c : Int} (h : St l sn none i R) (hg : l[i]? = some c) (hw : ws c = false) : St l sn none (i + 1) R := by
  obtain ⟨hi, rfl⟩ := List.getElem?_eq_some_iff.1 hg
  exact h.plain hi hw
theorem St.sameG {l : List Int} {sn m i : Nat} {R : List Int} {c : Int} (h : St l sn (some m) i R) (hg : l[i]? = some c) (hw : ws c = false) (hm : i = m + 1) (hb : l[m]? = some 32) : St l sn none (i + 1) R := by
  obtain ⟨hi, rfl⟩ := List.getElem?_eq_some_iff.1 hg
  exact h.same hi hw hm hb
theorem St.turnG {l : List Int} {sn m i : Nat} {R : List Int} {c : Int} (h : St l sn (some m) i R) (hg : l[i]? = some c) (hw : ws c = false) : St l i none (i + 1) (R ++ seg l sn m ++ [32]) := by
  obtain ⟨hi, rfl⟩ := List.getElem?_eq_some_iff.1 hg
  exact h.turn hi hw
open Go.RowKit Go.Proofs.YtbhcoeabhdangaaDoorW.PrintWords Go.Proofs.YtbhcoeabhdangaaDoorW.PrintLast in
theorem wrap_n {i n : Nat} (hn : n ≤ 2147483647) (hi : i < n) : wrap64 ((i : Int) + 1) = ((i + 1 : Nat) : Int) := by
  unfold wrap64
  omega
theorem norm_len (l : List Int) : ∀ b, (norm b l).length ≤ l.length := by
  induction l with
  | nil => intro b; exact Nat.le_refl _
  | cons c l ih =>
    intro b
    have h1 := ih true
    have h2 := ih false
    simp only [norm]
    split
    · split
      · rw [List.length_cons]; omega
      · rw [List.length_cons, List.length_cons]; omega
    · rw [List.length_cons, List.length_cons]; omega
theorem St.len_some {l : List Int} {sn m i : Nat} {R : List Int} (h : St l sn (some m) i R) : R.length + (seg l sn m).length ≤ l.length := by
  obtain ⟨h1, h2, h3, h4, h5⟩ := h.some_ m rfl
  have h6 := congrArg List.length h3
  rw [List.length_append] at h6
  rw [h6]
  refine Nat.le_trans (norm_len _ _) ?_
  rw [List.length_take]
  exact Nat.min_le_right _ _
theorem St.len_none {l : List Int} {sn i : Nat} {R : List Int} (h : St l sn none i R) : R.length + (seg l sn i).length ≤ l.length := by
  obtain ⟨h3, h4⟩ := h.none_ rfl
  have h6 := congrArg List.length h3
  rw [List.length_append] at h6
  rw [h6]
  refine Nat.le_trans (norm_len _ _) ?_
  rw [List.length_take]
  exact Nat.min_le_right _ _
theorem St.end_b {l : List Int} {sn : Nat} {R : List Int} (h : St l sn none l.length R) : norm false l = R ++ seg l sn l.length := by
  have := (h.none_ rfl).1
  rw [List.take_length] at this
  exact this.symm
theorem St.end_a {l : List Int} (h : St l 0 none l.length []) : norm false l = l := by
  rw [h.end_b]
  simp [seg]
theorem St.end_d {l : List Int} {sn m : Nat} {R : List Int} (h : St l sn (some m) l.length R) : norm false l = R ++ seg l sn m ++ [32] := by
  have := (h.norm_at (Nat.le_refl _)).1
  rw [List.take_length] at this
  exact this
theorem St.end_c {l : List Int} {m : Nat} (h : St l 0 (some m) l.length []) (hm : l.length = m + 1) (hb : l[m]? = some 32) : norm false l = l := by
  rw [h.end_d]
  obtain ⟨hi, hb⟩ := List.getElem?_eq_some_iff.1 hb
  conv => rhs; rw [← List.take_length (l := l), hm, List.take_succ_eq_append_getElem hi, hb]
  simp [seg]
theorem norm_pos {l : List Int} (h : 0 < l.length) : 0 < (norm false l).length := by
  cases l with
  | nil => cases h
  | cons c l =>
    simp only [norm]
    split
    · rw [if_neg (by simp)]
      exact Nat.succ_pos _
    · exact Nat.succ_pos _
end Go.Proofs.YtbhcoeabhdangaaDoor.Blank
