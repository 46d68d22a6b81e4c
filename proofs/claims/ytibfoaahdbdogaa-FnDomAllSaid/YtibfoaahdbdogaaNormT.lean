/- What the laws' guards on a tree tell: it is in normal form, of 300 nodes at most, as deep as that. Plain facts. -/
import Derived.Test.YtibfoaahdbdogaaDomTot
import Derived.Test.YtibfoaahdbdogaaRTree
namespace Go.Proofs.Ytibfoaahdbdogaa.PDom
open Go.RowKit Go.Proofs.YtibfoaahdbdogaaW.PrintWords Go.Proofs.YtibfoaahdbdogaaW.PrintLast Go.Proofs.YtibfoaahdbdogaaW.PrintMore Go.Proofs.Ytibfoaahdbdogaa.Dom
set_option linter.unusedVariables false
set_option linter.unusedSimpArgs false

theorem empty_of {a : ByteArray} (h : a.toList = ([] : List UInt8)) : a = ⟨#[]⟩ := by
  have h1 : a.toList = a.data.toList := ByteArray.toList_eq a
  rw [h1] at h
  cases a with
  | mk d =>
    have : d = #[] := by
      apply Array.ext'
      simpa using h
    rw [this]
theorem rd_at (l : List S25) {j : Nat} (h : j < l.length) : rd_T25 l (j : Int) = l[j] := by simp [rd_T25, List.getD_eq_getElem?_getD, List.getElem?_eq_getElem h]
def NodeOk (root : Bool) (t : T) : Prop :=
  ((t.f0 = 1 ∨ t.f0 = 2) ∧ t.f1 = ⟨#[]⟩ ∧ t.f3 = [] ∧ t.f4 = []) ∨ (t.f0 = 3 ∧ root = true ∧ t.f1 = ⟨#[]⟩ ∧ t.f2 = ⟨#[]⟩ ∧ t.f3 = []) ∨ (t.f0 = 0 ∧ t.f2 = ⟨#[]⟩)
inductive Norm : Bool → T → Prop
  | mk (root : Bool) (t : T) (h : NodeOk root t) (hk : ∀ y ∈ t.f4, Norm false y) : Norm root t
theorem right_l (k : Nat) : (∀ a0 a1 a2 a3 a4, laws_right29.j4 k a0 a1 a2 a3 a4 = some true → ∃ m, m < k ∧ laws_right29.l2 m a4 (a4.length : Int) 0 = some true)
    ∧ (∀ b0 b1 b2 a0 a1 a2 a3 a4, laws_right29.l0 k b0 b1 b2 a0 a1 a2 a3 a4 = some true → ∃ m, m < k ∧ laws_right29.l2 m a4 (a4.length : Int) 0 = some true)
    ∧ (∀ b0 b1 b2 b3 b4 b5 a0 a1 a2 a3 a4 c0 c1, laws_right29.l1 k b0 b1 b2 b3 b4 b5 a0 a1 a2 a3 a4 c0 c1 = some true → ∃ m, m < k ∧ laws_right29.l2 m a4 (a4.length : Int) 0 = some true) := by
  induction k with
  | zero => exact ⟨fun _ _ _ _ _ h => by simp [laws_right29.j4] at h, fun _ _ _ _ _ _ _ _ h => by simp [laws_right29.l0] at h, fun _ _ _ _ _ _ _ _ _ _ _ _ _ h => by simp [laws_right29.l1] at h⟩
  | succ k ih =>
    obtain ⟨i4, i0, i1⟩ := ih
    have up : ∀ {P : Nat → Prop}, (∃ m, m < k ∧ P m) → ∃ m, m < k + 1 ∧ P m := fun ⟨m, h1, h2⟩ => ⟨m, by omega, h2⟩
    refine ⟨?_, ?_, ?_⟩
    · intro a0 a1 a2 a3 a4 h
      rw [laws_right29.j4] at h
      exact ⟨k, by omega, h⟩
    · intro b0 b1 b2 a0 a1 a2 a3 a4 h
      rw [laws_right29.l0] at h
      by_cases c1 : b2 < b1
      · rw [if_pos c1] at h
        by_cases c2 : 0 ≤ b2
        · rw [if_pos c2] at h
          by_cases c3 : b2 < (b0.length : Int)
          · rw [if_pos c3] at h
            by_cases c4 : b2 ≤ (a3.length : Int)
            · rw [if_pos c4] at h
              exact up (i1 _ _ _ _ _ _ _ _ _ _ _ _ _ h)
            · rw [if_neg c4] at h; cases h
          · rw [if_neg c3] at h; cases h
        · rw [if_neg c2] at h; cases h
      · rw [if_neg c1] at h
        exact up (i4 _ _ _ _ _ h)
    · intro b0 b1 b2 b3 b4 b5 a0 a1 a2 a3 a4 c0 c1 h
      rw [laws_right29.l1] at h
      by_cases d1 : b5 < b4
      · rw [if_pos d1] at h
        by_cases d2 : 0 ≤ b5
        · rw [if_pos d2] at h
          by_cases d3 : b5 < (b3.length : Int)
          · rw [if_pos d3] at h
            by_cases d4 : c0.toList = ((rd_T78 b3 b5).f0).toList
            · rw [if_pos d4] at h; cases h
            · rw [if_neg d4] at h
              exact up (i1 _ _ _ _ _ _ _ _ _ _ _ _ _ h)
          · rw [if_neg d3] at h; cases h
        · rw [if_neg d2] at h; cases h
      · rw [if_neg d1] at h
        exact up (i0 _ _ _ _ _ _ _ _ h)
theorem right_l2 (l : List T) (hl : l.length ≤ 4398046510976) : ∀ (k j : Nat), laws_right29.l2 k l (l.length : Int) (j : Int) = some true → ∀ i (hi : i < l.length), j ≤ i → ∃ m, m < k ∧ laws_right29.f m l[i].f0 l[i].f1 l[i].f2 l[i].f3 l[i].f4 false = some true
  | 0, j, h => by simp [laws_right29.l2] at h
  | k + 1, j, h => by
    intro i hi hji
    rw [laws_right29.l2, if_pos (by omega), if_pos (by omega), if_pos (by omega), rd_at l (by omega)] at h
    obtain ⟨b, hb, h2⟩ := Option.bind_eq_some_iff.1 h
    cases b with
    | false => cases h2
    | true =>
      rw [if_pos rfl, succ_wrap j (by omega)] at h2
      by_cases e : i = j
      · subst e
        exact ⟨k, by omega, hb⟩
      · obtain ⟨m, hm, hf⟩ := right_l2 l hl k (j + 1) h2 i hi (by omega)
        exact ⟨m, by omega, hf⟩
theorem right_norm (n : Nat) : ∀ k, k < n → ∀ (t : T), Fit t → ∀ root, laws_right29.f k t.f0 t.f1 t.f2 t.f3 t.f4 root = some true → Norm root t := by
  induction n with
  | zero => exact fun k hk => absurd hk (Nat.not_lt_zero _)
  | succ n ih =>
    intro k hk t ht root h
    have hfit := ht
    obtain ⟨_, _, hl4, hall⟩ := ht
    cases k with
    | zero => simp [laws_right29.f] at h
    | succ k =>
      have hj : ∃ x13, (x13 = true ↔ (t.f0 = 1 ∨ t.f0 = 2)) ∧ laws_right29.j0 k root t.f0 x13 t.f0 t.f1 t.f2 t.f3 t.f4 = some true := by
        rw [laws_right29.f] at h
        by_cases c : t.f0 = 1
        · rw [if_pos c] at h
          exact ⟨_, by simp [c], h⟩
        · rw [if_neg c] at h
          exact ⟨_, by simp [c], h⟩
      obtain ⟨x13, hx, hj⟩ := hj
      cases k with
      | zero => simp [laws_right29.j0] at hj
      | succ k =>
        have kidsOk : ∀ m, m < k + 1 → laws_right29.l2 m t.f4 (t.f4.length : Int) 0 = some true → ∀ y ∈ t.f4, Norm false y := by
          intro m hm h2 y hy
          obtain ⟨i, hi, rfl⟩ := List.getElem_of_mem hy
          obtain ⟨m2, hm2, hf⟩ := right_l2 t.f4 hl4 m 0 h2 i hi (Nat.zero_le _)
          exact ih m2 (by omega) _ (hall _ hy) false hf
        rw [laws_right29.j0] at hj
        by_cases c1 : x13 = true
        · rw [if_pos c1] at hj
          by_cases c2 : (t.f4.length : Int) = 0
          · rw [if_pos c2] at hj
            by_cases c3 : t.f1.toList = ([] : List UInt8)
            · rw [if_pos c3] at hj
              have c4 : t.f4 = [] := List.length_eq_zero_iff.1 (by omega)
              have c5 : t.f3 = [] := by
                have h6 := Option.some.inj hj
                have h7 : (t.f3.length : Int) = 0 := by simpa using h6
                exact List.length_eq_zero_iff.1 (by omega)
              refine Norm.mk root t (.inl ⟨hx.1 c1, empty_of c3, c5, c4⟩) ?_
              rw [c4]
              exact fun y hy => by cases hy
            · rw [if_neg c3] at hj; cases hj
          · rw [if_neg c2] at hj; cases hj
        · rw [if_neg c1] at hj
          by_cases c2 : t.f0 = 3
          · rw [if_pos c2] at hj
            by_cases c3 : root = true
            · rw [if_pos c3] at hj
              by_cases c4 : t.f1.toList = ([] : List UInt8)
              · rw [if_pos c4] at hj
                by_cases c5 : t.f2.toList = ([] : List UInt8)
                · rw [if_pos c5] at hj
                  by_cases c6 : (t.f3.length : Int) > 0
                  · rw [if_pos c6] at hj; cases hj
                  · rw [if_neg c6] at hj
                    obtain ⟨m, hm, h2⟩ := (right_l k).1 _ _ _ _ _ hj
                    exact Norm.mk root t (.inr (.inl ⟨c2, c3, empty_of c4, empty_of c5, List.length_eq_zero_iff.1 (by omega)⟩)) (kidsOk m (by omega) h2)
                · rw [if_neg c5] at hj; cases hj
              · rw [if_neg c4] at hj; cases hj
            · rw [if_neg c3] at hj; cases hj
          · rw [if_neg c2] at hj
            by_cases c3 : t.f0 = 0
            · rw [if_pos c3] at hj
              obtain ⟨b, _, hj2⟩ := Option.bind_eq_some_iff.1 hj
              have key : ∀ x, laws_right29.j1 k x t.f0 t.f1 t.f2 t.f3 t.f4 = some true → x = false ∧ ∃ m, m < k ∧ laws_right29.l2 m t.f4 (t.f4.length : Int) 0 = some true := by
                intro x h6
                cases k with
                | zero => simp [laws_right29.j1] at h6
                | succ k =>
                  rw [laws_right29.j1] at h6
                  cases x with
                  | true => rw [if_pos rfl] at h6; cases h6
                  | false =>
                    rw [if_neg (by simp)] at h6
                    obtain ⟨m, hm, h7⟩ := (right_l k).2.1 _ _ _ _ _ _ _ _ h6
                    exact ⟨rfl, m, by omega, h7⟩
              cases b with
              | true =>
                rw [if_pos rfl] at hj2
                obtain ⟨e, m, hm, h7⟩ := key _ hj2
                refine Norm.mk root t (.inr (.inr ⟨c3, empty_of ?_⟩)) (kidsOk m (by omega) h7)
                simpa using e
              | false =>
                rw [if_neg (by simp)] at hj2
                obtain ⟨e, _⟩ := key _ hj2
                cases e
            · rw [if_neg c3] at hj; cases hj

/-! ### How many nodes -/
mutual
def countT : T → Nat
  | ⟨_, _, _, _, ks⟩ => 1 + countTL ks
def countTL : List T → Nat
  | [] => 0
  | k :: ks => countT k + countTL ks
end
theorem countTL_append (l m : List T) : countTL (l ++ m) = countTL l + countTL m := by
  induction l with
  | nil => simp [countTL]
  | cons k l ih => simp [countTL, ih]; omega
theorem countT_eq (t : T) : countT t = 1 + countTL t.f4 := by cases t; rfl
theorem size_l (k : Nat) : (∀ (t : T), Fit t → ∀ (d n : Int), 0 ≤ d → d ≤ 61 → laws_size29.f k t.f0 t.f1 t.f2 t.f3 t.f4 d = some n → 1 ≤ n ∧ n ≤ 301 + 301 * (61 - d) ∧ (n ≤ 300 → (countT t : Int) = n))
    ∧ (∀ (l : List T), (∀ y ∈ l, Fit y) → l.length ≤ 4398046510976 → ∀ (d x5 n : Int) (j : Nat), 0 ≤ d → d ≤ 60 → 1 ≤ x5 → x5 ≤ 300 → j ≤ l.length → laws_size29.l0 k d x5 l (l.length : Int) (j : Int) = some n → 1 ≤ n ∧ n ≤ 301 + 301 * (61 - d) ∧ (n ≤ 300 → x5 + (countTL (l.drop j) : Int) = n)) := by
  induction k with
  | zero => exact ⟨fun _ _ _ _ _ _ h => by simp [laws_size29.f] at h, fun _ _ _ _ _ _ _ _ _ _ _ _ h => by simp [laws_size29.l0] at h⟩
  | succ k ih =>
    obtain ⟨ihf, ihl⟩ := ih
    refine ⟨?_, ?_⟩
    · intro t ht d n h0 h1 h
      rw [laws_size29.f] at h
      by_cases c : d > 60
      · rw [if_pos c] at h
        obtain rfl := Option.some.inj h
        omega
      · rw [if_neg c] at h
        obtain ⟨_, _, hl4, hall⟩ := ht
        have h2 := ihl t.f4 hall hl4 d 1 n 0 h0 (by omega) (by omega) (by omega) (Nat.zero_le _) h
        rw [countT_eq]
        simp only [List.drop_zero] at h2
        omega
    · intro l hall hl d x5 n j h0 h1 h2 h3 hj h
      rw [laws_size29.l0] at h
      by_cases c : j < l.length
      · rw [if_pos (by omega), if_pos (by omega), if_pos (by omega), rd_at l c, wrap_same (by omega) (by omega)] at h
        obtain ⟨r, hr, hb⟩ := Option.bind_eq_some_iff.1 h
        have hq := ihf l[j] (hall _ (List.getElem_mem c)) (d + 1) r (by omega) (by omega) hr
        rw [wrap_same (by omega) (by omega), succ_wrap j (by omega)] at hb
        have hd : countTL (l.drop j) = countT l[j] + countTL (l.drop (j + 1)) := by
          rw [List.drop_eq_getElem_cons c]
          rfl
        by_cases c2 : x5 + r > 300
        · rw [if_pos c2] at hb
          obtain rfl := Option.some.inj hb
          omega
        · rw [if_neg c2] at hb
          have h5 := ihl l hall hl d (x5 + r) n (j + 1) h0 h1 (by omega) (by omega) (by omega) hb
          rw [hd]
          omega
      · rw [if_neg (by omega)] at h
        obtain rfl := Option.some.inj h
        have : l.drop j = [] := List.drop_eq_nil_of_le (by omega)
        rw [this]
        simp only [countTL]
        omega
/-- What tree29 tells. -/
theorem tree_norm {k : Nat} {t : T} (ht : Fit t) (h : laws_tree29.f k t.f0 t.f1 t.f2 t.f3 t.f4 = some true) : Norm true t ∧ countT t ≤ 300 ∧ (t.f0 = 0 ∨ t.f0 = 3) := by
  have hk := tree_kind h
  have key : ∃ n, laws_size29.f k t.f0 t.f1 t.f2 t.f3 t.f4 0 = some n ∧ n ≤ 300 ∧ laws_right29.f k t.f0 t.f1 t.f2 t.f3 t.f4 true = some true := by
    unfold laws_tree29.f at h
    rcases hk with e | e
    · rw [if_pos e] at h
      obtain ⟨n, hn, h2⟩ := Option.bind_eq_some_iff.1 h
      by_cases c : n ≤ 300
      · rw [if_pos c] at h2
        obtain ⟨b, hb, h3⟩ := Option.bind_eq_some_iff.1 h2
        obtain rfl := Option.some.inj h3
        exact ⟨n, hn, c, hb⟩
      · rw [if_neg c] at h2; cases h2
    · rw [if_neg (by omega), if_pos e] at h
      obtain ⟨n, hn, h2⟩ := Option.bind_eq_some_iff.1 h
      by_cases c : n ≤ 300
      · rw [if_pos c] at h2
        obtain ⟨b, hb, h3⟩ := Option.bind_eq_some_iff.1 h2
        obtain rfl := Option.some.inj h3
        exact ⟨n, hn, c, hb⟩
      · rw [if_neg c] at h2; cases h2
  obtain ⟨n, hn, hle, hr⟩ := key
  have h1 := (size_l k).1 t ht 0 n (by omega) (by omega) hn
  exact ⟨right_norm (k + 1) k (by omega) t ht true hr, by omega, hk⟩
end Go.Proofs.Ytibfoaahdbdogaa.PDom
