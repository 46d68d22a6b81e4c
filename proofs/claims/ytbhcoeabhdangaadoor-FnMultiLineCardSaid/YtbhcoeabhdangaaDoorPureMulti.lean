/- The plain law of FnMultiLine: no two line feeds beside each other; a text of one line stays as it is. -/
import Derived.Test.YtbhcoeabhdangaaDoorFMulti
import Derived.Test.YtbhcoeabhdangaaDoorTrimL
namespace Go.Proofs.YtbhcoeabhdangaaDoor.PInl
open Go.Proofs.YtbhcoeabhdangaaDoor.Txt Go.RowKit Go.Proofs.YtbhcoeabhdangaaDoorW.PrintWords Go.Proofs.YtbhcoeabhdangaaDoorW.PrintLast Go.Proofs.YtbhcoeabhdangaaDoorW.PrintMore
set_option linter.unusedVariables false
set_option linter.unusedSimpArgs false

/-- No two line feeds beside each other. -/
def NP : List Int → Prop
  | [] => True
  | x :: l => (x = 10 → l.head? ≠ some 10) ∧ NP l
theorem np_app {a b : List Int} (ha : NP a) (hb : NP b) (hh : b.head? ≠ some 10) : NP (a ++ b) := by
  induction a with
  | nil => exact hb
  | cons x a ih =>
    refine ⟨fun h => ?_, ih ha.2⟩
    cases a with
    | nil => exact hh
    | cons y a => exact ha.1 h
theorem np_free {a b : List Int} (ha : ∀ x ∈ a, x ≠ 10) (hb : NP b) : NP (a ++ b) := by
  induction a with
  | nil => exact hb
  | cons x a ih => exact ⟨fun h => absurd h (ha x (List.mem_cons_self ..)), ih (fun y hy => ha y (List.mem_cons_of_mem _ hy))⟩
theorem np_at {l : List Int} (h : NP l) : ∀ i : Nat, i + 1 < l.length → rd l (i : Int) = 10 → rd l ((i + 1 : Nat) : Int) ≠ 10 := by
  induction l with
  | nil => intro i hi; cases hi
  | cons x l ih =>
    intro i hi h1 h2
    have hi' : i < (x :: l).length := by omega
    rw [rd_get hi'] at h1
    rw [rd_get hi] at h2
    cases i with
    | zero =>
      cases l with
      | nil => simp at hi
      | cons y l =>
        refine h.1 h1 ?_
        have e : y = 10 := h2
        rw [e]
        rfl
    | succ i =>
      have q1 : i + 1 < l.length := by simpa using hi
      refine ih h.2 i q1 ?_ ?_
      · rw [rd_get (show i < l.length by omega)]
        simpa using h1
      · rw [rd_get q1]
        simpa using h2
theorem tl_mem {m : List Int} {x : Int} (h : x ∈ tl m) : x ∈ m := (List.dropWhile_sublist (p := spc) (l := m)).mem h
theorem escP_np (b : Bool) (m : List Int) (hm : ∀ x ∈ m, x ≠ 10) : NP (escP b m) ∧ (escP b m).head? ≠ some 10 := by
  have ht : ∀ x ∈ tl m, x ≠ 10 := fun x hx => hm x (tl_mem hx)
  unfold escP
  by_cases h0 : tl m = []
  · rw [if_pos h0]
    exact ⟨⟨by decide, by decide, trivial⟩, by decide⟩
  rw [if_neg h0]
  have hh : ∀ z : List Int, (tl m ++ z).head? ≠ some 10 := by
    intro z
    cases hx : tl m with
    | nil => exact absurd hx h0
    | cons y t =>
      rw [hx] at ht
      intro e
      have e2 : y = 10 := by simpa using e
      exact ht y (List.mem_cons_self ..) e2
  cases b with
  | true =>
    rw [if_pos rfl]
    have h1 := np_free (b := []) ht trivial
    have h2 := hh []
    rw [List.append_nil] at h1 h2
    exact ⟨h1, h2⟩
  | false =>
    rw [if_neg (by simp)]
    refine ⟨np_free ht ?_, hh _⟩
    cases hsuf (tl m)
    · exact ⟨by decide, by decide, by decide, trivial⟩
    · exact ⟨by decide, trivial⟩
theorem escUp_np (ss : List (List Int)) (h : ∀ m ∈ ss, ∀ x ∈ m, x ≠ 10) (j : Nat) : NP (escUp ss j) := by
  induction j with
  | zero => trivial
  | succ j ih =>
    have hm : ∀ x ∈ ss.getD j [], x ≠ 10 := by
      rw [List.getD_eq_getElem?_getD]
      cases hx : ss[j]? with
      | none => intro x hx; simp at hx
      | some m => exact h m (List.mem_of_getElem? hx)
    obtain ⟨h1, h2⟩ := escP_np (decide (j + 1 = ss.length)) _ hm
    exact np_app ih h1 h2
theorem escP_byt (b : Bool) {m : List Int} (hm : Byt m) : Byt (escP b m) := by
  have ht : Byt (tl m) := fun x hx => hm x (tl_mem hx)
  have k1 : Byt [92, 10] := by intro x hx; simp at hx; omega
  have k2 : Byt [10] := by intro x hx; simp at hx; omega
  have k3 : Byt [32, 32, 10] := by intro x hx; simp at hx; omega
  unfold escP
  split
  · exact k1
  · split
    · exact ht
    · split
      · exact ht.app k2
      · exact ht.app k3
theorem escUp_byt (ss : List (List Int)) (h : ∀ m ∈ ss, Byt m) (j : Nat) : Byt (escUp ss j) := by
  induction j with
  | zero => exact Byt.nil
  | succ j ih =>
    have hm : Byt (ss.getD j []) := by
      rw [List.getD_eq_getElem?_getD]
      cases hx : ss[j]? with
      | none => exact Byt.nil
      | some m => exact h m (List.mem_of_getElem? hx)
    exact ih.app (escP_byt _ hm)
/-- No line bears a line feed. -/
theorem seg_free (l : List Int) : ∀ j, j ≤ l.length → (∀ x ∈ (segUp l j).1, x.1 + x.2.1 ≤ l.length ∧ ∀ i, x.1 ≤ i → i < x.1 + x.2.1 → rd l (i : Int) ≠ 10) ∧ (∀ i, (segUp l j).2 ≤ i → i < j → rd l (i : Int) ≠ 10) ∧ ((segUp l j).1 = [] → (segUp l j).2 = 0) := by
  intro j
  induction j with
  | zero => intro _; exact ⟨fun x hx => (by cases hx), fun i _ hi => (by cases hi), fun _ => rfl⟩
  | succ j ih =>
    intro hj
    obtain ⟨h1, h2, h3⟩ := ih (by omega)
    have hle := (segUp_le l j).1
    have hst : segUp l (j + 1) = if rd l (j : Int) = 10 then ((segUp l j).1 ++ [((segUp l j).2, j - (segUp l j).2, j - (segUp l j).2)], j + 1) else segUp l j := rfl
    rw [hst]
    by_cases h10 : rd l (j : Int) = 10
    · rw [if_pos h10]
      refine ⟨fun x hx => ?_, fun i h4 h5 => ?_, fun h => ?_⟩
      · rcases List.mem_append.1 hx with h | h
        · exact h1 x h
        · obtain rfl := List.mem_singleton.1 h
          refine ⟨?_, fun i h4 h5 => h2 i h4 ?_⟩
          · show (segUp l j).2 + (j - (segUp l j).2) ≤ l.length
            omega
          · have h6 : i < (segUp l j).2 + (j - (segUp l j).2) := h5
            omega
      · have h6 : j + 1 ≤ i := h4
        omega
      · simp at h
    · rw [if_neg h10]
      refine ⟨h1, fun i h4 h5 => ?_, h3⟩
      rcases Nat.lt_or_ge i j with h | h
      · exact h2 i h4 h
      · obtain rfl : i = j := by omega
        exact h10
theorem sx_free (l : List Int) (x : Nat × Nat × Nat) (h0 : x.1 + x.2.1 ≤ l.length) (h : ∀ i, x.1 ≤ i → i < x.1 + x.2.1 → rd l (i : Int) ≠ 10) : ∀ y ∈ sx l x, y ≠ 10 := by
  intro y hy
  obtain ⟨i, hi, rfl⟩ := List.getElem_of_mem hy
  have hlen : (sx l x).length = x.2.1 := by
    show ((l.drop x.1).take x.2.1).length = _
    rw [List.length_take, List.length_drop]
    omega
  have e : (sx l x)[i]? = l[x.1 + i]? := by
    show ((l.drop x.1).take x.2.1)[i]? = _
    rw [List.getElem?_take_of_lt (by omega), List.getElem?_drop]
  rw [List.getElem?_eq_getElem hi, List.getElem?_eq_getElem (show x.1 + i < l.length by omega)] at e
  rw [Option.some.inj e]
  have := h (x.1 + i) (by omega) (by omega)
  rw [rd_get (show x.1 + i < l.length by omega)] at this
  exact this
theorem segs_free (l : List Int) (c : Nat) : (∀ m ∈ (segs l c).map (sx l), ∀ y ∈ m, y ≠ 10) ∧ ((segs l c).length = 1 → ∀ i, i < l.length → rd l (i : Int) ≠ 10) := by
  obtain ⟨h1, h2, h3⟩ := seg_free l l.length (Nat.le_refl _)
  have hle := (segUp_le l l.length).1
  refine ⟨fun m hm => ?_, fun h1' i hi => ?_⟩
  · obtain ⟨x, hx, rfl⟩ := List.mem_map.1 hm
    rcases List.mem_append.1 hx with h | h
    · exact sx_free l x (h1 x h).1 (h1 x h).2
    · obtain rfl := List.mem_singleton.1 h
      refine sx_free l _ ?_ (fun i h4 h5 => h2 i h4 ?_)
      · show (segUp l l.length).2 + (l.length - (segUp l l.length).2) ≤ l.length
        omega
      · have h6 : i < (segUp l l.length).2 + (l.length - (segUp l l.length).2) := h5
        omega
  · unfold segs at h1'
    rw [List.length_append, List.length_singleton] at h1'
    have h4 : (segUp l l.length).1 = [] := List.eq_nil_of_length_eq_zero (by omega)
    exact h2 i (by rw [h3 h4]; exact Nat.zero_le _) hi
theorem segs_one (l : List Int) (c : Nat) (h : ∀ i, i < l.length → rd l (i : Int) ≠ 10) : (segs l c).length = 1 := by
  have key : ∀ j, j ≤ l.length → (segUp l j).1 = [] := by
    intro j
    induction j with
    | zero => intro _; rfl
    | succ j ih =>
      intro hj
      have hst : segUp l (j + 1) = if rd l (j : Int) = 10 then ((segUp l j).1 ++ [((segUp l j).2, j - (segUp l j).2, j - (segUp l j).2)], j + 1) else segUp l j := rfl
      rw [hst, if_neg (h j (by omega))]
      exact ih (by omega)
  unfold segs
  rw [key _ (Nat.le_refl _)]
  rfl
theorem np_none (l : List Int) (h : ∀ i, i < l.length → rd l (i : Int) ≠ 10) : NP l := by
  have := np_free (a := l) (b := []) (fun x hx => by
    obtain ⟨i, hi, rfl⟩ := List.getElem_of_mem hx
    have := h i hi
    rw [rd_get hi] at this
    exact this) trivial
  rw [List.append_nil] at this
  exact this
theorem esc_facts (l : List Int) (hl : l.length ≤ 300) (hb : Byt l) : NP (escL l 0) ∧ Byt (escL l 0) ∧ (escL l 0).length ≤ 1000000 ∧ ((∀ i, i < l.length → rd l (i : Int) ≠ 10) → escL l 0 = l) := by
  obtain ⟨h1, h2⟩ := segs_free l 0
  have hsl := (seg_ok l l.length (Nat.le_refl _)).2
  have hlen : (segs l 0).length ≤ 301 := by
    have : (segs l 0).length = (segs l l.length).length := by
      unfold segs
      rw [List.length_append, List.length_append]
      rfl
    omega
  unfold escL
  by_cases ho : (segs l 0).length = 1
  · rw [if_pos ho]
    exact ⟨np_none l (h2 ho), hb, by omega, fun _ => rfl⟩
  · rw [if_neg ho]
    refine ⟨escUp_np _ h1 _, escUp_byt _ (fun m hm => ?_) _, ?_, fun h => absurd (segs_one l 0 h) ho⟩
    · obtain ⟨x, _, rfl⟩ := List.mem_map.1 hm
      exact (hb.drop _).take _
    · have := escUp_len ((segs l 0).map (sx l)) 300 (fun m hm => by
        obtain ⟨x, _, rfl⟩ := List.mem_map.1 hm
        show ((l.drop x.1).take x.2.1).length ≤ 300
        rw [List.length_take, List.length_drop]
        omega) (segs l 0).length
      have h3 : (segs l 0).length * (300 + 3) ≤ 301 * 303 := Nat.mul_le_mul hlen (Nat.le_refl _)
      omega
theorem multi_l1 (r t : List Int) (b : Bool) (hb : Byt t) (hn : NP t) (ht : t.length ≤ 1000000) (hone : b = true → t = r) : Ev (fun k => laws_FnMultiLine.l1 k (strOfNums r) (strOfNums t) b 1) true := by
  have key : ∀ (n j : Nat), t.length ≤ j + n → 1 ≤ j → j ≤ t.length + 1 → Ev (fun k => laws_FnMultiLine.l1 k (strOfNums r) (strOfNums t) b (j : Int)) true := by
    intro n
    induction n with
    | zero =>
      intro j hj h1 _
      refine Ev.step (f := fun k => if b = true then (if (strOfNums t).toList = (strOfNums r).toList then ((laws_inlineLives.f k).bind fun t174 => (some t174)) else (some false)) else ((laws_inlineLives.f k).bind fun t175 => (some t175))) (fun k => ?_) ⟨0, fun k _ => ?_⟩
      · simp only [laws_FnMultiLine.l1]
        rw [if_neg (by rw [str_size]; omega)]
      · cases b with
        | true =>
          rw [hone rfl]
          show (if true = true then (if (strOfNums r).toList = (strOfNums r).toList then ((laws_inlineLives.f k).bind fun t174 => (some t174)) else (some false)) else _) = _
          rw [if_pos rfl, if_pos rfl]
          rfl
        | false => rfl
    | succ n ih =>
      intro j hj h1 h2
      by_cases hlt : j < t.length
      · have hw1 : wrap64 ((j : Int) - 1) = ((j - 1 : Nat) : Int) := by rw [wrap_id (by omega) (by omega)]; omega
        have hw2 : wrap64 ((j : Int) + 1) = ((j + 1 : Nat) : Int) := by rw [wrap_id (by omega) (by omega)]; omega
        refine Ev.step (f := fun k => laws_FnMultiLine.l1 k (strOfNums r) (strOfNums t) b ((j + 1 : Nat) : Int)) (fun k => ?_) (ih (j + 1) (by omega) (by omega) (by omega))
        simp only [laws_FnMultiLine.l1, hw1, hw2, bt_str hb]
        rw [if_pos (by rw [str_size]; omega), if_pos (by omega)]
        by_cases h10 : rd t (j : Int) = 10
        · rw [if_pos h10, if_pos (by omega), if_pos (by rw [str_size]; omega), if_neg (fun hp => ?_)]
          have hnp := np_at hn (j - 1) (by omega) hp
          rw [show j - 1 + 1 = j by omega] at hnp
          exact hnp h10
        · rw [if_neg h10]
      · refine Ev.step (f := fun k => if b = true then (if (strOfNums t).toList = (strOfNums r).toList then ((laws_inlineLives.f k).bind fun t174 => (some t174)) else (some false)) else ((laws_inlineLives.f k).bind fun t175 => (some t175))) (fun k => ?_) ⟨0, fun k _ => ?_⟩
        · simp only [laws_FnMultiLine.l1]
          rw [if_neg (by rw [str_size]; omega)]
        · cases b with
          | true =>
            rw [hone rfl]
            show (if true = true then (if (strOfNums r).toList = (strOfNums r).toList then ((laws_inlineLives.f k).bind fun t174 => (some t174)) else (some false)) else _) = _
            rw [if_pos rfl, if_pos rfl]
            rfl
          | false => rfl
  exact key t.length 1 (by omega) (by omega) (by omega)
theorem multi_l0 (r t : List Int) (hr : Byt r) (hrl : r.length ≤ 300) (hb : Byt t) (hn : NP t) (ht : t.length ≤ 1000000) (hone : (∀ i, i < r.length → rd r (i : Int) ≠ 10) → t = r) : Ev (fun k => laws_FnMultiLine.l0 k (strOfNums r) (strOfNums t) true ((strOfNums r).size : Int) 0) true := by
  have key : ∀ (n j : Nat) (b : Bool), r.length = j + n → (b = true → ∀ i, i < j → rd r (i : Int) ≠ 10) → Ev (fun k => laws_FnMultiLine.l0 k (strOfNums r) (strOfNums t) b ((strOfNums r).size : Int) (j : Int)) true := by
    intro n
    induction n with
    | zero =>
      intro j b hj hbb
      refine Ev.step (f := fun k => laws_FnMultiLine.l1 k (strOfNums r) (strOfNums t) b 1) (fun k => ?_) (multi_l1 r t b hb hn ht (fun h => hone (fun i hi => hbb h i (by omega))))
      simp only [laws_FnMultiLine.l0]
      rw [if_neg (by rw [str_size]; omega)]
    | succ n ih =>
      intro j b hj hbb
      have hw2 : wrap64 ((j : Int) + 1) = ((j + 1 : Nat) : Int) := by rw [wrap_id (by omega) (by omega)]; omega
      cases b with
      | true =>
        refine Ev.step (f := fun k => laws_FnMultiLine.l0 k (strOfNums r) (strOfNums t) (rd r (j : Int) != 10) ((strOfNums r).size : Int) ((j + 1 : Nat) : Int)) (fun k => ?_) (ih (j + 1) _ (by omega) (fun h i hi => ?_))
        · simp only [laws_FnMultiLine.l0, hw2, bt_str hr]
          rw [if_pos (by rw [str_size]; omega), if_pos trivial, if_pos (by omega), if_pos (by rw [str_size]; omega)]
        · rcases Nat.lt_or_ge i j with h4 | h4
          · exact hbb rfl i h4
          · obtain rfl : i = j := by omega
            simpa using h
      | false =>
        refine Ev.step (f := fun k => laws_FnMultiLine.l0 k (strOfNums r) (strOfNums t) false ((strOfNums r).size : Int) ((j + 1 : Nat) : Int)) (fun k => ?_) (ih (j + 1) false (by omega) (fun h => by cases h))
        simp only [laws_FnMultiLine.l0, hw2]
        rw [if_pos (by rw [str_size]; omega), if_neg (by simp)]
  exact key r.length 0 true (by omega) (fun _ i hi => by cases hi)
theorem multi_pure : laws_FnMultiLine.Pure := by
  intro a0 h0
  by_cases hb : (a0.size : Int) > 2147483647
  · exact ⟨0, by unfold laws_FnMultiLine.f; rw [if_pos hb]⟩
  obtain ⟨t, r, e1, e2, hl, ha, hE⟩ := trimmed a0 h0
  obtain ⟨f1, f2, f3, f4⟩ := esc_facts r hl ha.byt
  have h : Ev (fun k => laws_FnMultiLine.f k a0) true := by
    unfold laws_FnMultiLine.f
    simp only [hb, if_false]
    refine Ev.bind e1 (Ev.bind e2 (Ev.bind (a := strOfNums (escL r 0)) ⟨0, fun k _ => ?_⟩ ?_))
    · show impl_MultiLine.f k (strOfNums r) = _
      unfold impl_MultiLine.f
      rw [bytes_str ha.byt, if_pos ⟨by rw [str_size]; omega, fun x hx => by have := ha x hx; omega⟩]
    · exact multi_l0 r (escL r 0) ha.byt hl f2 f1 f3 f4
  exact h.rounds
theorem multi_walk (a0 : ByteArray) (w : World) (w0 : a0.size ≤ 140737488351232) :
    Calls Tryd.prog 6 #[.string a0] w fun e w' => e = .returned (.bool true) ∧ Below w.heap.size w w' := laws_FnMultiLine.walk multi_pure a0 w w0
end Go.Proofs.YtbhcoeabhdangaaDoor.PInl
