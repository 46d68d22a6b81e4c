/- The plain law of FnAlt. -/
import Derived.Test.YtbhcoeabhdangaaDoorFAlt
import Derived.Test.YtbhcoeabhdangaaDoorAsc
namespace Go.Proofs.YtbhcoeabhdangaaDoor.PInl
open Go.Proofs.YtbhcoeabhdangaaDoor.Txt Go.RowKit Go.Proofs.YtbhcoeabhdangaaDoorW.PrintWords Go.Proofs.YtbhcoeabhdangaaDoorW.PrintLast Go.Proofs.YtbhcoeabhdangaaDoorW.PrintMore
set_option linter.unusedVariables false
set_option linter.unusedSimpArgs false

theorem altUp_more (l : List Int) (i d : Nat) : ∃ rest, altUp l (i + d) = altUp l i ++ rest := by
  induction d with
  | zero => exact ⟨[], by simp⟩
  | succ d ih =>
    obtain ⟨rest, h⟩ := ih
    refine ⟨rest ++ (if altC l (i + d) then [92, rd l ((i + d : Nat) : Int)] else [rd l ((i + d : Nat) : Int)]), ?_⟩
    show altUp l (i + d) ++ _ = _
    rw [h, List.append_assoc]
    rfl
theorem rd_app {a b : List Int} {x : Int} {c : List Int} (h : b = a ++ x :: c) : rd b (a.length : Int) = x := by
  subst h
  have hl : a.length < (a ++ x :: c).length := by rw [List.length_append, List.length_cons]; omega
  rw [rd_get hl, List.getElem_append_right (Nat.le_refl _)]
  simp
/-- No bracket, no backslash, no line feed. -/
def plainC (x : Int) : Prop := x ≠ 91 ∧ x ≠ 93 ∧ x ≠ 92 ∧ x ≠ 10
instance (x : Int) : Decidable (plainC x) := by unfold plainC; exact inferInstance
theorem altUp_plain (l : List Int) (hp : ∀ i, i < l.length → plainC (rd l (i : Int))) : ∀ j, j ≤ l.length → altUp l j = l.take j := by
  intro j
  induction j with
  | zero => intro _; simp [altUp]
  | succ j ih =>
    intro hj
    have hlt : j < l.length := by omega
    obtain ⟨h1, h2, _, _⟩ := hp j hlt
    have hc : ¬ altC l j := fun h => by
      rcases h.1 with h | h
      · exact h1 h
      · exact h2 h
    show altUp l j ++ _ = _
    rw [if_neg hc, ih (by omega), take_snoc hlt, rd_get hlt]
theorem wrap_two (a b : Nat) (h : b = a + 2) (hb : a ≤ 1000) : wrap64 (((a + 1 : Nat) : Int) + 1) = (b : Int) := by rw [wrap_id (by omega) (by omega)]; omega
theorem wrap_one (a b : Nat) (h : b = a + 1) (hb : a ≤ 1000) : wrap64 ((a : Int) + 1) = (b : Int) := by rw [wrap_id (by omega) (by omega)]; omega
theorem alt_aux1 {a t r d : Nat} (h : t = a + d + r) (hd : 0 < d) : (a : Int) < (t : Int) := by omega
theorem alt_aux2 {a t r : Nat} (h : t = a + (0 + 1 + 1) + r) : ((a + 1 : Nat) : Int) < (t : Int) := by omega
theorem alt_aux3 {a t r d n : Nat} (h : t = a + d + r) (hn : t ≤ 2 * n) (hl : n ≤ 300) : a ≤ 1000 := by omega
theorem lives_ev : Ev (fun k => (laws_inlineLives.f k).bind fun t => some t) true := ⟨0, fun _ _ => rfl⟩
set_option maxHeartbeats 4000000 in
theorem alt_second (l : List Int) (hl : l.length ≤ 300) (ha : Asc l) : Ev (fun k => laws_FnAlt.l1 k (strOfNums l) (strOfNums (altUp l l.length)) 0 ((strOfNums (altUp l l.length)).size : Int) 0) true := by
  have hb := ha.byt
  have hB : Byt (altUp l l.length) := altUp_byt hb l.length (Nat.le_refl _)
  have hn := altUp_len l l.length
  have key : ∀ (n i : Nat), l.length = i + n → Ev (fun k => laws_FnAlt.l1 k (strOfNums l) (strOfNums (altUp l l.length)) (i : Int) ((altUp l l.length).length : Int) ((altUp l i).length : Int)) true := by
    intro n
    induction n with
    | zero =>
      intro i hi
      obtain rfl : i = l.length := by omega
      refine Ev.step (f := fun k => (laws_inlineLives.f k).bind fun t => some t) (fun k => ?_) lives_ev
      simp only [laws_FnAlt.l1]
      rw [if_neg (by omega), if_pos (by rw [str_size])]
    | succ n ih =>
      intro i hi
      have hlt : i < l.length := by omega
      obtain ⟨rest, hr⟩ := altUp_more l (i + 1) n
      have e1 : i + 1 + n = l.length := by omega
      rw [e1] at hr
      have hs : altUp l (i + 1) = altUp l i ++ (if altC l i then [92, rd l (i : Int)] else [rd l (i : Int)]) := rfl
      have hx := hb l[i] (List.getElem_mem hlt)
      rw [← rd_get hlt] at hx
      have ih1 := ih (i + 1) (by omega)
      have hlen := congrArg List.length hr
      rw [hs] at hlen
      have hwi : wrap64 ((i : Int) + 1) = ((i + 1 : Nat) : Int) := by rw [wrap_id (by omega) (by omega)]; omega
      have hw0 : (altUp l (i + 1)).length = (altUp l i ++ (if altC l i then [92, rd l (i : Int)] else [rd l (i : Int)])).length := congrArg List.length hs
      generalize altUp l (i + 1) = A1 at hr hs ih1 hw0
      generalize altUp l i = A at hs hlen hw0 ⊢
      generalize altUp l l.length = T at *
      have hA9 : A.length ≤ 1000 := by
        rw [List.length_append, List.length_append] at hlen
        exact alt_aux3 hlen hn hl
      by_cases hc : altC l i
      · rw [if_pos hc] at hs hlen hw0
        simp only [List.length_append, List.length_cons, List.length_nil] at hlen hw0
        have t0 : rd (T) ((A).length : Int) = 92 := rd_app (c := rd l (i : Int) :: rest) (by rw [hr, hs, List.append_assoc]; rfl)
        have t1 : rd (T) (((A).length + 1 : Nat) : Int) = rd l (i : Int) := by
          have := rd_app (a := A ++ [92]) (b := T) (x := rd l (i : Int)) (c := rest) (by rw [hr, hs, List.append_assoc, List.append_assoc]; rfl)
          rw [List.length_append, List.length_singleton] at this
          exact this
        have hx92 : ¬ (92 : Int) = rd l (i : Int) := by rcases hc.1 with h | h <;> rw [h] <;> decide
        have hx10 : ¬ rd l (i : Int) = 10 := by rcases hc.1 with h | h <;> rw [h] <;> decide
        have hw1 : wrap64 (((A).length : Int) + 1) = (((A).length + 1 : Nat) : Int) := wrap_one _ _ rfl hA9
        have hw2 : wrap64 ((((A).length + 1 : Nat) : Int) + 1) = ((A1).length : Int) := wrap_two _ _ hw0 hA9
        clear hs hr hx
        have p1 : ((A).length : Int) < ((T).length : Int) := alt_aux1 hlen (by decide)
        have p2 : (i : Int) < (l.length : Int) := Int.ofNat_lt.2 hlt
        have p3 : (0 : Int) ≤ ((A).length : Int) := Int.natCast_nonneg _
        have p4 : (0 : Int) ≤ (i : Int) := Int.natCast_nonneg _
        have p5 : (((A).length + 1 : Nat) : Int) < ((T).length : Int) := alt_aux2 hlen
        have p6 : (0 : Int) ≤ (((A).length + 1 : Nat) : Int) := Int.natCast_nonneg _
        -- the backslash
        refine Ev.step (f := fun k => laws_FnAlt.j2 k (strOfNums l) (strOfNums (T)) (i : Int) ((A).length : Int) ((T).length : Int) ((A).length : Int) false) (fun k => ?_) (Ev.step (f := fun k => laws_FnAlt.l1 k (strOfNums l) (strOfNums (T)) (i : Int) ((T).length : Int) (((A).length + 1 : Nat) : Int)) (fun k => ?_) (Ev.step (f := fun k => laws_FnAlt.j2 k (strOfNums l) (strOfNums (T)) (i : Int) (((A).length + 1 : Nat) : Int) ((T).length : Int) (((A).length + 1 : Nat) : Int) true) (fun k => ?_) (Ev.step (f := fun k => laws_FnAlt.l1 k (strOfNums l) (strOfNums (T)) ((i + 1 : Nat) : Int) ((T).length : Int) ((A1).length : Int)) (fun k => ?_) ih1)))
        · simp only [laws_FnAlt.l1, bt_str hB, bt_str hb, str_size]
          rw [if_pos p1, if_pos p2, if_pos p3, if_pos p1, if_pos p4, if_neg (fun e => hx92 (t0.symm.trans e)), if_neg hx10]
        · simp only [laws_FnAlt.j2, bt_str hB, str_size, hw1]
          rw [if_neg (by simp), if_pos p3, if_pos p1, if_pos t0]
        · simp only [laws_FnAlt.l1, bt_str hB, bt_str hb, str_size]
          rw [if_pos p5, if_pos p2, if_pos p6, if_pos p5, if_pos p4, if_pos t1]
        · simp only [laws_FnAlt.j2, hwi, hw2]
          rw [if_pos trivial]
      · rw [if_neg hc] at hs hlen hw0
        simp only [List.length_append, List.length_cons, List.length_nil] at hlen hw0
        have t0 : rd (T) ((A).length : Int) = rd l (i : Int) := rd_app (c := rest) (by rw [hr, hs, List.append_assoc]; rfl)
        have hw2 : wrap64 (((A).length : Int) + 1) = ((A1).length : Int) := wrap_one _ _ hw0 hA9
        clear hs hr hx
        have p1 : ((A).length : Int) < ((T).length : Int) := alt_aux1 hlen (by decide)
        have p2 : (i : Int) < (l.length : Int) := Int.ofNat_lt.2 hlt
        have p3 : (0 : Int) ≤ ((A).length : Int) := Int.natCast_nonneg _
        have p4 : (0 : Int) ≤ (i : Int) := Int.natCast_nonneg _
        refine Ev.step (f := fun k => laws_FnAlt.j2 k (strOfNums l) (strOfNums (T)) (i : Int) ((A).length : Int) ((T).length : Int) ((A).length : Int) true) (fun k => ?_) (Ev.step (f := fun k => laws_FnAlt.l1 k (strOfNums l) (strOfNums (T)) ((i + 1 : Nat) : Int) ((T).length : Int) ((A1).length : Int)) (fun k => ?_) ih1)
        · simp only [laws_FnAlt.l1, bt_str hB, bt_str hb, str_size]
          rw [if_pos p1, if_pos p2, if_pos p3, if_pos p1, if_pos p4, if_pos t0]
        · simp only [laws_FnAlt.j2, hwi, hw2]
          rw [if_pos trivial]
  have := key l.length 0 (by omega)
  rw [str_size]
  exact this
theorem alt_loop (l : List Int) (hl : l.length ≤ 300) (ha : Asc l) : Ev (fun k => laws_FnAlt.l0 k (strOfNums l) (strOfNums (altUp l l.length)) true 0 ((strOfNums l).size : Int) 0) true := by
  have hb := ha.byt
  rw [str_size]
  have key : ∀ (n j : Nat) (b : Bool), l.length = j + n → (b = true → ∀ i, i < j → plainC (rd l (i : Int))) → Ev (fun k => laws_FnAlt.l0 k (strOfNums l) (strOfNums (altUp l l.length)) b 0 (l.length : Int) (j : Int)) true := by
    intro n
    induction n with
    | zero =>
      intro j b hj hp
      cases b with
      | true =>
        have he : altUp l l.length = l := by
          rw [altUp_plain l (fun i hi => hp rfl i (by omega)) l.length (Nat.le_refl _), List.take_length]
        refine Ev.step (f := fun k => (laws_inlineLives.f k).bind fun t => some t) (fun k => ?_) lives_ev
        simp only [laws_FnAlt.l0]
        rw [if_neg (by omega), if_pos trivial, he, if_pos rfl]
      | false =>
        refine Ev.step (f := fun k => laws_FnAlt.l1 k (strOfNums l) (strOfNums (altUp l l.length)) 0 ((strOfNums (altUp l l.length)).size : Int) 0) (fun k => ?_) (alt_second l hl ha)
        simp only [laws_FnAlt.l0]
        rw [if_neg (by omega), if_neg (by simp)]
    | succ n ih =>
      intro j b hj hp
      have hlt : j < l.length := by omega
      have hw : wrap64 ((j : Int) + 1) = ((j + 1 : Nat) : Int) := by rw [wrap_id (by omega) (by omega)]; omega
      have st : ∀ b' : Bool, (b' = true → ∀ i, i < j + 1 → plainC (rd l (i : Int))) → (∀ k, laws_FnAlt.l0 (k + 1) (strOfNums l) (strOfNums (altUp l l.length)) b 0 (l.length : Int) (j : Int) = laws_FnAlt.l0 k (strOfNums l) (strOfNums (altUp l l.length)) b' 0 (l.length : Int) ((j + 1 : Nat) : Int)) → Ev (fun k => laws_FnAlt.l0 k (strOfNums l) (strOfNums (altUp l l.length)) b 0 (l.length : Int) (j : Int)) true := fun b' h he => Ev.step he (ih (j + 1) b' (by omega) h)
      cases b with
      | false =>
        refine st false (fun h => by cases h) (fun k => ?_)
        simp only [laws_FnAlt.l0, hw]
        rw [if_pos (by omega), if_neg (by simp)]
      | true =>
        have e : ∀ k, laws_FnAlt.l0 (k + 1) (strOfNums l) (strOfNums (altUp l l.length)) true 0 (l.length : Int) (j : Int) = laws_FnAlt.l0 k (strOfNums l) (strOfNums (altUp l l.length)) (decide (plainC (rd l (j : Int)))) 0 (l.length : Int) ((j + 1 : Nat) : Int) := fun k => by
          simp only [laws_FnAlt.l0, hw, bt_str hb, str_size]
          rw [if_pos (by omega), if_pos trivial, if_pos (by omega), if_pos (by omega)]
          generalize rd l (j : Int) = x
          by_cases h1 : x = 91
          · rw [if_pos h1, decide_eq_false (fun h => h.1 h1)]
          rw [if_neg h1]
          by_cases h2 : x = 93
          · rw [if_pos h2, decide_eq_false (fun h => h.2.1 h2)]
          rw [if_neg h2]
          by_cases h3 : x = 92
          · rw [if_pos h3, decide_eq_false (fun h => h.2.2.1 h3)]
          rw [if_neg h3]
          by_cases h4 : x = 10
          · rw [decide_eq_false (fun h => h.2.2.2 h4), h4]
            rfl
          · rw [decide_eq_true ⟨h1, h2, h3, h4⟩, bne_iff_ne.2 h4]
        refine st _ (fun h i hi => ?_) e
        rcases Nat.lt_or_ge i j with h' | h'
        · exact hp rfl i h'
        · obtain rfl : i = j := by omega
          exact of_decide_eq_true h
  exact key l.length 0 true (by omega) (fun _ i hi => absurd hi (by omega))
theorem alt_pure : laws_FnAlt.Pure := by
  intro a0 h0
  have h : Ev (fun k => laws_FnAlt.f k a0) true := by
    unfold laws_FnAlt.f
    by_cases hb : (a0.size : Int) > 2147483647
    · simp only [hb, if_true]
      exact Ev.now _
    simp only [hb, if_false]
    obtain ⟨l, hf, hl, ha⟩ := ascii a0 h0
    refine Ev.bind ⟨302, fun k hk => hf k (by omega)⟩ (Ev.bind (a := strOfNums (altUp l l.length)) ⟨0, fun k _ => ?_⟩ (alt_loop l hl ha))
    show impl_Alt.f k (strOfNums l) = _
    unfold impl_Alt.f
    rw [if_pos (by rw [str_size]; omega), bytes_str ha.byt, str_size]
  exact h.rounds
theorem alt_walk (a0 : ByteArray) (w : World) (w0 : a0.size ≤ 140737488351232) :
    Calls Tryd.prog 5 #[.string a0] w fun e w' => e = .returned (.bool true) ∧ Below w.heap.size w w' := laws_FnAlt.walk alt_pure a0 w w0
end Go.Proofs.YtbhcoeabhdangaaDoor.PInl
