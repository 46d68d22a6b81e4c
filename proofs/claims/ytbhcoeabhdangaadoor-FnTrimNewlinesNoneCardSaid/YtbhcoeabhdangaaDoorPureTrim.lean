/- The plain law of FnTrimNewlinesNone: a text with single and double line feeds alone, and no white space beside these, stays as it is. -/
import Derived.Test.YtbhcoeabhdangaaDoorTrimL
import Derived.Test.YtbhcoeabhdangaaDoorFTrim
namespace Go.Proofs.YtbhcoeabhdangaaDoor.PInl
open Go.Proofs.YtbhcoeabhdangaaDoor.Txt Go.RowKit Go.Proofs.YtbhcoeabhdangaaDoorW.PrintWords Go.Proofs.YtbhcoeabhdangaaDoorW.PrintLast Go.Proofs.YtbhcoeabhdangaaDoorW.PrintMore
set_option linter.unusedVariables false
set_option linter.unusedSimpArgs false

/-- Around a line feed stand line feeds, or what is no white space; there are not three of them. -/
def Good (l : List Int) (i : Nat) : Prop := rd l i = 10 → ¬ (blk (rd l ((i : Int) - 1)) = true ∧ rd l ((i : Int) - 1) ≠ 10) ∧ ¬ (blk (rd l ((i + 1 : Nat) : Int)) = true ∧ rd l ((i + 1 : Nat) : Int) ≠ 10) ∧ ¬ (1 < i ∧ rd l ((i : Int) - 1) = 10 ∧ rd l ((i : Int) - 2) = 10)
theorem trim_ev (l : List Int) (hl : l.length ≤ 1000) (ha : Asc l) (hg : ∀ i, i < l.length → Good l i) : Ev (fun k => textutils_TrimConsecutiveNewlines.f k l) l := by
  have key : ∀ (n j : Nat) (acc buf : List Int) (c : Int), l.length = j + n → acc ++ buf = l.take j → (buf = [] ∨ (0 < j ∧ rd l ((j : Int) - 1) = 32)) → 0 ≤ c → c ≤ 2 → (j = 0 → c = 0) → (0 < j → rd l ((j : Int) - 1) ≠ 10 → c = 0) →
      (0 < j → rd l ((j : Int) - 1) = 10 → c ≤ 1 ∨ (1 < j ∧ rd l ((j : Int) - 2) = 10)) → Ev (fun k => textutils_TrimConsecutiveNewlines.l0 k l acc c buf (j : Int)) l := by
    intro n
    induction n with
    | zero =>
      intro j acc buf c hj he hb c0 c2 h1 h2 h3
      have hlen := congrArg List.length he
      rw [List.length_append, List.length_take] at hlen
      refine Ev.step (f := fun _ => some l) (fun k => ?_) (Ev.now _)
      simp only [textutils_TrimConsecutiveNewlines.l0]
      rw [if_neg (by omega), if_pos (by omega), he, List.take_of_length_le (by omega)]
    | succ n ih =>
      intro j acc buf c hj he hb c0 c2 h1 h2 h3
      have hlen := congrArg List.length he
      rw [List.length_append, List.length_take] at hlen
      have hlt : j < l.length := by omega
      have hx := ha l[j] (List.getElem_mem hlt)
      have hd : ∀ k, utf8_DecodeRune.f k (l.drop ((j : Int)).toNat) = some (l[j], 1) := fun k => by
        rw [Int.toNat_natCast, List.drop_eq_getElem_cons hlt]
        unfold utf8_DecodeRune.f
        simp only
        rw [if_pos (by omega)]
      have hw : wrap64 ((j : Int) + 1) = ((j + 1 : Nat) : Int) := by rw [wrap_id (by omega) (by omega)]; omega
      have hrd : rd l ((j : Int)) = l[j] := rd_get hlt
      have hcut : (l.take (((j + 1 : Nat) : Int)).toNat).drop ((j : Int)).toNat = [l[j]] := by
        rw [Int.toNat_natCast, Int.toNat_natCast]
        exact take_one_drop hlt
      have htk : l.take (j + 1) = l.take j ++ [l[j]] := take_snoc hlt
      have hm1 : ((j + 1 : Nat) : Int) - 1 = (j : Int) := by omega
      have hm2 : ((j + 1 : Nat) : Int) - 2 = (j : Int) - 1 := by omega
      have hw2 : wrap64 (c + 1) = c + 1 := wrap_id (by omega) (by omega)
      have hgj := hg j hlt
      unfold Good at hgj
      rw [hrd] at hgj
      by_cases h10 : l[j] = 10
      · obtain ⟨g1, g2, g3⟩ := hgj h10
        have hbuf : buf = [] := by
          rcases hb with hb | ⟨hj0, hb⟩
          · exact hb
          · exact absurd ⟨by rw [hb]; decide, by rw [hb]; decide⟩ g1
        subst hbuf
        have hc1 : c ≤ 1 := by
          by_cases hj0 : j = 0
          · have := h1 hj0; omega
          · by_cases hp : rd l ((j : Int) - 1) = 10
            · rcases h3 (by omega) hp with h | ⟨h, h'⟩
              · exact h
              · exact absurd ⟨h, hp, h'⟩ g3
            · have := h2 (by omega) hp; omega
        rw [List.append_nil] at he
        refine Ev.step (f := fun k => textutils_TrimConsecutiveNewlines.l0 k l (acc ++ [10]) (c + 1) [] ((j + 1 : Nat) : Int)) (fun k => ?_) (ih (j + 1) (acc ++ [10]) [] (c + 1) (by omega) (by rw [List.append_nil, htk, he, h10]) (.inl rfl) (by omega) (by omega) (by omega) (fun _ hne => absurd (by rw [hm1, hrd, h10]) hne) (fun _ _ => by
          rw [hm2]
          by_cases hc0 : c = 0
          · exact .inl (by omega)
          · refine .inr ⟨?_, ?_⟩
            · by_cases hj0 : j = 0
              · exact absurd (h1 hj0) hc0
              · omega
            · by_cases hp : rd l ((j : Int) - 1) = 10
              · exact hp
              · by_cases hj0 : j = 0
                · exact absurd (h1 hj0) hc0
                · exact absurd (h2 (by omega) hp) hc0))
        simp only [textutils_TrimConsecutiveNewlines.l0, hd, Option.bind_some, hw, hw2]
        rw [if_pos (by omega), if_pos (by omega), if_pos (by omega), if_pos h10, if_pos (by omega), if_pos (by simp at hlen ⊢; omega), if_pos (by simp at hlen ⊢; omega), if_pos (by simp)]
        simp
      · by_cases h32 : l[j] = 32
        · have hc0 : c = 0 := by
            by_cases hj0 : j = 0
            · exact h1 hj0
            · refine h2 (by omega) (fun hp => ?_)
              have hgp := hg (j - 1) (by omega)
              unfold Good at hgp
              have e1 : (((j - 1 : Nat)) : Int) = (j : Int) - 1 := by omega
              have e2 : j - 1 + 1 = j := by omega
              rw [e1] at hgp
              have := (hgp hp).2.1
              rw [e2, hrd, h32] at this
              exact this ⟨by decide, by decide⟩
          refine Ev.step (f := fun k => textutils_TrimConsecutiveNewlines.l0 k l acc c (buf ++ [l[j]]) ((j + 1 : Nat) : Int)) (fun k => ?_) (ih (j + 1) acc (buf ++ [l[j]]) c (by omega) (by rw [htk, ← he, List.append_assoc]) (.inr ⟨by omega, by rw [hm1, hrd, h32]⟩) c0 c2 (by omega) (fun _ _ => hc0) (fun _ _ => .inl (by omega)))
          simp only [textutils_TrimConsecutiveNewlines.l0, hd, Option.bind_some, hw, hw2, hcut]
          rw [if_pos (by omega), if_pos (by omega), if_pos (by omega), if_neg h10, if_pos h32, if_pos (by omega), if_pos (by omega), if_pos (by simp; omega)]
        · refine Ev.step (f := fun k => textutils_TrimConsecutiveNewlines.l0 k l (acc ++ buf ++ [l[j]]) 0 [] ((j + 1 : Nat) : Int)) (fun k => ?_) (ih (j + 1) (acc ++ buf ++ [l[j]]) [] 0 (by omega) (by rw [List.append_nil, htk, ← he]) (.inl rfl) (by omega) (by omega) (fun _ => rfl) (fun _ _ => rfl) (fun _ _ => .inl (by omega)))
          simp only [textutils_TrimConsecutiveNewlines.l0, hd, Option.bind_some, hw, hw2, hcut]
          rw [if_pos (by omega), if_pos (by omega), if_pos (by omega), if_neg h10, if_neg h32, if_pos (by omega), if_pos (by omega), if_pos (by omega), if_pos (by simp; omega), if_pos (by simp)]
          simp
  exact key l.length 0 [] [] 0 (by omega) (by simp) (.inl rfl) (by omega) (by omega) (fun _ => rfl) (fun h => absurd h (by omega)) (fun h => absurd h (by omega))
theorem law_loop (r : List Int) (hl : r.length ≤ 300) (ha : Asc r) (hE : Ends r) : Ev (fun k => laws_FnTrimNewlinesNone.l0 k (strOfNums r) (r.length : Int) 0) true := by
  have key : ∀ (n j : Nat), r.length = j + n → (∀ i, i < j → Good r i) → Ev (fun k => laws_FnTrimNewlinesNone.l0 k (strOfNums r) (r.length : Int) (j : Int)) true := by
    intro n
    induction n with
    | zero =>
      intro j hj hg
      have ht : Ev (fun k => impl_TrimNewlines.f k (strOfNums r)) (strOfNums r) := by
        obtain ⟨K, hK⟩ := trim_ev r (by omega) ha (fun i hi => hg i (by omega))
        refine ⟨K, fun k hk => ?_⟩
        show impl_TrimNewlines.f k (strOfNums r) = _
        unfold impl_TrimNewlines.f
        have hk2 : textutils_TrimConsecutiveNewlines.f k r = some r := hK k hk
        rw [if_pos (by rw [str_size]; omega), bytes_str ha.byt, hk2]
        rfl
      refine Ev.step (f := fun k => (impl_TrimNewlines.f k (strOfNums r)).bind fun t174 => (if t174.toList = (strOfNums r).toList then ((laws_inlineLives.f k).bind fun t175 => (some t175)) else (some false))) (fun k => ?_) (Ev.bind ht ?_)
      · simp only [laws_FnTrimNewlinesNone.l0]
        rw [if_neg (by omega)]
      · refine ⟨0, fun k _ => ?_⟩
        show (if (strOfNums r).toList = (strOfNums r).toList then ((laws_inlineLives.f k).bind fun t175 => (some t175)) else (some false)) = _
        rw [if_pos rfl]
        rfl
    | succ n ih =>
      intro j hj hg
      have hlt : j < r.length := by omega
      have hw1 : wrap64 ((j : Int) - 1) = (j : Int) - 1 := wrap_id (by omega) (by omega)
      have hw2 : wrap64 ((j : Int) + 1) = ((j + 1 : Nat) : Int) := by rw [wrap_id (by omega) (by omega)]; omega
      have hw3 : wrap64 ((j : Int) - 2) = (j : Int) - 2 := wrap_id (by omega) (by omega)
      have hsz : ((strOfNums r).size : Int) = r.length := by rw [str_size]
      by_cases h10 : rd r (j : Int) = 10
      · have hj0 : 0 < j := by
          rcases Nat.eq_zero_or_pos j with h | h
          · exfalso
            subst h
            cases r with
            | nil => cases hlt
            | cons a r =>
              have e : a = 10 := h10
              have := (hE a).1 rfl
              rw [e] at this
              exact absurd this (by decide)
          · exact h
        have hj1 : j + 1 < r.length := by
          rcases Nat.lt_or_ge (j + 1) r.length with h | h
          · exact h
          · exfalso
            have hne : r ≠ [] := fun e => by rw [e] at hlt; cases hlt
            have e : r.getLast hne = 10 := by
              rw [List.getLast_eq_getElem, ← h10, rd_get hlt]
              congr 1
              omega
            have := (hE (r.getLast hne)).2 (List.getLast?_eq_some_getLast hne)
            rw [e] at this
            exact absurd this (by decide)
        by_cases hb : (blk (rd r ((j : Int) - 1)) = true ∧ rd r ((j : Int) - 1) ≠ 10) ∨ (blk (rd r ((j + 1 : Nat) : Int)) = true ∧ rd r ((j + 1 : Nat) : Int) ≠ 10) ∨ (1 < j ∧ rd r ((j : Int) - 1) = 10 ∧ rd r ((j : Int) - 2) = 10)
        · refine Ev.step (f := fun _ => some true) (fun k => ?_) (Ev.now _)
          simp only [laws_FnTrimNewlinesNone.l0, hw1, hw2, hw3, blank_f, Option.bind_some, bt_str ha.byt, hsz]
          rw [if_pos (by omega), if_pos (by omega), if_pos (by omega), if_pos h10, if_pos (by omega), if_pos (by omega)]
          have q1 : (0 : Int) ≤ ((j + 1 : Nat) : Int) := by omega
          have q2 : ((j + 1 : Nat) : Int) < (r.length : Int) := by omega
          simp only [q1, q2, if_true]
          generalize rd r ((j + 1 : Nat) : Int) = q at *
          generalize rd r ((j : Int) - 1) = p at *
          by_cases hj2 : (j : Int) > 1
          · have q3 : (0 : Int) ≤ (j : Int) - 2 := by omega
            have q4 : (j : Int) - 2 < (r.length : Int) := by omega
            simp only [hj2, q3, q4, if_true]
            generalize rd r ((j : Int) - 2) = pp at *
            cases hp : blk p <;> cases hq : blk q <;> by_cases p10 : p = 10 <;> by_cases q10 : q = 10 <;> by_cases pp10 : pp = 10 <;> simp_all
          · simp only [hj2, if_false]
            have hj3 : ¬ 1 < j := by omega
            cases hp : blk p <;> cases hq : blk q <;> by_cases p10 : p = 10 <;> by_cases q10 : q = 10 <;> simp_all
        · simp only [not_or] at hb
          refine Ev.step (f := fun k => laws_FnTrimNewlinesNone.l0 k (strOfNums r) (r.length : Int) ((j + 1 : Nat) : Int)) (fun k => ?_) (ih (j + 1) (by omega) (fun i hi => by
            rcases Nat.lt_or_ge i j with h | h
            · exact hg i h
            · obtain rfl : i = j := by omega
              exact fun _ => hb))
          simp only [laws_FnTrimNewlinesNone.l0, hw1, hw2, hw3, blank_f, Option.bind_some, bt_str ha.byt, hsz]
          rw [if_pos (by omega), if_pos (by omega), if_pos (by omega), if_pos h10, if_pos (by omega), if_pos (by omega)]
          have q1 : (0 : Int) ≤ ((j + 1 : Nat) : Int) := by omega
          have q2 : ((j + 1 : Nat) : Int) < (r.length : Int) := by omega
          simp only [q1, q2, if_true]
          obtain ⟨b1, b2, b3⟩ := hb
          generalize laws_FnTrimNewlinesNone.l0 k (strOfNums r) (r.length : Int) ((j + 1 : Nat) : Int) = X
          generalize rd r ((j + 1 : Nat) : Int) = q at *
          generalize rd r ((j : Int) - 1) = p at *
          by_cases hj2 : (j : Int) > 1
          · have q3 : (0 : Int) ≤ (j : Int) - 2 := by omega
            have q4 : (j : Int) - 2 < (r.length : Int) := by omega
            simp only [hj2, q3, q4, if_true]
            generalize rd r ((j : Int) - 2) = pp at *
            have hj3 : 1 < j := by omega
            cases hp : blk p <;> cases hq : blk q <;> by_cases p10 : p = 10 <;> by_cases q10 : q = 10 <;> by_cases pp10 : pp = 10 <;> simp_all
          · simp only [hj2, if_false]
            cases hp : blk p <;> cases hq : blk q <;> by_cases p10 : p = 10 <;> by_cases q10 : q = 10 <;> simp_all
      · refine Ev.step (f := fun k => laws_FnTrimNewlinesNone.l0 k (strOfNums r) (r.length : Int) ((j + 1 : Nat) : Int)) (fun k => ?_) (ih (j + 1) (by omega) (fun i hi => by
          rcases Nat.lt_or_ge i j with h | h
          · exact hg i h
          · obtain rfl : i = j := by omega
            exact fun h => absurd h h10))
        simp only [laws_FnTrimNewlinesNone.l0, hw1, hw2, hw3, blank_f, Option.bind_some, bt_str ha.byt, hsz]
        rw [if_pos (by omega), if_pos (by omega), if_pos (by omega), if_neg h10]
  exact key r.length 0 (by omega) (fun i hi => absurd hi (by omega))
theorem law_pure : laws_FnTrimNewlinesNone.Pure := by
  intro a0 h0
  by_cases hb : (a0.size : Int) > 2147483647
  · exact ⟨0, by unfold laws_FnTrimNewlinesNone.f; rw [if_pos hb]⟩
  obtain ⟨t, r, e1, e2, hl, ha, hE⟩ := trimmed a0 h0
  have h : Ev (fun k => laws_FnTrimNewlinesNone.f k a0) true := by
    unfold laws_FnTrimNewlinesNone.f
    simp only [hb, if_false]
    refine Ev.bind e1 (Ev.bind e2 ?_)
    rw [str_size]
    exact law_loop r hl ha hE
  exact h.rounds
theorem law_walk (a0 : ByteArray) (w : World) (w0 : a0.size ≤ 140737488351232) :
    Calls Tryd.prog 4 #[.string a0] w fun e w' => e = .returned (.bool true) ∧ Below w.heap.size w w' := laws_FnTrimNewlinesNone.walk law_pure a0 w w0
end Go.Proofs.YtbhcoeabhdangaaDoor.PInl
