/- The plain law of FnStrikeTest. -/
import Derived.Test.YtbhcoeabhdangaaDoorFStrike
namespace Go.Proofs.YtbhcoeabhdangaaDoor.PInl
open Go.Proofs.YtbhcoeabhdangaaDoor.Txt Go.RowKit Go.Proofs.YtbhcoeabhdangaaDoorW.PrintWords Go.Proofs.YtbhcoeabhdangaaDoorW.PrintLast Go.Proofs.YtbhcoeabhdangaaDoorW.PrintMore
set_option linter.unusedVariables false
set_option linter.unusedSimpArgs false

/-- A byte of ASCII that may stand at a place: behind a byte 7 a tilde, a star or a bar. -/
def Okb (l : List Int) (i : Nat) : Prop := 0 ≤ rd l i ∧ rd l i < 128 ∧ (32 ≤ rd l i ∨ rd l i = 7 ∨ rd l i = 10 ∨ rd l i = 9) ∧ (rd l i = 7 → i + 1 < l.length ∧ (rd l ((i + 1 : Nat) : Int) = 126 ∨ rd l ((i + 1 : Nat) : Int) = 42 ∨ rd l ((i + 1 : Nat) : Int) = 124))
def nx (l : List Int) (a : Nat) : Int := if a + 1 < l.length then (if rd l ((a + 1 : Nat) : Int) = 7 then rd l ((a + 2 : Nat) : Int) else rd l ((a + 1 : Nat) : Int)) else 0
theorem dec_f (l : List Int) (i : Nat) (h : i < l.length) (h0 : 0 ≤ rd l i) (h1 : rd l i < 128) (k : Nat) : utf8_DecodeRune.f k (l.drop ((i : Int)).toNat) = some (rd l i, 1) := by
  rw [Int.toNat_natCast, List.drop_eq_getElem_cons h, rd_get h] at *
  unfold utf8_DecodeRune.f
  simp only
  rw [if_pos ⟨h0, h1⟩]
theorem next_ev (l : List Int) (hl : l.length ≤ 2147483647) (a : Nat) (ha : a < l.length) (hok : ∀ i, i < l.length → Okb l i) : Ev (fun k => escape_getNextAsRune.f k l (a : Int)) (nx l a) := by
  have hw : wrap64 ((a : Int) + 1) = ((a + 1 : Nat) : Int) := by rw [wrap_id (by omega) (by omega)]; omega
  have hw2 : wrap64 (((a + 1 : Nat) : Int) + 1) = ((a + 2 : Nat) : Int) := by rw [wrap_id (by omega) (by omega)]; omega
  unfold escape_getNextAsRune.f nx
  rw [hw]
  by_cases h1 : a + 1 < l.length
  · rw [if_pos h1]
    obtain ⟨o0, o1, o2, o3⟩ := hok (a + 1) h1
    by_cases h7 : rd l ((a + 1 : Nat) : Int) = 7
    · rw [if_pos h7]
      obtain ⟨h2, h3⟩ := o3 h7
      have h2 : a + 2 < l.length := h2
      obtain ⟨p0, p1, p2, p3⟩ := hok (a + 2) h2
      have hn7 : ¬ rd l ((a + 2 : Nat) : Int) = 7 := by
        have e : ((a + 1 + 1 : Nat) : Int) = ((a + 2 : Nat) : Int) := rfl
        rw [e] at h3
        omega
      refine Ev.step (f := fun k => escape_getNextAsRune.l0 k l ((a + 2 : Nat) : Int)) (fun k => ?_) (Ev.step (f := fun _ => some (rd l ((a + 2 : Nat) : Int))) (fun k => ?_) (Ev.now _))
      · simp only [escape_getNextAsRune.l0]
        rw [if_pos (by omega), if_pos (by omega), if_pos h7, hw2]
      · simp only [escape_getNextAsRune.l0]
        rw [if_pos (by omega), if_pos (by omega), if_neg hn7, if_pos (by omega), dec_f l (a + 2) h2 p0 p1]
        rfl
    · rw [if_neg h7]
      refine Ev.step (f := fun _ => some (rd l ((a + 1 : Nat) : Int))) (fun k => ?_) (Ev.now _)
      simp only [escape_getNextAsRune.l0]
      rw [if_pos (by omega), if_pos (by omega), if_neg h7, if_pos (by omega), dec_f l (a + 1) h1 o0 o1]
      rfl
  · rw [if_neg h1]
    refine Ev.step (f := fun _ => some 0) (fun k => ?_) (Ev.now _)
    simp only [escape_getNextAsRune.l0]
    rw [if_neg (by omega)]
/-- What the test tells. -/
def wantS (l : List Int) (a : Nat) : Int := if rd l (a : Int) = 126 ∧ a + 1 < l.length ∧ rd l ((a + 1 : Nat) : Int) ≠ 32 ∧ rd l ((a + 1 : Nat) : Int) ≠ 10 ∧ rd l ((a + 1 : Nat) : Int) ≠ 9 then 1 else -1
theorem nx_range (l : List Int) (a : Nat) (hok : ∀ i, i < l.length → Okb l i) : 0 ≤ nx l a ∧ nx l a < 128 := by
  unfold nx
  split
  · rename_i h1
    split
    · rename_i h7
      obtain ⟨h2, h3⟩ := (hok (a + 1) h1).2.2.2 h7
      have := hok (a + 2) h2
      exact ⟨this.1, this.2.1⟩
    · exact ⟨(hok (a + 1) h1).1, (hok (a + 1) h1).2.1⟩
  · omega
theorem handle_ev (l : List Int) (hl : l.length ≤ 2147483647) (a : Nat) (ha : a < l.length) (hok : ∀ i, i < l.length → Okb l i) : Ev (fun k => strikethrough_strikethroughPlugin_handleUnEscapers.f k ⟨#[]⟩ l (a : Int)) (wantS l a, ⟨#[]⟩) := by
  unfold strikethrough_strikethroughPlugin_handleUnEscapers.f
  have q1 : (0 : Int) ≤ (a : Int) := by omega
  have q2 : (a : Int) < (l.length : Int) := by omega
  simp only [q1, q2, if_true]
  by_cases h126 : rd l (a : Int) = 126
  · simp only [h126, if_true]
    have hN : Ev (fun k => escape_GetNextAsRune.f k l (a : Int)) (nx l a) := by
      unfold escape_GetNextAsRune.f
      exact Ev.bind (next_ev l hl a ha hok) (Ev.now _)
    obtain ⟨n0, n1⟩ := nx_range l a hok
    refine Ev.bind hN (Ev.bind (a := spc (nx l a)) ⟨0, fun k _ => by show unicode_IsSpace.f k (nx l a) = _; unfold unicode_IsSpace.f; rw [if_pos ⟨n0, n1⟩]⟩ ⟨0, fun k _ => ?_⟩)
    show (if spc (nx l a) = true then some ((-1 : Int), (⟨#[]⟩ : ByteArray)) else if nx l a = 0 then some (-1, ⟨#[]⟩) else some (1, ⟨#[]⟩)) = some (wantS l a, ⟨#[]⟩)
    unfold wantS
    by_cases h1 : a + 1 < l.length
    · obtain ⟨o0, o1, o2, o3⟩ := hok (a + 1) h1
      have e : nx l a = if rd l ((a + 1 : Nat) : Int) = 7 then rd l ((a + 2 : Nat) : Int) else rd l ((a + 1 : Nat) : Int) := by unfold nx; rw [if_pos h1]
      by_cases h7 : rd l ((a + 1 : Nat) : Int) = 7
      · rw [if_pos h7] at e
        have h3 := (o3 h7).2
        have e2 : ((a + 1 + 1 : Nat) : Int) = ((a + 2 : Nat) : Int) := rfl
        rw [e2, ← e] at h3
        have hs : spc (nx l a) = false := by unfold spc; exact decide_eq_false (by omega)
        rw [hs, if_neg (by simp), if_neg (by omega), if_pos ⟨h126, h1, by omega, by omega, by omega⟩]
      · rw [if_neg h7] at e
        by_cases hsp : rd l ((a + 1 : Nat) : Int) = 32 ∨ rd l ((a + 1 : Nat) : Int) = 10 ∨ rd l ((a + 1 : Nat) : Int) = 9
        · have hs : spc (nx l a) = true := by unfold spc; rw [e]; exact decide_eq_true (by omega)
          rw [hs, if_pos rfl, if_neg (by omega)]
        · have hs : spc (nx l a) = false := by unfold spc; rw [e]; exact decide_eq_false (by omega)
          rw [hs, if_neg (by simp), if_neg (by rw [e]; omega), if_pos ⟨h126, h1, by omega, by omega, by omega⟩]
    · have e : nx l a = 0 := by unfold nx; rw [if_neg h1]
      have hs0 : spc 0 = false := by decide
      rw [e, hs0, if_neg (by simp), if_pos rfl, if_neg (fun h => h1 h.2.1)]
  · simp only [h126, if_false]
    have e : wantS l a = -1 := by unfold wantS; rw [if_neg (fun h => h126 h.1)]
    rw [e]
    exact Ev.now _
theorem test_ev (s : ByteArray) (hs : s.size ≤ 2147483647) (a : Nat) (ha : a < s.size) (hok : ∀ i, i < s.size → Okb (bytesOf s) i) : Ev (fun k => impl_StrikeTest.f k s (a : Int)) (wantS (bytesOf s) a) := by
  unfold impl_StrikeTest.f
  simp only [hs, if_true]
  have hl := bytesOf_length s
  exact Ev.bind (handle_ev (bytesOf s) (by omega) a (by omega) (fun i hi => hok i (by omega))) (Ev.now _)
theorem test_one : Ev (fun k => impl_StrikeTest.f k (⟨#[7, 126, 97]⟩ : ByteArray) 1) 1 := Ev.of (fun k => impl_StrikeTest.mono _ _ k) (k := 5) (by kernel_rfl)
theorem j2_ev (s : ByteArray) (a : Nat) (w : Int) (b : Bool) (h : Ev (fun k => impl_StrikeTest.f k s (a : Int)) (if b = true then 1 else w)) : Ev (fun k => laws_FnStrikeTest.j2 k s (a : Int) w b) true := by
  have fin : Ev (fun k => (impl_StrikeTest.f k (⟨#[7, 126, 97]⟩ : ByteArray) 1).bind fun t => some (t == 1)) true := Ev.bind test_one (Ev.now _)
  cases b with
  | true =>
    refine Ev.step (f := fun k => (impl_StrikeTest.f k s (a : Int)).bind fun t101 => (if t101 = 1 then ((impl_StrikeTest.f k (⟨#[7, 126, 97]⟩ : ByteArray) 1).bind fun t102 => (some (t102 == 1))) else (some false))) (fun k => ?_) (Ev.bind h ?_)
    · simp only [laws_FnStrikeTest.j2]
      rw [if_pos trivial]
    · simp only [if_true]
      exact fin
  | false =>
    refine Ev.step (f := fun k => (impl_StrikeTest.f k s (a : Int)).bind fun t103 => (if t103 = w then ((impl_StrikeTest.f k (⟨#[7, 126, 97]⟩ : ByteArray) 1).bind fun t104 => (some (t104 == 1))) else (some false))) (fun k => ?_) (Ev.bind h ?_)
    · simp only [laws_FnStrikeTest.j2]
      rw [if_neg (by simp)]
    · simp only [Bool.false_eq_true, if_false, if_true]
      exact fin
theorem strike_loop (s : ByteArray) (hs : s.size ≤ 2147483647) (a : Nat) (ha : a < s.size) : Ev (fun k => laws_FnStrikeTest.l0 k s (a : Int) (s.size : Int) 0) true := by
  have hlen := bytesOf_length s
  have key : ∀ (n j : Nat), s.size = j + n → (∀ i, i < j → Okb (bytesOf s) i) → Ev (fun k => laws_FnStrikeTest.l0 k s (a : Int) (s.size : Int) (j : Int)) true := by
    intro n
    induction n with
    | zero =>
      intro j hj hok
      have hT := test_ev s hs a ha (fun i hi => hok i (by omega))
      have hw : wrap64 ((a : Int) + 1) = ((a + 1 : Nat) : Int) := by rw [wrap_id (by omega) (by omega)]; omega
      unfold wantS at hT
      have fin : ∀ b : Bool, (b = decide (rd (bytesOf s) (a : Int) = 126 ∧ a + 1 < s.size ∧ rd (bytesOf s) ((a + 1 : Nat) : Int) ≠ 32 ∧ rd (bytesOf s) ((a + 1 : Nat) : Int) ≠ 10 ∧ rd (bytesOf s) ((a + 1 : Nat) : Int) ≠ 9)) → Ev (fun k => laws_FnStrikeTest.j2 k s (a : Int) (-1) b) true := by
        intro b hb
        refine j2_ev s a (-1) b ?_
        rw [hlen] at hT
        rw [hb]
        by_cases hc : rd (bytesOf s) (a : Int) = 126 ∧ a + 1 < s.size ∧ rd (bytesOf s) ((a + 1 : Nat) : Int) ≠ 32 ∧ rd (bytesOf s) ((a + 1 : Nat) : Int) ≠ 10 ∧ rd (bytesOf s) ((a + 1 : Nat) : Int) ≠ 9
        · rw [if_pos hc] at hT
          rw [decide_eq_true hc, if_pos rfl]
          exact hT
        · rw [if_neg hc] at hT
          rw [decide_eq_false hc, if_neg (by simp)]
          exact hT
      have st : ∀ {f : Nat → Option Bool}, (∀ k, laws_FnStrikeTest.l0 (k + 1) s (a : Int) (s.size : Int) (j : Int) = f k) → Ev f true → Ev (fun k => laws_FnStrikeTest.l0 k s (a : Int) (s.size : Int) (j : Int)) true := fun h k => Ev.step h k
      have e0 : ∀ k, laws_FnStrikeTest.l0 (k + 1) s (a : Int) (s.size : Int) (j : Int) = (if (bt s (a : Int)) = 126 then (if ((a + 1 : Nat) : Int) < (s.size : Int) then (if 0 ≤ ((a + 1 : Nat) : Int) then (if (bt s ((a + 1 : Nat) : Int)) = 32 then (laws_FnStrikeTest.j2 k s (a : Int) (-1) false) else (if (bt s ((a + 1 : Nat) : Int)) = 10 then (laws_FnStrikeTest.j2 k s (a : Int) (-1) false) else (laws_FnStrikeTest.j2 k s (a : Int) (-1) ((bt s ((a + 1 : Nat) : Int)) != 9)))) else none) else (laws_FnStrikeTest.j2 k s (a : Int) (-1) false)) else (laws_FnStrikeTest.j2 k s (a : Int) (-1) false)) := fun k => by
        simp only [laws_FnStrikeTest.l0, hw]
        rw [if_neg (by omega), if_pos (by omega), if_pos (by omega)]
      simp only [bt_rd] at e0
      by_cases h126 : rd (bytesOf s) (a : Int) = 126
      · by_cases h1 : a + 1 < s.size
        · have h1' : ((a + 1 : Nat) : Int) < (s.size : Int) := by omega
          have h1'' : (0 : Int) ≤ ((a + 1 : Nat) : Int) := by omega
          simp only [h126, h1', h1'', if_true] at e0
          by_cases h32 : rd (bytesOf s) ((a + 1 : Nat) : Int) = 32
          · simp only [h32, if_true] at e0
            exact st e0 (fin false (decide_eq_false (fun h => h.2.2.1 h32)).symm)
          · by_cases h10 : rd (bytesOf s) ((a + 1 : Nat) : Int) = 10
            · simp only [h32, h10, if_true, if_false] at e0
              exact st e0 (by
                have := fin false (decide_eq_false (fun h => h.2.2.2.1 h10)).symm
                simpa using this)
            · simp only [h32, h10, if_false] at e0
              refine st e0 (fin _ ?_)
              by_cases h9 : rd (bytesOf s) ((a + 1 : Nat) : Int) = 9
              · rw [decide_eq_false (fun h => h.2.2.2.2 h9), h9]
                decide
              · rw [decide_eq_true ⟨h126, h1, h32, h10, h9⟩]
                exact bne_iff_ne.2 h9
        · have h1' : ¬ ((a + 1 : Nat) : Int) < (s.size : Int) := by omega
          simp only [h126, h1', if_true, if_false] at e0
          exact st e0 (fin false (decide_eq_false (fun h => h1 h.2.1)).symm)
      · simp only [h126, if_false] at e0
        exact st e0 (fin false (decide_eq_false (fun h => h126 h.1)).symm)
    | succ n ih =>
      intro j hj hok
      have hlt : j < (bytesOf s).length := by omega
      have hw : wrap64 ((j : Int) + 1) = ((j + 1 : Nat) : Int) := by rw [wrap_id (by omega) (by omega)]; omega
      have hb0 := (Byt.of s) (bytesOf s)[j] (List.getElem_mem hlt)
      rw [← rd_get hlt] at hb0
      by_cases hO : Okb (bytesOf s) j
      · refine Ev.step (f := fun k => laws_FnStrikeTest.l0 k s (a : Int) (s.size : Int) ((j + 1 : Nat) : Int)) (fun k => ?_) (ih (j + 1) (by omega) (fun i hi => by
          rcases Nat.lt_or_ge i j with h | h
          · exact hok i h
          · obtain rfl : i = j := by omega
            exact hO))
        simp only [laws_FnStrikeTest.l0, hw, bt_rd]
        obtain ⟨o0, o1, o2, o3⟩ := hO
        rw [hlen] at o3
        rw [if_pos (by omega), if_pos (by omega), if_pos (by omega), if_neg (by omega)]
        generalize laws_FnStrikeTest.l0 k s (a : Int) (s.size : Int) ((j + 1 : Nat) : Int) = X
        by_cases h7 : rd (bytesOf s) (j : Int) = 7
        · obtain ⟨h1, h2⟩ := o3 h7
          rw [if_pos (by omega), if_pos h7, if_neg (by omega), if_pos (by omega), if_pos (by omega)]
          rcases h2 with h2 | h2 | h2
          · rw [if_pos h2]
          · rw [if_neg (by omega), if_pos h2]
          · rw [if_neg (by omega), if_neg (by omega), if_pos h2]
        · by_cases h32 : rd (bytesOf s) (j : Int) < 32
          · rw [if_pos h32, if_neg h7]
            by_cases h10 : rd (bytesOf s) (j : Int) = 10
            · rw [if_pos h10]
            · rw [if_neg h10, if_pos (by omega)]
          · rw [if_neg h32, if_neg h7]
      · refine Ev.step (f := fun _ => some true) (fun k => ?_) (Ev.now _)
        simp only [laws_FnStrikeTest.l0, hw, bt_rd]
        rw [if_pos (by omega), if_pos (by omega), if_pos (by omega)]
        unfold Okb at hO
        rw [hlen] at hO
        by_cases h128 : rd (bytesOf s) (j : Int) ≥ 128
        · rw [if_pos h128]
        rw [if_neg h128]
        by_cases h7 : rd (bytesOf s) (j : Int) = 7
        · rw [if_pos (by omega), if_pos h7]
          by_cases h1 : ((j + 1 : Nat) : Int) = (s.size : Int)
          · rw [if_pos h1]
          · rw [if_neg h1, if_pos (by omega), if_pos (by omega)]
            have h1' : j + 1 < s.size := by omega
            rw [if_neg (fun h => hO ⟨by omega, by omega, by omega, fun _ => ⟨h1', .inl h⟩⟩), if_neg (fun h => hO ⟨by omega, by omega, by omega, fun _ => ⟨h1', .inr (.inl h)⟩⟩), if_neg (fun h => hO ⟨by omega, by omega, by omega, fun _ => ⟨h1', .inr (.inr h)⟩⟩)]
        · have h32 : rd (bytesOf s) (j : Int) < 32 := by
            rcases Int.lt_or_le (rd (bytesOf s) (j : Int)) 32 with h | h
            · exact h
            · exact absurd ⟨by omega, by omega, .inl h, fun h' => absurd h' h7⟩ hO
          rw [if_pos h32, if_neg h7, if_neg (fun h => hO ⟨by omega, by omega, by omega, fun h' => absurd h' h7⟩), if_neg (fun h => hO ⟨by omega, by omega, by omega, fun h' => absurd h' h7⟩)]
  exact key s.size 0 (by omega) (fun i hi => absurd hi (by omega))
theorem strike_pure : laws_FnStrikeTest.Pure := by
  intro a0 a1 h0 h1
  have h : Ev (fun k => laws_FnStrikeTest.f k a0 a1) true := by
    unfold laws_FnStrikeTest.f
    by_cases hb : (a0.size : Int) > 2147483647
    · simp only [hb, if_true]
      exact Ev.now _
    simp only [hb, if_false]
    by_cases hn : a1 < 0
    · simp only [hn, if_true]
      refine Ev.step (f := fun _ => some true) (fun k => ?_) (Ev.now _)
      simp only [laws_FnStrikeTest.j0]
      rw [if_pos trivial]
    simp only [hn, if_false]
    by_cases hg : a1 ≥ (a0.size : Int)
    · rw [decide_eq_true hg]
      refine Ev.step (f := fun _ => some true) (fun k => ?_) (Ev.now _)
      simp only [laws_FnStrikeTest.j0]
      rw [if_pos trivial]
    · rw [decide_eq_false hg]
      obtain ⟨a, rfl⟩ := Int.eq_ofNat_of_zero_le (show 0 ≤ a1 by omega)
      refine Ev.step (f := fun k => laws_FnStrikeTest.l0 k a0 (a : Int) (a0.size : Int) 0) (fun k => ?_) (strike_loop a0 (by omega) a (by omega))
      simp only [laws_FnStrikeTest.j0]
      rw [if_neg (by simp)]
  exact h.rounds
theorem strike_walk (a0 : ByteArray) (a1 : Int) (w : World) (w0 : a0.size ≤ 140737488351232) (w1 : (Lit.int .i64 a1).wf = true) :
    Calls Tryd.prog 3 #[.string a0, .int .i64 a1] w fun e w' => e = .returned (.bool true) ∧ Below w.heap.size w w' := laws_FnStrikeTest.walk strike_pure a0 a1 w w0 w1
end Go.Proofs.YtbhcoeabhdangaaDoor.PInl
