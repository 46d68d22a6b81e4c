/- What laws.inlineTrim leaves of a text of ASCII: no white space at its ends. -/
import Derived.Test.YtbhcoeabhdangaaDoorAsc
import Derived.Test.YtbhcoeabhdangaaDoorEInlx1
namespace Go.Proofs.YtbhcoeabhdangaaDoor.PInl
open Go.Proofs.YtbhcoeabhdangaaDoor.Txt Go.RowKit Go.Proofs.YtbhcoeabhdangaaDoorW.PrintWords Go.Proofs.YtbhcoeabhdangaaDoorW.PrintLast Go.Proofs.YtbhcoeabhdangaaDoorW.PrintMore
set_option linter.unusedVariables false
set_option linter.unusedSimpArgs false

/-- A blank, a tab, a line feed, a carriage return. -/
def blk (x : Int) : Bool := decide (x = 32 ∨ x = 9 ∨ x = 10 ∨ x = 13)
theorem blank_f (x : Int) : spec_Blank.f x = some (blk x) := by
  unfold spec_Blank.f blk
  by_cases h1 : x = 32
  · rw [if_pos h1]; simp [h1]
  rw [if_neg h1]
  by_cases h2 : x = 9
  · rw [if_pos h2]; simp [h2]
  rw [if_neg h2]
  by_cases h3 : x = 10
  · rw [if_pos h3]; simp [h3]
  rw [if_neg h3]
  by_cases h4 : x = 13
  · simp [h4]
  · simp [h1, h2, h3, h4]
theorem str_extract {l : List Int} (h : Byt l) (i j : Nat) : (strOfNums l).extract i j = strOfNums ((l.take j).drop i) := by
  apply bytes_inj
  rw [bytes_extract, bytes_str h, bytes_str ((h.take j).drop i)]
theorem str_emp (l : List Int) : ((strOfNums l).toList = ([] : List UInt8)) ↔ l = [] := by
  rw [toList_nil, str_size]
  exact ⟨List.eq_nil_of_length_eq_zero, fun h => by rw [h]; rfl⟩
/-- No white space at the ends. -/
def Ends (l : List Int) : Prop := ∀ x, (l.head? = some x → blk x = false) ∧ (l.getLast? = some x → blk x = false)
theorem tail_ev (n : Nat) : ∀ l : List Int, l.length = n → n ≤ 1000 → Asc l → (∀ x, l.head? = some x → blk x = false) → ∃ r, Ev (fun k => laws_inlineTrim.l1 k (strOfNums l)) (strOfNums r) ∧ r.length ≤ l.length ∧ Asc r ∧ Ends r := by
  induction n with
  | zero =>
    intro l hl _ ha hh
    obtain rfl := List.eq_nil_of_length_eq_zero hl
    refine ⟨[], Ev.step (f := fun _ => some (strOfNums [])) (fun k => ?_) (Ev.now _), Nat.le_refl _, ha, fun x => ⟨(fun h => by cases h), (fun h => by cases h)⟩⟩
    simp only [laws_inlineTrim.l1]
    rw [if_pos ((str_emp []).2 rfl)]
  | succ n ih =>
    intro l hl hn ha hh
    have hne : l ≠ [] := fun e => by rw [e] at hl; cases hl
    have hsz : ((strOfNums l).size : Int) = n + 1 := by rw [str_size, hl]; omega
    have hlast : bt (strOfNums l) (n : Int) = l.getLast hne := by
      rw [bt_str ha.byt, rd_get (by omega), List.getLast_eq_getElem]
      congr 1
      omega
    by_cases hb : blk (l.getLast hne) = true
    · have hdl : (l.take n).length = n := by rw [List.length_take]; omega
      obtain ⟨r, hr, hlr, har, hers⟩ := ih (l.take n) hdl (by omega) (fun x hx => ha x (List.mem_of_mem_take hx)) (fun x hx => by
        cases n with
        | zero => simp at hx
        | succ n =>
          apply hh
          cases l with
          | nil => cases hx
          | cons a l => simpa using hx)
      refine ⟨r, Ev.step (f := fun k => laws_inlineTrim.l1 k (strOfNums (l.take n))) (fun k => ?_) hr, by omega, har, hers⟩
      simp only [laws_inlineTrim.l1]
      rw [if_neg (fun e => hne ((str_emp l).1 e)), hsz, show ((n : Int) + 1 - 1) = n from by omega, wrap_id (by omega) (by omega), if_pos (by omega), if_pos (by omega), hlast, blank_f, hb, Option.bind_some, if_pos rfl, if_pos (by omega), str_extract ha.byt]
      simp
    · refine ⟨l, Ev.step (f := fun _ => some (strOfNums l)) (fun k => ?_) (Ev.now _), Nat.le_refl _, ha, fun x => ⟨hh x, fun hx => ?_⟩⟩
      · simp only [laws_inlineTrim.l1]
        rw [if_neg (fun e => hne ((str_emp l).1 e)), hsz, show ((n : Int) + 1 - 1) = n from by omega, wrap_id (by omega) (by omega), if_pos (by omega), if_pos (by omega), hlast, blank_f, Bool.eq_false_iff.2 hb, Option.bind_some, if_neg (by simp)]
      · rw [List.getLast?_eq_some_getLast hne] at hx
        obtain rfl := Option.some.inj hx
        exact Bool.eq_false_iff.2 hb
theorem head_ev (n : Nat) : ∀ l : List Int, l.length = n → n ≤ 1000 → Asc l → ∃ r, Ev (fun k => laws_inlineTrim.l0 k (strOfNums l)) (strOfNums r) ∧ r.length ≤ l.length ∧ Asc r ∧ Ends r := by
  have fin : ∀ l : List Int, l.length ≤ 1000 → Asc l → (∀ x, l.head? = some x → blk x = false) → (∀ k, laws_inlineTrim.l0 (k + 1) (strOfNums l) = laws_inlineTrim.j1 k (strOfNums l)) → ∃ r, Ev (fun k => laws_inlineTrim.l0 k (strOfNums l)) (strOfNums r) ∧ r.length ≤ l.length ∧ Asc r ∧ Ends r := by
    intro l hn ha hh h
    obtain ⟨r, hr, h1, h2, h3⟩ := tail_ev l.length l rfl hn ha hh
    exact ⟨r, Ev.step (f := fun k => laws_inlineTrim.j1 k (strOfNums l)) h (Ev.step (f := fun k => laws_inlineTrim.l1 k (strOfNums l)) (fun k => by simp only [laws_inlineTrim.j1]) hr), h1, h2, h3⟩
  induction n with
  | zero =>
    intro l hl hn ha
    obtain rfl := List.eq_nil_of_length_eq_zero hl
    refine fin [] (by simp) ha (fun x hx => by cases hx) (fun k => ?_)
    simp only [laws_inlineTrim.l0]
    rw [if_pos ((str_emp []).2 rfl)]
  | succ n ih =>
    intro l hl hn ha
    cases l with
    | nil => cases hl
    | cons a l =>
      have hsz : ((strOfNums (a :: l)).size : Int) = n + 1 := by rw [str_size, hl]; omega
      have h0 : bt (strOfNums (a :: l)) 0 = a := by rw [bt_str ha.byt]; rfl
      have hne : ¬ (strOfNums (a :: l)).toList = [] := fun e => by cases (str_emp _).1 e
      by_cases hb : blk a = true
      · obtain ⟨r, hr, h1, h2, h3⟩ := ih l (by simpa using hl) (by omega) (fun x hx => ha x (List.mem_cons_of_mem _ hx))
        refine ⟨r, Ev.step (f := fun k => laws_inlineTrim.l0 k (strOfNums l)) (fun k => ?_) hr, by simp only [List.length_cons]; omega, h2, h3⟩
        simp only [laws_inlineTrim.l0]
        rw [if_neg hne, if_pos (by omega), h0, blank_f, hb, Option.bind_some, if_pos rfl, if_pos (by omega), str_extract ha.byt, str_size, List.take_length]
        rfl
      · refine fin (a :: l) (by omega) ha (fun x hx => by obtain rfl : a = x := by simpa using hx
                                                          exact Bool.eq_false_iff.2 hb) (fun k => ?_)
        simp only [laws_inlineTrim.l0]
        rw [if_neg hne, if_pos (by omega), h0, blank_f, Bool.eq_false_iff.2 hb, Option.bind_some, if_neg (by simp)]
/-- What inlineTrim leaves of what inlineASCII leaves. -/
theorem trimmed (s : ByteArray) (hs : s.size ≤ 140737488351232) : ∃ t r, Ev (fun k => laws_inlineASCII.f k s) t ∧ Ev (fun k => laws_inlineTrim.f k t) (strOfNums r) ∧ r.length ≤ 300 ∧ Asc r ∧ Ends r := by
  obtain ⟨l, hf, hl, ha⟩ := ascii s hs
  obtain ⟨r, hr, h1, h2, h3⟩ := head_ev l.length l rfl (by omega) ha
  exact ⟨_, r, ⟨302, fun k hk => hf k (by omega)⟩, hr, by omega, h2, h3⟩
end Go.Proofs.YtbhcoeabhdangaaDoor.PInl
