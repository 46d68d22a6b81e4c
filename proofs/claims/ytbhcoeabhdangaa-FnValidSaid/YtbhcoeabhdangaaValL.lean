/- FnValid's plain law: what is taken. -/
import Derived.Test.YtbhcoeabhdangaaOptZ
import Derived.Test.YtbhcoeabhdangaaEValx1
namespace Go.Proofs.Ytbhcoeabhdangaa.PVal
open Go.Proofs.Ytbhcoeabhdangaa.Txt Go.RowKit Go.Proofs.YtbhcoeabhdangaaW.PrintWords Go.Proofs.YtbhcoeabhdangaaW.PrintLast Go.Proofs.YtbhcoeabhdangaaW.PrintMore
set_option linter.unusedVariables false
set_option linter.unusedSimpArgs false

theorem one_ev (a : ByteArray) (l : List ByteArray) (hl : l.length ≤ 1000000) : Ev (fun k => spec_one.f k a l) (l.any (fun x => x.toList == a.toList)) := by
  have key : ∀ (n j : Nat), l.length = j + n → ∃ k, spec_one.l0 k a l (l.length : Int) (j : Int) = some ((l.drop j).any (fun x => x.toList == a.toList)) := by
    intro n
    induction n with
    | zero =>
      intro j hj
      refine ⟨1, ?_⟩
      rw [List.drop_eq_nil_of_le (by omega)]
      simp only [spec_one.l0]
      rw [if_neg (by omega)]
      rfl
    | succ n ih =>
      intro j hj
      have hlt : j < l.length := by omega
      obtain ⟨k, hk⟩ := ih (j + 1) (by omega)
      refine ⟨k + 1, ?_⟩
      have he : rdOf ByteArray.empty l (j : Int) = l[j] := by simp [rdOf, List.getD_eq_getElem?_getD, List.getElem?_eq_getElem hlt]
      rw [List.drop_eq_getElem_cons hlt]
      simp only [spec_one.l0, List.any_cons]
      rw [if_pos (by omega), if_pos (by omega), if_pos (by omega), he]
      by_cases hx : l[j].toList = a.toList
      · rw [if_pos hx, beq_iff_eq.2 hx]
        rfl
      · rw [if_neg hx, beq_eq_false_iff_ne.2 hx, wrap_id (by omega) (by omega)]
        exact hk
  obtain ⟨k, hk⟩ := key l.length 0 (by omega)
  exact Ev.of (fun k => spec_one.mono a l k) hk
def takenB (em st bu fe : ByteArray) : Bool := [(⟨#[]⟩ : ByteArray), ⟨#[42]⟩, ⟨#[95]⟩].any (fun x => x.toList == em.toList) && ([(⟨#[]⟩ : ByteArray), ⟨#[42, 42]⟩, ⟨#[95, 95]⟩].any (fun x => x.toList == st.toList) && ([(⟨#[]⟩ : ByteArray), ⟨#[45]⟩, ⟨#[43]⟩, ⟨#[42]⟩].any (fun x => x.toList == bu.toList) && [(⟨#[]⟩ : ByteArray), ⟨#[96, 96, 96]⟩, ⟨#[126, 126, 126]⟩].any (fun x => x.toList == fe.toList)))
theorem taken_ev (em st bu fe : ByteArray) : Ev (fun k => spec_Taken.f k em st bu fe) (takenB em st bu fe) := by
  have E1 := one_ev em [⟨#[]⟩, ⟨#[42]⟩, ⟨#[95]⟩] (by decide)
  have E2 := one_ev st [⟨#[]⟩, ⟨#[42, 42]⟩, ⟨#[95, 95]⟩] (by decide)
  have E3 := one_ev bu [⟨#[]⟩, ⟨#[45]⟩, ⟨#[43]⟩, ⟨#[42]⟩] (by decide)
  have E4 := one_ev fe [⟨#[]⟩, ⟨#[96, 96, 96]⟩, ⟨#[126, 126, 126]⟩] (by decide)
  unfold spec_Taken.f takenB
  generalize [(⟨#[]⟩ : ByteArray), ⟨#[42]⟩, ⟨#[95]⟩].any (fun x => x.toList == em.toList) = b1 at E1 ⊢
  generalize [(⟨#[]⟩ : ByteArray), ⟨#[42, 42]⟩, ⟨#[95, 95]⟩].any (fun x => x.toList == st.toList) = b2 at E2 ⊢
  generalize [(⟨#[]⟩ : ByteArray), ⟨#[45]⟩, ⟨#[43]⟩, ⟨#[42]⟩].any (fun x => x.toList == bu.toList) = b3 at E3 ⊢
  generalize [(⟨#[]⟩ : ByteArray), ⟨#[96, 96, 96]⟩, ⟨#[126, 126, 126]⟩].any (fun x => x.toList == fe.toList) = b4 at E4 ⊢
  refine Ev.bind E1 ?_
  cases b1
  · exact Ev.now _
  refine Ev.bind E2 ?_
  cases b2
  · exact Ev.now _
  refine Ev.bind E3 ?_
  cases b3
  · exact Ev.now _
  refine Ev.bind E4 ?_
  exact Ev.now _
/-- How many signs of emphasis there are. -/
def sg (l : List Int) : Nat := l.countP (fun c => c == 42 || c == 95)
def pureB (s : ByteArray) : Bool := decide (sg (bytesOf s) = 0 ∨ ∀ x ∈ bytesOf s, x = bt s 0)
theorem bt_get (s : ByteArray) (j : Nat) (h : j < (bytesOf s).length) : bt s (j : Int) = (bytesOf s)[j] := by
  rw [← rd_bytesOf]
  simp [rd, List.getD_eq_getElem?_getD, List.getElem?_eq_getElem h]
theorem pure_ev (s : ByteArray) (hs : s.size ≤ 2147483647) : Ev (fun k => spec_Pure.f k s) (pureB s) := by
  have hl : (bytesOf s).length = s.size := bytesOf_length s
  have key1 : ∀ (n j : Nat), s.size = j + n → ∃ k, spec_Pure.l1 k s (j : Int) = some (decide (∀ x ∈ (bytesOf s).drop j, x = bt s 0)) := by
    intro n
    induction n with
    | zero =>
      intro j hj
      refine ⟨1, ?_⟩
      rw [List.drop_eq_nil_of_le (by omega)]
      simp only [spec_Pure.l1]
      rw [if_neg (by omega)]
      simp
    | succ n ih =>
      intro j hj
      have hlt : j < (bytesOf s).length := by omega
      obtain ⟨k, hk⟩ := ih (j + 1) (by omega)
      refine ⟨k + 1, ?_⟩
      rw [List.drop_eq_getElem_cons hlt]
      simp only [spec_Pure.l1]
      rw [if_pos (by omega), if_pos (by omega), if_pos (by omega), bt_get s j hlt]
      by_cases hx : (bytesOf s)[j] = bt s 0
      · rw [if_pos hx, wrap_id (by omega) (by omega)]
        rw [show ((j : Int) + 1) = ((j + 1 : Nat) : Int) from by omega, hk]
        simp [hx]
      · rw [if_neg hx]
        exact congrArg some (decide_eq_false (fun h => hx (h _ List.mem_cons_self))).symm
  have key0 : ∀ (n j m : Nat), s.size = j + n → m ≤ j → ∃ k, spec_Pure.l0 k s (m : Int) (j : Int) = some (decide (m + sg ((bytesOf s).drop j) = 0 ∨ ∀ x ∈ bytesOf s, x = bt s 0)) := by
    intro n
    induction n with
    | zero =>
      intro j m hj hm
      obtain ⟨k, hk⟩ := key1 s.size 0 (by omega)
      refine ⟨k + 1, ?_⟩
      rw [List.drop_eq_nil_of_le (by omega)]
      simp only [spec_Pure.l0]
      rw [if_neg (by omega)]
      by_cases h0 : m = 0
      · rw [if_pos (by omega)]
        simp [h0, sg]
      · rw [if_neg (by omega)]
        have : spec_Pure.l1 k s 0 = _ := hk
        rw [this, List.drop_zero]
        simp [h0]
    | succ n ih =>
      intro j m hj hm
      have hlt : j < (bytesOf s).length := by omega
      rw [List.drop_eq_getElem_cons hlt]
      by_cases hx : (bytesOf s)[j] = 42 ∨ (bytesOf s)[j] = 95
      · obtain ⟨k, hk⟩ := ih (j + 1) (m + 1) (by omega) (by omega)
        refine ⟨k + 1, ?_⟩
        simp only [spec_Pure.l0]
        rw [if_pos (by omega), if_pos (by omega), bt_get s j hlt]
        have e : sg ((bytesOf s)[j] :: (bytesOf s).drop (j + 1)) = sg ((bytesOf s).drop (j + 1)) + 1 := by
          unfold sg
          rw [List.countP_cons_of_pos]
          rcases hx with h | h <;> simp [h]
        rw [e, wrap_id (by omega) (by omega), wrap_id (by omega) (by omega)]
        rw [show ((j : Int) + 1) = ((j + 1 : Nat) : Int) from by omega, show ((m : Int) + 1) = ((m + 1 : Nat) : Int) from by omega, hk]
        have e2 : m + (sg ((bytesOf s).drop (j + 1)) + 1) = m + 1 + sg ((bytesOf s).drop (j + 1)) := by omega
        rw [e2]
        split
        · rfl
        · rename_i h1
          rw [if_pos (hx.resolve_left h1)]
      · obtain ⟨k, hk⟩ := ih (j + 1) m (by omega) (by omega)
        refine ⟨k + 1, ?_⟩
        simp only [spec_Pure.l0]
        rw [if_pos (by omega), if_pos (by omega), bt_get s j hlt, if_neg (fun h => hx (.inl h)), if_neg (fun h => hx (.inr h))]
        have e : sg ((bytesOf s)[j] :: (bytesOf s).drop (j + 1)) = sg ((bytesOf s).drop (j + 1)) := by
          unfold sg
          rw [List.countP_cons_of_neg]
          simp only [not_or] at hx
          simp [hx.1, hx.2]
        rw [e, wrap_id (by omega) (by omega)]
        rw [show ((j : Int) + 1) = ((j + 1 : Nat) : Int) from by omega, hk]
  obtain ⟨k, hk⟩ := key0 s.size 0 0 (by omega) (by omega)
  refine Ev.of (fun k => spec_Pure.mono s k) (k := k) ?_
  have : spec_Pure.f k s = _ := hk
  rw [this]
  simp [pureB]
theorem tl_beq (x s : ByteArray) : (x.toList == s.toList) = decide (bytesOf x = bytesOf s) := by
  by_cases h : x = s
  · subst h
    rw [beq_iff_eq.2 rfl]
    simp
  · rw [beq_eq_false_iff_ne.2 (fun e => h (toList_inj e))]
    symm
    exact decide_eq_false (fun e => h (bytes_inj e))
theorem bytes_emp : bytesOf ⟨#[]⟩ = [] := by kernel_rfl
theorem emp_list : (⟨#[]⟩ : ByteArray).toList = [] := by kernel_rfl
theorem bytes_nil {s : ByteArray} (h : ¬ s.toList = []) : bytesOf s ≠ [] := fun e => h ((congrArg ByteArray.toList (bytes_inj (e.trans bytes_emp.symm))).trans emp_list)
theorem cnt_le_sg (l : List Int) : cntFrom 42 l + cntFrom 95 l = sg l := by
  unfold cntFrom sg
  induction l with
  | nil => rfl
  | cons a l ih =>
    rw [List.countP_cons, List.countP_cons, List.countP_cons]
    by_cases h1 : a = 42
    · subst h1; simp; omega
    · by_cases h2 : a = 95
      · subst h2; simp; omega
      · simp [h1, h2]; exact ih
/-- A text that is pure has one sign alone, or none. -/
theorem pure_cases {s : ByteArray} (h : pureB s = true) : (cntFrom 42 (bytesOf s) = 0 ∧ cntFrom 95 (bytesOf s) = 0) ∨ ∃ n, (bytesOf s = List.replicate (n + 1) 42 ∨ bytesOf s = List.replicate (n + 1) 95) := by
  unfold pureB at h
  have hc := cnt_le_sg (bytesOf s)
  rcases of_decide_eq_true h with h | h
  · exact .inl ⟨by omega, by omega⟩
  · by_cases h0 : sg (bytesOf s) = 0
    · exact .inl ⟨by omega, by omega⟩
    · have hr : bytesOf s = List.replicate (bytesOf s).length (bt s 0) := List.eq_replicate_of_mem h
      have hn : (bytesOf s).length ≠ 0 := fun e => by
        have : bytesOf s = [] := List.eq_nil_of_length_eq_zero e
        rw [this] at h0
        exact h0 rfl
      obtain ⟨n, hn'⟩ := Nat.exists_eq_succ_of_ne_zero hn
      refine .inr ⟨n, ?_⟩
      rw [hn'] at hr
      by_cases h1 : bt s 0 = 42
      · rw [h1] at hr; exact .inl hr
      · by_cases h2 : bt s 0 = 95
        · rw [h2] at hr; exact .inr hr
        · exfalso
          apply h0
          rw [hr]
          unfold sg
          rw [List.countP_replicate]
          simp [h1, h2]
theorem b42 : bytesOf ⟨#[42]⟩ = [42] := by kernel_rfl
theorem b95 : bytesOf ⟨#[95]⟩ = [95] := by kernel_rfl
theorem b4242 : bytesOf ⟨#[42, 42]⟩ = [42, 42] := by kernel_rfl
theorem b9595 : bytesOf ⟨#[95, 95]⟩ = [95, 95] := by kernel_rfl
theorem rep_one (c : Int) (n : Nat) : ([c] = List.replicate (n + 1) c) ↔ n = 0 := by
  constructor
  · intro h
    have := congrArg List.length h
    simp at this
    exact this
  · rintro rfl
    rfl
theorem rep_two (c : Int) (n : Nat) : ([c, c] = List.replicate (n + 1) c) ↔ n = 1 := by
  constructor
  · intro h
    have := congrArg List.length h
    simp at this
    omega
  · rintro rfl
    rfl
theorem em_law {s : ByteArray} (h : pureB s = true) : (!((cntFrom ((95 : UInt8).toNat : Int) (bytesOf (orElse s ⟨#[42]⟩)) : Int) != 1) || !((cntFrom ((42 : UInt8).toNat : Int) (bytesOf (orElse s ⟨#[42]⟩)) : Int) != 1)) = [(⟨#[]⟩ : ByteArray), ⟨#[42]⟩, ⟨#[95]⟩].any (fun x => x.toList == s.toList) := by
  have e95 : ((95 : UInt8).toNat : Int) = 95 := rfl
  have e42 : ((42 : UInt8).toNat : Int) = 42 := rfl
  rw [e95, e42]
  simp only [List.any_cons, List.any_nil, tl_beq, Bool.or_false, bytes_emp, b42, b95]
  unfold orElse
  rcases is_empty s with ⟨-, p⟩ | ⟨-, p⟩
  · rw [if_pos p, empty_of p, b42, bytes_emp]
    decide
  · rw [if_neg p]
    have hn := bytes_nil p
    have h0 : decide ([] = bytesOf s) = false := decide_eq_false (fun e => hn e.symm)
    rw [h0, Bool.false_or]
    rcases pure_cases h with ⟨h1, h2⟩ | ⟨n, hr | hr⟩
    · rw [h1, h2]
      have a : ¬ ([42] : List Int) = bytesOf s := fun e => by rw [← e] at h1; cases h1
      have b : ¬ ([95] : List Int) = bytesOf s := fun e => by rw [← e] at h2; cases h2
      rw [decide_eq_false a, decide_eq_false b]
      decide
    · rw [hr]
      unfold cntFrom
      rw [List.countP_replicate, List.countP_replicate]
      have b : ¬ ([95] : List Int) = List.replicate (n + 1) 42 := fun e => by have := congrArg List.head? e; simp [List.replicate_succ] at this
      rw [decide_eq_false b]
      by_cases hz : n = 0
      · subst hz; decide
      · rw [decide_eq_false (fun e => hz ((rep_one 42 n).1 e))]
        have : ((n + 1 : Nat) : Int) ≠ 1 := by omega
        simp [this]
        omega
    · rw [hr]
      unfold cntFrom
      rw [List.countP_replicate, List.countP_replicate]
      have b : ¬ ([42] : List Int) = List.replicate (n + 1) 95 := fun e => by have := congrArg List.head? e; simp [List.replicate_succ] at this
      rw [decide_eq_false b]
      by_cases hz : n = 0
      · subst hz; decide
      · rw [decide_eq_false (fun e => hz ((rep_one 95 n).1 e))]
        have : ((n + 1 : Nat) : Int) ≠ 1 := by omega
        simp [this]
        omega
theorem st_law {s : ByteArray} (h : pureB s = true) : (!((cntFrom ((95 : UInt8).toNat : Int) (bytesOf (orElse s ⟨#[42, 42]⟩)) : Int) != 2) || !((cntFrom ((42 : UInt8).toNat : Int) (bytesOf (orElse s ⟨#[42, 42]⟩)) : Int) != 2)) = [(⟨#[]⟩ : ByteArray), ⟨#[42, 42]⟩, ⟨#[95, 95]⟩].any (fun x => x.toList == s.toList) := by
  have e95 : ((95 : UInt8).toNat : Int) = 95 := rfl
  have e42 : ((42 : UInt8).toNat : Int) = 42 := rfl
  rw [e95, e42]
  simp only [List.any_cons, List.any_nil, tl_beq, Bool.or_false, bytes_emp, b4242, b9595]
  unfold orElse
  rcases is_empty s with ⟨-, p⟩ | ⟨-, p⟩
  · rw [if_pos p, empty_of p, b4242, bytes_emp]
    decide
  · rw [if_neg p]
    have hn := bytes_nil p
    have h0 : decide ([] = bytesOf s) = false := decide_eq_false (fun e => hn e.symm)
    rw [h0, Bool.false_or]
    rcases pure_cases h with ⟨h1, h2⟩ | ⟨n, hr | hr⟩
    · rw [h1, h2]
      have a : ¬ ([42, 42] : List Int) = bytesOf s := fun e => by rw [← e] at h1; cases h1
      have b : ¬ ([95, 95] : List Int) = bytesOf s := fun e => by rw [← e] at h2; cases h2
      rw [decide_eq_false a, decide_eq_false b]
      decide
    · rw [hr]
      unfold cntFrom
      rw [List.countP_replicate, List.countP_replicate]
      have b : ¬ ([95, 95] : List Int) = List.replicate (n + 1) 42 := fun e => by have := congrArg List.head? e; simp [List.replicate_succ] at this
      rw [decide_eq_false b]
      by_cases hz : n = 1
      · subst hz; decide
      · rw [decide_eq_false (fun e => hz ((rep_two 42 n).1 e))]
        have : ((n + 1 : Nat) : Int) ≠ 2 := by omega
        simp [this]
        omega
    · rw [hr]
      unfold cntFrom
      rw [List.countP_replicate, List.countP_replicate]
      have b : ¬ ([42, 42] : List Int) = List.replicate (n + 1) 95 := fun e => by have := congrArg List.head? e; simp [List.replicate_succ] at this
      rw [decide_eq_false b]
      by_cases hz : n = 1
      · subst hz; decide
      · rw [decide_eq_false (fun e => hz ((rep_two 95 n).1 e))]
        have : ((n + 1 : Nat) : Int) ≠ 2 := by omega
        simp [this]
        omega
theorem or_law (s d : ByteArray) (l : List ByteArray) (hd : d ∈ l) : l.any (fun x => x.toList == (orElse s d).toList) = ((⟨#[]⟩ : ByteArray) :: l).any (fun x => x.toList == s.toList) := by
  rw [List.any_cons]
  unfold orElse
  rcases is_empty s with ⟨-, p⟩ | ⟨-, p⟩
  · rw [if_pos p, empty_of p, toList_beq_self, Bool.true_or]
    exact List.any_eq_true.2 ⟨d, hd, toList_beq_self d⟩
  · rw [if_neg p, beq_eq_false_iff_ne.2 (fun e => p (e.symm.trans emp_list)), Bool.false_or]
/-- What is taken, is told as taken. -/
theorem taken_law (em st bu fe : ByteArray) (he : pureB em = true) (hs : pureB st = true) : okB em st bu fe = takenB em st bu fe := by
  unfold okB takenB
  rw [em_law he, st_law hs, or_law bu ⟨#[45]⟩ [⟨#[45]⟩, ⟨#[43]⟩, ⟨#[42]⟩] (by simp), or_law fe ⟨#[96, 96, 96]⟩ [⟨#[96, 96, 96]⟩, ⟨#[126, 126, 126]⟩] (by simp)]
  simp only [Bool.and_assoc]
end Go.Proofs.Ytbhcoeabhdangaa.PVal
