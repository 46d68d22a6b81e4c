/- What laws.zzFits5 and zzFits6 tell: whether there are fewer than 2^31 texts, rows, and bytes. For rows within a row's reach. -/
import Derived.Test.YtgkdpjlmklhjaaaEFnWidthsx1
import Derived.Test.YtgkdpjlmklhjaaaTxt
namespace Go.Proofs.Ytgkdpjlmklhjaaa.PFnWidths
open Go.Proofs.Ytgkdpjlmklhjaaa.Txt Go.RowKit Go.Proofs.YtgkdpjlmklhjaaaW.PrintWords Go.Proofs.YtgkdpjlmklhjaaaW.PrintLast Go.Proofs.YtgkdpjlmklhjaaaW.PrintMore

def Fit5 (r : List ByteArray) : Prop := r.length ≤ 2147483647 ∧ ∀ s ∈ r, s.size ≤ 2147483647
theorem rdOf_get {l : List ByteArray} {i : Nat} (h : i < l.length) : rdOf ByteArray.empty l (i : Int) = l[i] := by simp [rdOf, List.getD_eq_getElem?_getD, List.getElem?_eq_getElem h]
theorem rd_L1_get {l : List (List ByteArray)} {i : Nat} (h : i < l.length) : rd_L1 l (i : Int) = l[i] := by simp [rd_L1, List.getD_eq_getElem?_getD, List.getElem?_eq_getElem h]

theorem fits5_loop (l : List ByteArray) (hl : l.length ≤ 2147483647) (d : Nat) : ∀ (k i : Nat), i + d = l.length → ∃ b, laws_zzFits5.l0 (k + d + 1) l (l.length : Int) (i : Int) = some b ∧ (b = true → ∀ s ∈ l.drop i, s.size ≤ 2147483647) := by
  induction d with
  | zero =>
    intro k i hi
    refine ⟨true, ?_, fun _ s hs => ?_⟩
    · rw [laws_zzFits5.l0, if_neg (by omega)]
    · rw [List.drop_of_length_le (by omega)] at hs
      cases hs
  | succ d ih =>
    intro k i hi
    have hlt : i < l.length := by omega
    obtain ⟨b, h1, h2⟩ := ih k (i + 1) (by omega)
    rw [show k + (d + 1) + 1 = (k + d + 1) + 1 from by omega, laws_zzFits5.l0, if_pos (by omega), if_pos (by omega), if_pos (by omega), rdOf_get hlt]
    have hw : wrap64 ((i : Int) + 1) = ((i + 1 : Nat) : Int) := by rw [wrap_id (by omega) (by omega)]; omega
    by_cases hb : (l[i].size : Int) > 2147483647
    · rw [if_pos hb]
      exact ⟨false, rfl, fun h => by cases h⟩
    · rw [if_neg hb, hw]
      refine ⟨b, h1, fun hb' s hs => ?_⟩
      rw [List.drop_eq_getElem_cons hlt] at hs
      rcases List.mem_cons.1 hs with rfl | hs
      · omega
      · exact h2 hb' s hs
theorem fits5 (l : List ByteArray) : ∃ b, (∀ k, l.length < k → laws_zzFits5.f k l = some b) ∧ (b = true → Fit5 l) := by
  by_cases hb : (l.length : Int) > 2147483647
  · exact ⟨false, fun k hk => by unfold laws_zzFits5.f; rw [if_pos hb], fun h => by cases h⟩
  · obtain ⟨b, h1, h2⟩ := fits5_loop l (by omega) l.length 0 0 (by omega)
    have h3 : laws_zzFits5.f (l.length + 1) l = some b := by
      unfold laws_zzFits5.f
      rw [if_neg hb]
      rw [Nat.zero_add] at h1
      exact h1
    exact ⟨b, fun k hk => at_rounds (fun k => laws_zzFits5.mono _ k) (show l.length + 1 ≤ k by omega) h3, fun h => ⟨by omega, fun s hs => h2 h s (by simpa using hs)⟩⟩

def Fit6 (r : List (List ByteArray)) : Prop := r.length ≤ 2147483647 ∧ ∀ s ∈ r, Fit5 s
theorem fits6_loop (l : List (List ByteArray)) (hl : l.length ≤ 2147483647) (d : Nat) : ∀ (i : Nat), i + d = l.length → ∃ b K, (∀ k, K ≤ k → laws_zzFits6.l0 k l (l.length : Int) (i : Int) = some b) ∧ (b = true → ∀ s ∈ l.drop i, Fit5 s) := by
  induction d with
  | zero =>
    intro i hi
    refine ⟨true, 1, fun k hk => ?_, fun _ s hs => ?_⟩
    · obtain ⟨k, rfl⟩ : ∃ m, k = m + 1 := ⟨k - 1, by omega⟩
      rw [laws_zzFits6.l0, if_neg (by omega)]
    · rw [List.drop_of_length_le (by omega)] at hs
      cases hs
  | succ d ih =>
    intro i hi
    have hlt : i < l.length := by omega
    obtain ⟨b, K, h1, h2⟩ := ih (i + 1) (by omega)
    obtain ⟨b5, h3, h4⟩ := fits5 l[i]
    have hw : wrap64 ((i : Int) + 1) = ((i + 1 : Nat) : Int) := by rw [wrap_id (by omega) (by omega)]; omega
    refine ⟨b5 && b, max K (l[i].length + 1) + 1, fun k hk => ?_, fun hb s hs => ?_⟩
    · obtain ⟨k, rfl⟩ : ∃ m, k = m + 1 := ⟨k - 1, by omega⟩
      rw [laws_zzFits6.l0, if_pos (by omega), if_pos (by omega), if_pos (by omega), rd_L1_get hlt, h3 k (by omega), Option.bind_some, hw]
      cases b5 with
      | true => rw [if_pos rfl, Bool.true_and]; exact h1 k (by omega)
      | false => rfl
    · rw [Bool.and_eq_true] at hb
      rw [List.drop_eq_getElem_cons hlt] at hs
      rcases List.mem_cons.1 hs with rfl | hs
      · exact h4 hb.1
      · exact h2 hb.2 s hs
theorem fits6 (l : List (List ByteArray)) : ∃ b K, (∀ k, K ≤ k → laws_zzFits6.f k l = some b) ∧ (b = true → Fit6 l) := by
  by_cases hb : (l.length : Int) > 2147483647
  · exact ⟨false, 0, fun k hk => by unfold laws_zzFits6.f; rw [if_pos hb], fun h => by cases h⟩
  · obtain ⟨b, K, h1, h2⟩ := fits6_loop l (by omega) l.length 0 (by omega)
    refine ⟨b, K, fun k hk => ?_, fun h => ⟨by omega, fun s hs => h2 h s (by simpa using hs)⟩⟩
    unfold laws_zzFits6.f
    rw [if_neg hb]
    exact h1 k hk

end Go.Proofs.Ytgkdpjlmklhjaaa.PFnWidths
