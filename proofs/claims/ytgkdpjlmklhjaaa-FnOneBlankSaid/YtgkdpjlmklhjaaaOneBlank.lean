/- The law FnOneBlank answers true for every text: both loops are one loop. No further conditions. -/
import Derived.Test.YtgkdpjlmklhjaaaPFnOneBlankx1
namespace Go.Proofs.Ytgkdpjlmklhjaaa.OneBlank
open Go.RowKit Go.Proofs.Ytgkdpjlmklhjaaa.PFnOneBlank Go.Proofs.YtgkdpjlmklhjaaaW.PrintWords Go.Proofs.YtgkdpjlmklhjaaaW.PrintLast Go.Proofs.YtgkdpjlmklhjaaaW.PrintMore
set_option linter.unusedVariables false
set_option linter.unusedSimpArgs false

/-- The call with the length under a name of its own. -/
theorem door_any (k : Nat) (A0 : Option Addr) (n c0 : Nat) (l0 : List Int) (hn : l0.length = n) (r : List Int) (w : World) (hr0 : Kd.C (Kd.int .u8) w A0 n l0) (hc0 : n ≤ c0) (h : commonmark_ZzOneBlank.f k l0 = some r) :
    Calls Try.prog 18 #[.slice A0 n c0] w fun e w' => ∃ v0_ : Value, e = .returned (v0_) ∧ Kd.R (Kd.int .u8) 5 w' w.heap.size (fun _ => True) v0_ r ∧ Below w.heap.size w w' := by
  subst hn
  exact commonmark_ZzOneBlank.calls k A0 c0 l0 r w hr0 hc0 h

theorem impl_calls (k : Nat) (a0 : ByteArray) (r : List Int) (w : World) (hs : a0.size ≤ 9223372036854775807) (h : commonmark_ZzOneBlank.f k (bytesOf a0) = some r) :
    Calls Try.prog 8 #[.string a0] w fun e w' => e = .returned (.string (strOfNums r)) ∧ Below w.heap.size w w' := by
  have kb := fun W => print_bytes (P := Try.prog) 9 37 5 Try.underlying9 Try.underlying37 Try.underlying5 a0 W
  have H := Aside0.mk h
  clear h
  go_enter Try.func8, Try.ntmps8
  go_wp2_with fail
  refine (door_any k _ _ _ _ (bytesOf_length a0) r _ (Kd.C_of_reads (d := (0 : Int)) (bytes_reads w 5 a0 hs)) (grownCap_ge _ _ _ _) H.out).mono ?_
  rintro e w' ⟨v0, rfl, hR, hB⟩
  have hown := own_string (P := Try.prog) Try.underlying37 Try.underlying5 Try.underlying9 (Kd.own_of_R hR)
  go_wp2
  go_ret
  exact ⟨rfl, below_step (bytes_below (Below.refl _ _) (Nat.le_refl _) 5 a0) hB⟩

theorem wrap_up {i : Int} {n : Nat} (h0 : 0 ≤ i) (h : i < (n : Int)) (hn : n ≤ 140737488351232) : wrap64 (i + 1) = i + 1 := by
  unfold wrap64
  omega
theorem wrap_down {i : Int} {n : Nat} (h0 : 0 ≤ i) (h : i < (n : Int)) (hn : n ≤ 140737488351232) : wrap64 (i - 1) = i - 1 := by
  unfold wrap64
  omega

/-- The two loops go in step. -/
theorem lock (s : ByteArray) (hn : s.size ≤ 140737488351232) (d : Nat) : ∀ (k : Nat) (i : Int) (acc : List Int), 0 ≤ i → i ≤ s.size → (s.size : Int) - i = d → d < k → (acc.length : Int) ≤ i →
    ∃ r, commonmark_zzOneBlank.l0 k (bytesOf s) acc i = some r ∧ spec_OneBlank.l0 k s acc i = some (strOfNums r) := by
  induction d with
  | zero =>
    intro k i acc h0 h1 hd hk ha
    obtain ⟨k, rfl⟩ : ∃ m, k = m + 1 := ⟨k - 1, by omega⟩
    have hx : ¬ i < (s.size : Int) := by omega
    exact ⟨acc, by simp only [commonmark_zzOneBlank.l0, bytesOf_length]; rw [if_neg hx], by simp only [spec_OneBlank.l0]; rw [if_neg hx]⟩
  | succ d ih =>
    intro k i acc h0 h1 hd hk ha
    obtain ⟨k, rfl⟩ : ∃ m, k = m + 1 := ⟨k - 1, by omega⟩
    have hlt : i < (s.size : Int) := by omega
    have hacc : acc.length < 140737488355328 := by omega
    obtain ⟨r1, e1, e2⟩ := ih k (i + 1) acc (by omega) (by omega) (by omega) (by omega) (by omega)
    obtain ⟨r2, e3, e4⟩ := ih k (i + 1) (acc ++ [bt s i]) (by omega) (by omega) (by omega) (by omega) (by simp; omega)
    simp only [commonmark_zzOneBlank.l0, spec_OneBlank.l0, bytesOf_length, rd_bytesOf, wrap_up h0 hlt hn, wrap_down h0 hlt hn]
    rw [if_pos hlt, if_pos h0, if_pos hlt, if_pos h0]
    by_cases h32 : bt s i = 32
    · rw [if_pos h32, if_pos h32]
      by_cases hz : i = 0
      · rw [if_pos hz, if_pos hz, if_pos hacc, if_pos hacc]
        exact ⟨r2, e3, e4⟩
      · have h3 : 0 ≤ i - 1 := by omega
        have h4 : i - 1 < (s.size : Int) := by omega
        rw [if_neg hz, if_neg hz, if_pos h3, if_pos h3, if_pos h4, if_pos h4, if_pos hacc, if_pos hacc]
        by_cases hp : bt s (i - 1) = 32
        · rw [if_pos hp, if_pos hp]
          exact ⟨r1, e1, e2⟩
        · rw [if_neg hp, if_neg hp]
          exact ⟨r2, e3, e4⟩
    · rw [if_neg h32, if_neg h32, if_pos hacc, if_pos hacc]
      exact ⟨r2, e3, e4⟩

theorem same (s : ByteArray) (hn : s.size ≤ 140737488351232) : ∃ k r, commonmark_ZzOneBlank.f k (bytesOf s) = some r ∧ spec_OneBlank.f k s = some (strOfNums r) := by
  obtain ⟨r, h1, h2⟩ := lock s hn s.size (s.size + 1) 0 [] (by omega) (by omega) (by omega) (by omega) (by simp)
  exact ⟨s.size + 1, r, by unfold commonmark_ZzOneBlank.f commonmark_zzOneBlank.f; rw [h1]; rfl, h2⟩

theorem law_calls (a0 : ByteArray) (w : World) (hs : a0.size ≤ 140737488351232) :
    Calls Try.prog 3 #[.string a0] w fun e w' => e = .returned (.bool true) ∧ Below w.heap.size w w' := by
  obtain ⟨k, r, h1, h2⟩ := same a0 hs
  have H1 := Aside0.mk h1
  have H2 := Aside0.mk h2
  clear h1 h2
  have HB := Below.refl w.heap.size w
  by_cases c1 : 2147483647 < a0.size
  · go_enter Try.func3, Try.ntmps3
    go_wp2
    go_ret
    exact ⟨rfl, HB⟩
  · by_cases c2 : 1048576 < a0.size
    · go_enter Try.func3, Try.ntmps3
      go_wp2
      go_ret
      exact ⟨rfl, HB⟩
    · have c3 : decide (1048576 < (a0.size : Int)) = false := decide_eq_false (by omega)
      have hi : a0.size ≤ 9223372036854775807 := by omega
      clear hs
      go_enter Try.func3, Try.ntmps3
      go_wp2_with fail
      refine (impl_calls k a0 r w hi H1.out).mono ?_
      rintro e w1 ⟨rfl, hb1⟩
      go_wp2_with fail
      refine (spec_OneBlank.calls k a0 (strOfNums r) w1 H2.out).mono ?_
      rintro e w2 ⟨rfl, hb2⟩
      go_wp2
      go_ret
      exact ⟨rfl, below_step hb1 hb2⟩

end Go.Proofs.Ytgkdpjlmklhjaaa.OneBlank
