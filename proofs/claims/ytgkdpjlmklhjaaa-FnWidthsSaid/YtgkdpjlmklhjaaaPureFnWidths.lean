/- The law FnWidths answers true for all rows of texts: the widths of columns are the largest counts of characters. No further conditions. -/
import Derived.Test.YtgkdpjlmklhjaaaFFnWidthsx2
import Derived.Test.YtgkdpjlmklhjaaaFitsFnWidths
namespace Go.Proofs.Ytgkdpjlmklhjaaa.Pure
open Go.Proofs.Ytgkdpjlmklhjaaa.Txt Go.RowKit Go.Proofs.Ytgkdpjlmklhjaaa.PFnWidths Go.Proofs.YtgkdpjlmklhjaaaW.PrintWords Go.Proofs.YtgkdpjlmklhjaaaW.PrintLast

def wide (acc : List Int) (i : Nat) : List Int := if i = acc.length then acc ++ [1] else acc
def step (acc : List Int) (i : Nat) (c : Int) : List Int := (wide acc i).set i (mx (rd (wide acc i) i) c)
def goRow : List Int → Nat → List ByteArray → List Int
  | acc, _, [] => acc
  | acc, i, s :: r => goRow (step acc i (Lib.runeCount s)) (i + 1) r
def goRows (acc : List Int) (l : List (List ByteArray)) : List Int := l.foldl (fun a r => goRow a 0 r) acc

theorem wide_len {acc : List Int} {i : Nat} (h : i ≤ acc.length) : i < (wide acc i).length ∧ (wide acc i).length ≤ max acc.length (i + 1) ∧ acc.length ≤ (wide acc i).length := by
  unfold wide
  split
  · rw [List.length_append, List.length_singleton]; omega
  · omega
theorem step_len (acc : List Int) (i : Nat) (c : Int) : (step acc i c).length = (wide acc i).length := by simp [step]
theorem goRow_len (r : List ByteArray) : ∀ (acc : List Int) (i : Nat), i ≤ acc.length → (goRow acc i r).length ≤ max acc.length (i + r.length) := by
  induction r with
  | nil => intro acc i h; simp only [goRow]; omega
  | cons s r ih =>
    intro acc i h
    have h1 := wide_len h
    have h2 := ih (step acc i (Lib.runeCount s)) (i + 1) (by rw [step_len]; omega)
    rw [step_len] at h2
    simp only [goRow, List.length_cons]
    omega

/-- A store of what stands there changes nothing. -/
theorem set_max {l : List Int} {i : Nat} (h : i < l.length) (c : Int) : (if c > rd l i then l.set i c else l) = l.set i (mx (rd l i) c) := by
  rw [rd_get h]
  by_cases hc : c > l[i]
  · rw [if_pos hc]
    congr 1
    unfold mx; omega
  · rw [if_neg hc]
    have : mx l[i] c = l[i] := by unfold mx; omega
    rw [this, List.set_getElem_self]

section
variable (M : Nat) (hM : M = 2147483647)

/-- The law's own loop over a row. -/
theorem law_row (x0 x13 : List (List ByteArray)) (n : Int) (j : Int) (r : List ByteArray) (hr : r.length ≤ 2147483647) (hs : ∀ s ∈ r, s.size ≤ 2147483647) (d : Nat) : ∀ (k i : Nat) (acc : List Int), i + d = r.length → i ≤ acc.length → acc.length ≤ 2147483647 →
    laws_FnWidths.l1 (k + d + 1) x0 acc x13 n j r (r.length : Int) (i : Int) = laws_FnWidths.l0 k x0 (goRow acc i (r.drop i)) x13 n (wrap64 (j + 1)) := by
  induction d with
  | zero =>
    intro k i acc hi ha hb
    rw [laws_FnWidths.l1, if_neg (by omega), List.drop_of_length_le (by omega)]
    rfl
  | succ d ih =>
    intro k i acc hi ha hb
    have hlt : i < r.length := by omega
    have hw : wrap64 ((i : Int) + 1) = ((i + 1 : Nat) : Int) := by rw [wrap_id (by omega) (by omega)]; omega
    have hwl := wide_len ha
    have h2 := ih k (i + 1) (step acc i (Lib.runeCount r[i])) (by omega) (by rw [step_len]; omega) (by rw [step_len]; omega)
    have hsz := hs r[i] (List.getElem_mem _)
    have hcnt : spec_Runes29.f r[i] = some (Lib.runeCount r[i] : Int) := by unfold spec_Runes29.f; rw [if_pos (by omega)]
    rw [List.drop_eq_getElem_cons hlt]
    simp only [goRow]
    rw [← h2, show k + (d + 1) + 1 = (k + d + 1) + 1 from by omega, laws_FnWidths.l1, if_pos (by omega), if_pos (by omega), if_pos (by omega), rdOf_get hlt, hcnt, hw]
    by_cases e : i = acc.length
    · rw [if_pos (by omega), if_pos (by omega), Option.bind_some, if_pos (by rw [List.length_append, List.length_singleton]; omega), Option.bind_some]
      unfold step wide
      rw [if_pos e]
      rfl
    · rw [if_neg (by omega), if_pos (by omega), Option.bind_some]
      unfold step wide
      rw [if_neg e]
      rfl

/-- The package's loop over a row. -/
theorem code_row (x11 : List (List (List Int))) (n : Int) (j : Int) (r : List ByteArray) (hr : r.length ≤ 2147483647) (hs : ∀ s ∈ r, s.size ≤ 2147483647) (d : Nat) : ∀ (k i : Nat) (acc : List Int), i + d = r.length → i ≤ acc.length → acc.length ≤ 2147483647 →
    table_calculateMaxCounts.l1 (k + d + 1) acc x11 n j (r.map bytesOf) ((r.map bytesOf).length : Int) (i : Int) = table_calculateMaxCounts.l0 k (goRow acc i (r.drop i)) x11 n (wrap64 (j + 1)) := by
  induction d with
  | zero =>
    intro k i acc hi ha hb
    rw [table_calculateMaxCounts.l1, if_neg (by rw [List.length_map]; omega), List.drop_of_length_le (by omega)]
    rfl
  | succ d ih =>
    intro k i acc hi ha hb
    have hlt : i < r.length := by omega
    have hw : wrap64 ((i : Int) + 1) = ((i + 1 : Nat) : Int) := by rw [wrap_id (by omega) (by omega)]; omega
    have hwl := wide_len ha
    have h2 := ih k (i + 1) (step acc i (Lib.runeCount r[i])) (by omega) (by rw [step_len]; omega) (by rw [step_len]; omega)
    have hsz := hs r[i] (List.getElem_mem _)
    have hx : rd_L3 (r.map bytesOf) (i : Int) = bytesOf r[i] := by simp [rd_L3, List.getD_eq_getElem?_getD, List.getElem?_map, List.getElem?_eq_getElem hlt]
    have hcnt : utf8_RuneCount.f (bytesOf r[i]) = some (Lib.runeCount r[i] : Int) := by
      unfold utf8_RuneCount.f
      rw [if_pos (by rw [bytesOf_length]; omega), if_pos (List.all_eq_true.2 fun x hx => decide_eq_true (Byt.of r[i] x hx)), str_bytes]
    rw [List.drop_eq_getElem_cons hlt]
    simp only [goRow]
    have hlm : (r.map bytesOf).length = r.length := List.length_map ..
    rw [← h2, show k + (d + 1) + 1 = (k + d + 1) + 1 from by omega, table_calculateMaxCounts.l1, if_pos (by omega), if_pos (by omega), if_pos (by omega), hx, hcnt, Option.bind_some, hw]
    have hst : step acc i (Lib.runeCount r[i]) = if (Lib.runeCount r[i] : Int) > rd (wide acc i) i then (wide acc i).set i (Lib.runeCount r[i]) else wide acc i := (set_max hwl.1 _).symm
    rw [hst]
    by_cases e : i = acc.length
    · have hwd : wide acc i = acc ++ [1] := by unfold wide; rw [if_pos e]
      rw [if_pos (by omega), if_pos (by omega), Option.bind_some, if_pos (by rw [List.length_append, List.length_singleton]; omega), hwd]
      split <;> rfl
    · have hwd : wide acc i = acc := by unfold wide; rw [if_neg e]
      rw [if_neg (by omega), if_pos (by omega), hwd]
      split <;> rfl
end

theorem goRows_len (l : List (List ByteArray)) (h : ∀ r ∈ l, r.length ≤ 2147483647) : ∀ acc : List Int, acc.length ≤ 2147483647 → (goRows acc l).length ≤ 2147483647 := by
  induction l with
  | nil => intro acc ha; exact ha
  | cons r l ih =>
    intro acc ha
    refine ih (fun x hx => h x (List.mem_cons_of_mem _ hx)) _ ?_
    have h1 := goRow_len r acc 0 (by omega)
    have h2 := h r (List.mem_cons_self ..)
    show (goRow acc 0 r).length ≤ 2147483647
    omega

theorem law_rows (l : List (List ByteArray)) (hl : Fit6 l) (d : Nat) : ∀ (j : Nat) (acc : List Int), j + d = l.length → acc.length ≤ 2147483647 → ∃ K, ∀ k, ∃ m, laws_FnWidths.l0 (k + K) l acc l (l.length : Int) (j : Int) = laws_FnWidths.l0 (k + 1) l (goRows acc (l.drop j)) l (l.length : Int) (l.length : Int) ∧ m = K := by
  induction d with
  | zero =>
    intro j acc hj ha
    obtain rfl : j = l.length := by omega
    refine ⟨1, fun k => ⟨1, ?_, rfl⟩⟩
    rw [List.drop_of_length_le (Nat.le_refl _)]
    rfl
  | succ d ih =>
    intro j acc hj ha
    have hlt : j < l.length := by omega
    have hf := hl.2 l[j] (List.getElem_mem _)
    have hll := hl.1
    have hw : wrap64 ((j : Int) + 1) = ((j + 1 : Nat) : Int) := by rw [wrap_id (by omega) (by omega)]; omega
    have hgl := goRow_len l[j] acc 0 (by omega)
    obtain ⟨K, hK⟩ := ih (j + 1) (goRow acc 0 l[j]) (by omega) (by have := hf.1; omega)
    refine ⟨K + l[j].length + 1 + 1, fun k => ⟨_, ?_, rfl⟩⟩
    obtain ⟨m, h1, _⟩ := hK k
    rw [show k + (K + l[j].length + 1 + 1) = (k + K + l[j].length + 1) + 1 from by omega, laws_FnWidths.l0, if_pos (by omega), if_pos (by omega), if_pos (by omega), rd_L1_get hlt]
    have h2 := law_row l l (l.length : Int) (j : Int) l[j] hf.1 hf.2 l[j].length (k + K) 0 acc (by omega) (by omega) ha
    rw [Int.natCast_zero, List.drop_zero, hw] at h2
    rw [h2, h1, List.drop_eq_getElem_cons hlt]
    rfl
theorem code_rows (l : List (List ByteArray)) (hl : Fit6 l) (d : Nat) : ∀ (j : Nat) (acc : List Int), j + d = l.length → acc.length ≤ 2147483647 → ∃ K, ∀ k, K ≤ k → table_calculateMaxCounts.l0 k acc (l.map fun r => r.map bytesOf) (l.length : Int) (j : Int) = some (goRows acc (l.drop j)) := by
  induction d with
  | zero =>
    intro j acc hj ha
    refine ⟨1, fun k hk => ?_⟩
    obtain ⟨k, rfl⟩ : ∃ m, k = m + 1 := ⟨k - 1, by omega⟩
    rw [table_calculateMaxCounts.l0, if_neg (by omega), List.drop_of_length_le (by omega)]
    rfl
  | succ d ih =>
    intro j acc hj ha
    have hlt : j < l.length := by omega
    have hf := hl.2 l[j] (List.getElem_mem _)
    have hll := hl.1
    have hw : wrap64 ((j : Int) + 1) = ((j + 1 : Nat) : Int) := by rw [wrap_id (by omega) (by omega)]; omega
    have hgl := goRow_len l[j] acc 0 (by omega)
    obtain ⟨K, hK⟩ := ih (j + 1) (goRow acc 0 l[j]) (by omega) (by have := hf.1; omega)
    have hx : rd_L4 (l.map fun r => r.map bytesOf) (j : Int) = l[j].map bytesOf := by simp [rd_L4, List.getD_eq_getElem?_getD, List.getElem?_map, List.getElem?_eq_getElem hlt]
    have hlm : (l.map fun r => r.map bytesOf).length = l.length := List.length_map ..
    refine ⟨K + l[j].length + 1 + 1, fun k hk => ?_⟩
    obtain ⟨q, rfl⟩ : ∃ q, k = (q + K + l[j].length + 1) + 1 := ⟨k - (K + l[j].length + 1 + 1), by omega⟩
    rw [table_calculateMaxCounts.l0, if_pos (by omega), if_pos (by omega), if_pos (by omega), hx]
    have h2 := code_row (l.map fun r => r.map bytesOf) (l.length : Int) (j : Int) l[j] hf.1 hf.2 l[j].length (q + K) 0 acc (by omega) (by omega) ha
    rw [Int.natCast_zero, List.drop_zero, hw] at h2
    rw [h2, hK _ (by omega), List.drop_eq_getElem_cons hlt]
    rfl
theorem widths (l : List (List ByteArray)) (hl : Fit6 l) : ∃ K, ∀ k, K ≤ k → impl_Widths.f k l = some (goRows [] l) := by
  obtain ⟨K, hK⟩ := code_rows l hl l.length 0 [] (by omega) (by simp)
  refine ⟨K, fun k hk => ?_⟩
  have hll := hl.1
  have hfit : fits l = true := by
    unfold fits
    refine List.all_eq_true.2 fun r hr => ?_
    have h := hl.2 r hr
    rw [Bool.and_eq_true]
    exact ⟨decide_eq_true h.1, List.all_eq_true.2 fun s hs => decide_eq_true (by have := h.2 s hs; omega)⟩
  unfold impl_Widths.f table_ZzWidths.f table_calculateMaxCounts.f
  have h := hK k hk
  rw [Int.natCast_zero, List.drop_zero] at h
  rw [if_pos hll, if_pos hfit, if_pos (by omega), List.length_map, show (List.replicate 0 0 : List Int) = [] from rfl, h]
  rfl

theorem same (t : List Int) (ht : t.length ≤ 2147483647) (x0 : List (List ByteArray)) (d : Nat) : ∀ (k i : Nat), i + d = t.length → laws_FnWidths.l2 (k + d) x0 t t (t.length : Int) (i : Int) = laws_FnWidths.l2 k x0 t t (t.length : Int) (t.length : Int) := by
  induction d with
  | zero =>
    intro k i hi
    obtain rfl : i = t.length := by omega
    rfl
  | succ d ih =>
    intro k i hi
    have hw : wrap64 ((i : Int) + 1) = ((i + 1 : Nat) : Int) := by rw [wrap_id (by omega) (by omega)]; omega
    rw [show k + (d + 1) = (k + d) + 1 from by omega, laws_FnWidths.l2, if_pos (by omega), if_pos (by omega), if_pos (by omega), if_pos (by omega), if_pos rfl, hw]
    exact ih k (i + 1) (by omega)

theorem one_fits : Fit6 [[(⟨#[97]⟩ : ByteArray)]] := by
  refine ⟨by decide, fun s hs => ?_⟩
  have hs' : s = [(⟨#[97]⟩ : ByteArray)] := by simpa using hs
  subst hs'
  refine ⟨by decide, fun t ht => ?_⟩
  have ht' : t = (⟨#[97]⟩ : ByteArray) := by simpa using ht
  subst ht'
  exact Nat.le_of_ble_eq_true rfl

theorem FnWidths (l : List (List ByteArray)) : ∃ k, laws_FnWidths.f k l = some true := by
  obtain ⟨b, K6, h6, hfit⟩ := fits6 l
  cases b with
  | false => exact ⟨K6, by unfold laws_FnWidths.f; rw [h6 K6 (Nat.le_refl _), Option.bind_some, if_neg (by simp)]⟩
  | true =>
    have hl := hfit rfl
    obtain ⟨K, hK⟩ := law_rows l hl l.length 0 [] (by omega) (by simp)
    obtain ⟨K2, hK2⟩ := widths l hl
    obtain ⟨K3, hK3⟩ := widths [[⟨#[97]⟩]] one_fits
    have hlen := goRows_len l (fun r hr => (hl.2 r hr).1) [] (by simp)
    obtain ⟨m, h1, _⟩ := hK (K2 + K3 + K6 + 1 + (goRows [] l).length)
    rw [Int.natCast_zero, List.drop_zero] at h1
    refine ⟨K2 + K3 + K6 + 1 + (goRows [] l).length + K, ?_⟩
    unfold laws_FnWidths.f
    rw [h6 _ (by omega), Option.bind_some, if_pos rfl, h1, laws_FnWidths.l0, if_neg (by omega), hK2 _ (by omega), Option.bind_some, if_pos rfl]
    have h2 := same (goRows [] l) hlen l (goRows [] l).length (K2 + K3 + K6 + 1) 0 (by omega)
    rw [Int.natCast_zero] at h2
    rw [h2, laws_FnWidths.l2, if_neg (by omega)]
    by_cases hp : (l.length : Int) > 0
    · rw [if_pos hp]
    · rw [if_neg hp, hK3 _ (by omega), Option.bind_some]
      have : (goRows [] [[(⟨#[97]⟩ : ByteArray)]]).length = 1 := by simp [goRows, goRow, step, wide]
      rw [this]
      rfl

end Go.Proofs.Ytgkdpjlmklhjaaa.Pure
namespace Go.Proofs.Ytgkdpjlmklhjaaa.Pure
open Go.Proofs.Ytgkdpjlmklhjaaa.Txt Go.RowKit Go.Proofs.Ytgkdpjlmklhjaaa.PFnWidths Go.Proofs.YtgkdpjlmklhjaaaW.PrintWords Go.Proofs.YtgkdpjlmklhjaaaW.PrintLast
theorem walkWidths (A0 : Option Addr) (c0 : Nat) (l0 : List (List ByteArray)) (w : World) (hr0 : Kd.C (Kd.slice 9 Kd.string) w A0 l0.length l0) (hc0 : l0.length ≤ c0) (_ : l0.length * 24 ≤ 140737488351232) (_ : ∀ r ∈ l0, r.length * 16 ≤ 140737488351232 ∧ ∀ s ∈ r, s.size ≤ 140737488351232) :
    Calls Try.prog 6 #[.slice A0 l0.length c0] w fun e w' => e = .returned (.bool true) ∧ Below w.heap.size w w' := by
  obtain ⟨k, h⟩ := FnWidths l0
  refine (laws_FnWidths.calls k A0 c0 l0 true w hr0 hc0 h).mono ?_
  rintro e w' ⟨rfl, hd⟩
  exact ⟨rfl, hd⟩
end Go.Proofs.Ytgkdpjlmklhjaaa.Pure
