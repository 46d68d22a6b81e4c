/- FnFence: the fence is as many characters as the greatest run and one more, three at least; the spec's repetition is the library's. -/
import Derived.Test.YtbhcoeabhdangaaOccX
import Derived.Test.YtbhcoeabhdangaaShelf
namespace Go.Proofs.Ytbhcoeabhdangaa.PFnFence
open Go.Proofs.Ytbhcoeabhdangaa.Txt Go.RowKit Go.Proofs.YtbhcoeabhdangaaW.PrintWords Go.Proofs.YtbhcoeabhdangaaW.PrintLast Go.Proofs.YtbhcoeabhdangaaW.PrintMore
attribute [local go_sem] max2_int min2_int max_two min_two max_three min_three max_four min_four
set_option linter.unusedVariables false
set_option linter.unusedSimpArgs false

theorem encode_size (c : Int) : (Utf8.encode c).size ≤ 4 := by
  unfold Utf8.encode
  simp only
  repeat' split
  all_goals (simp only [ByteArray.size]; simp)
def wide (c : Int) (s : ByteArray) : Nat := max 3 (run c s + 1)
theorem wide_le (c : Int) (s : ByteArray) (h : s.size ≤ 2147483647) : wide c s ≤ 2147483648 := by
  have := run_le c s
  unfold wide
  omega
def fence (c : Int) (s : ByteArray) : ByteArray := ⟨(Lib.repeatL (Utf8.encode c).data.toList (wide c s)).toArray⟩

theorem nums (l : List UInt8) : strOfNums (l.map fun b => (b.toNat : Int)) = ⟨l.toArray⟩ := by
  have h := str_bytes ⟨l.toArray⟩
  have e : bytesOf ⟨l.toArray⟩ = l.map fun b => (b.toNat : Int) := by simp [bytesOf]
  rw [← e]
  exact h
theorem times_at (a : ByteArray) (n : Nat) (ha : a.size ≤ 4) (hn : n ≤ 2147483648) : ∀ (k i : Nat), k + i = n →
    spec_Times29.l0 (k + 1) a ((Lib.repeatL a.data.toList i).map fun b => (b.toNat : Int)) (n : Int) (i : Int) = some ⟨(Lib.repeatL a.data.toList n).toArray⟩
  | 0, i, h => by
    have : i = n := by omega
    subst this
    unfold spec_Times29.l0
    rw [if_neg (by omega), nums]
  | k + 1, i, h => by
    have ih := times_at a n ha hn k (i + 1) (by omega)
    have hw : wrap64 ((i : Int) + 1) = ((i + 1 : Nat) : Int) := by rw [wrap_id (by omega) (by omega)]; omega
    have hlen : (Lib.repeatL a.data.toList i).length = i * a.size := by rw [Lib.repeatL_length]; rfl
    have hb : i * a.size ≤ i * 4 := Nat.mul_le_mul_left _ ha
    have e : (Lib.repeatL a.data.toList i).map (fun b => (b.toNat : Int)) ++ bytesOf a = (Lib.repeatL a.data.toList (i + 1)).map fun b => (b.toNat : Int) := by
      rw [Lib.repeatL_add, Lib.repeatL_one, List.map_append]
      rfl
    unfold spec_Times29.l0
    rw [if_pos (by omega), if_pos (by rw [List.length_map, hlen]; omega), e, hw]
    exact ih
theorem times_f (a : ByteArray) (n : Nat) (ha : a.size ≤ 4) (hn : n ≤ 2147483648) : spec_Times29.f (n + 1) a (n : Int) = some ⟨(Lib.repeatL a.data.toList n).toArray⟩ :=
  times_at a n ha hn n 0 (by omega)

theorem code_calls (c : Int) (s : ByteArray) (w : World) (hs : s.size ≤ 2147483647) :
    Calls Try.prog 21 #[.int .i32 c, .string s] w fun e w' => e = .returned (.string (fence c s)) ∧ Below w.heap.size w w' := by
  have hr := run_le c s
  go_enter Try.func21, Try.ntmps21
  go_wp2_with fail
  refine (occ_calls c s w hs).mono ?_
  rintro e w1 ⟨rfl, hB⟩
  have HB := Aside0.mk hB
  clear hB
  by_cases h3 : run c s + 1 < 3
  · have hf : fence c s = ⟨(Lib.repeatL (Utf8.encode c).data.toList 3).toArray⟩ := by
      unfold fence wide
      rw [show max 3 (run c s + 1) = 3 by omega]
    go_wp2_with fail
    refine (Try.strings_Repeat (Utf8.encode c) 3 w1 (by omega) (by have := encode_size c; omega)).mono ?_
    rintro e w2 ⟨rfl, hB2⟩
    have HB2 := Aside0.mk (below_step HB.out hB2)
    go_wp2
    go_ret
    exact ⟨by rw [hf]; rfl, HB2.out⟩
  · have hf : fence c s = ⟨(Lib.repeatL (Utf8.encode c).data.toList (run c s + 1)).toArray⟩ := by
      unfold fence wide
      rw [show max 3 (run c s + 1) = run c s + 1 by omega]
    go_wp2_with fail
    refine (Try.strings_Repeat (Utf8.encode c) (run c s + 1) w1 (by omega) (by have h4 := encode_size c; have := Nat.mul_le_mul_right (run c s + 1) h4; omega)).mono ?_
    rintro e w2 ⟨rfl, hB2⟩
    have HB2 := Aside0.mk (below_step HB.out hB2)
    go_wp2
    go_ret
    exact ⟨by rw [hf]; rfl, HB2.out⟩

theorem door_calls (c : Int) (s : ByteArray) (w : World) (hs : s.size ≤ 2147483647) :
    Calls Try.prog 10 #[.int .i32 c, .string s] w fun e w' => e = .returned (.string (fence c s)) ∧ Below w.heap.size w w' := by
  go_enter Try.func10, Try.ntmps10
  go_wp2_with fail
  refine (code_calls c s w hs).mono ?_
  rintro e w1 ⟨rfl, hB⟩
  have HB := Aside0.mk hB
  clear hB
  go_wp2
  go_ret
  exact ⟨rfl, HB.out⟩

theorem law_calls (c : Int) (s : ByteArray) (w : World) (hc : (Lit.int .i32 c).wf = true) (hsz : s.size ≤ 140737488351232) :
    Calls Try.prog 4 #[.int .i32 c, .string s] w fun e w' => e = .returned (.bool true) ∧ Below w.heap.size w w' := by
  have hr := run_le c s
  go_enter Try.func4, Try.ntmps4
  by_cases hs : s.size ≤ 2147483647
  · go_wp2_with fail
    refine (door_calls c s w hs).mono ?_
    rintro e w1 ⟨rfl, hB⟩
    have HB := Aside0.mk hB
    clear hB
    go_wp2_with fail
    refine (run_calls c s w1 hs).mono ?_
    rintro e w2 ⟨rfl, hB⟩
    have HB2 := Aside0.mk (below_step HB.out hB)
    clear hB
    go_wp2_with fail
    · have hf : wide c s = run c s + 1 := by unfold wide; omega
      have ht := times_f (Utf8.encode c) (run c s + 1) (encode_size c) (by omega)
      refine (spec_Times29.calls _ _ _ _ _ ht).mono ?_
      rintro e w3 ⟨rfl, hB⟩
      have HB3 := Aside0.mk (below_step HB2.out hB)
      have he : fence c s = ⟨(Lib.repeatL (Utf8.encode c).data.toList (run c s + 1)).toArray⟩ := by unfold fence; rw [hf]
      rw [he]
      clear hB ht he hf
      go_wp2
      go_ret
      exact ⟨rfl, HB3.out⟩
    · have hf : wide c s = 3 := by unfold wide; omega
      have ht := times_f (Utf8.encode c) 3 (encode_size c) (by omega)
      refine (spec_Times29.calls _ _ _ _ _ ht).mono ?_
      rintro e w3 ⟨rfl, hB⟩
      have HB3 := Aside0.mk (below_step HB2.out hB)
      have he : fence c s = ⟨(Lib.repeatL (Utf8.encode c).data.toList 3).toArray⟩ := by unfold fence; rw [hf]
      rw [he]
      clear hB ht he hf
      go_wp2
      go_ret
      exact ⟨rfl, HB3.out⟩
  · go_wp2
    go_ret
    exact ⟨rfl, Below.refl _ _⟩
end Go.Proofs.Ytbhcoeabhdangaa.PFnFence
