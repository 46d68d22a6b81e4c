/- What impl.Widths returns: the printed ZzWidths of the texts' bytes. For fewer than 2^31 rows and cells, texts within a row's reach. -/
import Derived.Test.YtgkdpjlmklhjaaaEFnWidthsx1
import Derived.Test.YtgkdpjlmklhjaaaCells
namespace Go.Proofs.Ytgkdpjlmklhjaaa.PFnWidths
open Go.Proofs.Ytgkdpjlmklhjaaa.Cells Go.RowKit Go.Proofs.YtgkdpjlmklhjaaaW.PrintWords Go.Proofs.YtgkdpjlmklhjaaaW.PrintLast Go.Proofs.YtgkdpjlmklhjaaaW.PrintMore
set_option linter.unusedVariables false

def fits (l0 : List (List ByteArray)) : Bool := l0.all fun r => decide (r.length ≤ 2147483647) && r.all fun s => decide (s.size ≤ 140737488351232)
theorem fits_out {l0 : List (List ByteArray)} (h : fits l0 = true) : ∀ r ∈ l0, r.length ≤ 2147483647 ∧ ∀ s ∈ r, s.size ≤ 140737488351232 := fun r hr => by
  have h1 := List.all_eq_true.1 h r hr
  rw [Bool.and_eq_true] at h1
  exact ⟨of_decide_eq_true h1.1, fun s hs => of_decide_eq_true (List.all_eq_true.1 h1.2 s hs)⟩
def impl_Widths.f (k : Nat) (l0 : List (List ByteArray)) : Option (List Int) := if l0.length ≤ 2147483647 then (if fits l0 = true then table_ZzWidths.f k (l0.map fun r => r.map bytesOf) else none) else none
theorem impl_Widths.mono : ∀ a0 k, LeO (impl_Widths.f k a0) (impl_Widths.f (k + 1) a0) := by
  intro a0 k
  unfold impl_Widths.f
  exact LeO.ite (LeO.ite (table_ZzWidths.mono _ _) (LeO.refl _)) (LeO.refl _)
theorem door_any (k : Nat) (A0 : Option Addr) (n c0 : Nat) (l0 : List (List (List Int))) (hn : l0.length = n) (r : List Int) (w : World) (hr0 : Kd.C (Kd.slice 37 (Kd.slice 5 (Kd.int .u8))) w A0 l0.length l0) (hc0 : n ≤ c0) (h : table_ZzWidths.f k l0 = some r) :
    Calls Try.prog 22 #[.slice A0 n c0] w fun e w' => ∃ v0_ : Value, e = .returned (v0_) ∧ Kd.R (Kd.int .i64) 3 w' w.heap.size (fun _ => True) v0_ r ∧ Below w.heap.size w w' := by
  subst hn
  exact table_ZzWidths.calls k A0 c0 l0 r w hr0 hc0 h
theorem impl_Widths.calls (k : Nat) (A0 : Option Addr) (c0 : Nat) (l0 : List (List ByteArray)) (r : List Int) (w : World) (hr0 : Kd.C (Kd.slice 9 Kd.string) w A0 l0.length l0) (hc0 : l0.length ≤ c0) (h : impl_Widths.f k l0 = some r) :
    Calls Try.prog 15 #[.slice A0 l0.length c0] w fun e w' => ∃ v0_ : Value, e = .returned (v0_) ∧ Kd.R (Kd.int .i64) 3 w' w.heap.size (fun _ => True) v0_ r ∧ Below w.heap.size w w' := by
  unfold impl_Widths.f at h
  split at h
  case isFalse => cases h
  rename_i hl
  split at h
  case isFalse => cases h
  rename_i hf
  have H := Aside0.mk h
  have HR := Aside0.mk hr0
  have HC := Aside0.mk hc0
  have HF := Aside0.mk (fits_out hf)
  clear h hr0 hc0 hf
  go_enter Try.func15, Try.ntmps15
  go_wp2_with fail
  refine (rows_calls _ _ l0 _ HR.out HC.out hl HF.out).mono ?_
  rintro e w1 ⟨v, rfl, hN, hB⟩
  obtain ⟨A1, c1, rfl⟩ := Kd.N_slice hN
  have h2 := Kd.N_reads' hN
  have HN := Aside0.mk h2
  have HB := Aside0.mk hB
  clear hN h2 hB
  go_wp2_with fail
  refine (door_any k _ _ _ (l0.map fun r => r.map bytesOf) (by simp) r _ HN.out.2.2 (by have := HN.out.2.1; simpa using this) H.out).mono ?_
  rintro e w2 ⟨v0, rfl, hR, hB2⟩
  go_wp2
  go_ret
  exact ⟨_, rfl, Kd.R_lower hR HB.out.size, below_step HB.out hB2⟩

end Go.Proofs.Ytgkdpjlmklhjaaa.PFnWidths
