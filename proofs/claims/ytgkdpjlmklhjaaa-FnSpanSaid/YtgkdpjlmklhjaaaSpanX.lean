/- What impl.Span returns: the changes of the printed function ZzSpan, their bytes as texts. For texts of less than 2^63 bytes. -/
import Derived.Test.YtgkdpjlmklhjaaaEFnSpanx1
namespace Go.Proofs.Ytgkdpjlmklhjaaa.PFnSpan
open Go.RowKit Go.Proofs.YtgkdpjlmklhjaaaW.PrintWords Go.Proofs.YtgkdpjlmklhjaaaW.PrintLast Go.Proofs.YtgkdpjlmklhjaaaW.PrintMore
set_option linter.unusedVariables false
set_option linter.unusedSimpArgs false

def told (x : S42) : S30 := ⟨x.f0, x.f1, strOfNums x.f2⟩
def impl_Span.f (k : Nat) (a0 a1 a2 a3 : Int) (a4 : ByteArray) : Option (List S30) := if a4.size ≤ 9223372036854775807 then (table_ZzSpan.f k a0 a1 a2 a3 (bytesOf a4)).bind fun t => (if t.length < 3518437208883 then some (t.map told) else none) else none
theorem impl_Span.mono : ∀ a0 a1 a2 a3 a4 k, LeO (impl_Span.f k a0 a1 a2 a3 a4) (impl_Span.f (k + 1) a0 a1 a2 a3 a4) := by
  intro a0 a1 a2 a3 a4 k
  unfold impl_Span.f
  exact LeO.ite (LeO.bind (table_ZzSpan.mono _ _ _ _ _ _) (fun _ => LeO.refl _)) (LeO.refl _)

theorem info30 : (Try.prog.info? 30).map (fun i => (i.zero, i.size, i.bytes)) = some (some (.agg #[(.int .i64 0), (.int .i64 0), (.string ⟨#[]⟩)]), 3, 32) := by kernel_rfl

theorem span_any (k : Nat) (a0 a1 a2 a3 : Int) (A4 : Option Addr) (n c4 : Nat) (l4 : List Int) (hn : l4.length = n) (r : List S42) (w : World) (hr : (Kd.int .u8).C w A4 n l4) (hc : n ≤ c4) (h : table_ZzSpan.f k a0 a1 a2 a3 l4 = some r) :
    Calls Try.prog 20 #[.int .i64 a0, .int .i64 a1, .int .i64 a2, .int .i64 a3, .slice A4 n c4] w fun e w' => ∃ A c, e = .returned (.slice A r.length c) ∧ r.length ≤ c ∧ k42.C w' A r.length r ∧ Below w.heap.size w w' := by
  subst hn
  refine (table_ZzSpan.calls k a0 a1 a2 a3 (fun k => k < w.heap.size) A4 c4 l4 r w (Kd.V_mk hc (Kd.C_F (Kd.heap_int .u8) hr)) h).mono ?_
  rintro e w' ⟨v, rfl, hN, hB⟩
  obtain ⟨A, c, rfl, hl, hC⟩ := Kd.N_reads hN
  exact ⟨A, c, rfl, hl, hC, hB⟩

theorem impl_Span.calls (k : Nat) (a0 a1 a2 a3 : Int) (a4 : ByteArray) (r : List S30) (w : World) (h : impl_Span.f k a0 a1 a2 a3 a4 = some r) :
    Calls Try.prog 12 #[.int .i64 a0, .int .i64 a1, .int .i64 a2, .int .i64 a3, .string a4] w fun e w' => ∃ v0_ : Value, e = .returned v0_ ∧ Kd.R k30 30 w' w.heap.size (fun _ => True) v0_ r ∧ Below w.heap.size w w' := by
  unfold impl_Span.f at h
  split at h
  case isFalse => cases h
  rename_i hs
  obtain ⟨t, ht, h⟩ := Option.bind_eq_some_iff.1 h
  split at h
  case isFalse => cases h
  rename_i htl
  obtain rfl := Option.some.inj h
  have HT := Aside0.mk ht
  have HS := Aside0.mk hs
  have kb := fun W => print_bytes (P := Try.prog) 9 37 5 Try.underlying9 Try.underlying37 Try.underlying5 a4 W
  clear ht hs h
  go_enter Try.func12, Try.ntmps12
  go_wp2_with fail
  refine (span_any k a0 a1 a2 a3 _ _ _ _ (bytesOf_length a4) t _ (Kd.C_of_reads (d := (0 : Int)) (bytes_reads w 5 a4 HS.out)) (grownCap_ge _ _ _ _) HT.out).mono ?_
  rintro e w1 ⟨A, c, rfl, hl, hC, hB⟩
  have HL := Aside0.mk hl
  have HC := Aside0.mk hC
  have HB := Aside0.mk (below_step (bytes_below (Below.refl w.heap.size w) (Nat.le_refl _) 5 a4) hB)
  clear hl hC hB
  have hi64 : t.length ≤ 9223372036854775807 := by omega
  go_wp2_with fail
  go_loopw [11, 22] (fun v i wr => ∃ j : Nat, j ≤ t.length ∧ i = .int .i64 j ∧ Aside0 (Kd.R k30 30 wr w1.heap.size (fun _ => True) v ((t.map told).take j)) ∧ Aside0 (Below w1.heap.size w1 wr)) (fun _ i _ => t.length - (intOf i).toNat)
  case atStart => exact ⟨0, Nat.zero_le _, rfl, ⟨Kd.R_nil _ _ _ _ _⟩, ⟨Below.refl _ _⟩⟩
  case round =>
    obtain ⟨j, hj, rfl, HO, HBr⟩ := hrel
    by_cases hlt : j < t.length
    · obtain ⟨ad, A2, c2, rfl, hx0, hx1, hx2, hl2, hC2⟩ := at_T42 (Kd.C_below HC.out HBr.out) (j : Int) (by omega) (by omega)
      have hcv := Kd.C_string (P := Try.prog) (c := c2) Try.underlying37 Try.underlying5 Try.underlying9 (Kd.C_below hC2 (below_alloc (Below.refl _ _) (.cells #[.int .i64 (rd_T42 t j).f0, .int .i64 (rd_T42 t j).f1, .slice A2 (rd_T42 t j).f2.length c2] 42)))
      simp only [Int.toNat_natCast] at hx0 hx1 hx2
      clear hl2 hC2
      have hbw := Below.refl wr.heap.size wr
      have hj30 := Aside0.mk (show ((t.map told).take j).length ≤ j from List.length_take_le _ _)
      go_wp2_with (at_builtin; refine Kd.R_append k30 (w0 := w1) w1.heap.size rfl (.tmp 26) (.tmp 35) 27 30 (.agg #[(.int .i64 0), (.int .i64 0), (.string ⟨#[]⟩)]) 32 rfl Try.underlying27 info30 rfl (by decide) (by omega) u11 ((t.map told).take j) (told (rd_T42 t j)) [.int .i64 (rd_T42 t j).f0, .int .i64 (rd_T42 t j).f1, .string (strOfNums (rd_T42 t j).f2)] (fun _ => True) (fun _ => False) rfl (by go_simp) (k30_mkM _ _ _ (told (rd_T42 t j))) (fun _ hk => hk.elim) (fun _ _ => trivial) (Kd.R_alloc HO.out _) (HBr.out.alloc HBr.out.size _) (by have := HBr.out.size; simp; omega) (by have := hj30.out; omega) ?_)
      intro v1 w2 ho hb hg hat
      have hsn : (t.map told).take (j + 1) = (t.map told).take j ++ [told (rd_T42 t j)] := by
        rw [List.take_succ_eq_append_getElem (by rw [List.length_map]; exact hlt), List.getElem_map]
        simp [rd_T42, List.getD_eq_getElem?_getD, List.getElem?_eq_getElem hlt]
      have HO2 := Aside0.mk (show Kd.R k30 30 w2 w1.heap.size (fun _ => True) v1 ((t.map told).take (j + 1)) by rw [hsn]; exact ho)
      have HB2 := Aside0.mk hb
      clear ho hb hg hat hsn
      go_wp2
      go_roundw
      case rel => exact ⟨j + 1, by omega, by go_num, HO2, HB2⟩
      case measure => simp [intOf]; omega
    · have hje : j = t.length := by omega
      subst hje
      have hO := HO.out
      rw [List.take_of_length_le (by simp)] at hO
      go_wp2
      go_ret
      exact ⟨_, rfl, Kd.R_lower hO (HB.out.size), below_step HB.out HBr.out⟩

end Go.Proofs.Ytgkdpjlmklhjaaa.PFnSpan
