/- What impl.cellsOf and impl.bytesOf return: the texts as rows of bytes. For texts and rows within a row's reach. -/
import Derived.Test.YtgkdpjlmklhjaaaWMore
import Derived.Test.YtgkdpjlmklhjaaaProg
import Derived.Test.YtgkdpjlmklhjaaaOpen
namespace Go.Proofs.Ytgkdpjlmklhjaaa.Cells
open Go.RowKit Go.Proofs.YtgkdpjlmklhjaaaW.PrintWords Go.Proofs.YtgkdpjlmklhjaaaW.PrintLast Go.Proofs.YtgkdpjlmklhjaaaW.PrintMore
set_option linter.unusedVariables false
set_option linter.unusedSimpArgs false

/-- A row of bytes; a row of such rows. -/
abbrev kB : Kd (List Int) := Kd.slice 5 (Kd.int .u8)
abbrev kBB : Kd (List (List Int)) := Kd.slice 37 kB
theorem info5 : (Try.prog.info? 5).map (fun i => (i.zero, i.size, i.bytes)) = some (some (.int .u8 0), 1, 1) := by kernel_rfl
theorem infoB : (Try.prog.info? 37).map (fun i => (i.zero, i.size, i.bytes)) = some (some (.slice none 0 0), 1, 24) := by kernel_rfl
theorem infoBB : (Try.prog.info? 51).map (fun i => (i.zero, i.size, i.bytes)) = some (some (.slice none 0 0), 1, 24) := by kernel_rfl

/-- The new row of a text's bytes is all that a reading of it needs. -/
theorem bytes_foot (W : World) (s : ByteArray) (hs : s.size ≤ 9223372036854775807) (ok : Nat → Prop) (hok : ok W.heap.size) :
    Kd.FK kB (Lib.bytesWorld W 5 s) ok (bytesOf s) [.slice (some ⟨W.heap.size, 0, none⟩) s.size (grownCap W s.size 0 5)] := by
  intro W' hW
  have hb := hW W.heap.size hok (by rw [Lib.bytesWorld_size]; omega)
  refine ⟨some ⟨W.heap.size, 0, none⟩, grownCap W s.size 0 5, by rw [bytesOf_length], by rw [bytesOf_length]; exact grownCap_ge _ _ _ _, ?_⟩
  have hr := bytes_reads W 5 s hs
  rw [bytesOf_length]
  refine Kd.C_of_reads (d := (0 : Int)) ⟨hr.1, hr.2.1, fun hp => ?_⟩
  obtain ⟨ad, e, hc⟩ := hr.2.2 hp
  injection e with e
  subst e
  refine ⟨_, rfl, fun j hj => ?_⟩
  have h1 := hc j hj
  rw [add_plain] at h1 ⊢
  rw [← h1]
  simp [World.cell?, hb]

theorem cells_calls (A0 : Option Addr) (c0 : Nat) (l0 : List ByteArray) (w : World) (hr : Kd.string.C w A0 l0.length l0) (hc : l0.length ≤ c0) (hl : l0.length ≤ 2147483647) (hs : ∀ s ∈ l0, s.size ≤ 140737488351232) :
    Calls Try.prog 29 #[.slice A0 l0.length c0] w fun e w' => ∃ v : Value, e = .returned v ∧ Kd.N kB 37 w' w.heap.size (fun k => w.heap.size ≤ k) v (l0.map bytesOf) ∧ Below w.heap.size w w' := by
  have HR := Aside0.mk hr
  have HC := Aside0.mk hc
  have HS := Aside0.mk hs
  have hl64 : l0.length ≤ 9223372036854775807 := by omega
  have HL := Aside0.mk hl
  clear hr hc hl hs
  go_enter Try.func29, Try.ntmps29
  go_wp2_with fail
  go_loopw [3, 8] (fun v i wr => ∃ j : Nat, j ≤ l0.length ∧ i = .int .i64 j ∧ Aside0 (Kd.N kB 37 wr w.heap.size (fun k => w.heap.size ≤ k) v ((l0.map bytesOf).take j)) ∧ Aside0 (Below w.heap.size w wr)) (fun _ i _ => l0.length - (intOf i).toNat)
  case atStart => exact ⟨0, Nat.zero_le _, rfl, ⟨Kd.N_nil _ _ _ _ _⟩, ⟨Below.refl _ _⟩⟩
  case round =>
    obtain ⟨j, hj, rfl, HO, HB⟩ := hrel
    by_cases hlt : j < l0.length
    · obtain ⟨ad, rfl, hx⟩ := Kd.at_string (Kd.C_below HR.out HB.out) (j : Int) (by omega) (by omega)
      simp only [Int.toNat_natCast] at hx
      have he : rdOf ByteArray.empty l0 (j : Int) = l0[j] := by simp [rdOf, List.getD_eq_getElem?_getD, List.getElem?_eq_getElem hlt]
      have hsz0 := HS.out l0[j] (List.getElem_mem _)
      have hsn : (l0.map bytesOf).take (j + 1) = (l0.map bytesOf).take j ++ [bytesOf l0[j]] := by
        rw [List.take_succ_eq_append_getElem (by rw [List.length_map]; exact hlt), List.getElem_map]
      rw [he] at hx
      generalize l0[j] = s at hx hsz0 hsn
      clear he
      have hsz : s.size ≤ 9223372036854775807 := by omega
      have kb := fun W => print_bytes (P := Try.prog) 9 37 5 Try.underlying9 Try.underlying37 Try.underlying5 s W
      have hF := Aside0.mk (bytes_foot wr s hsz (fun k => k = wr.heap.size) rfl)
      have HW := Aside0.mk (bytes_below HB.out HB.out.size 5 s)
      have HO1 := Aside0.mk (Kd.N_below HO.out (bytes_below (Below.refl _ _) (Nat.le_refl _) 5 s))
      have hlen := Aside0.mk (show ((l0.map bytesOf).take j).length ≤ j from List.length_take_le _ _)
      have HSN := Aside0.mk hsn
      clear hsn hsz hsz0
      go_wp2_with (at_builtin; refine Kd.N_append kB (w0 := w) w.heap.size rfl (.tmp 12) (.tmp 15) 51 37 (.slice none 0 0) 24 rfl Try.underlying51 infoB rfl (by decide) (by omega) u3 ((l0.map bytesOf).take j) (bytesOf s) [.slice (some ⟨wr.heap.size, 0, none⟩) s.size (grownCap wr s.size 0 5)] (fun k => w.heap.size ≤ k) (fun k => k = wr.heap.size) rfl (by go_simp) hF.out (fun k hk => ⟨by rw [hk]; exact HB.out.size, fun e => by have := Kd.N_lt HO.out k e.symm; omega⟩) (fun k hk => Nat.le_trans HW.out.size hk) HO1.out HW.out HW.out.size (by have := hlen.out; have := HL.out; omega) ?_)
      intro v1 w2 ho hb hg hat
      have HO2 := Aside0.mk (show Kd.N kB 37 w2 w.heap.size (fun k => w.heap.size ≤ k) v1 ((l0.map bytesOf).take (j + 1)) by rw [HSN.out]; exact ho)
      have HB2 := Aside0.mk hb
      clear ho hb hg hat
      go_wp2
      go_roundw
      case rel => exact ⟨j + 1, by omega, by go_num, HO2, HB2⟩
      case measure => simp [intOf]; omega
    · have hje : j = l0.length := by omega
      subst hje
      have hO := HO.out
      rw [List.take_of_length_le (by simp)] at hO
      go_wp2
      go_ret
      exact ⟨_, rfl, hO, HB.out⟩

theorem FK_of_N {w : World} {base : Nat} {ok : Nat → Prop} {v : Value} {xs : List (List Int)} (h : Kd.N kB 37 w base ok v xs) : Kd.FK kBB w ok xs [v] := by
  obtain ⟨A, c, rfl⟩ := Kd.N_slice h
  intro W' hW
  have h2 := Kd.N_reads' (Kd.N_step h hW)
  exact ⟨A, c, rfl, h2.2.1, h2.2.2⟩

theorem rows_calls (A0 : Option Addr) (c0 : Nat) (l0 : List (List ByteArray)) (w : World) (hr : (Kd.slice 9 Kd.string).C w A0 l0.length l0) (hc : l0.length ≤ c0) (hl : l0.length ≤ 2147483647) (hs : ∀ r ∈ l0, r.length ≤ 2147483647 ∧ ∀ s ∈ r, s.size ≤ 140737488351232) :
    Calls Try.prog 23 #[.slice A0 l0.length c0] w fun e w' => ∃ v : Value, e = .returned v ∧ Kd.N kBB 51 w' w.heap.size (fun k => w.heap.size ≤ k) v (l0.map fun r => r.map bytesOf) ∧ Below w.heap.size w w' := by
  have HR := Aside0.mk hr
  have HC := Aside0.mk hc
  have HS := Aside0.mk hs
  have hl64 : l0.length ≤ 9223372036854775807 := by omega
  have HL := Aside0.mk hl
  clear hr hc hl hs
  go_enter Try.func23, Try.ntmps23
  go_wp2_with fail
  go_loopw [3, 8] (fun v i wr => ∃ j : Nat, j ≤ l0.length ∧ i = .int .i64 j ∧ Aside0 (Kd.N kBB 51 wr w.heap.size (fun k => w.heap.size ≤ k) v ((l0.map fun r => r.map bytesOf).take j)) ∧ Aside0 (Below w.heap.size w wr)) (fun _ i _ => l0.length - (intOf i).toNat)
  case atStart => exact ⟨0, Nat.zero_le _, rfl, ⟨Kd.N_nil _ _ _ _ _⟩, ⟨Below.refl _ _⟩⟩
  case round =>
    obtain ⟨j, hj, rfl, HO, HB⟩ := hrel
    by_cases hlt : j < l0.length
    · obtain ⟨ad, c, rfl, hcl, ⟨A1, c1, rfl, hl1, hC1⟩, hcc⟩ := Kd.C_get (Kd.C_below HR.out HB.out) ([] : List ByteArray) (j : Int) (by omega) (by omega)
      have hx := hcc 0 _ rfl
      have hsz1 : (Kd.slice 9 Kd.string).sz = 1 := rfl
      simp only [Int.toNat_natCast, hsz1, Nat.mul_one, Nat.add_zero] at hx hl1 hC1
      have he : l0.getD j [] = l0[j] := by simp [List.getD_eq_getElem?_getD, List.getElem?_eq_getElem hlt]
      have hsz0 := HS.out l0[j] (List.getElem_mem _)
      have hsn : (l0.map fun r => r.map bytesOf).take (j + 1) = (l0.map fun r => r.map bytesOf).take j ++ [l0[j].map bytesOf] := by
        rw [List.take_succ_eq_append_getElem (by rw [List.length_map]; exact hlt), List.getElem_map]
      rw [he] at hx hl1 hC1
      generalize l0[j] = s at hx hl1 hC1 hsz0 hsn
      clear he hcc hcl hsz1
      have HL1 := Aside0.mk hl1
      have HC1 := Aside0.mk hC1
      have HS0 := Aside0.mk hsz0
      have HSN := Aside0.mk hsn
      have hlen := Aside0.mk (show ((l0.map fun r => r.map bytesOf).take j).length ≤ j from List.length_take_le _ _)
      clear hsn hsz0 hl1 hC1
      go_wp2_with fail
      refine (cells_calls _ _ s _ HC1.out HL1.out HS0.out.1 HS0.out.2).mono ?_
      rintro e w1 ⟨v0, rfl, hN, hB⟩
      have hlo := Kd.N_lt HO.out
      have HO1 := Aside0.mk (Kd.N_below HO.out hB)
      have HB1 := Aside0.mk (below_step HB.out hB)
      have HSZ := Aside0.mk HB.out.size
      have HOL := Aside0.mk hlo
      obtain ⟨A2, c2, rfl⟩ := Kd.N_slice hN
      have HF := Aside0.mk (show Kd.FK kBB w1 (fun k => wr.heap.size ≤ k) (s.map bytesOf) [.slice A2 s.length c2] from by have h := FK_of_N hN; rwa [List.length_map] at h)
      clear hN hB hlo
      go_wp2_with (at_builtin; refine Kd.N_append kBB (w0 := w) w.heap.size rfl (.tmp 12) (.tmp 15) 45 51 (.slice none 0 0) 24 rfl Try.underlying45 infoBB rfl (by decide) (by omega) u3 ((l0.map fun r => r.map bytesOf).take j) (s.map bytesOf) [.slice A2 s.length c2] (fun k => w.heap.size ≤ k) (fun k => wr.heap.size ≤ k) rfl (by go_simp) HF.out (fun k hk => ⟨Nat.le_trans HSZ.out hk, fun e => by have := HOL.out k e.symm; omega⟩) (fun k hk => Nat.le_trans HB1.out.size hk) HO1.out HB1.out HB1.out.size (by have := hlen.out; have := HL.out; omega) ?_)
      intro v1 w2 ho hb hg hat
      have HO2 := Aside0.mk (show Kd.N kBB 51 w2 w.heap.size (fun k => w.heap.size ≤ k) v1 ((l0.map fun r => r.map bytesOf).take (j + 1)) by rw [HSN.out]; exact ho)
      have HB2 := Aside0.mk hb
      clear ho hb hg hat
      go_wp2
      go_roundw
      case rel => exact ⟨j + 1, by omega, by go_num, HO2, HB2⟩
      case measure => simp [intOf]; omega
    · have hje : j = l0.length := by omega
      subst hje
      have hO := HO.out
      rw [List.take_of_length_le (by simp)] at hO
      go_wp2
      go_ret
      exact ⟨_, rfl, hO, HB.out⟩

end Go.Proofs.Ytgkdpjlmklhjaaa.Cells
