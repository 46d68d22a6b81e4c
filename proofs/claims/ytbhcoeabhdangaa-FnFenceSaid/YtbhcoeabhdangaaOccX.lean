/- The package's list of runs, and its greatest one: the run of the spec. For texts of less than 2^31 bytes. -/
import Derived.Test.YtbhcoeabhdangaaFenceX
import Derived.Lib.OthersKept
namespace Go.Proofs.Ytbhcoeabhdangaa.PFnFence
open Go.Proofs.Ytbhcoeabhdangaa.Txt Go.RowKit Go.Proofs.YtbhcoeabhdangaaW.PrintWords Go.Proofs.YtbhcoeabhdangaaW.PrintLast Go.Proofs.YtbhcoeabhdangaaW.PrintMore
attribute [local go_sem] max2_int min2_int max_two min_two max_three min_three max_four min_four
set_option linter.unusedVariables false
set_option linter.unusedSimpArgs false

def ints (l : List Nat) : List Int := l.map Int.ofNat
def top (l : List Nat) : Nat := l.foldl max 0
theorem top_snoc (l : List Nat) (k : Nat) : top (l ++ [k]) = max (top l) k := by simp [top]
theorem ints_snoc (l : List Nat) (k : Nat) : ints l ++ [(k : Int)] = ints (l ++ [k]) := by simp [ints]
theorem ints_length (l : List Nat) : (ints l).length = l.length := by simp [ints]
theorem rd_ints (l : List Nat) (j : Nat) (h : j < l.length) : rd (ints l) (j : Int) = ((l[j] : Nat) : Int) := by
  simp [rd, ints, rdOf, List.getD_eq_getElem?_getD, List.getElem?_eq_getElem h]

theorem findMax_at (l : List Nat) (hl : l.length ≤ 4294967295) : ∀ (n j : Nat), n + j = l.length →
    textutils_findMax.l0 (n + 1) (ints l) ((top (l.take j) : Nat) : Int) (ints l) (l.length : Int) (j : Int) = some ((top l : Nat) : Int)
  | 0, j, h => by
    have : j = l.length := by omega
    subst this
    simp [textutils_findMax.l0]
  | n + 1, j, h => by
    have hj : j < l.length := by omega
    have hr := rd_ints l j hj
    have ih := findMax_at l hl n (j + 1) (by omega)
    have hw : wrap64 ((j : Int) + 1) = ((j + 1 : Nat) : Int) := wrap_id (by omega) (by omega)
    have ht : top (l.take (j + 1)) = max (top (l.take j)) l[j] := by
      rw [List.take_succ_eq_append_getElem hj, top_snoc]
    unfold textutils_findMax.l0
    rw [if_pos (by omega), if_pos (by omega), if_pos (by rw [ints_length]; omega), hr, hw]
    rw [ht] at ih
    by_cases h0 : (j : Int) = 0
    · have h00 : j = 0 := by omega
      subst h00
      rw [if_pos h0, if_pos (by rw [ints_length]; omega), if_neg (by omega)]
      have : max (top (List.take 0 l)) l[0] = l[0] := by simp [top]
      rw [this] at ih
      exact ih
    · rw [if_neg h0]
      by_cases hgt : ((l[j] : Nat) : Int) > ((top (l.take j) : Nat) : Int)
      · rw [if_pos hgt]
        have : max (top (l.take j)) l[j] = l[j] := by omega
        rw [this] at ih
        exact ih
      · rw [if_neg hgt]
        have : max (top (l.take j)) l[j] = top (l.take j) := by omega
        rw [this] at ih
        exact ih
theorem findMax_f (l : List Nat) (hl : l.length ≤ 4294967295) : textutils_findMax.f (l.length + 1) (ints l) = some ((top l : Nat) : Int) := by
  have h := findMax_at l hl l.length 0 (by omega)
  unfold textutils_findMax.f
  rw [ints_length]
  simpa [top] using h

theorem info3 : (Try.prog.info? 3).map (fun i => (i.zero, i.size, i.bytes)) = some (some (.int .i64 0), 1, 8) := by kernel_rfl

theorem occ_calls (c : Int) (s : ByteArray) (w : World) (hs : s.size ≤ 2147483647) :
    Calls Try.prog 29 #[.int .i32 c, .string s] w fun e w' => e = .returned (.int .i64 (run c s)) ∧ Below w.heap.size w w' := by
  go_enter Try.func29, Try.ntmps29
  go_wp2
  go_loopw [5, 6] (fun vo vn wr => ∃ (pos b k : Nat) (occ : List Nat), vn = .int .i64 k ∧ Aside0 (wr.heap[w.heap.size]? = some (.stringIter s pos)) ∧ Aside0 ((Kd.int .i64).R 3 wr (w.heap.size + 1) (fun k => w.heap.size + 1 ≤ k) vo (ints occ)) ∧ Aside0 (Below w.heap.size w wr) ∧ Aside0 (((runesFrom s b pos).foldl (step c) (max (top occ) k, k)).1 = run c s) ∧ s.size ≤ pos + b ∧ occ.length + b ≤ s.size ∧ k + b ≤ s.size) (fun _ _ w' => s.size - w'.iterPos w.heap.size)
  case atStart => exact ⟨0, s.size, 0, [], rfl, ⟨World.iter_heap w s 0⟩, ⟨Kd.R_nil (Kd.int .i64) _ _ _ _⟩, ⟨below_alloc (Below.refl _ _) _⟩, ⟨rfl⟩, by omega, by simp, by omega⟩
  case round =>
    obtain ⟨pos, b, k, occ, rfl, HI, HO, HB, HC, hb, hol, hk⟩ := hrel
    have hHlt : w.heap.size < wr.heap.size := by
      have := HI.out
      exact (Array.getElem?_eq_some_iff.1 this).1
    by_cases hp : pos < s.size
    · have hnx : ∀ ty, (Instr.next (.pointer (some ⟨w.heap.size, 0, none⟩)) true ty).run Try.prog wr = _ := fun ty => Lib.run_next_any_at wr w.heap.size s pos ty HI.out hp
      have hwd := Lib.decode_width_pos s pos hp
      obtain ⟨b, rfl⟩ : ∃ q, b = q + 1 := ⟨b - 1, by omega⟩
      have hstep : (runesFrom s (b + 1) pos).foldl (step c) (max (top occ) k, k) = (runesFrom s b (pos + (Utf8.decode s pos).2)).foldl (step c) (step c (max (top occ) k, k) ((Utf8.decode s pos).1 : Int)) := by
        simp only [runesFrom, hp, if_true, List.foldl_cons]
      have HI2 := Aside0.mk (Lib.iterAt_heap wr w.heap.size s pos (pos + (Utf8.decode s pos).2) HI.out)
      have HB2 := Aside0.mk (Lib.below_iterAt HB.out (Nat.le_refl _) s (pos + (Utf8.decode s pos).2))
      have HO2 := Aside0.mk (Kd.R_step HO.out (w1 := wr.iterAt w.heap.size s (pos + (Utf8.decode s pos).2)) (fun k hk _ => Lib.iterAt_other wr w.heap.size k s _ (by omega)))
      have hsz2 : (wr.iterAt w.heap.size s (pos + (Utf8.decode s pos).2)).heap.size = wr.heap.size := Lib.iterAt_size _ _ _ _
      generalize hwi : wr.iterAt w.heap.size s (pos + (Utf8.decode s pos).2) = wi at *
      have HSZ := Aside0.mk hsz2
      clear hsz2
      have hpi : wi.iterPos w.heap.size = pos + (Utf8.decode s pos).2 := by simp [World.iterPos, HI2.out]
      have hpr : wr.iterPos w.heap.size = pos := by simp [World.iterPos, HI.out]
      by_cases hx : ((Utf8.decode s pos).1 : Int) = c
      · have H2 := Aside0.mk (show ((runesFrom s b (pos + (Utf8.decode s pos).2)).foldl (step c) (max (top occ) (k + 1), k + 1)).1 = run c s by
          have h := HC.out
          rw [hstep] at h
          unfold step at h
          rw [if_pos hx] at h
          have : max (max (top occ) k) (k + 1) = max (top occ) (k + 1) := by omega
          rw [← this]
          exact h)
        clear hstep
        go_wp2
        go_roundw
        case rel => exact ⟨pos + (Utf8.decode s pos).2, b, k + 1, occ, by go_num, HI2, HO2, HB2, H2, by omega, by omega, by omega⟩
        case measure => omega
      · by_cases hk0 : k = 0
        · subst hk0
          have H2 := Aside0.mk (show ((runesFrom s b (pos + (Utf8.decode s pos).2)).foldl (step c) (max (top occ) 0, 0)).1 = run c s by
            have h := HC.out
            rw [hstep] at h
            unfold step at h
            rw [if_neg hx] at h
            exact h)
          clear hstep
          go_wp2
          go_roundw
          case rel => exact ⟨pos + (Utf8.decode s pos).2, b, 0, occ, rfl, HI2, HO2, HB2, H2, by omega, by omega, by omega⟩
          case measure => omega
        · have H2 := Aside0.mk (show ((runesFrom s b (pos + (Utf8.decode s pos).2)).foldl (step c) (max (top (occ ++ [k])) 0, 0)).1 = run c s by
            have h := HC.out
            rw [hstep] at h
            unfold step at h
            rw [if_neg hx] at h
            rw [top_snoc]
            have : max (max (top occ) k) 0 = max (top occ) k := by omega
            rw [this]
            exact h)
          have hkc : ((k : Int) != 0) = true := bne_iff_ne.mpr (by omega)
          clear hstep
          go_wp2_with (go_loud (at_builtin; refine Kd.R_append (Kd.int .i64) (w0 := wi) (w.heap.size + 1) rfl (.tmp 21) (.tmp 23) 69 3 (.int .i64 0) 8 rfl Try.underlying69 info3 rfl (by decide) (by omega) u5 (ints occ) (k : Int) [.int .i64 k] (fun k => w.heap.size + 1 ≤ k) (fun _ => False) rfl (by go_simp) rfl (fun _ hk => hk.elim) (fun j hj => by have := HSZ.out; omega) HO2.out (Below.refl _ _) (by rw [HSZ.out]; omega) (by rw [ints_length]; omega) ?_))
          intro v1 w2 ho hb2 hg hat
          rw [ints_snoc] at ho
          have HI3 := Aside0.mk ((hb2.block w.heap.size (by omega)).trans HI2.out)
          have HO3 := Aside0.mk ho
          have HB3 := Aside0.mk (show Below w.heap.size w w2 from HB2.out.trans ⟨hb2.os, hb2.tape, hb2.output, hb2.size, fun i hi => hb2.block i (by omega)⟩)
          have hpi2 : w2.iterPos w.heap.size = pos + (Utf8.decode s pos).2 := by simp [World.iterPos, HI3.out]
          clear ho hb2 hg hat
          go_wp2
          go_roundw
          case rel => exact ⟨pos + (Utf8.decode s pos).2, b, 0, occ ++ [k], rfl, HI3, HO3, HB3, H2, by omega, by rw [List.length_append, List.length_singleton]; omega, by omega⟩
          case measure => omega
    · have hnx : ∀ ty, (Instr.next (.pointer (some ⟨w.heap.size, 0, none⟩)) true ty).run Try.prog wr = _ := fun ty => Lib.run_next_end_at wr w.heap.size s pos ty HI.out hp
      have hc := HC.out
      rw [runesFrom_end s b pos hp] at hc
      have hc' : max (top occ) k = run c s := hc
      by_cases hk0 : k = 0
      · subst hk0
        have hr : top occ = run c s := by rw [← hc']; omega
        obtain ⟨A, cp, rfl, hcap, hC⟩ := Kd.R_reads HO.out
        have hC' := Aside0.mk hC
        have hf := findMax_f occ (by omega)
        go_wp2_with fail
        refine (textutils_findMax.calls (occ.length + 1) A cp (ints occ) _ _ hC'.out hcap hf).mono ?_
        rintro e w1 ⟨rfl, hD⟩
        have HB3 := Aside0.mk (below_step HB.out (Drawn0.below hD))
        go_wp2
        go_ret
        exact ⟨rfl, HB3.out⟩
      · have hkc : ((k : Int) != 0) = true := bne_iff_ne.mpr (by omega)
        have hr : top (occ ++ [k]) = run c s := by rw [← hc', top_snoc]
        go_wp2_with (at_builtin; refine Kd.R_append (Kd.int .i64) (w0 := wr) (w.heap.size + 1) rfl (.tmp 27) (.tmp 29) 69 3 (.int .i64 0) 8 rfl Try.underlying69 info3 rfl (by decide) (by omega) u5 (ints occ) (k : Int) [.int .i64 k] (fun k => w.heap.size + 1 ≤ k) (fun _ => False) rfl (by go_simp) rfl (fun _ hk => hk.elim) (fun j hj => by omega) HO.out (Below.refl _ _) (by omega) (by rw [ints_length]; omega) ?_)
        intro v1 w2 ho hb2 hg hat
        rw [ints_snoc] at ho
        have HB3 := Aside0.mk (show Below w.heap.size w w2 from HB.out.trans ⟨hb2.os, hb2.tape, hb2.output, hb2.size, fun i hi => hb2.block i (by omega)⟩)
        obtain ⟨A, cp, rfl, hcap, hC⟩ := Kd.R_reads ho
        have HC3 := Aside0.mk hC
        have hf := findMax_f (occ ++ [k]) (by rw [List.length_append, List.length_singleton]; omega)
        clear ho hb2 hg hat hC
        go_wp2_with fail
        refine (textutils_findMax.calls _ A cp (ints (occ ++ [k])) _ _ HC3.out hcap hf).mono ?_
        rintro e w1 ⟨rfl, hD⟩
        have HB4 := Aside0.mk (below_step HB3.out (Drawn0.below hD))
        go_wp2
        go_ret
        exact ⟨rfl, HB4.out⟩
end Go.Proofs.Ytbhcoeabhdangaa.PFnFence
