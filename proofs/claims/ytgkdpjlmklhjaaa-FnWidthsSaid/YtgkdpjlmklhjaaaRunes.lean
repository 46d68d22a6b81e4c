/- How many characters a text has: the spec's loop and the library's two functions tell one number. For texts of less than 2^63 bytes. -/
import Derived.Test.YtgkdpjlmklhjaaaWMore
import Derived.Test.YtgkdpjlmklhjaaaProg
import Derived.Test.YtgkdpjlmklhjaaaTxt
import Derived.Lib.RuneCountTail
import Derived.Laws.RangeString
import Derived.Shelf.Utf8.RuneCount
namespace Go.Proofs.Ytgkdpjlmklhjaaa.Runes
open Go.Proofs.Ytgkdpjlmklhjaaa.Txt Go.RowKit Go.Proofs.YtgkdpjlmklhjaaaW.PrintWords Go.Proofs.YtgkdpjlmklhjaaaW.PrintLast Go.Proofs.YtgkdpjlmklhjaaaW.PrintMore
set_option linter.unusedVariables false
set_option linter.unusedSimpArgs false

theorem iter_below (w : World) (s : ByteArray) (pos : Nat) : Below w.heap.size w (w.iter s pos) := below_alloc (Below.refl _ _) _

theorem spec_calls (s : ByteArray) (w : World) (hs : s.size < 9223372036854775807) :
    Calls Try.prog 14 #[.string s] w fun e w' => e = .returned (.int .i64 (Lib.runeCount s)) ∧ Below w.heap.size w w' := by
  go_enter Try.func14, Try.ntmps14
  go_wp2
  go_loopw [3] (fun n w' => ∃ (pos b acc : Nat), w' = w.iter s pos ∧ n = .int .i64 acc ∧ acc + Lib.runeCountFrom s b pos = Lib.runeCount s ∧ s.size ≤ pos + b ∧ acc ≤ pos) (fun _ w' => s.size - w'.iterPos w.heap.size)
  case atStart => exact ⟨0, s.size, 0, rfl, rfl, by simp [Lib.runeCount], by omega, Nat.le_refl _⟩
  case round =>
    obtain ⟨pos, b, acc, rfl, rfl, hc, hb, ha⟩ := hrel
    by_cases hp : pos < s.size
    · have hnx : ∀ ty, (Instr.next (.pointer (some ⟨w.heap.size, 0, none⟩)) true ty).run Try.prog (w.iter s pos) = _ := fun ty => run_next_any w s pos ty hp
      have hwd := Lib.decode_width_pos s pos hp
      have HC := Aside0.mk hc
      clear hc
      go_wp2
      go_roundw
      case rel =>
        cases b with
        | zero => omega
        | succ b =>
          refine ⟨pos + (Utf8.decode s pos).2, b, acc + 1, rfl, by go_num, ?_, by omega, by omega⟩
          rw [← HC.out]
          simp [Lib.runeCountFrom, hp]
          omega
      case measure =>
        simp
        omega
    · have hnx : ∀ ty, (Instr.next (.pointer (some ⟨w.heap.size, 0, none⟩)) true ty).run Try.prog (w.iter s pos) = _ := fun ty => run_next_end w s pos ty hp
      have HC := Aside0.mk hc
      clear hc
      go_wp2
      go_ret
      have hc := HC.out
      rw [Lib.runeCountFrom_end s b pos hp, Nat.add_zero] at hc
      subst hc
      exact ⟨rfl, iter_below _ _ _⟩

theorem lib_calls (s : ByteArray) (w : World) (hs : s.size < 9223372036854775807) :
    Calls Try.prog 34 #[.string s] w fun e w' => e = .returned (.int .i64 (Lib.runeCount s)) ∧ Below w.heap.size w w' := by
  go_enter Try.func34, Try.ntmps34
  go_wp2
  go_loopw [2] (fun n w' => ∃ (pos b acc : Nat), w' = w.iter s pos ∧ n = .int .i64 acc ∧ acc + Lib.runeCountFrom s b pos = Lib.runeCount s ∧ s.size ≤ pos + b ∧ acc ≤ pos) (fun _ w' => s.size - w'.iterPos w.heap.size)
  case atStart => exact ⟨0, s.size, 0, rfl, rfl, by simp [Lib.runeCount], by omega, Nat.le_refl _⟩
  case round =>
    obtain ⟨pos, b, acc, rfl, rfl, hc, hb, ha⟩ := hrel
    by_cases hp : pos < s.size
    · have hnx : ∀ ty, (Instr.next (.pointer (some ⟨w.heap.size, 0, none⟩)) true ty).run Try.prog (w.iter s pos) = _ := fun ty => run_next_any w s pos ty hp
      have hwd := Lib.decode_width_pos s pos hp
      have HC := Aside0.mk hc
      clear hc
      go_wp2
      go_roundw
      case rel =>
        cases b with
        | zero => omega
        | succ b =>
          refine ⟨pos + (Utf8.decode s pos).2, b, acc + 1, rfl, by go_num, ?_, by omega, by omega⟩
          rw [← HC.out]
          simp [Lib.runeCountFrom, hp]
          omega
      case measure =>
        simp
        omega
    · have hnx : ∀ ty, (Instr.next (.pointer (some ⟨w.heap.size, 0, none⟩)) true ty).run Try.prog (w.iter s pos) = _ := fun ty => run_next_end w s pos ty hp
      have HC := Aside0.mk hc
      clear hc
      go_wp2
      go_ret
      have hc := HC.out
      rw [Lib.runeCountFrom_end s b pos hp, Nat.add_zero] at hc
      subst hc
      exact ⟨rfl, iter_below _ _ _⟩

theorem get_str (l : List Int) (hb : Byt l) (j : Nat) (hj : j < l.length) : ((strOfNums l).get! j).toNat = (rd l j).toNat := by
  rw [← Lib.getD_get!' (strOfNums l) j]
  have h1 : (strOfNums l).data.toList = l.map fun n => UInt8.ofNat n.toNat := rfl
  rw [h1, List.getD_eq_getElem?_getD, List.getElem?_map, List.getElem?_eq_getElem hj, rd_get hj]
  have := hb l[j] (List.getElem_mem _)
  show (UInt8.ofNat (l[j]).toNat).toNat = _
  rw [UInt8.toNat_ofNat']
  omega
theorem count_split (l : List Int) (hb : Byt l) (k : Nat) (hk : k ≤ l.length) (ha : ∀ j : Nat, j < k → rd l j < 128) : Lib.runeCount (strOfNums l) = k + Lib.runeCount (strOfNums (l.drop k)) := by
  have h1 := Lib.runeCount_split (strOfNums l) k (by rw [str_size]; exact hk) (fun j hj => by
    rw [get_str l hb j (by omega)]
    have := ha j hj
    omega)
  have h2 : (strOfNums l).extract k (strOfNums l).size = strOfNums (l.drop k) := by
    apply bytes_inj
    rw [bytes_extract, bytes_str hb, bytes_str (hb.drop k), str_size, List.take_length]
  rw [h1, h2]
theorem count_le (s : ByteArray) : Lib.runeCount s ≤ s.size := Lib.runeCountFrom_le s _ _

theorem count_bytes (l : List Int) (hb : Byt l) (A0 : Option Addr) (c0 : Nat) (w : World) (hr : ReadsInt w .u8 A0 l.length l) (hc : l.length ≤ c0) (hl : l.length < 9223372036854775807) :
    Calls Try.prog 33 #[.slice A0 l.length c0] w fun e w' => e = .returned (.int .i64 (Lib.runeCount (strOfNums l))) ∧ Below w.heap.size w w' := by
  have HR := Aside0.mk hr
  have HC := Aside0.mk hc
  have HBt := Aside0.mk hb
  have hl64 : l.length ≤ 9223372036854775807 := by omega
  clear hr hc hb
  go_enter Try.func33, Try.ntmps33
  go_wp2
  go_loop [4] (fun n => ∃ k : Nat, k ≤ l.length ∧ n = .int .i64 k ∧ Aside0 (∀ j, j < k → rd l j < 128)) (fun n => l.length - (intOf n).toNat)
  case atStart => exact ⟨0, Nat.zero_le _, rfl, ⟨fun j hj => absurd hj (Nat.not_lt_zero _)⟩⟩
  case round =>
    obtain ⟨k, hk, rfl, HA⟩ := hrel
    by_cases hlt : k < l.length
    · obtain ⟨ad, rfl, hx⟩ := HR.out.at_ (k : Int) (by omega) (by omega)
      simp only [Int.toNat_natCast] at hx
      have hrange := HBt.out (rd l k) (by rw [rd_get hlt]; exact List.getElem_mem _)
      have h0 := hrange.1
      have h1 := hrange.2
      by_cases h128 : rd l k < 128
      · have hd : decide (128 ≤ rd l (k : Int)) = false := decide_eq_false (by omega)
        go_wp2
        go_round
        case rel => exact ⟨k + 1, by omega, by go_num, ⟨fun j hj => by
          by_cases e : j = k
          · subst e; exact h128
          · exact HA.out j (by omega)⟩⟩
        case measure => simp [intOf]; omega
      · have hd : decide (128 ≤ rd l (k : Int)) = true := decide_eq_true (by omega)
        have hck : ¬ c0 = k := by have := HC.out; omega
        have hread : ReadsInt w .u8 (some (ad.add k)) (l.length - k) (l.drop k) := by
          have h := HR.out.drop_ k (by omega) HC.out
          rw [if_neg hck] at h
          exact h
        have hcv := string_of_reads (P := Try.prog) (c := c0 - k) Try.underlying37 Try.underlying5 Try.underlying9 hread
        have hcnt := Aside0.mk (count_split l HBt.out k (by omega) HA.out)
        have hle := count_le (strOfNums (l.drop k))
        rw [str_size, List.length_drop] at hle
        clear hread
        go_wp2_with fail
        refine (lib_calls _ _ (by rw [str_size, List.length_drop]; omega)).mono ?_
        rintro e w' ⟨rfl, hB⟩
        go_wp2
        go_ret
        refine ⟨?_, hB⟩
        rw [hcnt.out]
        rfl
    · have hke : k = l.length := by omega
      subst hke
      have hcnt := Aside0.mk (count_split l HBt.out l.length (by omega) HA.out)
      go_wp2
      go_ret
      refine ⟨?_, Below.refl _ _⟩
      rw [hcnt.out, List.drop_of_length_le (Nat.le_refl _)]
      rfl

end Go.Proofs.Ytgkdpjlmklhjaaa.Runes
