/- A part of the proof of FnRow: ERowx0, Txt, Runes, RunesK, ERowx1, MethX, RowC, RowX, Guard, RowY, FRow, PureRow, Open, RowFnRow, one behind the other. -/
import Derived.Test.YtfciokcielponaaProg
import Derived.Below
import Derived.Deep.Draws
import Derived.Deep.AppendLies
import Derived.Maps.AppendAt
import Derived.OwnWalk
import Derived.Laws.BytesArg
import Derived.Laws.MakeOwn
import Derived.Laws.OwnMore
import Derived.Deep.OwnRows
import Derived.Tactics
import Derived.Lib.ConvBytes
import Derived.Laws.Slices
import Derived.WalkKit
import Derived.KernelRfl
import Derived.RowKit3
import Derived.Deep.LoopGhost
import Derived.Deep.QuietTactic
import Derived.BigQuiet
import Derived.WideLaws
import Derived.Deep.DeepCutAuto
import Derived.Deep.CutBlock
import Derived.Deep.RegionHeld3
import Derived.Laws.Rows
import Derived.Lib.AppendStr
import Derived.ArgAppend
import Derived.Laws.IdiomCopy
import Derived.OrdersHeld
import Derived.Laws.BitsLemmas
import Derived.RowKit
import Derived.Test.YtfciokcielponaaMFnRow1
import Derived.Lib.Bytes
import Derived.Lib.RuneCountTail
import Derived.Laws.RangeString
import Derived.Shelf.Utf8.RuneCount
import Derived.Test.YtfciokcielponaaShelf
import Derived.Deep.DeepMust
import Derived.Tactics2
import Derived.Defers
import Derived.Recover
import Derived.Laws.Pointers
import Derived.ChangeArms
import Derived.ChangeSlices
import Derived.DataReads
import Derived.SizedLaws
import Derived.Test.YtfciokcielponaaRows
import Derived.ProofKit
import Derived.OpenShut
import Derived.ShutString
import Derived.ChangeOld
/- Printed by the program extprint.py of this session, out of the kit's print and contracts of this session's own; Lean checks it. -/
namespace Go.Proofs.Ytfciokcielponaa.PRow
open Go.RowKit Go.Proofs.YtfciokcielponaaW.PrintWords Go.Proofs.YtfciokcielponaaW.PrintLast Go.Proofs.YtfciokcielponaaW.PrintMore
attribute [local go_sem] max2_int min2_int max_two min_two max_three min_three max_four min_four   -- for this text's walks alone
set_option linter.unusedVariables false
set_option linter.unusedSimpArgs false



def errW : Option Int → Value
  | none => .nilIface
  | some c => .iface 0 (.int .i64 c)
theorem errW_none : errW none = .nilIface := rfl
theorem errW_some (c : Int) : errW (some c) = .iface 0 (.int .i64 c) := rfl

theorem info5 : (Try.prog.info? 5).map (fun i => (i.zero, i.size, i.bytes)) = some (some (.int .u8 0), 1, 1) := by kernel_rfl
-- the values' own types

end Go.Proofs.Ytfciokcielponaa.PRow

/- Plain facts on texts as lists of numbers: joined, cut, read back. No conditions. -/
namespace Go.Proofs.Ytfciokcielponaa.Txt
open Go.RowKit Go.Proofs.YtfciokcielponaaW.PrintWords Go.Proofs.YtfciokcielponaaW.PrintLast Go.Proofs.YtfciokcielponaaW.PrintMore

/-- All numbers are bytes. -/
def Byt (l : List Int) : Prop := ∀ x ∈ l, 0 ≤ x ∧ x < 256
theorem Byt.nil : Byt [] := fun _ h => by cases h
theorem Byt.app {a b : List Int} (h : Byt a) (k : Byt b) : Byt (a ++ b) := fun x hx => by
  rcases List.mem_append.1 hx with h1 | h1
  · exact h x h1
  · exact k x h1
theorem Byt.one {x : Int} (h0 : 0 ≤ x) (h1 : x < 256) : Byt [x] := fun y hy => by
  obtain rfl : y = x := by simpa using hy
  exact ⟨h0, h1⟩
theorem Byt.cons {x : Int} {l : List Int} (h0 : 0 ≤ x) (h1 : x < 256) (h : Byt l) : Byt (x :: l) := (Byt.one h0 h1).app h
theorem Byt.take {l : List Int} (h : Byt l) (n : Nat) : Byt (l.take n) := fun x hx => h x (List.mem_of_mem_take hx)
theorem Byt.drop {l : List Int} (h : Byt l) (n : Nat) : Byt (l.drop n) := fun x hx => h x (List.mem_of_mem_drop hx)
theorem Byt.of (s : ByteArray) : Byt (bytesOf s) := fun x hx => by
  obtain ⟨b, _, rfl⟩ := List.mem_map.1 hx
  have := b.toNat_lt
  omega
theorem str_size (l : List Int) : (strOfNums l).size = l.length := by simp [strOfNums, ByteArray.size]
theorem str_bytes (s : ByteArray) : strOfNums (bytesOf s) = s := by
  apply ByteArray.ext
  apply Array.ext'
  show ((bytesOf s).map fun n => UInt8.ofNat n.toNat) = s.data.toList
  unfold bytesOf
  rw [List.map_map]
  exact (List.map_congr_left (fun b _ => by simp)).trans (List.map_id _)
theorem bytes_str {l : List Int} (h : Byt l) : bytesOf (strOfNums l) = l := by
  show ((l.map fun n => UInt8.ofNat n.toNat).map fun b => (b.toNat : Int)) = l
  rw [List.map_map]
  refine (List.map_congr_left (fun x hx => ?_)).trans (List.map_id _)
  have := h x hx
  show ((UInt8.ofNat x.toNat).toNat : Int) = x
  rw [UInt8.toNat_ofNat']
  omega
theorem bytes_inj {a b : ByteArray} (h : bytesOf a = bytesOf b) : a = b := by rw [← str_bytes a, ← str_bytes b, h]
theorem rd_get {l : List Int} {i : Nat} (h : i < l.length) : rd l (i : Int) = l[i] := by simp [rd, List.getD_eq_getElem?_getD, List.getElem?_eq_getElem h]
theorem bytes_extract (s : ByteArray) (i j : Nat) : bytesOf (s.extract i j) = ((bytesOf s).take j).drop i := by
  unfold bytesOf
  rw [ByteArray.data_extract, Array.toList_extract, List.extract_eq_take_drop, ← List.map_take, ← List.map_drop, List.drop_take]
end Go.Proofs.Ytfciokcielponaa.Txt

/- How many characters a text has: the spec's loop and the library's two functions tell one number. For texts of less than 2^63 bytes. -/
namespace Go.Proofs.Ytfciokcielponaa.Runes
open Go.Proofs.Ytfciokcielponaa.Txt Go.RowKit Go.Proofs.YtfciokcielponaaW.PrintWords Go.Proofs.YtfciokcielponaaW.PrintLast Go.Proofs.YtfciokcielponaaW.PrintMore
set_option linter.unusedVariables false
set_option linter.unusedSimpArgs false

theorem iter_below (w : World) (s : ByteArray) (pos : Nat) : Below w.heap.size w (w.iter s pos) := below_alloc (Below.refl _ _) _

theorem spec_calls (s : ByteArray) (w : World) (hs : s.size < 9223372036854775807) :
    Calls Try.prog 22 #[.string s] w fun e w' => e = .returned (.int .i64 (Lib.runeCount s)) ∧ Below w.heap.size w w' := by
  go_enter Try.func22, Try.ntmps22
  go_wp2
  go_loopw [3] (fun n w' => ∃ (pos b acc : Nat), w' = w.iter s pos ∧ n = .int .i64 acc ∧ acc + Lib.runeCountFrom s b pos = Lib.runeCount s ∧ s.size ≤ pos + b ∧ acc ≤ pos) (fun _ w' => s.size - w'.iterPos w.heap.size)
  case atStart => exact ⟨0, s.size, 0, rfl, rfl, by simp [Lib.runeCount], by omega, Nat.le_refl _⟩
  case round =>
    obtain ⟨pos, b, acc, rfl, rfl, hc, hb, ha⟩ := hrel
    by_cases hp : pos < s.size
    · have hnx : ∀ ty, (Instr.next (.pointer (some ⟨w.heap.size, 0, none⟩)) true ty).run Try.prog (w.iter s pos) = _ := fun ty => run_next_any w s pos ty hp
      have hwd := Lib.decode_width_pos s pos hp
      have HC := Aside0.mk hc
      clear hc
      go_wp2
      go_roundw
      case rel =>
        cases b with
        | zero => omega
        | succ b =>
          refine ⟨pos + (Utf8.decode s pos).2, b, acc + 1, rfl, by go_num, ?_, by omega, by omega⟩
          rw [← HC.out]
          simp [Lib.runeCountFrom, hp]
          omega
      case measure =>
        simp
        omega
    · have hnx : ∀ ty, (Instr.next (.pointer (some ⟨w.heap.size, 0, none⟩)) true ty).run Try.prog (w.iter s pos) = _ := fun ty => run_next_end w s pos ty hp
      have HC := Aside0.mk hc
      clear hc
      go_wp2
      go_ret
      have hc := HC.out
      rw [Lib.runeCountFrom_end s b pos hp, Nat.add_zero] at hc
      subst hc
      exact ⟨rfl, iter_below _ _ _⟩

theorem lib_calls (s : ByteArray) (w : World) (hs : s.size < 9223372036854775807) :
    Calls Try.prog 54 #[.string s] w fun e w' => e = .returned (.int .i64 (Lib.runeCount s)) ∧ Below w.heap.size w w' := by
  go_enter Try.func54, Try.ntmps54
  go_wp2
  go_loopw [2] (fun n w' => ∃ (pos b acc : Nat), w' = w.iter s pos ∧ n = .int .i64 acc ∧ acc + Lib.runeCountFrom s b pos = Lib.runeCount s ∧ s.size ≤ pos + b ∧ acc ≤ pos) (fun _ w' => s.size - w'.iterPos w.heap.size)
  case atStart => exact ⟨0, s.size, 0, rfl, rfl, by simp [Lib.runeCount], by omega, Nat.le_refl _⟩
  case round =>
    obtain ⟨pos, b, acc, rfl, rfl, hc, hb, ha⟩ := hrel
    by_cases hp : pos < s.size
    · have hnx : ∀ ty, (Instr.next (.pointer (some ⟨w.heap.size, 0, none⟩)) true ty).run Try.prog (w.iter s pos) = _ := fun ty => run_next_any w s pos ty hp
      have hwd := Lib.decode_width_pos s pos hp
      have HC := Aside0.mk hc
      clear hc
      go_wp2
      go_roundw
      case rel =>
        cases b with
        | zero => omega
        | succ b =>
          refine ⟨pos + (Utf8.decode s pos).2, b, acc + 1, rfl, by go_num, ?_, by omega, by omega⟩
          rw [← HC.out]
          simp [Lib.runeCountFrom, hp]
          omega
      case measure =>
        simp
        omega
    · have hnx : ∀ ty, (Instr.next (.pointer (some ⟨w.heap.size, 0, none⟩)) true ty).run Try.prog (w.iter s pos) = _ := fun ty => run_next_end w s pos ty hp
      have HC := Aside0.mk hc
      clear hc
      go_wp2
      go_ret
      have hc := HC.out
      rw [Lib.runeCountFrom_end s b pos hp, Nat.add_zero] at hc
      subst hc
      exact ⟨rfl, iter_below _ _ _⟩

theorem get_str (l : List Int) (hb : Byt l) (j : Nat) (hj : j < l.length) : ((strOfNums l).get! j).toNat = (rd l j).toNat := by
  rw [← Lib.getD_get!' (strOfNums l) j]
  have h1 : (strOfNums l).data.toList = l.map fun n => UInt8.ofNat n.toNat := rfl
  rw [h1, List.getD_eq_getElem?_getD, List.getElem?_map, List.getElem?_eq_getElem hj, rd_get hj]
  have := hb l[j] (List.getElem_mem _)
  show (UInt8.ofNat (l[j]).toNat).toNat = _
  rw [UInt8.toNat_ofNat']
  omega
theorem count_split (l : List Int) (hb : Byt l) (k : Nat) (hk : k ≤ l.length) (ha : ∀ j : Nat, j < k → rd l j < 128) : Lib.runeCount (strOfNums l) = k + Lib.runeCount (strOfNums (l.drop k)) := by
  have h1 := Lib.runeCount_split (strOfNums l) k (by rw [str_size]; exact hk) (fun j hj => by
    rw [get_str l hb j (by omega)]
    have := ha j hj
    omega)
  have h2 : (strOfNums l).extract k (strOfNums l).size = strOfNums (l.drop k) := by
    apply bytes_inj
    rw [bytes_extract, bytes_str hb, bytes_str (hb.drop k), str_size, List.take_length]
  rw [h1, h2]
theorem count_le (s : ByteArray) : Lib.runeCount s ≤ s.size := Lib.runeCountFrom_le s _ _

theorem count_bytes (l : List Int) (hb : Byt l) (A0 : Option Addr) (c0 : Nat) (w : World) (hr : ReadsInt w .u8 A0 l.length l) (hc : l.length ≤ c0) (hl : l.length < 9223372036854775807) :
    Calls Try.prog 47 #[.slice A0 l.length c0] w fun e w' => e = .returned (.int .i64 (Lib.runeCount (strOfNums l))) ∧ Below w.heap.size w w' := by
  have HR := Aside0.mk hr
  have HC := Aside0.mk hc
  have HBt := Aside0.mk hb
  have hl64 : l.length ≤ 9223372036854775807 := by omega
  clear hr hc hb
  go_enter Try.func47, Try.ntmps47
  go_wp2
  go_loop [4] (fun n => ∃ k : Nat, k ≤ l.length ∧ n = .int .i64 k ∧ Aside0 (∀ j, j < k → rd l j < 128)) (fun n => l.length - (intOf n).toNat)
  case atStart => exact ⟨0, Nat.zero_le _, rfl, ⟨fun j hj => absurd hj (Nat.not_lt_zero _)⟩⟩
  case round =>
    obtain ⟨k, hk, rfl, HA⟩ := hrel
    by_cases hlt : k < l.length
    · obtain ⟨ad, rfl, hx⟩ := HR.out.at_ (k : Int) (by omega) (by omega)
      simp only [Int.toNat_natCast] at hx
      have hrange := HBt.out (rd l k) (by rw [rd_get hlt]; exact List.getElem_mem _)
      have h0 := hrange.1
      have h1 := hrange.2
      by_cases h128 : rd l k < 128
      · have hd : decide (128 ≤ rd l (k : Int)) = false := decide_eq_false (by omega)
        go_wp2
        go_round
        case rel => exact ⟨k + 1, by omega, by go_num, ⟨fun j hj => by
          by_cases e : j = k
          · subst e; exact h128
          · exact HA.out j (by omega)⟩⟩
        case measure => simp [intOf]; omega
      · have hd : decide (128 ≤ rd l (k : Int)) = true := decide_eq_true (by omega)
        have hck : ¬ c0 = k := by have := HC.out; omega
        have hread : ReadsInt w .u8 (some (ad.add k)) (l.length - k) (l.drop k) := by
          have h := HR.out.drop_ k (by omega) HC.out
          rw [if_neg hck] at h
          exact h
        have hcv := string_of_reads (P := Try.prog) (c := c0 - k) Try.underlying46 Try.underlying5 Try.underlying9 hread
        have hcnt := Aside0.mk (count_split l HBt.out k (by omega) HA.out)
        have hle := count_le (strOfNums (l.drop k))
        rw [str_size, List.length_drop] at hle
        clear hread
        go_wp2_with fail
        refine (lib_calls _ _ (by rw [str_size, List.length_drop]; omega)).mono ?_
        rintro e w' ⟨rfl, hB⟩
        go_wp2
        go_ret
        refine ⟨?_, hB⟩
        rw [hcnt.out]
        rfl
    · have hke : k = l.length := by omega
      subst hke
      have hcnt := Aside0.mk (count_split l HBt.out l.length (by omega) HA.out)
      go_wp2
      go_ret
      refine ⟨?_, Below.refl _ _⟩
      rw [hcnt.out, List.drop_of_length_le (Nat.le_refl _)]
      rfl

end Go.Proofs.Ytfciokcielponaa.Runes

/- The contract of spec.Runes29 in the form that extprint.py takes. -/
namespace Go.Proofs.Ytfciokcielponaa.PRow
open Go.Proofs.Ytfciokcielponaa.Txt Go.Proofs.Ytfciokcielponaa.Runes Go.RowKit Go.Proofs.YtfciokcielponaaW.PrintWords Go.Proofs.YtfciokcielponaaW.PrintLast Go.Proofs.YtfciokcielponaaW.PrintMore

def spec_Runes29.f (_ : Nat) (a0 : ByteArray) : Option Int := if a0.size < 9223372036854775807 then some (Lib.runeCount a0) else none
theorem spec_Runes29.mono : ∀ a0 k, LeO (spec_Runes29.f k a0) (spec_Runes29.f (k + 1) a0) := fun _ _ => LeO.refl _
theorem spec_Runes29.calls (k : Nat) (a0 : ByteArray) (r : Int) (w : World) (h : spec_Runes29.f k a0 = some r) :
    Calls Try.prog 22 #[.string a0] w fun e w' => e = .returned (.int .i64 r) ∧ Below w.heap.size w w' := by
  unfold spec_Runes29.f at h
  split at h
  case isFalse => cases h
  rename_i hs
  obtain rfl := Option.some.inj h
  exact spec_calls a0 w hs
end Go.Proofs.Ytfciokcielponaa.PRow

/- Printed by the program extprint.py of this session, out of the kit's print and contracts of this session's own; Lean checks it. -/
namespace Go.Proofs.Ytfciokcielponaa.PRow
open Go.RowKit Go.Proofs.YtfciokcielponaaW.PrintWords Go.Proofs.YtfciokcielponaaW.PrintLast Go.Proofs.YtfciokcielponaaW.PrintMore
attribute [local go_sem] max2_int min2_int max_two min_two max_three min_three max_four min_four   -- for this text's walks alone
set_option linter.unusedVariables false
set_option linter.unusedSimpArgs false


/-! ### laws_zzFits5: function 10 -/
def laws_zzFits5.l0 : Nat → List ByteArray → Int → Int → Option (Bool)
  | 0, _, _, _ => none
  | k + 1, x8, x9, x10 => if x10 < x9 then (if 0 ≤ x10 then (if x10 < (x8.length : Int) then (if ((rdOf ByteArray.empty x8 x10).size : Int) > 2147483647 then (some false) else (laws_zzFits5.l0 k x8 x9 (wrap64 (x10 + 1)))) else (none)) else (none)) else (some true)
def laws_zzFits5.f (k : Nat) (l0 : List ByteArray) : Option (Bool) := if (l0.length : Int) > 2147483647 then (some false) else (laws_zzFits5.l0 k l0 (l0.length : Int) 0)
theorem laws_zzFits5.mono_l : ∀ k, (∀ y0 y1 y2, LeO (laws_zzFits5.l0 k y0 y1 y2) (laws_zzFits5.l0 (k + 1) y0 y1 y2))
  | 0 => fun _ _ _ r h => by simp [laws_zzFits5.l0] at h
  | k + 1 => by
    have ih0 := laws_zzFits5.mono_l k
    · intro y0 y1 y2
      unfold laws_zzFits5.l0
      repeat' first
      | (with_reducible exact ih0 _ _ _)
      | (with_reducible exact LeO.refl _)
      | (with_reducible exact LeO.none _)
      | (with_reducible refine LeO.ite ?_ ?_)
      | (with_reducible refine LeO.bind ?_ (fun _ => ?_))
      | exact ih0 _ _ _
      | exact LeO.none _
      | refine LeO.ite ?_ ?_
      | refine LeO.bind ?_ (fun _ => ?_)
theorem laws_zzFits5.mono : ∀ a0 k, LeO (laws_zzFits5.f k a0) (laws_zzFits5.f (k + 1) a0) := by
  intro a0 k
  have ih0 := laws_zzFits5.mono_l k
  unfold laws_zzFits5.f
  repeat' first
      | (with_reducible exact ih0 _ _ _)
      | (with_reducible exact LeO.refl _)
      | (with_reducible exact LeO.none _)
      | (with_reducible refine LeO.ite ?_ ?_)
      | (with_reducible refine LeO.bind ?_ (fun _ => ?_))
      | exact ih0 _ _ _
      | exact LeO.none _
      | refine LeO.ite ?_ ?_
      | refine LeO.bind ?_ (fun _ => ?_)
set_option maxHeartbeats 8000000 in
set_option maxRecDepth 100000 in
theorem laws_zzFits5.calls (k : Nat) (A0 : Option Addr) (c0 : Nat) (l0 : List ByteArray) (r : Bool) (w : World) (hr0 : Kd.C Kd.string w A0 l0.length l0) (hc0 : l0.length ≤ c0) (h : laws_zzFits5.f k l0 = some r) :
    Calls Try.prog 10 #[.slice A0 l0.length c0] w fun e w' => e = .returned (.bool r) ∧ Drawn0 w w' := by
  have HR0 := Aside0.mk hr0
  have HC0 := Aside0.mk hc0
  clear hr0 hc0
  have H : (if (l0.length : Int) > 2147483647 then (some false) else (laws_zzFits5.l0 k l0 (l0.length : Int) 0)) = some r := h
  clear h
  by_cases c2 : (l0.length : Int) > 2147483647
  · rw [if_pos c2] at H
    have c2b0 : decide (2147483647 < (l0.length : Int)) = true := decide_eq_true c2
    have c2b1 : decide (2147483647 < l0.length) = true := decide_eq_true (by omega)
    clear c2
    obtain rfl := Option.some.inj H
    go_enter Try.func10, Try.ntmps10
    go_wp2
    go_ret
    exact ⟨by first | rfl | (simp; done) | (simp [*]; done), by repeat (first | exact Drawn0.refl _ | apply Drawn0.step)⟩
  · rw [if_neg c2] at H
    have c2b0 : decide (2147483647 < (l0.length : Int)) = false := decide_eq_false c2
    have c2b1 : decide (2147483647 < l0.length) = false := decide_eq_false (by omega)
    clear c2
    have H' := Aside0.mk H
    clear H
    go_enter Try.func10, Try.ntmps10
    go_wp2
    go_loopg [10] k (fun kq v10 w' => ∃ (x10_1 : Int), v10 = .int .i64 x10_1 ∧ Aside0 (laws_zzFits5.l0 kq l0 (l0.length : Int) x10_1 = some r) ∧ Aside0 (kq ≤ k) ∧ Drawn0 w w')
    case atStart => exact ⟨(0), (by first | rfl | (simp; done) | (simp [*]; done)), H', ⟨Nat.le_refl _⟩, by repeat (first | exact Drawn0.refl _ | apply Drawn0.step)⟩
    case round =>
      clear H'
      try clear c1
      try clear c2
      try clear c2b0
      try clear c2b1
      try clear p2
      obtain ⟨x10_1, rfl, HA, HK1, ⟨m1, rfl⟩⟩ := hrel
      cases gk with
      | zero => exact absurd HA.out (by simp [laws_zzFits5.l0])
      | succ k1 =>
        have H := HA.out
        clear HA
        simp only [laws_zzFits5.l0] at H
        by_cases c3 : x10_1 < (l0.length : Int)
        · rw [if_pos c3] at H
          have c3b0 : decide (x10_1 < (l0.length : Int)) = true := decide_eq_true c3
          clear c3
          by_cases c4 : 0 ≤ x10_1
          · rw [if_pos c4] at H
            have c4b0 : decide (0 ≤ x10_1) = true := decide_eq_true c4
            clear c4
            by_cases c5 : x10_1 < (l0.length : Int)
            · rw [if_pos c5] at H
              have c5b0 : decide (x10_1 < (l0.length : Int)) = true := decide_eq_true c5
              clear c5
              by_cases c6 : ((rdOf ByteArray.empty l0 x10_1).size : Int) > 2147483647
              · rw [if_pos c6] at H
                have c6b0 : decide (2147483647 < ((rdOf ByteArray.empty l0 x10_1).size : Int)) = true := decide_eq_true c6
                have c6b1 : decide (2147483647 < (rdOf ByteArray.empty l0 x10_1).size) = true := decide_eq_true (by omega)
                clear c6
                obtain rfl := Option.some.inj H
                have p101 : 0 ≤ (x10_1 : Int) := of_decide_eq_true (by first | (with_reducible assumption) | assumption)
                have q101 : x10_1 < (l0.length : Int) := of_decide_eq_true (by first | (with_reducible assumption) | assumption)
                obtain ⟨ad101, e101, hx101_0⟩ := Kd.at_string HR0.out x10_1 p101 q101
                cases e101
                replace p101 := eq_true p101
                replace q101 := eq_true q101
                go_wp2
                go_ret
                exact ⟨by first | rfl | (simp; done) | (simp [*]; done), by repeat (first | exact Drawn0.refl _ | apply Drawn0.step)⟩
              · rw [if_neg c6] at H
                have c6b0 : decide (2147483647 < ((rdOf ByteArray.empty l0 x10_1).size : Int)) = false := decide_eq_false c6
                have c6b1 : decide (2147483647 < (rdOf ByteArray.empty l0 x10_1).size) = false := decide_eq_false (by omega)
                clear c6
                have H' := Aside0.mk H
                clear H
                have p101 : 0 ≤ (x10_1 : Int) := of_decide_eq_true (by first | (with_reducible assumption) | assumption)
                have q101 : x10_1 < (l0.length : Int) := of_decide_eq_true (by first | (with_reducible assumption) | assumption)
                obtain ⟨ad101, e101, hx101_0⟩ := Kd.at_string HR0.out x10_1 p101 q101
                cases e101
                replace p101 := eq_true p101
                replace q101 := eq_true q101
                go_wp2
                go_roundg k1
                case measure => have := HK1.out; omega
                case rel => exact ⟨(wrap64 (x10_1 + 1)), (by first | rfl | (simp; done) | (simp [*]; done)), H', ⟨by have := HK1.out; omega⟩, by repeat (first | exact Drawn0.refl _ | apply Drawn0.step)⟩
            · rw [if_neg c5] at H
              exact absurd H (by simp)
          · rw [if_neg c4] at H
            exact absurd H (by simp)
        · rw [if_neg c3] at H
          have c3b0 : decide (x10_1 < (l0.length : Int)) = false := decide_eq_false c3
          clear c3
          obtain rfl := Option.some.inj H
          go_wp2
          go_ret
          exact ⟨by first | rfl | (simp; done) | (simp [*]; done), by repeat (first | exact Drawn0.refl _ | apply Drawn0.step)⟩
/-! ### laws_wide29: function 11 -/
def laws_wide29.l0 : Nat → List ByteArray → List Int → Int → Int → Option (Bool)
  | 0, _, _, _, _ => none
  | k + 1, x1, x12, x13, x14 => if x14 < x13 then (if 0 ≤ x14 then (if x14 < (x12.length : Int) then (if x14 < (x1.length : Int) then ((spec_Runes29.f k (rdOf ByteArray.empty x1 x14)).bind fun t104 => (if (rd x12 x14) < t104 then (some false) else (if (rd x12 x14) > 1000 then (some false) else (laws_wide29.l0 k x1 x12 x13 (wrap64 (x14 + 1)))))) else (none)) else (none)) else (none)) else (some true)
def laws_wide29.f (k : Nat) (l0 : List Int) (l1 : List ByteArray) : Option (Bool) := if (l0.length : Int) = (l1.length : Int) then (laws_wide29.l0 k l1 l0 (l0.length : Int) 0) else (some false)
theorem laws_wide29.mono_l : ∀ k, (∀ y0 y1 y2 y3, LeO (laws_wide29.l0 k y0 y1 y2 y3) (laws_wide29.l0 (k + 1) y0 y1 y2 y3))
  | 0 => fun _ _ _ _ r h => by simp [laws_wide29.l0] at h
  | k + 1 => by
    have ih0 := laws_wide29.mono_l k
    · intro y0 y1 y2 y3
      unfold laws_wide29.l0
      repeat' first
      | (with_reducible exact ih0 _ _ _ _)
      | (with_reducible exact spec_Runes29.mono _ _)
      | (with_reducible exact LeO.refl _)
      | (with_reducible exact LeO.none _)
      | (with_reducible refine LeO.ite ?_ ?_)
      | (with_reducible refine LeO.bind ?_ (fun _ => ?_))
      | exact ih0 _ _ _ _
      | exact spec_Runes29.mono _ _
      | exact LeO.none _
      | refine LeO.ite ?_ ?_
      | refine LeO.bind ?_ (fun _ => ?_)
theorem laws_wide29.mono : ∀ a0 a1 k, LeO (laws_wide29.f k a0 a1) (laws_wide29.f (k + 1) a0 a1) := by
  intro a0 a1 k
  have ih0 := laws_wide29.mono_l k
  unfold laws_wide29.f
  repeat' first
      | (with_reducible exact ih0 _ _ _ _)
      | (with_reducible exact spec_Runes29.mono _ _)
      | (with_reducible exact LeO.refl _)
      | (with_reducible exact LeO.none _)
      | (with_reducible refine LeO.ite ?_ ?_)
      | (with_reducible refine LeO.bind ?_ (fun _ => ?_))
      | exact ih0 _ _ _ _
      | exact spec_Runes29.mono _ _
      | exact LeO.none _
      | refine LeO.ite ?_ ?_
      | refine LeO.bind ?_ (fun _ => ?_)
set_option maxHeartbeats 8000000 in
set_option maxRecDepth 100000 in
theorem laws_wide29.calls (k : Nat) (A0 : Option Addr) (c0 : Nat) (l0 : List Int) (A1 : Option Addr) (c1 : Nat) (l1 : List ByteArray) (r : Bool) (w : World) (hr0 : Kd.C (Kd.int .i64) w A0 l0.length l0) (hc0 : l0.length ≤ c0) (hr1 : Kd.C Kd.string w A1 l1.length l1) (hc1 : l1.length ≤ c1) (h : laws_wide29.f k l0 l1 = some r) :
    Calls Try.prog 11 #[.slice A0 l0.length c0, .slice A1 l1.length c1] w fun e w' => e = .returned (.bool r) ∧ Below w.heap.size w w' := by
  have HR0 := Aside0.mk hr0
  have HC0 := Aside0.mk hc0
  clear hr0 hc0
  have HR1 := Aside0.mk hr1
  have HC1 := Aside0.mk hc1
  clear hr1 hc1
  have HB := Aside0.mk (Below.refl w.heap.size w)
  have H : (if (l0.length : Int) = (l1.length : Int) then (laws_wide29.l0 k l1 l0 (l0.length : Int) 0) else (some false)) = some r := h
  clear h
  by_cases c3 : (l0.length : Int) = (l1.length : Int)
  · rw [if_pos c3] at H
    have c3b0 : ((l0.length : Int) == (l1.length : Int)) = true := beq_iff_eq.mpr c3
    have c3b1 : ((l0.length : Int) != (l1.length : Int)) = false := bne_eq_false_iff_eq.mpr c3
    have c3b2 : (l0.length == l1.length) = true := by first | simpa using c3 | (simp at c3 ⊢; omega)
    clear c3
    have H' := Aside0.mk H
    clear H
    go_enter Try.func11, Try.ntmps11
    go_wp2
    go_loopg [14] k (fun kq v14 w' => ∃ (x14_1 : Int), v14 = .int .i64 x14_1 ∧ Aside0 (laws_wide29.l0 kq l1 l0 (l0.length : Int) x14_1 = some r) ∧ Aside0 (kq ≤ k) ∧ Aside0 (Below w.heap.size w w'))
    case atStart => exact ⟨(0), (by first | rfl | (simp; done) | (simp [*]; done)), H', ⟨Nat.le_refl _⟩, ⟨by repeat (first | (with_reducible first | exact HB.out | apply below_alloc | apply pw_below_drewN | apply below_drew1) | exact HB.out)⟩⟩
    case round =>
      clear H'
      try clear c1
      try clear p2
      try clear c3
      try clear c3b0
      try clear c3b1
      try clear c3b2
      obtain ⟨x14_1, rfl, HA, HK1, HB⟩ := hrel
      cases gk with
      | zero => exact absurd HA.out (by simp [laws_wide29.l0])
      | succ k1 =>
        have H := HA.out
        clear HA
        simp only [laws_wide29.l0] at H
        by_cases c4 : x14_1 < (l0.length : Int)
        · rw [if_pos c4] at H
          have c4b0 : decide (x14_1 < (l0.length : Int)) = true := decide_eq_true c4
          clear c4
          by_cases c5 : 0 ≤ x14_1
          · rw [if_pos c5] at H
            have c5b0 : decide (0 ≤ x14_1) = true := decide_eq_true c5
            clear c5
            by_cases c6 : x14_1 < (l0.length : Int)
            · rw [if_pos c6] at H
              have c6b0 : decide (x14_1 < (l0.length : Int)) = true := decide_eq_true c6
              clear c6
              by_cases c7 : x14_1 < (l1.length : Int)
              · rw [if_pos c7] at H
                have c7b0 : decide (x14_1 < (l1.length : Int)) = true := decide_eq_true c7
                clear c7
                replace H := Option.bind_eq_some_iff.mp H
                obtain ⟨t104, A80, H⟩ := H
                replace H : (if (rd l0 x14_1) < t104 then (some false) else (if (rd l0 x14_1) > 1000 then (some false) else (laws_wide29.l0 k1 l1 l0 (l0.length : Int) (wrap64 (x14_1 + 1))))) = some r := H
                have A8 := Aside0.mk A80
                clear A80
                by_cases c9 : (rd l0 x14_1) < t104
                · rw [if_pos c9] at H
                  have c9b0 : decide ((rd l0 x14_1) < t104) = true := decide_eq_true c9
                  clear c9
                  obtain rfl := Option.some.inj H
                  have p102 : 0 ≤ (x14_1 : Int) := of_decide_eq_true (by first | (with_reducible assumption) | assumption)
                  have q102 : x14_1 < (l0.length : Int) := of_decide_eq_true (by first | (with_reducible assumption) | assumption)
                  obtain ⟨ad102, e102, hx102_0⟩ := Kd.at_int HR0.out x14_1 p102 q102
                  cases e102
                  replace hx102_0 := (HB.out.cell (World.block_lt_of_cell? w _ hx102_0)).trans hx102_0
                  replace p102 := eq_true p102
                  replace q102 := eq_true q102
                  have p103 : 0 ≤ (x14_1 : Int) := of_decide_eq_true (by first | (with_reducible assumption) | assumption)
                  have q103 : x14_1 < (l1.length : Int) := of_decide_eq_true (by first | (with_reducible assumption) | assumption)
                  obtain ⟨ad103, e103, hx103_0⟩ := Kd.at_string HR1.out x14_1 p103 q103
                  cases e103
                  replace hx103_0 := (HB.out.cell (World.block_lt_of_cell? w _ hx103_0)).trans hx103_0
                  replace p103 := eq_true p103
                  replace q103 := eq_true q103
                  go_wp2_with (first | ((with_reducible refine gate_callee (f := 22) rfl ?_); refine goesL_ (some 24) rfl rfl Try.func22 (by kernel_rfl) rfl #[.string (rdOf ByteArray.empty l1 x14_1)] rfl (by (try simp only [List.map_toArray, List.map_cons, List.map_nil]); first | done | rfl | (simp only [List.length_drop, List.length_take]; rfl)) ?_; (with_reducible refine (spec_Runes29.calls k1 (rdOf ByteArray.empty l1 x14_1) t104 _ A8.out).mono ?_); rintro e w10 ⟨rfl, hb⟩; refine ⟨_, rfl, ?_⟩; have n0_ := Aside0.mk (below_step (by repeat (first | (with_reducible first | exact HB.out | apply below_alloc | apply pw_below_drewN | apply below_drew1) | exact HB.out)) hb); clear HB; have HB := n0_; clear n0_; (try clear hb); (try clear hb2); (try clear hk); (try clear hi)))
                  go_ret
                  exact ⟨by first | rfl | (simp [errW_none, errW_some] <;> rfl) | (simp [*, errW_none, errW_some] <;> rfl), by repeat (first | (with_reducible first | exact HB.out | apply below_alloc | apply pw_below_drewN | apply below_drew1) | exact HB.out)⟩
                · rw [if_neg c9] at H
                  have c9b0 : decide ((rd l0 x14_1) < t104) = false := decide_eq_false c9
                  clear c9
                  by_cases c11 : (rd l0 x14_1) > 1000
                  · rw [if_pos c11] at H
                    have c11b0 : decide (1000 < (rd l0 x14_1)) = true := decide_eq_true c11
                    clear c11
                    obtain rfl := Option.some.inj H
                    have p102 : 0 ≤ (x14_1 : Int) := of_decide_eq_true (by first | (with_reducible assumption) | assumption)
                    have q102 : x14_1 < (l0.length : Int) := of_decide_eq_true (by first | (with_reducible assumption) | assumption)
                    obtain ⟨ad102, e102, hx102_0⟩ := Kd.at_int HR0.out x14_1 p102 q102
                    cases e102
                    replace hx102_0 := (HB.out.cell (World.block_lt_of_cell? w _ hx102_0)).trans hx102_0
                    replace p102 := eq_true p102
                    replace q102 := eq_true q102
                    have p103 : 0 ≤ (x14_1 : Int) := of_decide_eq_true (by first | (with_reducible assumption) | assumption)
                    have q103 : x14_1 < (l1.length : Int) := of_decide_eq_true (by first | (with_reducible assumption) | assumption)
                    obtain ⟨ad103, e103, hx103_0⟩ := Kd.at_string HR1.out x14_1 p103 q103
                    cases e103
                    replace hx103_0 := (HB.out.cell (World.block_lt_of_cell? w _ hx103_0)).trans hx103_0
                    replace p103 := eq_true p103
                    replace q103 := eq_true q103
                    go_wp2_with (first | ((with_reducible refine gate_callee (f := 22) rfl ?_); refine goesL_ (some 24) rfl rfl Try.func22 (by kernel_rfl) rfl #[.string (rdOf ByteArray.empty l1 x14_1)] rfl (by (try simp only [List.map_toArray, List.map_cons, List.map_nil]); first | done | rfl | (simp only [List.length_drop, List.length_take]; rfl)) ?_; (with_reducible refine (spec_Runes29.calls k1 (rdOf ByteArray.empty l1 x14_1) t104 _ A8.out).mono ?_); rintro e w12 ⟨rfl, hb⟩; refine ⟨_, rfl, ?_⟩; have n0_ := Aside0.mk (below_step (by repeat (first | (with_reducible first | exact HB.out | apply below_alloc | apply pw_below_drewN | apply below_drew1) | exact HB.out)) hb); clear HB; have HB := n0_; clear n0_; (try clear hb); (try clear hb2); (try clear hk); (try clear hi)))
                    go_ret
                    exact ⟨by first | rfl | (simp [errW_none, errW_some] <;> rfl) | (simp [*, errW_none, errW_some] <;> rfl), by repeat (first | (with_reducible first | exact HB.out | apply below_alloc | apply pw_below_drewN | apply below_drew1) | exact HB.out)⟩
                  · rw [if_neg c11] at H
                    have c11b0 : decide (1000 < (rd l0 x14_1)) = false := decide_eq_false c11
                    clear c11
                    have H' := Aside0.mk H
                    clear H
                    have p102 : 0 ≤ (x14_1 : Int) := of_decide_eq_true (by first | (with_reducible assumption) | assumption)
                    have q102 : x14_1 < (l0.length : Int) := of_decide_eq_true (by first | (with_reducible assumption) | assumption)
                    obtain ⟨ad102, e102, hx102_0⟩ := Kd.at_int HR0.out x14_1 p102 q102
                    cases e102
                    replace hx102_0 := (HB.out.cell (World.block_lt_of_cell? w _ hx102_0)).trans hx102_0
                    replace p102 := eq_true p102
                    replace q102 := eq_true q102
                    have p103 : 0 ≤ (x14_1 : Int) := of_decide_eq_true (by first | (with_reducible assumption) | assumption)
                    have q103 : x14_1 < (l1.length : Int) := of_decide_eq_true (by first | (with_reducible assumption) | assumption)
                    obtain ⟨ad103, e103, hx103_0⟩ := Kd.at_string HR1.out x14_1 p103 q103
                    cases e103
                    replace hx103_0 := (HB.out.cell (World.block_lt_of_cell? w _ hx103_0)).trans hx103_0
                    replace p103 := eq_true p103
                    replace q103 := eq_true q103
                    go_wp2_with (first | ((with_reducible refine gate_callee (f := 22) rfl ?_); refine goesL_ (some 24) rfl rfl Try.func22 (by kernel_rfl) rfl #[.string (rdOf ByteArray.empty l1 x14_1)] rfl (by (try simp only [List.map_toArray, List.map_cons, List.map_nil]); first | done | rfl | (simp only [List.length_drop, List.length_take]; rfl)) ?_; (with_reducible refine (spec_Runes29.calls k1 (rdOf ByteArray.empty l1 x14_1) t104 _ A8.out).mono ?_); rintro e w13 ⟨rfl, hb⟩; refine ⟨_, rfl, ?_⟩; have n0_ := Aside0.mk (below_step (by repeat (first | (with_reducible first | exact HB.out | apply below_alloc | apply pw_below_drewN | apply below_drew1) | exact HB.out)) hb); clear HB; have HB := n0_; clear n0_; (try clear hb); (try clear hb2); (try clear hk); (try clear hi)))
                    go_roundg k1
                    case measure => have := HK1.out; omega
                    case rel => exact ⟨(wrap64 (x14_1 + 1)), (by first | rfl | (simp; done) | (simp [*]; done)), H', ⟨by have := HK1.out; omega⟩, ⟨by repeat (first | (with_reducible first | exact HB.out | apply below_alloc | apply pw_below_drewN | apply below_drew1) | exact HB.out)⟩⟩
              · rw [if_neg c7] at H
                exact absurd H (by simp)
            · rw [if_neg c6] at H
              exact absurd H (by simp)
          · rw [if_neg c5] at H
            exact absurd H (by simp)
        · rw [if_neg c4] at H
          have c4b0 : decide (x14_1 < (l0.length : Int)) = false := decide_eq_false c4
          clear c4
          obtain rfl := Option.some.inj H
          go_wp2
          go_ret
          exact ⟨by first | rfl | (simp [errW_none, errW_some] <;> rfl) | (simp [*, errW_none, errW_some] <;> rfl), by repeat (first | (with_reducible first | exact HB.out | apply below_alloc | apply pw_below_drewN | apply below_drew1) | exact HB.out)⟩
  · rw [if_neg c3] at H
    have c3b0 : ((l0.length : Int) == (l1.length : Int)) = false := beq_eq_false_iff_ne.mpr c3
    have c3b1 : ((l0.length : Int) != (l1.length : Int)) = true := bne_iff_ne.mpr c3
    have c3b2 : (l0.length == l1.length) = false := by first | simpa using c3 | (simp at c3 ⊢; omega)
    obtain rfl := Option.some.inj H
    go_enter Try.func11, Try.ntmps11
    go_wp2
    go_ret
    exact ⟨by first | rfl | (simp [errW_none, errW_some] <;> rfl) | (simp [*, errW_none, errW_some] <;> rfl), by repeat (first | (with_reducible first | exact HB.out | apply below_alloc | apply pw_below_drewN | apply below_drew1) | exact HB.out)⟩

-- NOT PRINTED: function 23 (impl_guarded)

-- NOT PRINTED: function 12 (impl_Row)
/-! ### spec_Times29: function 28 -/
def spec_Times29.l0 : Nat → ByteArray → List Int → Int → Int → Option (ByteArray)
  | 0, _, _, _, _ => none
  | k + 1, x0, x5, x7, x8 => if x8 < x7 then (if x5.length + x0.size < 140737488355328 then (spec_Times29.l0 k x0 (x5 ++ bytesOf x0) x7 (wrap64 (x8 + 1))) else (none)) else (some (strOfNums x5))
def spec_Times29.f (k : Nat) (a0 : ByteArray) (a1 : Int) : Option (ByteArray) := spec_Times29.l0 k a0 (([] : List Int)) a1 0
theorem spec_Times29.mono_l : ∀ k, (∀ y0 y1 y2 y3, LeO (spec_Times29.l0 k y0 y1 y2 y3) (spec_Times29.l0 (k + 1) y0 y1 y2 y3))
  | 0 => fun _ _ _ _ r h => by simp [spec_Times29.l0] at h
  | k + 1 => by
    have ih0 := spec_Times29.mono_l k
    · intro y0 y1 y2 y3
      unfold spec_Times29.l0
      repeat' first
      | (with_reducible exact ih0 _ _ _ _)
      | (with_reducible exact LeO.refl _)
      | (with_reducible exact LeO.none _)
      | (with_reducible refine LeO.ite ?_ ?_)
      | (with_reducible refine LeO.bind ?_ (fun _ => ?_))
      | exact ih0 _ _ _ _
      | exact LeO.none _
      | refine LeO.ite ?_ ?_
      | refine LeO.bind ?_ (fun _ => ?_)
theorem spec_Times29.mono : ∀ a0 a1 k, LeO (spec_Times29.f k a0 a1) (spec_Times29.f (k + 1) a0 a1) := by
  intro a0 a1 k
  have ih0 := spec_Times29.mono_l k
  unfold spec_Times29.f
  repeat' first
      | (with_reducible exact ih0 _ _ _ _)
      | (with_reducible exact LeO.refl _)
      | (with_reducible exact LeO.none _)
      | (with_reducible refine LeO.ite ?_ ?_)
      | (with_reducible refine LeO.bind ?_ (fun _ => ?_))
      | exact ih0 _ _ _ _
      | exact LeO.none _
      | refine LeO.ite ?_ ?_
      | refine LeO.bind ?_ (fun _ => ?_)
set_option maxHeartbeats 8000000 in
set_option maxRecDepth 100000 in
theorem spec_Times29.calls (k : Nat) (a0 : ByteArray) (a1 : Int) (r : ByteArray) (w : World) (h : spec_Times29.f k a0 a1 = some r) :
    Calls Try.prog 28 #[.string a0, .int .i64 a1] w fun e w' => e = .returned (.string r) ∧ Below w.heap.size w w' := by
  have HB := Aside0.mk (Below.refl w.heap.size w)
  have H : (spec_Times29.l0 k a0 (([] : List Int)) a1 0) = some r := h
  clear h
  obtain ⟨y105, hy105⟩ : ∃ y_ : List Int, y_ = (([] : List Int)) := ⟨_, rfl⟩
  replace H : (spec_Times29.l0 k a0 y105 a1 0) = some r := by first | (rw [hy105]; with_reducible exact H) | (have H2_ := (Option.bind_some _ _).symm.trans H; rw [hy105]; with_reducible exact H2_) | (have H2_ := (Option.bind_some _ _).symm.trans H; with_reducible exact H2_) | with_reducible exact H | (rw [hy105]; exact H) | exact H
  have Ny105 := Aside0.mk hy105
  clear hy105
  have H' := Aside0.mk H
  clear H
  go_enter Try.func28, Try.ntmps28
  go_wp2_with (first | ((with_reducible refine gate_dst (N := 6) rfl ?_); refine Kd.R_lit (Kd.int .u8) _ 5 ?hg (N := 6) ?hd (xs := ([] : List Int)) (inner := []) (ok := fun _ => True) (okp := fun _ => True) ?hr ?hp (fun _ hk => hk) trivial (Below.refl _ _) (Nat.le_refl _) (by simp) ?_; (case hd => rfl); (case hg => rfl); (case hr => first | (go_simp; done) | (go_simp; rfl)); (case hp => exact (Reps.none _ _)); intro v106 w3 ho4 hb hg_ hnew_; clear hg_ hnew_; (first | rw [← Ny105.out] at ho4 | (simp only [Int.reduceToNat] at ho4; rw [← Ny105.out] at ho4)); have n0_ := Aside0.mk (Kd.R_lower ho4 (below_size (by repeat (first | (with_reducible first | exact HB.out | apply below_alloc | apply pw_below_drewN | apply below_drew1) | exact HB.out)))); have n1_ := Aside0.mk (below_step (by repeat (first | (with_reducible first | exact HB.out | apply below_alloc | apply pw_below_drewN | apply below_drew1) | exact HB.out)) hb); clear HB; have HO107 := n0_; have HB := n1_; clear n0_ n1_; clear hb ho4))
  go_loopg [5, 8] k (fun kq v5 v8 w' => ∃ (x5_1 : List Int) (x8_1 : Int), v8 = .int .i64 x8_1 ∧ Aside0 (spec_Times29.l0 kq a0 x5_1 a1 x8_1 = some r) ∧ Aside0 (kq ≤ k) ∧ Aside0 (Kd.R (Kd.int .u8) 5 w' w.heap.size (fun _ => True) v5 x5_1) ∧ Aside0 (Below w.heap.size w w'))
  case atStart => exact ⟨(y105), (0), (by first | rfl | (simp; done) | (simp [*]; done)), H', ⟨Nat.le_refl _⟩, ⟨by (with_reducible repeat (first | apply Kd.R_alloc | apply Kd.R_drewN | apply Kd.R_drew)); exact HO107.out⟩, ⟨by repeat (first | (with_reducible first | exact HB.out | apply below_alloc | apply pw_below_drewN | apply below_drew1) | exact HB.out)⟩⟩
  case round =>
    clear H'
    try clear c2
    try clear p2
    obtain ⟨x5_1, x8_1, rfl, HA, HK1, HO_5, HB⟩ := hrel
    cases gk with
    | zero => exact absurd HA.out (by simp [spec_Times29.l0])
    | succ k1 =>
      have H := HA.out
      clear HA
      simp only [spec_Times29.l0] at H
      by_cases c5 : x8_1 < a1
      · rw [if_pos c5] at H
        have c5b0 : decide (x8_1 < a1) = true := decide_eq_true c5
        clear c5
        by_cases c6 : x5_1.length + a0.size < 140737488355328
        · rw [if_pos c6] at H
          have LMc6 := Aside0.mk c6
          clear c6
          obtain ⟨y108, hy108⟩ : ∃ y_ : List Int, y_ = (x5_1 ++ bytesOf a0) := ⟨_, rfl⟩
          replace H : (spec_Times29.l0 k1 a0 y108 a1 (wrap64 (x8_1 + 1))) = some r := by first | (rw [hy108]; with_reducible exact H) | (have H2_ := (Option.bind_some _ _).symm.trans H; rw [hy108]; with_reducible exact H2_) | (have H2_ := (Option.bind_some _ _).symm.trans H; with_reducible exact H2_) | with_reducible exact H | (rw [hy108]; exact H) | exact H
          have Ny108 := Aside0.mk hy108
          clear hy108
          have H' := Aside0.mk H
          clear H
          go_wp2_with (first | (at_builtin; refine print_append_str (w0 := w) w.heap.size rfl (.tmp 10) _ 46 9 5 rfl Try.underlying46 Try.underlying9 info5 u5 x5_1 a0 rfl rfl ?aO ?aB ?aS ?aL ?_; (case aB => exact (by repeat (first | (with_reducible first | exact HB.out | apply below_alloc | apply pw_below_drewN | apply below_drew1) | exact HB.out))); (case aO => exact (Kd.own_of_R (by (with_reducible repeat (first | apply Kd.R_alloc | apply Kd.R_drewN | apply Kd.R_drew)); exact HO_5.out))); (case aS => exact (below_size (by repeat (first | (with_reducible first | exact HB.out | apply below_alloc | apply pw_below_drewN | apply below_drew1) | exact HB.out)))); (case aL => have := LMc6.out; omega); intro v109 w7 ho0 hb hg; have ho := Kd.R_of_own (h1 := fun _ => rfl) (ok := fun _ => True) ho0 (fun _ _ => trivial); clear ho0; have hat := True.intro; rw [← Ny108.out] at ho; change Kd.R (Kd.int .u8) 5 w7 w.heap.size (fun _ => True) v109 y108 at ho; have n0_ := Aside0.mk (hb); have n1_ := Aside0.mk (ho); clear HB; clear HO_5; have HB := n0_; have HO110 := n1_; clear n0_ n1_; clear ho hb hg hat))
          go_roundg k1
          case measure => have := HK1.out; omega
          case rel => exact ⟨(y108), (wrap64 (x8_1 + 1)), (by first | rfl | (simp; done) | (simp [*]; done)), H', ⟨by have := HK1.out; omega⟩, ⟨by (with_reducible repeat (first | apply Kd.R_alloc | apply Kd.R_drewN | apply Kd.R_drew)); exact HO110.out⟩, ⟨by repeat (first | (with_reducible first | exact HB.out | apply below_alloc | apply pw_below_drewN | apply below_drew1) | exact HB.out)⟩⟩
        · rw [if_neg c6] at H
          exact absurd H (by simp)
      · rw [if_neg c5] at H
        have c5b0 : decide (x8_1 < a1) = false := decide_eq_false c5
        clear c5
        obtain rfl := Option.some.inj H
        have hcv8 := own_string (P := Try.prog) Try.underlying46 Try.underlying5 Try.underlying9 (Kd.own_of_R HO_5.out)
        go_wp2
        go_ret
        exact ⟨by first | rfl | (simp [errW_none, errW_some] <;> rfl) | (simp [*, errW_none, errW_some] <;> rfl), by repeat (first | (with_reducible first | exact HB.out | apply below_alloc | apply pw_below_drewN | apply below_drew1) | exact HB.out)⟩
/-! ### laws_row29: function 13 -/
def laws_row29.l0 : Nat → Int → List Int → ByteArray → List ByteArray → Int → Int → Option (ByteArray)
  | 0, _, _, _, _, _, _ => none
  | k + 1, x0, x1, x7, x10, x11, x12 => if x12 < x11 then (if 0 ≤ x12 then (if x12 < (x10.length : Int) then (if x0 = 2 then (if 1 + (rdOf ByteArray.empty x10 x12).size ≤ 9223372036854775807 then (if ((⟨#[32]⟩ : ByteArray) ++ (rdOf ByteArray.empty x10 x12)).size + 1 ≤ 9223372036854775807 then (if x7.size + (((⟨#[32]⟩ : ByteArray) ++ (rdOf ByteArray.empty x10 x12)) ++ (⟨#[32]⟩ : ByteArray)).size ≤ 9223372036854775807 then (if (x7 ++ (((⟨#[32]⟩ : ByteArray) ++ (rdOf ByteArray.empty x10 x12)) ++ (⟨#[32]⟩ : ByteArray))).size + 1 ≤ 9223372036854775807 then (laws_row29.l0 k x0 x1 ((x7 ++ (((⟨#[32]⟩ : ByteArray) ++ (rdOf ByteArray.empty x10 x12)) ++ (⟨#[32]⟩ : ByteArray))) ++ (⟨#[124]⟩ : ByteArray)) x10 x11 (wrap64 (x12 + 1))) else (none)) else (none)) else (none)) else (none)) else (if x0 = 3 then (if x7.size + (rdOf ByteArray.empty x10 x12).size ≤ 9223372036854775807 then (if (x7 ++ (rdOf ByteArray.empty x10 x12)).size + 1 ≤ 9223372036854775807 then (laws_row29.l0 k x0 x1 ((x7 ++ (rdOf ByteArray.empty x10 x12)) ++ (⟨#[124]⟩ : ByteArray)) x10 x11 (wrap64 (x12 + 1))) else (none)) else (none)) else (if 1 + (rdOf ByteArray.empty x10 x12).size ≤ 9223372036854775807 then (if x12 < (x1.length : Int) then ((spec_Runes29.f k (rdOf ByteArray.empty x10 x12)).bind fun t113 => ((spec_Times29.f k (⟨#[32]⟩ : ByteArray) (wrap64 ((rd x1 x12) - t113))).bind fun t114 => (if ((⟨#[32]⟩ : ByteArray) ++ (rdOf ByteArray.empty x10 x12)).size + t114.size ≤ 9223372036854775807 then (if (((⟨#[32]⟩ : ByteArray) ++ (rdOf ByteArray.empty x10 x12)) ++ t114).size + 1 ≤ 9223372036854775807 then (if x7.size + ((((⟨#[32]⟩ : ByteArray) ++ (rdOf ByteArray.empty x10 x12)) ++ t114) ++ (⟨#[32]⟩ : ByteArray)).size ≤ 9223372036854775807 then (if (x7 ++ ((((⟨#[32]⟩ : ByteArray) ++ (rdOf ByteArray.empty x10 x12)) ++ t114) ++ (⟨#[32]⟩ : ByteArray))).size + 1 ≤ 9223372036854775807 then (laws_row29.l0 k x0 x1 ((x7 ++ ((((⟨#[32]⟩ : ByteArray) ++ (rdOf ByteArray.empty x10 x12)) ++ t114) ++ (⟨#[32]⟩ : ByteArray))) ++ (⟨#[124]⟩ : ByteArray)) x10 x11 (wrap64 (x12 + 1))) else (none)) else (none)) else (none)) else (none)))) else (none)) else (none)))) else (none)) else (none)) else (some x7)
def laws_row29.f (k : Nat) (a0 : Int) (l1 : List Int) (l2 : List ByteArray) : Option (ByteArray) := laws_row29.l0 k a0 l1 (⟨#[124]⟩ : ByteArray) l2 (l2.length : Int) 0
theorem laws_row29.mono_l : ∀ k, (∀ y0 y1 y2 y3 y4 y5, LeO (laws_row29.l0 k y0 y1 y2 y3 y4 y5) (laws_row29.l0 (k + 1) y0 y1 y2 y3 y4 y5))
  | 0 => fun _ _ _ _ _ _ r h => by simp [laws_row29.l0] at h
  | k + 1 => by
    have ih0 := laws_row29.mono_l k
    · intro y0 y1 y2 y3 y4 y5
      unfold laws_row29.l0
      repeat' first
      | (with_reducible exact ih0 _ _ _ _ _ _)
      | (with_reducible exact spec_Runes29.mono _ _)
      | (with_reducible exact spec_Times29.mono _ _ _)
      | (with_reducible exact LeO.refl _)
      | (with_reducible exact LeO.none _)
      | (with_reducible refine LeO.ite ?_ ?_)
      | (with_reducible refine LeO.bind ?_ (fun _ => ?_))
      | exact ih0 _ _ _ _ _ _
      | exact spec_Runes29.mono _ _
      | exact spec_Times29.mono _ _ _
      | exact LeO.none _
      | refine LeO.ite ?_ ?_
      | refine LeO.bind ?_ (fun _ => ?_)
theorem laws_row29.mono : ∀ a0 a1 a2 k, LeO (laws_row29.f k a0 a1 a2) (laws_row29.f (k + 1) a0 a1 a2) := by
  intro a0 a1 a2 k
  have ih0 := laws_row29.mono_l k
  unfold laws_row29.f
  repeat' first
      | (with_reducible exact ih0 _ _ _ _ _ _)
      | (with_reducible exact spec_Runes29.mono _ _)
      | (with_reducible exact spec_Times29.mono _ _ _)
      | (with_reducible exact LeO.refl _)
      | (with_reducible exact LeO.none _)
      | (with_reducible refine LeO.ite ?_ ?_)
      | (with_reducible refine LeO.bind ?_ (fun _ => ?_))
      | exact ih0 _ _ _ _ _ _
      | exact spec_Runes29.mono _ _
      | exact spec_Times29.mono _ _ _
      | exact LeO.none _
      | refine LeO.ite ?_ ?_
      | refine LeO.bind ?_ (fun _ => ?_)
def laws_row29.T6 : Bool × List (List Nat × List Nat) := (true, [([], []), ([], []), ([1], [1]), ([], []), ([], []), ([3, 4], [3, 4]), ([5], [5]), ([], []), ([7], [7]), ([6, 8], [6, 8]), ([9, 8], [9]), ([2, 10], [2, 10]), ([11], [11]), ([0, 12], [0, 12]), ([13, 10, 0, 1, 2, 3, 4, 5, 6, 7, 8, 9, 10, 11, 12, 13], [0, 13])])
def laws_row29.B6 : List Nat := [0, 0, 2, 0, 0, 24, 56, 0, 128, 504, 1016, 2046, 4094, 8191, 16383]
theorem laws_row29.tab6 : rtab .any (opsOf Try.f13 6) = laws_row29.T6 := by kernel_rfl
theorem laws_row29.bits6 : waitsOk laws_row29.T6.2 laws_row29.B6 = true := by kernel_rfl
set_option maxHeartbeats 8000000 in
set_option maxRecDepth 100000 in
theorem laws_row29.calls (k : Nat) (a0 : Int) (A1 : Option Addr) (c1 : Nat) (l1 : List Int) (A2 : Option Addr) (c2 : Nat) (l2 : List ByteArray) (r : ByteArray) (w : World) (hr1 : Kd.C (Kd.int .i64) w A1 l1.length l1) (hc1 : l1.length ≤ c1) (hr2 : Kd.C Kd.string w A2 l2.length l2) (hc2 : l2.length ≤ c2) (h : laws_row29.f k a0 l1 l2 = some r) :
    Calls Try.prog 13 #[.int .i64 a0, .slice A1 l1.length c1, .slice A2 l2.length c2] w fun e w' => e = .returned (.string r) ∧ Below w.heap.size w w' := by
  have HR1 := Aside0.mk hr1
  have HC1 := Aside0.mk hc1
  clear hr1 hc1
  have HR2 := Aside0.mk hr2
  have HC2 := Aside0.mk hc2
  clear hr2 hc2
  have HB := Aside0.mk (Below.refl w.heap.size w)
  have H : (laws_row29.l0 k a0 l1 (⟨#[124]⟩ : ByteArray) l2 (l2.length : Int) 0) = some r := h
  clear h
  have H' := Aside0.mk H
  clear H
  go_enter Try.func13, Try.ntmps13
  go_wp2
  go_loopg [7, 12] k (fun kq v7 v12 w' => ∃ (x7_1 : ByteArray) (x12_1 : Int), v7 = .string x7_1 ∧ v12 = .int .i64 x12_1 ∧ Aside0 (laws_row29.l0 kq a0 l1 x7_1 l2 (l2.length : Int) x12_1 = some r) ∧ Aside0 (kq ≤ k) ∧ Aside0 (Below w.heap.size w w'))
  case atStart => exact ⟨((⟨#[124]⟩ : ByteArray)), (0), (by first | rfl | (simp; done) | (simp [*]; done)), (by first | rfl | (simp; done) | (simp [*]; done)), H', ⟨Nat.le_refl _⟩, ⟨by repeat (first | (with_reducible first | exact HB.out | apply below_alloc | apply pw_below_drewN | apply below_drew1) | exact HB.out)⟩⟩
  case round =>
    clear H'
    try clear c1
    try clear c2
    try clear p2
    obtain ⟨x7_1, x12_1, rfl, rfl, HA, HK1, HB⟩ := hrel
    cases gk with
    | zero => exact absurd HA.out (by simp [laws_row29.l0])
    | succ k1 =>
      have H := HA.out
      clear HA
      simp only [laws_row29.l0] at H
      by_cases c4 : x12_1 < (l2.length : Int)
      · rw [if_pos c4] at H
        have c4b0 : decide (x12_1 < (l2.length : Int)) = true := decide_eq_true c4
        clear c4
        by_cases c5 : 0 ≤ x12_1
        · rw [if_pos c5] at H
          have c5b0 : decide (0 ≤ x12_1) = true := decide_eq_true c5
          clear c5
          by_cases c6 : x12_1 < (l2.length : Int)
          · rw [if_pos c6] at H
            have c6b0 : decide (x12_1 < (l2.length : Int)) = true := decide_eq_true c6
            clear c6
            by_cases c7 : a0 = 2
            · rw [if_pos c7] at H
              have c7b0 : (a0 == 2) = true := beq_iff_eq.mpr c7
              have c7b1 : (a0 != 2) = false := bne_eq_false_iff_eq.mpr c7
              clear c7
              by_cases c8 : 1 + (rdOf ByteArray.empty l2 x12_1).size ≤ 9223372036854775807
              · rw [if_pos c8] at H
                have c8b0 := eq_true c8
                have c8b1 : decide (1 + (rdOf ByteArray.empty l2 x12_1).size ≤ 9223372036854775807) = true := decide_eq_true c8
                try have c8b2 : (9223372036854775807 < 1 + (rdOf ByteArray.empty l2 x12_1).size) = False := eq_false (Nat.not_lt.2 c8)
                by_cases c9 : ((⟨#[32]⟩ : ByteArray) ++ (rdOf ByteArray.empty l2 x12_1)).size + 1 ≤ 9223372036854775807
                · rw [if_pos c9] at H
                  have c9b0 := eq_true c9
                  have c9b1 : decide (((⟨#[32]⟩ : ByteArray) ++ (rdOf ByteArray.empty l2 x12_1)).size + 1 ≤ 9223372036854775807) = true := decide_eq_true c9
                  try have c9b2 : (9223372036854775807 < ((⟨#[32]⟩ : ByteArray) ++ (rdOf ByteArray.empty l2 x12_1)).size + 1) = False := eq_false (Nat.not_lt.2 c9)
                  try have c9b3 : (9223372036854775807 < 1 + (rdOf ByteArray.empty l2 x12_1).size + 1) = False := eq_false (Nat.not_lt.2 (by have z_ := c9; simp only [ByteArray.size_append] at z_; exact z_))
                  by_cases c10 : x7_1.size + (((⟨#[32]⟩ : ByteArray) ++ (rdOf ByteArray.empty l2 x12_1)) ++ (⟨#[32]⟩ : ByteArray)).size ≤ 9223372036854775807
                  · rw [if_pos c10] at H
                    have c10b0 := eq_true c10
                    have c10b1 : decide (x7_1.size + (((⟨#[32]⟩ : ByteArray) ++ (rdOf ByteArray.empty l2 x12_1)) ++ (⟨#[32]⟩ : ByteArray)).size ≤ 9223372036854775807) = true := decide_eq_true c10
                    try have c10b2 : (9223372036854775807 < x7_1.size + (((⟨#[32]⟩ : ByteArray) ++ (rdOf ByteArray.empty l2 x12_1)) ++ (⟨#[32]⟩ : ByteArray)).size) = False := eq_false (Nat.not_lt.2 c10)
                    try have c10b4 : (9223372036854775807 < x7_1.size + (1 + (rdOf ByteArray.empty l2 x12_1).size + 1)) = False := eq_false (Nat.not_lt.2 (by have z_ := c10; simp only [ByteArray.size_append] at z_; exact z_))
                    try have c10b3 : (9223372036854775807 < x7_1.size + 1 + (rdOf ByteArray.empty l2 x12_1).size + 1) = False := eq_false (Nat.not_lt.2 (by have z_ := c10; simp only [ByteArray.size_append] at z_; exact z_))
                    by_cases c11 : (x7_1 ++ (((⟨#[32]⟩ : ByteArray) ++ (rdOf ByteArray.empty l2 x12_1)) ++ (⟨#[32]⟩ : ByteArray))).size + 1 ≤ 9223372036854775807
                    · rw [if_pos c11] at H
                      have c11b0 := eq_true c11
                      have c11b1 : decide ((x7_1 ++ (((⟨#[32]⟩ : ByteArray) ++ (rdOf ByteArray.empty l2 x12_1)) ++ (⟨#[32]⟩ : ByteArray))).size + 1 ≤ 9223372036854775807) = true := decide_eq_true c11
                      try have c11b2 : (9223372036854775807 < (x7_1 ++ (((⟨#[32]⟩ : ByteArray) ++ (rdOf ByteArray.empty l2 x12_1)) ++ (⟨#[32]⟩ : ByteArray))).size + 1) = False := eq_false (Nat.not_lt.2 c11)
                      try have c11b4 : (9223372036854775807 < x7_1.size + (1 + (rdOf ByteArray.empty l2 x12_1).size + 1) + 1) = False := eq_false (Nat.not_lt.2 (by have z_ := c11; simp only [ByteArray.size_append] at z_; exact z_))
                      try have c11b3 : (9223372036854775807 < x7_1.size + 1 + (rdOf ByteArray.empty l2 x12_1).size + 1 + 1) = False := eq_false (Nat.not_lt.2 (by have z_ := c11; simp only [ByteArray.size_append] at z_; exact z_))
                      have H' := Aside0.mk H
                      clear H
                      have p111 : 0 ≤ (x12_1 : Int) := of_decide_eq_true (by first | (with_reducible assumption) | assumption)
                      have q111 : x12_1 < (l2.length : Int) := of_decide_eq_true (by first | (with_reducible assumption) | assumption)
                      obtain ⟨ad111, e111, hx111_0⟩ := Kd.at_string HR2.out x12_1 p111 q111
                      cases e111
                      replace hx111_0 := (HB.out.cell (World.block_lt_of_cell? w _ hx111_0)).trans hx111_0
                      replace p111 := eq_true p111
                      replace q111 := eq_true q111
                      go_wp2
                      go_roundg k1
                      case measure => have := HK1.out; omega
                      case rel => exact ⟨((x7_1 ++ (((⟨#[32]⟩ : ByteArray) ++ (rdOf ByteArray.empty l2 x12_1)) ++ (⟨#[32]⟩ : ByteArray))) ++ (⟨#[124]⟩ : ByteArray)), (wrap64 (x12_1 + 1)), (by first | rfl | (simp; done) | (simp [*]; done)), (by first | rfl | (simp; done) | (simp [*]; done)), H', ⟨by have := HK1.out; omega⟩, ⟨by repeat (first | (with_reducible first | exact HB.out | apply below_alloc | apply pw_below_drewN | apply below_drew1) | exact HB.out)⟩⟩
                    · rw [if_neg c11] at H
                      exact absurd H (by simp)
                  · rw [if_neg c10] at H
                    exact absurd H (by simp)
                · rw [if_neg c9] at H
                  exact absurd H (by simp)
              · rw [if_neg c8] at H
                exact absurd H (by simp)
            · rw [if_neg c7] at H
              have c7b0 : (a0 == 2) = false := beq_eq_false_iff_ne.mpr c7
              have c7b1 : (a0 != 2) = true := bne_iff_ne.mpr c7
              by_cases c12 : a0 = 3
              · rw [if_pos c12] at H
                have c12b0 : (a0 == 3) = true := beq_iff_eq.mpr c12
                have c12b1 : (a0 != 3) = false := bne_eq_false_iff_eq.mpr c12
                clear c12
                by_cases c13 : x7_1.size + (rdOf ByteArray.empty l2 x12_1).size ≤ 9223372036854775807
                · rw [if_pos c13] at H
                  have c13b0 := eq_true c13
                  have c13b1 : decide (x7_1.size + (rdOf ByteArray.empty l2 x12_1).size ≤ 9223372036854775807) = true := decide_eq_true c13
                  try have c13b2 : (9223372036854775807 < x7_1.size + (rdOf ByteArray.empty l2 x12_1).size) = False := eq_false (Nat.not_lt.2 c13)
                  by_cases c14 : (x7_1 ++ (rdOf ByteArray.empty l2 x12_1)).size + 1 ≤ 9223372036854775807
                  · rw [if_pos c14] at H
                    have c14b0 := eq_true c14
                    have c14b1 : decide ((x7_1 ++ (rdOf ByteArray.empty l2 x12_1)).size + 1 ≤ 9223372036854775807) = true := decide_eq_true c14
                    try have c14b2 : (9223372036854775807 < (x7_1 ++ (rdOf ByteArray.empty l2 x12_1)).size + 1) = False := eq_false (Nat.not_lt.2 c14)
                    try have c14b3 : (9223372036854775807 < x7_1.size + (rdOf ByteArray.empty l2 x12_1).size + 1) = False := eq_false (Nat.not_lt.2 (by have z_ := c14; simp only [ByteArray.size_append] at z_; exact z_))
                    have H' := Aside0.mk H
                    clear H
                    have p111 : 0 ≤ (x12_1 : Int) := of_decide_eq_true (by first | (with_reducible assumption) | assumption)
                    have q111 : x12_1 < (l2.length : Int) := of_decide_eq_true (by first | (with_reducible assumption) | assumption)
                    obtain ⟨ad111, e111, hx111_0⟩ := Kd.at_string HR2.out x12_1 p111 q111
                    cases e111
                    replace hx111_0 := (HB.out.cell (World.block_lt_of_cell? w _ hx111_0)).trans hx111_0
                    replace p111 := eq_true p111
                    replace q111 := eq_true q111
                    go_wp2
                    go_roundg k1
                    case measure => have := HK1.out; omega
                    case rel => exact ⟨((x7_1 ++ (rdOf ByteArray.empty l2 x12_1)) ++ (⟨#[124]⟩ : ByteArray)), (wrap64 (x12_1 + 1)), (by first | rfl | (simp; done) | (simp [*]; done)), (by first | rfl | (simp; done) | (simp [*]; done)), H', ⟨by have := HK1.out; omega⟩, ⟨by repeat (first | (with_reducible first | exact HB.out | apply below_alloc | apply pw_below_drewN | apply below_drew1) | exact HB.out)⟩⟩
                  · rw [if_neg c14] at H
                    exact absurd H (by simp)
                · rw [if_neg c13] at H
                  exact absurd H (by simp)
              · rw [if_neg c12] at H
                have c12b0 : (a0 == 3) = false := beq_eq_false_iff_ne.mpr c12
                have c12b1 : (a0 != 3) = true := bne_iff_ne.mpr c12
                by_cases c15 : 1 + (rdOf ByteArray.empty l2 x12_1).size ≤ 9223372036854775807
                · rw [if_pos c15] at H
                  have c15b0 := eq_true c15
                  have c15b1 : decide (1 + (rdOf ByteArray.empty l2 x12_1).size ≤ 9223372036854775807) = true := decide_eq_true c15
                  try have c15b2 : (9223372036854775807 < 1 + (rdOf ByteArray.empty l2 x12_1).size) = False := eq_false (Nat.not_lt.2 c15)
                  by_cases c16 : x12_1 < (l1.length : Int)
                  · rw [if_pos c16] at H
                    have c16b0 : decide (x12_1 < (l1.length : Int)) = true := decide_eq_true c16
                    clear c16
                    replace H := Option.bind_eq_some_iff.mp H
                    obtain ⟨t113, A170, H⟩ := H
                    replace H : ((spec_Times29.f k1 (⟨#[32]⟩ : ByteArray) (wrap64 ((rd l1 x12_1) - t113))).bind fun t114 => (if ((⟨#[32]⟩ : ByteArray) ++ (rdOf ByteArray.empty l2 x12_1)).size + t114.size ≤ 9223372036854775807 then (if (((⟨#[32]⟩ : ByteArray) ++ (rdOf ByteArray.empty l2 x12_1)) ++ t114).size + 1 ≤ 9223372036854775807 then (if x7_1.size + ((((⟨#[32]⟩ : ByteArray) ++ (rdOf ByteArray.empty l2 x12_1)) ++ t114) ++ (⟨#[32]⟩ : ByteArray)).size ≤ 9223372036854775807 then (if (x7_1 ++ ((((⟨#[32]⟩ : ByteArray) ++ (rdOf ByteArray.empty l2 x12_1)) ++ t114) ++ (⟨#[32]⟩ : ByteArray))).size + 1 ≤ 9223372036854775807 then (laws_row29.l0 k1 a0 l1 ((x7_1 ++ ((((⟨#[32]⟩ : ByteArray) ++ (rdOf ByteArray.empty l2 x12_1)) ++ t114) ++ (⟨#[32]⟩ : ByteArray))) ++ (⟨#[124]⟩ : ByteArray)) l2 (l2.length : Int) (wrap64 (x12_1 + 1))) else (none)) else (none)) else (none)) else (none))) = some r := H
                    have A17 := Aside0.mk A170
                    clear A170
                    replace H := Option.bind_eq_some_iff.mp H
                    obtain ⟨t114, A180, H⟩ := H
                    replace H : (if ((⟨#[32]⟩ : ByteArray) ++ (rdOf ByteArray.empty l2 x12_1)).size + t114.size ≤ 9223372036854775807 then (if (((⟨#[32]⟩ : ByteArray) ++ (rdOf ByteArray.empty l2 x12_1)) ++ t114).size + 1 ≤ 9223372036854775807 then (if x7_1.size + ((((⟨#[32]⟩ : ByteArray) ++ (rdOf ByteArray.empty l2 x12_1)) ++ t114) ++ (⟨#[32]⟩ : ByteArray)).size ≤ 9223372036854775807 then (if (x7_1 ++ ((((⟨#[32]⟩ : ByteArray) ++ (rdOf ByteArray.empty l2 x12_1)) ++ t114) ++ (⟨#[32]⟩ : ByteArray))).size + 1 ≤ 9223372036854775807 then (laws_row29.l0 k1 a0 l1 ((x7_1 ++ ((((⟨#[32]⟩ : ByteArray) ++ (rdOf ByteArray.empty l2 x12_1)) ++ t114) ++ (⟨#[32]⟩ : ByteArray))) ++ (⟨#[124]⟩ : ByteArray)) l2 (l2.length : Int) (wrap64 (x12_1 + 1))) else (none)) else (none)) else (none)) else (none)) = some r := H
                    have A18 := Aside0.mk A180
                    clear A180
                    by_cases c19 : ((⟨#[32]⟩ : ByteArray) ++ (rdOf ByteArray.empty l2 x12_1)).size + t114.size ≤ 9223372036854775807
                    · rw [if_pos c19] at H
                      have c19b0 := eq_true c19
                      have c19b1 : decide (((⟨#[32]⟩ : ByteArray) ++ (rdOf ByteArray.empty l2 x12_1)).size + t114.size ≤ 9223372036854775807) = true := decide_eq_true c19
                      try have c19b2 : (9223372036854775807 < ((⟨#[32]⟩ : ByteArray) ++ (rdOf ByteArray.empty l2 x12_1)).size + t114.size) = False := eq_false (Nat.not_lt.2 c19)
                      try have c19b3 : (9223372036854775807 < 1 + (rdOf ByteArray.empty l2 x12_1).size + t114.size) = False := eq_false (Nat.not_lt.2 (by have z_ := c19; simp only [ByteArray.size_append] at z_; exact z_))
                      by_cases c20 : (((⟨#[32]⟩ : ByteArray) ++ (rdOf ByteArray.empty l2 x12_1)) ++ t114).size + 1 ≤ 9223372036854775807
                      · rw [if_pos c20] at H
                        have c20b0 := eq_true c20
                        have c20b1 : decide ((((⟨#[32]⟩ : ByteArray) ++ (rdOf ByteArray.empty l2 x12_1)) ++ t114).size + 1 ≤ 9223372036854775807) = true := decide_eq_true c20
                        try have c20b2 : (9223372036854775807 < (((⟨#[32]⟩ : ByteArray) ++ (rdOf ByteArray.empty l2 x12_1)) ++ t114).size + 1) = False := eq_false (Nat.not_lt.2 c20)
                        try have c20b3 : (9223372036854775807 < 1 + (rdOf ByteArray.empty l2 x12_1).size + t114.size + 1) = False := eq_false (Nat.not_lt.2 (by have z_ := c20; simp only [ByteArray.size_append] at z_; exact z_))
                        by_cases c21 : x7_1.size + ((((⟨#[32]⟩ : ByteArray) ++ (rdOf ByteArray.empty l2 x12_1)) ++ t114) ++ (⟨#[32]⟩ : ByteArray)).size ≤ 9223372036854775807
                        · rw [if_pos c21] at H
                          have c21b0 := eq_true c21
                          have c21b1 : decide (x7_1.size + ((((⟨#[32]⟩ : ByteArray) ++ (rdOf ByteArray.empty l2 x12_1)) ++ t114) ++ (⟨#[32]⟩ : ByteArray)).size ≤ 9223372036854775807) = true := decide_eq_true c21
                          try have c21b2 : (9223372036854775807 < x7_1.size + ((((⟨#[32]⟩ : ByteArray) ++ (rdOf ByteArray.empty l2 x12_1)) ++ t114) ++ (⟨#[32]⟩ : ByteArray)).size) = False := eq_false (Nat.not_lt.2 c21)
                          try have c21b4 : (9223372036854775807 < x7_1.size + (1 + (rdOf ByteArray.empty l2 x12_1).size + t114.size + 1)) = False := eq_false (Nat.not_lt.2 (by have z_ := c21; simp only [ByteArray.size_append] at z_; exact z_))
                          try have c21b3 : (9223372036854775807 < x7_1.size + 1 + (rdOf ByteArray.empty l2 x12_1).size + t114.size + 1) = False := eq_false (Nat.not_lt.2 (by have z_ := c21; simp only [ByteArray.size_append] at z_; exact z_))
                          by_cases c22 : (x7_1 ++ ((((⟨#[32]⟩ : ByteArray) ++ (rdOf ByteArray.empty l2 x12_1)) ++ t114) ++ (⟨#[32]⟩ : ByteArray))).size + 1 ≤ 9223372036854775807
                          · rw [if_pos c22] at H
                            have c22b0 := eq_true c22
                            have c22b1 : decide ((x7_1 ++ ((((⟨#[32]⟩ : ByteArray) ++ (rdOf ByteArray.empty l2 x12_1)) ++ t114) ++ (⟨#[32]⟩ : ByteArray))).size + 1 ≤ 9223372036854775807) = true := decide_eq_true c22
                            try have c22b2 : (9223372036854775807 < (x7_1 ++ ((((⟨#[32]⟩ : ByteArray) ++ (rdOf ByteArray.empty l2 x12_1)) ++ t114) ++ (⟨#[32]⟩ : ByteArray))).size + 1) = False := eq_false (Nat.not_lt.2 c22)
                            try have c22b4 : (9223372036854775807 < x7_1.size + (1 + (rdOf ByteArray.empty l2 x12_1).size + t114.size + 1) + 1) = False := eq_false (Nat.not_lt.2 (by have z_ := c22; simp only [ByteArray.size_append] at z_; exact z_))
                            try have c22b3 : (9223372036854775807 < x7_1.size + 1 + (rdOf ByteArray.empty l2 x12_1).size + t114.size + 1 + 1) = False := eq_false (Nat.not_lt.2 (by have z_ := c22; simp only [ByteArray.size_append] at z_; exact z_))
                            have H' := Aside0.mk H
                            clear H
                            have p111 : 0 ≤ (x12_1 : Int) := of_decide_eq_true (by first | (with_reducible assumption) | assumption)
                            have q111 : x12_1 < (l2.length : Int) := of_decide_eq_true (by first | (with_reducible assumption) | assumption)
                            obtain ⟨ad111, e111, hx111_0⟩ := Kd.at_string HR2.out x12_1 p111 q111
                            cases e111
                            replace hx111_0 := (HB.out.cell (World.block_lt_of_cell? w _ hx111_0)).trans hx111_0
                            replace p111 := eq_true p111
                            replace q111 := eq_true q111
                            try go_wp2
                            have n0_ := Aside0.mk (below_drew1 HB.out)
                            clear HB
                            have HB := n0_
                            clear n0_
                            have p112 : 0 ≤ (x12_1 : Int) := of_decide_eq_true (by first | (with_reducible assumption) | assumption)
                            have q112 : x12_1 < (l1.length : Int) := of_decide_eq_true (by first | (with_reducible assumption) | assumption)
                            obtain ⟨ad112, e112, hx112_0⟩ := Kd.at_int HR1.out x12_1 p112 q112
                            have hw112_0 := hx112_0
                            cases e112
                            replace hx112_0 := (HB.out.cell (World.block_lt_of_cell? w _ hx112_0)).trans hx112_0
                            replace p112 := eq_true p112
                            replace q112 := eq_true q112
                            refine start_ (n := 15) (S := fun w' => w'.cell? (ad112.add (x12_1).toNat) = some (.int .i64 (rd l1 x12_1))) (ds := []) #[false, false, false, false, false, false, false, false, false, false, false, false, false, false, false] (by kernel_rfl) rfl rfl (((HB.out.cell (World.block_lt_of_cell? w _ hw112_0)).trans hw112_0)) (fun hHeld => ?_); refine with_tabW laws_row29.tab6 laws_row29.bits6 (fun HT_ HW_ => ?_)
                            generalize wr.drew = w23 at HB hx112_0 hHeld ⊢
                            refine pure_ (i := 0) (N := some 18) (v := ?_) (a' := ?_) #[true, false, false, false, false, false, false, false, false, false, false, false, false, false, false] rfl rfl (any_of HT_.out (by kernel_rfl)) (fun _ _ _ h => h) (Or.inl ⟨by rfl, ?_⟩) ?_ ?_
                            rotate_left
                            · intro w'
                              go_simp
                              with_reducible rfl
                            rotate_left
                            · simp only [Act.put, List.setIfInBounds_toArray, List.set_cons_zero, List.set_cons_succ, i64_w, i32_w]
                              rfl
                            refine pure_ (i := 1) (N := some 19) (v := ?_) (a' := ?_) #[true, true, false, false, false, false, false, false, false, false, false, false, false, false, false] rfl rfl (any_of HT_.out (by kernel_rfl)) (fun _ _ _ h => h) (Or.inl ⟨by rfl, ?_⟩) ?_ ?_
                            rotate_left
                            · intro w'
                              go_simp
                              with_reducible rfl
                            rotate_left
                            · simp only [Act.put, List.setIfInBounds_toArray, List.set_cons_zero, List.set_cons_succ, i64_w, i32_w]
                              rfl
                            refine pure_ (i := 2) (N := some 20) (v := ?_) (a' := ?_) #[true, true, true, false, false, false, false, false, false, false, false, false, false, false, false] rfl rfl (any_of HT_.out (by kernel_rfl)) (fun _ _ _ h => h) (Or.inl ⟨by rfl, ?_⟩) ?_ ?_
                            rotate_left
                            · intro w'
                              go_simp
                              with_reducible rfl
                            rotate_left
                            · simp only [Act.put, List.setIfInBounds_toArray, List.set_cons_zero, List.set_cons_succ, i64_w, i32_w]
                              rfl
                            refine pure_ (i := 3) (N := some 21) (v := ?_) (a' := ?_) #[true, true, true, true, false, false, false, false, false, false, false, false, false, false, false] rfl rfl (any_of HT_.out (by kernel_rfl)) (fun _ _ _ h => h) (Or.inl ⟨by rfl, ?_⟩) ?_ ?_
                            rotate_left
                            · intro w'
                              go_simp
                              with_reducible rfl
                            rotate_left
                            · simp only [Act.put, List.setIfInBounds_toArray, List.set_cons_zero, List.set_cons_succ, i64_w, i32_w]
                              rfl
                            refine pure_ (i := 4) (N := some 22) (v := ?_) (a' := ?_) #[true, true, true, true, true, false, false, false, false, false, false, false, false, false, false] rfl rfl (any_of HT_.out (by kernel_rfl)) (fun _ _ _ h => h) (Or.inl ⟨by rfl, ?_⟩) ?_ ?_
                            rotate_left
                            · intro w'
                              go_simp
                              with_reducible rfl
                            rotate_left
                            · simp only [Act.put, List.setIfInBounds_toArray, List.set_cons_zero, List.set_cons_succ, i64_w, i32_w]
                              rfl
                            refine pure_ (i := 5) (N := some 23) (v := ?_) (a' := ?_) #[true, true, true, true, true, true, false, false, false, false, false, false, false, false, false] rfl rfl (any_of HT_.out (by kernel_rfl)) (fun _ _ _ h => h) (Or.inl ⟨by rfl, ?_⟩) ?_ ?_
                            rotate_left
                            · intro w'
                              go_simp
                              with_reducible rfl
                            rotate_left
                            · simp only [Act.put, List.setIfInBounds_toArray, List.set_cons_zero, List.set_cons_succ, i64_w, i32_w]
                              rfl
                            refine pure_ (i := 7) (N := some 25) (v := ?_) (a' := ?_) #[true, true, true, true, true, true, false, true, false, false, false, false, false, false, false] rfl rfl (any_of HT_.out (by kernel_rfl)) (fun _ _ _ h => h) (Or.inl ⟨by rfl, ?_⟩) ?_ ?_
                            rotate_left
                            · intro w'
                              go_simp
                              with_reducible rfl
                            rotate_left
                            · simp only [Act.put, List.setIfInBounds_toArray, List.set_cons_zero, List.set_cons_succ, i64_w, i32_w]
                              rfl
                            refine take_ (i := 6) (N := some 24) (v := ?_) (a' := ?_) #[true, true, true, true, true, true, true, true, false, false, false, false, false, false, false] rfl rfl (take_ofW HT_.out HW_.out (by kernel_rfl)) (fun _ _ _ h => h) (Or.inl ⟨by rfl, ?_⟩) hHeld ?_ ?_
                            rotate_left
                            · intro w' s0
                              go_simp
                              with_reducible rfl
                            rotate_left
                            · simp only [Act.put, List.setIfInBounds_toArray, List.set_cons_zero, List.set_cons_succ, i64_w, i32_w]
                              rfl
                            refine one_ (i := 8) (N := some 26) #[true, true, true, true, true, true, true, true, true, false, false, false, false, false, false] rfl rfl (one_of HT_.out (by kernel_rfl)) (by decide) (fun K hK => ?_)
                            refine goes_ Try.func22 (by kernel_rfl) rfl #[.string (rdOf ByteArray.empty l2 x12_1)] (by rfl) rfl rfl (by (try simp only [List.map_toArray, List.map_cons, List.map_nil]); first | done | rfl | (simp only [List.length_drop, List.length_take]; rfl)) ?_
                            with_reducible refine (spec_Runes29.calls k1 (rdOf ByteArray.empty l2 x12_1) t113 _ A17.out).mono ?_
                            rintro e w24 ⟨rfl, hb⟩
                            refine ⟨_, rfl, ?_⟩
                            have n0_ := Aside0.mk (below_step (by repeat (first | (with_reducible first | exact HB.out | apply below_alloc | apply pw_below_drewN | apply below_drew1) | exact HB.out)) hb)
                            clear HB
                            have HB := n0_
                            clear n0_
                            (try clear hb)
                            (try clear hb2)
                            (try clear hk)
                            (try clear hi)
                            refine hK.out _ _ (((HB.out.cell (World.block_lt_of_cell? w _ hw112_0)).trans hw112_0)) (fun hHeld => ?_)
                            clear hK K
                            refine norm_ (a' := ?_) ?_ ?_
                            rotate_left
                            · show Act.put _ (some 26) _ = _
                              simp only [Act.put, List.setIfInBounds_toArray, List.set_cons_zero, List.set_cons_succ, i64_w, i32_w]
                              rfl
                            refine pure_ (i := 9) (N := some 27) (v := ?_) (a' := ?_) #[true, true, true, true, true, true, true, true, true, true, false, false, false, false, false] rfl rfl (any_of HT_.out (by kernel_rfl)) (fun _ _ _ h => h) (Or.inl ⟨by rfl, ?_⟩) ?_ ?_
                            rotate_left
                            · intro w'
                              go_simp
                              with_reducible rfl
                            rotate_left
                            · simp only [Act.put, List.setIfInBounds_toArray, List.set_cons_zero, List.set_cons_succ, i64_w, i32_w]
                              rfl
                            refine one_ (i := 10) (N := some 28) #[true, true, true, true, true, true, true, true, true, true, true, false, false, false, false] rfl rfl (one_of HT_.out (by kernel_rfl)) (by decide) (fun K hK => ?_)
                            refine goes_ Try.func28 (by kernel_rfl) rfl #[.string (⟨#[32]⟩ : ByteArray), .int .i64 (wrap64 ((rd l1 x12_1) - t113))] (by rfl) rfl rfl (by (try simp only [List.map_toArray, List.map_cons, List.map_nil]); first | done | rfl | (simp only [List.length_drop, List.length_take]; rfl)) ?_
                            with_reducible refine (spec_Times29.calls k1 (⟨#[32]⟩ : ByteArray) (wrap64 ((rd l1 x12_1) - t113)) t114 _ A18.out).mono ?_
                            rintro e w25 ⟨rfl, hb⟩
                            refine ⟨_, rfl, ?_⟩
                            have n0_ := Aside0.mk (below_step (by repeat (first | (with_reducible first | exact HB.out | apply below_alloc | apply pw_below_drewN | apply below_drew1) | exact HB.out)) hb)
                            clear HB
                            have HB := n0_
                            clear n0_
                            (try clear hb)
                            (try clear hb2)
                            (try clear hk)
                            (try clear hi)
                            refine hK.out _ _ (((HB.out.cell (World.block_lt_of_cell? w _ hw112_0)).trans hw112_0)) (fun hHeld => ?_)
                            clear hK K
                            refine norm_ (a' := ?_) ?_ ?_
                            rotate_left
                            · show Act.put _ (some 28) _ = _
                              simp only [Act.put, List.setIfInBounds_toArray, List.set_cons_zero, List.set_cons_succ, i64_w, i32_w]
                              rfl
                            refine pure_ (i := 11) (N := some 29) (v := ?_) (a' := ?_) #[true, true, true, true, true, true, true, true, true, true, true, true, false, false, false] rfl rfl (any_of HT_.out (by kernel_rfl)) (fun _ _ _ h => h) (Or.inl ⟨by rfl, ?_⟩) ?_ ?_
                            rotate_left
                            · intro w'
                              go_simp
                              with_reducible rfl
                            rotate_left
                            · simp only [Act.put, List.setIfInBounds_toArray, List.set_cons_zero, List.set_cons_succ, i64_w, i32_w]
                              rfl
                            refine pure_ (i := 12) (N := some 30) (v := ?_) (a' := ?_) #[true, true, true, true, true, true, true, true, true, true, true, true, true, false, false] rfl rfl (any_of HT_.out (by kernel_rfl)) (fun _ _ _ h => h) (Or.inl ⟨by rfl, ?_⟩) ?_ ?_
                            rotate_left
                            · intro w'
                              go_simp
                              with_reducible rfl
                            rotate_left
                            · simp only [Act.put, List.setIfInBounds_toArray, List.set_cons_zero, List.set_cons_succ, i64_w, i32_w]
                              rfl
                            refine pure_ (i := 13) (N := some 31) (v := ?_) (a' := ?_) #[true, true, true, true, true, true, true, true, true, true, true, true, true, true, false] rfl rfl (any_of HT_.out (by kernel_rfl)) (fun _ _ _ h => h) (Or.inl ⟨by rfl, ?_⟩) ?_ ?_
                            rotate_left
                            · intro w'
                              go_simp
                              with_reducible rfl
                            rotate_left
                            · simp only [Act.put, List.setIfInBounds_toArray, List.set_cons_zero, List.set_cons_succ, i64_w, i32_w]
                              rfl
                            refine pure_ (i := 14) (N := some 7) (v := ?_) (a' := ?_) #[true, true, true, true, true, true, true, true, true, true, true, true, true, true, true] rfl rfl (any_of HT_.out (by kernel_rfl)) (fun _ _ _ h => h) (Or.inl ⟨by rfl, ?_⟩) ?_ ?_
                            rotate_left
                            · intro w'
                              go_simp
                              with_reducible rfl
                            rotate_left
                            · simp only [Act.put, List.setIfInBounds_toArray, List.set_cons_zero, List.set_cons_succ, i64_w, i32_w]
                              rfl
                            refine done_ (done_of HT_.out (by kernel_rfl)) ?_
                            try go_wp2
                            go_roundg k1
                            case measure => have := HK1.out; omega
                            case rel => exact ⟨((x7_1 ++ ((((⟨#[32]⟩ : ByteArray) ++ (rdOf ByteArray.empty l2 x12_1)) ++ t114) ++ (⟨#[32]⟩ : ByteArray))) ++ (⟨#[124]⟩ : ByteArray)), (wrap64 (x12_1 + 1)), (by first | rfl | (simp; done) | (simp [*]; done)), (by first | rfl | (simp; done) | (simp [*]; done)), H', ⟨by have := HK1.out; omega⟩, ⟨by repeat (first | (with_reducible first | exact HB.out | apply below_alloc | apply pw_below_drewN | apply below_drew1) | exact HB.out)⟩⟩
                          · rw [if_neg c22] at H
                            exact absurd H (by simp)
                        · rw [if_neg c21] at H
                          exact absurd H (by simp)
                      · rw [if_neg c20] at H
                        exact absurd H (by simp)
                    · rw [if_neg c19] at H
                      exact absurd H (by simp)
                  · rw [if_neg c16] at H
                    exact absurd H (by simp)
                · rw [if_neg c15] at H
                  exact absurd H (by simp)
          · rw [if_neg c6] at H
            exact absurd H (by simp)
        · rw [if_neg c5] at H
          exact absurd H (by simp)
      · rw [if_neg c4] at H
        have c4b0 : decide (x12_1 < (l2.length : Int)) = false := decide_eq_false c4
        clear c4
        obtain rfl := Option.some.inj H
        go_wp2
        go_ret
        exact ⟨by first | rfl | (simp [errW_none, errW_some] <;> rfl) | (simp [*, errW_none, errW_some] <;> rfl), by repeat (first | (with_reducible first | exact HB.out | apply below_alloc | apply pw_below_drewN | apply below_drew1) | exact HB.out)⟩

-- NOT PRINTED: function 4 (laws_FnRow)
end Go.Proofs.Ytfciokcielponaa.PRow

/- The buffer's methods behind the interface converter.Writer. -/
namespace Go.Proofs.Ytfciokcielponaa.PRow
open Go.Proofs.Ytfciokcielponaa.Txt Go.RowKit Go.Proofs.YtfciokcielponaaW.PrintWords Go.Proofs.YtfciokcielponaaW.PrintLast Go.Proofs.YtfciokcielponaaW.PrintMore
set_option maxRecDepth 100000 in
theorem meth_ws (b : Nat) (W : World) : (method 248 72 (.pointer (some ⟨b, 0, none⟩)) "WriteString").run Try.prog W = .ok (91, .pointer (some ⟨b, 0, none⟩)) W := by
  first
    | kernel_rfl
    | (simp [method]; kernel_rfl)
theorem meth_w (b : Nat) (W : World) : (method 248 72 (.pointer (some ⟨b, 0, none⟩)) "Write").run Try.prog W = .ok (90, .pointer (some ⟨b, 0, none⟩)) W := by kernel_rfl
theorem ahead_ws (b : Nat) (W : World) : (nilAhead 248 72 (.pointer (some ⟨b, 0, none⟩)) "WriteString").run Try.prog W = .ok (some false) W := by kernel_rfl
end Go.Proofs.Ytfciokcielponaa.PRow

/- impl.cellsOf and impl.padded: each text lands in a block of its own. -/
namespace Go.Proofs.Ytfciokcielponaa.PRow
open Go.Proofs.Ytfciokcielponaa.Txt Go.RowKit Go.Proofs.YtfciokcielponaaW.PrintWords Go.Proofs.YtfciokcielponaaW.PrintLast Go.Proofs.YtfciokcielponaaW.PrintMore
set_option linter.unusedVariables false
set_option linter.unusedSimpArgs false

/-- A row that begins its block: the block, its length, its room. -/
def cEnc (x : Nat × Nat × Nat) : Value := .slice (some ⟨x.1, 0, none⟩) x.2.1 x.2.2
abbrev kC : Kd (Nat × Nat × Nat) := Kd.scalar cEnc (fun _ => rfl)
theorem infoC : (Try.prog.info? 46).map (fun i => (i.zero, i.size, i.bytes)) = some (some (.slice none 0 0), 1, 24) := by kernel_rfl
/-- The block holds the text. -/
structure CellAt (w : World) (s : ByteArray) (x : Nat × Nat × Nat) : Prop where
  has : ∃ cur fz, w.heap[x.1]? = some (.cells cur 5 fz)
  len : x.2.1 = s.size
  room : s.size ≤ x.2.2
  cell : ∀ (j : Nat) (v : Value), (Lib.byteCells s.data.toList)[j]? = some v → w.cell? ⟨x.1, j, none⟩ = some v
theorem CellAt.lt {w : World} {s : ByteArray} {x : Nat × Nat × Nat} (h : CellAt w s x) : x.1 < w.heap.size := by
  obtain ⟨c, f, e⟩ := h.has
  exact (Array.getElem?_eq_some_iff.1 e).1
theorem CellAt.of_block {w w' : World} {s : ByteArray} {x : Nat × Nat × Nat} (h : CellAt w s x) (hb : w'.heap[x.1]? = w.heap[x.1]?) : CellAt w' s x := by
  refine ⟨?_, h.len, h.room, fun j v hj => ?_⟩
  · rw [hb]; exact h.has
  · rw [← h.cell j v hj]
    simp [World.cell?, hb]
theorem CellAt.below {w w' : World} {s : ByteArray} {x : Nat × Nat × Nat} (h : CellAt w s x) (hb : Below w.heap.size w w') : CellAt w' s x := h.of_block (hb.block _ h.lt)
theorem cellAt_new (W : World) (s : ByteArray) : CellAt (Lib.bytesWorld W 5 s) s (W.heap.size, s.size, grownCap W s.size 0 5) := by
  refine ⟨⟨_, _, Lib.bytesWorld_at_new W 5 s⟩, rfl, grownCap_ge _ _ _ _, fun j v hj => ?_⟩
  have hlt : j < s.data.toList.length := by
    have := (List.getElem?_eq_some_iff.1 hj).1
    simpa [Lib.byteCells] using this
  have hs : j < s.size := by rw [data_length] at hlt; exact hlt
  rw [Lib.bytesWorld_cell W 5 s j hs]
  rw [← hj]
  simp [Lib.byteCells, List.getD_eq_getElem?_getD, List.getElem?_eq_getElem hlt]
/-- All of them. -/
def CellsAt (w : World) : List ByteArray → List (Nat × Nat × Nat) → Prop
  | [], [] => True
  | s :: l, x :: xs => CellAt w s x ∧ CellsAt w l xs
  | _, _ => False
theorem CellsAt.imp {w w' : World} (h : ∀ s x, CellAt w s x → CellAt w' s x) : ∀ {l : List ByteArray} {xs : List (Nat × Nat × Nat)}, CellsAt w l xs → CellsAt w' l xs
  | [], [], _ => trivial
  | _ :: _, _ :: _, ⟨h1, h2⟩ => ⟨h _ _ h1, CellsAt.imp h h2⟩
  | [], _ :: _, h => h.elim
  | _ :: _, [], h => h.elim
theorem CellsAt.snoc {w : World} {s : ByteArray} {x : Nat × Nat × Nat} (hx : CellAt w s x) : ∀ {l : List ByteArray} {xs : List (Nat × Nat × Nat)}, CellsAt w l xs → CellsAt w (l ++ [s]) (xs ++ [x])
  | [], [], _ => ⟨hx, trivial⟩
  | _ :: _, _ :: _, ⟨h1, h2⟩ => ⟨h1, CellsAt.snoc hx h2⟩
  | [], _ :: _, h => h.elim
  | _ :: _, [], h => h.elim
theorem CellsAt.len {w : World} : ∀ {l : List ByteArray} {xs : List (Nat × Nat × Nat)}, CellsAt w l xs → xs.length = l.length
  | [], [], _ => rfl
  | _ :: _, _ :: _, ⟨_, h2⟩ => by rw [List.length_cons, List.length_cons, CellsAt.len h2]
  | [], _ :: _, h => h.elim
  | _ :: _, [], h => h.elim
theorem CellsAt.get {w : World} : ∀ {l : List ByteArray} {xs : List (Nat × Nat × Nat)} (_ : CellsAt w l xs) (j : Nat) (hj : j < l.length), ∃ x, xs[j]? = some x ∧ CellAt w l[j] x
  | _ :: _, x :: _, ⟨h1, _⟩, 0, _ => ⟨x, rfl, h1⟩
  | _ :: _, _ :: _, ⟨_, h2⟩, j + 1, hj => CellsAt.get h2 j (Nat.lt_of_succ_lt_succ hj)
  | [], _ :: _, h, _, _ => h.elim
  | _ :: _, [], h, _, _ => h.elim
  | [], [], _, _, hj => absurd hj (Nat.not_lt_zero _)
theorem rowc_ne {w : World} {base : Nat} {ok : Nat → Prop} {v : Value} {xs : List (Nat × Nat × Nat)} (h : kC.R 46 w base ok v xs) {s : ByteArray} {x : Nat × Nat × Nat} (hx : CellAt w s x) : some x.1 ≠ v.ownBlock := by
  intro e
  have ho := Kd.own_of_R h
  obtain ⟨_, ho⟩ := ho
  rcases ho with ⟨rfl, _⟩ | ⟨g, cap, cur, rfl, _, hg, _⟩
  · cases e
  · obtain rfl : x.1 = g := Option.some.inj e
    obtain ⟨c, f, e2⟩ := hx.has
    rw [hg] at e2
    cases e2

set_option maxRecDepth 100000 in
theorem cellsOf_calls (A0 : Option Addr) (c0 : Nat) (l0 : List ByteArray) (w : World) (hr : Kd.string.C w A0 l0.length l0) (hc : l0.length ≤ c0) (hl : l0.length ≤ 2147483647) (hs : ∀ s ∈ l0, s.size ≤ 140737488351232) :
    Calls Try.prog 27 #[.slice A0 l0.length c0] w fun e w' => ∃ (v : Value) (xs : List (Nat × Nat × Nat)), e = .returned v ∧ kC.R 46 w' w.heap.size (fun _ => True) v xs ∧ CellsAt w' l0 xs ∧ Below w.heap.size w w' := by
  have HR := Aside0.mk hr
  have HC := Aside0.mk hc
  have HS := Aside0.mk hs
  have hl64 : l0.length ≤ 9223372036854775807 := by omega
  have HL := Aside0.mk hl
  clear hr hc hl hs
  go_enter Try.func27, Try.ntmps27
  go_wp2_with fail
  go_loopg [3, 8] l0.length (fun n v i wr => ∃ (j : Nat) (xs : List (Nat × Nat × Nat)), n = l0.length - j ∧ j ≤ l0.length ∧ i = .int .i64 j ∧ Aside0 (kC.R 46 wr w.heap.size (fun _ => True) v xs) ∧ Aside0 (CellsAt wr (l0.take j) xs) ∧ Aside0 (Below w.heap.size w wr))
  case atStart => exact ⟨0, [], rfl, Nat.zero_le _, rfl, ⟨Kd.R_nil _ _ _ _ _⟩, ⟨trivial⟩, ⟨Below.refl _ _⟩⟩
  case round =>
    obtain ⟨j, xs, rfl, hj, rfl, HO, HA, HB⟩ := hrel
    by_cases hlt : j < l0.length
    · obtain ⟨ad, rfl, hx⟩ := Kd.at_string (Kd.C_below HR.out HB.out) (j : Int) (by omega) (by omega)
      simp only [Int.toNat_natCast] at hx
      have he : rdOf ByteArray.empty l0 (j : Int) = l0[j] := by simp [rdOf, List.getD_eq_getElem?_getD, List.getElem?_eq_getElem hlt]
      have hsz0 := HS.out l0[j] (List.getElem_mem _)
      have hsn : l0.take (j + 1) = l0.take j ++ [l0[j]] := List.take_succ_eq_append_getElem hlt
      rw [he] at hx
      have hxl := Aside0.mk (show xs.length ≤ j by have := HA.out.len; rw [this]; exact List.length_take_le _ _)
      generalize l0[j] = s at hx hsz0 hsn
      clear he
      have kb := fun W => print_bytes (P := Try.prog) 9 46 5 Try.underlying9 Try.underlying46 Try.underlying5 s W
      have HSN := Aside0.mk hsn
      have HN := Aside0.mk (cellAt_new wr s)
      have HW := Aside0.mk (bytes_below HB.out HB.out.size 5 s)
      have hwb := bytes_below (Below.refl wr.heap.size wr) (Nat.le_refl _) 5 s
      have HA1 := Aside0.mk (HA.out.imp fun s x h => h.below hwb)
      have HO1 := Aside0.mk (Kd.R_below HO.out hwb)
      clear hsn hsz0 hwb HO HA
      go_wp2_with ((with_reducible refine gate_builtin (b := .append) (xs := #[.tmp 12, .tmp 15]) rfl ?_); at_builtin; go_must (refine Kd.R_append kC (w0 := w) w.heap.size rfl (.tmp 12) (.tmp 15) 50 46 (.slice none 0 0) 24 rfl Try.underlying50 infoC rfl Nat.zero_lt_one (by decide) u3 xs (wr.heap.size, s.size, grownCap wr s.size 0 5) [.slice (some ⟨wr.heap.size, 0, none⟩) s.size (grownCap wr s.size 0 5)] (fun _ => True) (fun _ => False) rfl (by go_simp) rfl (fun _ h => h.elim) (fun _ _ => trivial) HO1.out HW.out HW.out.size (by have := hxl.out; have := HL.out; omega) ?_; intro v1 w2 ho hb hg _; have HO2 := Aside0.mk ho; have HB2 := Aside0.mk hb; have HA2 := Aside0.mk (CellsAt.imp (fun s x hx => hx.of_block (hg.block _ hx.lt (rowc_ne HO1.out hx))) (HA1.out.snoc HN.out)); clear ho hb hg))
      go_roundg (l0.length - (j + 1))
      case rel => exact ⟨j + 1, _, rfl, hlt, by go_num, HO2, ⟨by rw [HSN.out]; exact HA2.out⟩, HB2⟩
      case measure => omega
    · have hje : j = l0.length := by omega
      subst hje
      have hA := HA.out
      rw [List.take_length] at hA
      have HA1 := Aside0.mk hA
      clear hA
      go_wp2_with fail
      go_ret
      exact ⟨_, _, rfl, HO.out, HA1.out, HB.out⟩

/-- The names of the ways of padding. -/
def padP (p : Int) : ByteArray := if p = 2 then ⟨#[109, 105, 110, 105, 109, 97, 108]⟩ else if p = 3 then ⟨#[110, 111, 110, 101]⟩ else ⟨#[97, 108, 105, 103, 110, 101, 100]⟩
theorem padded_calls (p : Int) (w : World) :
    Calls Try.prog 26 #[.int .i64 p] w fun e w' => e = .returned (.string (padP p)) ∧ w' = w := by
  go_enter Try.func26, Try.ntmps26
  unfold padP
  by_cases h2 : p = 2
  · subst h2
    go_wp2_with fail
    go_ret
    exact ⟨rfl, rfl⟩
  · have b2 : (p == 2) = false := beq_eq_false_iff_ne.2 h2
    rw [if_neg h2]
    by_cases h3 : p = 3
    · subst h3
      go_wp2_with fail
      go_ret
      exact ⟨rfl, rfl⟩
    · have b3 : (p == 3) = false := beq_eq_false_iff_ne.2 h3
      rw [if_neg h3]
      go_wp2_with fail
      go_ret
      exact ⟨rfl, rfl⟩
end Go.Proofs.Ytfciokcielponaa.PRow

/- table.writeRow over a bytes.Buffer. -/
namespace Go.Proofs.Ytfciokcielponaa.PRow
open Go.Proofs.Ytfciokcielponaa.Txt Go.Proofs.Ytfciokcielponaa.Runes Go.RowKit Go.Proofs.YtfciokcielponaaW.PrintWords Go.Proofs.YtfciokcielponaaW.PrintLast Go.Proofs.YtfciokcielponaaW.PrintMore
set_option linter.unusedVariables false
set_option linter.unusedSimpArgs false

/-- The buffer holds acc; what was there ahead of it is as it was, and the plugin's block stands. -/
structure BufW (w0 : World) (sp : Nat) (o : Obj) (b : Nat) (w : World) (acc : List UInt8) : Prop where
  buf : Lib.IsBuffer 63 5 w0.heap.size b (Lib.byteCells acc) w
  below : Below w0.heap.size w0 w
  plug : w.heap[sp]? = some o
theorem bytes_one (l : List UInt8) : ∀ v ∈ Lib.byteCells l, v.oneCell' = true := by
  intro v hv
  obtain ⟨n, _, rfl⟩ := List.mem_map.1 hv
  rfl
theorem bytes_len (l : List UInt8) : (Lib.byteCells l).length = l.length := by simp [Lib.byteCells]
theorem bytes_app (l m : List UInt8) : Lib.byteCells (l ++ m) = Lib.byteCells l ++ Lib.byteCells m := by simp [Lib.byteCells]
theorem BufW.old {w0 w w' : World} {sp b : Nat} {o : Obj} {acc : List UInt8} (h : BufW w0 sp o b w acc) (hb : Below w.heap.size w w') : BufW w0 sp o b w' acc :=
  ⟨h.buf.old hb, below_step h.below hb, by rw [hb.block sp (Array.getElem?_eq_some_iff.1 h.plug).1]; exact h.plug⟩
theorem ws_calls (w0 : World) (sp b : Nat) (o : Obj) (ho : ∀ c fz, o ≠ .cells c 5 fz) (hsb : sp ≠ b) (acc : List UInt8) (s : ByteArray) (w : World) (h : BufW w0 sp o b w acc) (hl : acc.length + s.size ≤ 140737488355328) :
    Calls Try.prog 91 #[.pointer (some ⟨b, 0, none⟩), .string s] w fun e w' => (∃ v, e = .returned v) ∧ BufW w0 sp o b w' (acc ++ s.data.toList) := by
  refine (Try.Buffer_WriteString_kept w0.heap.size b _ s w h.buf h.below.size (bytes_one acc) (by rw [bytes_len]; omega)).mono ?_
  rintro e w' ⟨rfl, h1, h2, h3⟩
  exact ⟨⟨_, rfl⟩, by rw [bytes_app]; exact h1, h.below.trans h2, h3 sp o h.plug (fun e => hsb (Option.some.inj e)) ho⟩
theorem wb_calls (w0 : World) (sp b : Nat) (o : Obj) (ho : ∀ c fz, o ≠ .cells c 5 fz) (hsb : sp ≠ b) (acc : List UInt8) (s : ByteArray) (g c : Nat) (hx : CellAt w0 s (g, s.size, c)) (w : World) (h : BufW w0 sp o b w acc) (hl : acc.length + s.size ≤ 140737488355328) :
    Calls Try.prog 90 #[.pointer (some ⟨b, 0, none⟩), .slice (some ⟨g, 0, none⟩) s.size c] w fun e w' => (∃ v, e = .returned v) ∧ BufW w0 sp o b w' (acc ++ s.data.toList) := by
  have hx2 := hx.below h.below
  refine (Try.Buffer_Write_kept w0.heap.size b _ (Lib.byteCells s.data.toList) ⟨g, 0, none⟩ s.size c w h.buf h.below.size (bytes_one acc) (by rw [bytes_len, data_length]) hx.lt (fun j v hj => by rw [add_plain]; have := hx2.cell j v hj; simpa using this) (bytes_one _) (by rw [bytes_len]; omega)).mono ?_
  rintro e w' ⟨rfl, h1, h2, h3⟩
  exact ⟨⟨_, rfl⟩, by rw [bytes_app]; exact h1, h.below.trans h2, h3 sp o h.plug (fun e => hsb (Option.some.inj e)) ho⟩
theorem byt_bytes (s : ByteArray) : Byt (bytesOf s) := by
  intro n hn
  obtain ⟨x, _, rfl⟩ := List.mem_map.1 hn
  have := x.toNat_lt
  omega
theorem CellAt.reads {w : World} {s : ByteArray} {x : Nat × Nat × Nat} (h : CellAt w s x) (hs : s.size ≤ 9223372036854775807) : ReadsInt w .u8 (some ⟨x.1, 0, none⟩) s.size (bytesOf s) := by
  refine ⟨bytesOf_length s, hs, fun _ => ⟨_, rfl, fun j hj => ?_⟩⟩
  rw [add_plain]
  have h' : j < s.data.toList.length := by rw [data_length]; exact hj
  rw [h.cell j (.int .u8 (s.data.toList[j]).toNat) (by simp [Lib.byteCells, List.getElem?_eq_getElem h'])]
  simp [bytesOf, List.getD_eq_getElem?_getD, List.getElem?_eq_getElem h']
theorem rc_calls (w0 : World) (sp b : Nat) (o : Obj) (acc : List UInt8) (s : ByteArray) (g c : Nat) (hx : CellAt w0 s (g, s.size, c)) (hs : s.size < 9223372036854775807) (w : World) (h : BufW w0 sp o b w acc) :
    Calls Try.prog 47 #[.slice (some ⟨g, 0, none⟩) s.size c] w fun e w' => e = .returned (.int .i64 (Lib.runeCount s)) ∧ BufW w0 sp o b w' acc := by
  have hr := (hx.below h.below).reads (by omega)
  have hl := bytesOf_length s
  have := count_bytes (bytesOf s) (byt_bytes s) (some ⟨g, 0, none⟩) c w (by rw [hl]; exact hr) (by rw [hl]; exact hx.room) (by rw [hl]; exact hs)
  rw [hl, str_bytes] at this
  refine this.mono ?_
  rintro e w' ⟨rfl, hb⟩
  exact ⟨rfl, h.old hb⟩
theorem rp_calls (w0 : World) (sp b : Nat) (o : Obj) (acc : List UInt8) (n : Nat) (hn : n ≤ 1000000) (w : World) (h : BufW w0 sp o b w acc) :
    Calls Try.prog 48 #[.string ⟨#[32]⟩, .int .i64 n] w fun e w' => (∃ s : ByteArray, e = .returned (.string s) ∧ s.data.toList = List.replicate n 32 ∧ s.size = n) ∧ BufW w0 sp o b w' acc := by
  have h1 : (⟨#[32]⟩ : ByteArray).size = 1 := rfl
  refine (Try.strings_Repeat ⟨#[32]⟩ n w (by omega) (by rw [h1]; omega)).mono ?_
  rintro e w' ⟨rfl, hb⟩
  have hrep : ∀ n, Lib.repeatL [(32 : UInt8)] n = List.replicate n 32 := by
    intro n
    induction n with
    | zero => rfl
    | succ n ih => 
      show [(32 : UInt8)] ++ Lib.repeatL [(32 : UInt8)] n = _
      rw [ih]; rfl
  have h2 : (⟨#[32]⟩ : ByteArray).data.toList = [32] := rfl
  refine ⟨⟨_, rfl, ?_, ?_⟩, h.old hb⟩
  · rw [h2, hrep]
  · rw [← data_length, h2, hrep]
    simp

theorem lit_size (x : UInt8) : (⟨#[x]⟩ : ByteArray).size = 1 := rfl
theorem lit_data (x : UInt8) : (⟨#[x]⟩ : ByteArray).data.toList = [x] := rfl
/-- What stands ahead of and behind a cell, and what fills it up. -/
def sp1 (a : Bool) : List UInt8 := if a then [32] else []
def piece (al mn : Bool) (s : ByteArray) (wd : Int) : List UInt8 :=
  sp1 (al || mn) ++ s.data.toList ++ (if al then List.replicate (wd - Lib.runeCount s).toNat 32 else []) ++ sp1 (al || mn) ++ [124]
/-- The row's first cells. -/
def rowUp (al mn : Bool) : List ByteArray → List Int → List UInt8
  | s :: l, wd :: ws => piece al mn s wd ++ rowUp al mn l ws
  | _, _ => []
theorem rowUp_snoc (al mn : Bool) (s : ByteArray) (wd : Int) : ∀ (l : List ByteArray) (ws : List Int), l.length = ws.length → rowUp al mn (l ++ [s]) (ws ++ [wd]) = rowUp al mn l ws ++ piece al mn s wd
  | [], [], _ => by simp [rowUp]
  | _ :: l, _ :: ws, h => by
    show piece _ _ _ _ ++ rowUp _ _ (l ++ [s]) (ws ++ [wd]) = (piece _ _ _ _ ++ rowUp _ _ l ws) ++ _
    rw [rowUp_snoc al mn s wd l ws (by simpa using h), List.append_assoc]
  | [], _ :: _, h => by simp at h
  | _ :: _, [], h => by simp at h
/-- A cell fits its width. -/
def Wide (s : ByteArray) (wd : Int) : Prop := (Lib.runeCount s : Int) ≤ wd ∧ wd ≤ 1000 ∧ s.size ≤ 4000
theorem piece_len (al mn : Bool) (s : ByteArray) (wd : Int) (h : Wide s wd) : (piece al mn s wd).length ≤ 6000 := by
  have h3 : s.data.toList.length = s.size := data_length s
  obtain ⟨h1, h2, h4⟩ := h
  have h5 : ∀ a, (sp1 a).length ≤ 1 := by intro a; cases a <;> simp [sp1]
  have h6 := h5 (al || mn)
  unfold piece
  generalize sp1 (al || mn) = q at *
  cases al
  · simp [List.length_append]; omega
  · simp [List.length_append]; omega

set_option maxRecDepth 100000 in
set_option maxHeartbeats 4000000 in
theorem write_calls (w0 : World) (sp b : Nat) (m : ByteArray) (al mn : Bool) (hal : (m.toList == [97, 108, 105, 103, 110, 101, 100]) = al) (hmn : (m.toList == [109, 105, 110, 105, 109, 97, 108]) = mn) (hsb : sp ≠ b)
    (cs : Array Value) (hcs : cs[6]? = some (.string m))
    (A1 : Option Addr) (c1 : Nat) (l1 : List Int) (A2 : Option Addr) (c2 : Nat) (l2 : List ByteArray) (xs : List (Nat × Nat × Nat)) (h1 : Kd.C (Kd.int .i64) w0 A1 l1.length l1) (h2 : kC.C w0 A2 xs.length xs) (hx : CellsAt w0 l2 xs) (hc1 : l1.length ≤ c1) (hc2 : xs.length ≤ c2) (h12 : l1.length = l2.length)
    (hw : ∀ j (h : j < l2.length) (h' : j < l1.length), Wide l2[j] l1[j]) (hl : l2.length ≤ 2147483647) (w : World) (h : BufW w0 sp (.cells cs 70 (0, 0)) b w []) :
    Calls Try.prog 38 #[.pointer (some ⟨sp, 0, none⟩), .iface 72 (.pointer (some ⟨b, 0, none⟩)), .slice A1 l1.length c1, .slice A2 xs.length c2] w fun e w' => e = .returned (.tuple #[]) ∧ BufW w0 sp (.cells cs 70 (0, 0)) b w' ((if l2.length = 0 then [] else [124]) ++ rowUp al mn l2 l1) := by
  have hxl := hx.len
  rw [hxl] at h2 hc2 ⊢
  rw [h12] at h1 hc1 ⊢
  have HXL := Aside0.mk hxl
  have H12 := Aside0.mk h12
  clear h12 hxl
  generalize hT : (if l2.length = 0 then [] else [124]) ++ rowUp al mn l2 l1 = T
  have HT := Aside0.mk hT
  clear hT
  have H1 := Aside0.mk h1
  have H2 := Aside0.mk h2
  have HX := Aside0.mk hx
  have HW := Aside0.mk hw
  have HL := Aside0.mk hl
  have H := Aside0.mk h
  have HM := Aside0.mk (fun (wx : World) (acc : List UInt8) (hb : BufW w0 sp (.cells cs 70 (0, 0)) b wx acc) => show wx.cell? ⟨sp, 6, none⟩ = some (.string m) by simp [World.cell?, hb.plug, hcs])
  have hot : ∀ c fz, (Obj.cells cs 70 (0, 0)) ≠ .cells c 5 fz := by intro c fz e; cases e
  have HWS := Aside0.mk (fun acc s wx hb hl => ws_calls w0 sp b _ hot hsb acc s wx hb hl)
  have HWB := Aside0.mk (fun acc s g c hx wx hb hl => wb_calls w0 sp b _ hot hsb acc s g c hx wx hb hl)
  have HRC := Aside0.mk (fun acc s g c hx hs wx hb => rc_calls w0 sp b (.cells cs 70 (0, 0)) acc s g c hx hs wx hb)
  have HRP := Aside0.mk (fun acc n hn wx hb => rp_calls w0 sp b (.cells cs 70 (0, 0)) acc n hn wx hb)
  generalize Obj.cells cs 70 (0, 0) = o at *
  clear h1 h2 hx hw hl h hot hcs
  have km1 := meth_ws b
  have km2 := meth_w b
  have km3 := ahead_ws b
  go_enter Try.func38, Try.ntmps38
  go_wp2_with fail
  go_loopg [15] l2.length (fun n vi wr => ∃ j : Nat, n = l2.length - j ∧ j ≤ l2.length ∧ vi = .int .i64 j ∧ Aside0 (BufW w0 sp o b wr ((if j = 0 then [] else [124]) ++ rowUp al mn (l2.take j) (l1.take j))) ∧ Aside0 (((if j = 0 then [] else [124]) ++ rowUp al mn (l2.take j) (l1.take j)).length ≤ 6001 * j))
  case atStart => exact ⟨0, rfl, Nat.zero_le _, rfl, H, ⟨by simp [rowUp]⟩⟩
  case round =>
    obtain ⟨j, rfl, hj, rfl, HB, HLN⟩ := hrel
    by_cases hlt : j < l2.length
    · have hlt1 : j < l1.length := by rw [H12.out]; exact hlt
      obtain ⟨x, hgx, hcx⟩ := HX.out.get j hlt
      have hltx : j < xs.length := by rw [HXL.out]; exact hlt
      have hWj := HW.out j hlt hlt1
      have hpl := piece_len al mn _ _ hWj
      have hsn : rowUp al mn (l2.take (j + 1)) (l1.take (j + 1)) = rowUp al mn (l2.take j) (l1.take j) ++ piece al mn l2[j] l1[j] := by
        rw [List.take_succ_eq_append_getElem hlt, List.take_succ_eq_append_getElem hlt1]
        exact rowUp_snoc al mn _ _ _ _ (by simp [H12.out])
      obtain ⟨adx, rfl, hcx0⟩ := ReadsOf.at_ (Kd.reads_of_C (enc := cEnc) (d := (0, 0, 0)) (h1 := fun _ => rfl) (Kd.C_below H2.out HB.out.below)) (j : Int) (by omega) (by omega)
      obtain ⟨adw, rfl, hcw0⟩ := Kd.at_int H1.out (j : Int) (by omega) (by omega)
      have ex : rdOf (0, 0, 0) xs (j : Int) = x := by simp [rdOf, List.getD_eq_getElem?_getD, hgx]
      have ew : rd l1 (j : Int) = l1[j] := by simp [rd, List.getD_eq_getElem?_getD, List.getElem?_eq_getElem hlt1]
      rw [ex, Int.toNat_natCast] at hcx0
      rw [ew, Int.toNat_natCast] at hcw0
      obtain ⟨g, sz, c⟩ := x
      obtain rfl : sz = l2[j].size := hcx.len
      have HCW := Aside0.mk (fun (wx : World) (acc : List UInt8) (hb : BufW w0 sp o b wx acc) => pw_cell_below hb.below hcw0)
      generalize l1[j] = wd at *
      generalize l2[j] = s at *
      obtain ⟨hW1, hW2, hW3⟩ := hWj
      have HCX := Aside0.mk hcx
      have HSN := Aside0.mk hsn
      clear hcx hsn hcw0 hltx hlt1 hgx ex ew
      have hcx1 : wr.cell? (adx.add j) = some (.slice (some ⟨g, 0, none⟩) s.size c) := hcx0
      clear hcx0
      generalize hac : (if j = 0 then [] else [124]) ++ rowUp al mn (l2.take j) (l1.take j) = acc at *
      have HACC := Aside0.mk (show acc.length ≤ 13194139533312 by have := HLN.out; have := HL.out; omega)
      have HS3 := Aside0.mk hW3
      have cm := HM.out _ _ HB.out
      have cw := HCW.out _ _ HB.out
      by_cases hj0 : j = 0
      · subst hj0
        have hacc0 : acc = [] := by rw [← hac]; simp [rowUp]
        have HE := Aside0.mk (show [124] ++ rowUp al mn (l2.take (0 + 1)) (l1.take (0 + 1)) = acc ++ [124] ++ piece al mn s wd by rw [HSN.out, hacc0]; simp [rowUp])
        have HLN2 := Aside0.mk (show ([124] ++ rowUp al mn (l2.take (0 + 1)) (l1.take (0 + 1))).length ≤ 6001 * (0 + 1) by rw [HE.out, hacc0]; simp; omega)
        have ha0 : ∀ ad : Addr, ad.add 0 = ad := fun ad => by unfold Addr.add; simp
        rw [ha0] at hcx1 HCW cw
        clear ha0 hac hacc0 HSN hpl
        by_cases hal1 : al = true
        · subst hal1
          obtain ⟨n, hn⟩ : ∃ n : Nat, wd - (Lib.runeCount s : Int) = (n : Int) := ⟨(wd - (Lib.runeCount s : Int)).toNat, by omega⟩
          have hn3 : n ≤ 1000 := by omega
          have HN3 := Aside0.mk hn3
          have HP := Aside0.mk (show piece true mn s wd = [32] ++ s.data.toList ++ List.replicate n 32 ++ [32] ++ [124] by unfold piece; rw [hn, Int.toNat_natCast]; rfl)
          rw [HP.out] at HE
          clear HP
          by_cases hn0 : n = 0
          · subst hn0
            go_wp2_with (first
          | (go_at_call 91; go_must (refine (HWS.out _ _ _ HB.out (by have h1 := HACC.out; have h2 := HS3.out; (try simp only [lit_data, List.length_append, List.length_cons, List.length_nil, data_length, lit_size, List.length_replicate]); omega)).mono ?_; rintro e w1 ⟨⟨u, rfl⟩, hb⟩; have cm := HM.out _ _ hb; have cw := HCW.out _ _ hb; clear HB; have HB := Aside0.mk hb; clear hb))
          | (go_at_call 47; go_must (refine (HRC.out _ s g c HCX.out (by omega) _ HB.out).mono ?_; rintro e w1 ⟨rfl, hb⟩; have cm := HM.out _ _ hb; have cw := HCW.out _ _ hb; clear HB; have HB := Aside0.mk hb; clear hb))
          | (go_at_call 90; go_must (refine (HWB.out _ s g c HCX.out _ HB.out (by have h1 := HACC.out; have h2 := HS3.out; (try simp only [lit_data, List.length_append, List.length_cons, List.length_nil, data_length, lit_size, List.length_replicate]); omega)).mono ?_; rintro e w1 ⟨⟨u, rfl⟩, hb⟩; have cm := HM.out _ _ hb; have cw := HCW.out _ _ hb; clear HB; have HB := Aside0.mk hb; clear hb)))
            go_roundg (l2.length - 1)
            case rel => exact ⟨0 + 1, rfl, hlt, by go_num, ⟨by rw [if_neg (Nat.succ_ne_zero _), HE.out]; have h := HB.out; simp only [List.append_assoc, List.cons_append, List.nil_append] at h ⊢; exact h⟩, ⟨by rw [if_neg (Nat.succ_ne_zero _)]; exact HLN2.out⟩⟩
            case measure => omega

          · have hnp : 0 < n := Nat.pos_of_ne_zero hn0
            clear hn0
            go_wp2_with (first
          | (go_at_call 91; go_must (refine (HWS.out _ _ _ HB.out (by have h1 := HACC.out; have h2 := HS3.out; (try simp only [lit_data, List.length_append, List.length_cons, List.length_nil, data_length, lit_size, List.length_replicate]); omega)).mono ?_; rintro e w1 ⟨⟨u, rfl⟩, hb⟩; have cm := HM.out _ _ hb; have cw := HCW.out _ _ hb; clear HB; have HB := Aside0.mk hb; clear hb))
          | (go_at_call 47; go_must (refine (HRC.out _ s g c HCX.out (by omega) _ HB.out).mono ?_; rintro e w1 ⟨rfl, hb⟩; have cm := HM.out _ _ hb; have cw := HCW.out _ _ hb; clear HB; have HB := Aside0.mk hb; clear hb))
          | (go_at_call 90; go_must (refine (HWB.out _ s g c HCX.out _ HB.out (by have h1 := HACC.out; have h2 := HS3.out; (try simp only [lit_data, List.length_append, List.length_cons, List.length_nil, data_length, lit_size, List.length_replicate]); omega)).mono ?_; rintro e w1 ⟨⟨u, rfl⟩, hb⟩; have cm := HM.out _ _ hb; have cw := HCW.out _ _ hb; clear HB; have HB := Aside0.mk hb; clear hb)))
            have hmf : ∀ (fn : Fn) (first cap : Array Value) (w : World), (Instr.makeFunc fn first cap).run Try.prog w = .ok (.func fn first cap) w := fun _ _ _ _ => rfl
            go_region_law (first
              | (go_simp; go_at_call 48; refine (HRP.out _ n (by omega) _ (HB.out.old (below_drew (Below.refl _ _)))).mono ?_; rintro e w2 ⟨⟨sn, rfl, hsd, hsz⟩, hb⟩; have HSD := Aside0.mk hsd; have HSZ := Aside0.mk hsz; clear hsd hsz; have cm := HM.out _ _ hb; have cw := HCW.out _ _ hb; clear HB; have HB := Aside0.mk hb; clear hb)
              | (go_simp; go_at_call 91; refine (HWS.out _ _ _ HB.out (by have h1 := HACC.out; have h2 := HS3.out; have h3 := HSZ.out; have h4 := HN3.out; (try simp only [lit_data, List.length_append, List.length_cons, List.length_nil, data_length, lit_size, List.length_replicate]); omega)).mono ?_; rintro e w3 ⟨⟨u, rfl⟩, hb⟩; rw [HSD.out] at hb; have cm := HM.out _ _ hb; have cw := HCW.out _ _ hb; clear HB; have HB := Aside0.mk hb; clear hb))
            all_goals (simp only [Exit.inBlock, Exit.then]; go_wp2_with (first
          | (go_at_call 91; go_must (refine (HWS.out _ _ _ HB.out (by have h1 := HACC.out; have h2 := HS3.out; (try simp only [lit_data, List.length_append, List.length_cons, List.length_nil, data_length, lit_size, List.length_replicate]); omega)).mono ?_; rintro e w1 ⟨⟨u, rfl⟩, hb⟩; have cm := HM.out _ _ hb; have cw := HCW.out _ _ hb; clear HB; have HB := Aside0.mk hb; clear hb))
          | (go_at_call 47; go_must (refine (HRC.out _ s g c HCX.out (by omega) _ HB.out).mono ?_; rintro e w1 ⟨rfl, hb⟩; have cm := HM.out _ _ hb; have cw := HCW.out _ _ hb; clear HB; have HB := Aside0.mk hb; clear hb))
          | (go_at_call 90; go_must (refine (HWB.out _ s g c HCX.out _ HB.out (by have h1 := HACC.out; have h2 := HS3.out; (try simp only [lit_data, List.length_append, List.length_cons, List.length_nil, data_length, lit_size, List.length_replicate]); omega)).mono ?_; rintro e w1 ⟨⟨u, rfl⟩, hb⟩; have cm := HM.out _ _ hb; have cw := HCW.out _ _ hb; clear HB; have HB := Aside0.mk hb; clear hb))); go_roundg (l2.length - 1))
            all_goals first
              | exact ⟨0 + 1, rfl, hlt, by go_num, ⟨by rw [if_neg (Nat.succ_ne_zero _), HE.out]; have h := HB.out; simp only [List.append_assoc, List.cons_append, List.nil_append] at h ⊢; exact h⟩, ⟨by rw [if_neg (Nat.succ_ne_zero _)]; exact HLN2.out⟩⟩
              | omega
        · have hal0 : al = false := eq_false_of_ne_true hal1
          subst hal0
          by_cases hmn1 : mn = true
          · subst hmn1
            have HP := Aside0.mk (show piece false true s wd = [32] ++ s.data.toList ++ [32] ++ [124] by unfold piece sp1; simp)
            rw [HP.out] at HE
            clear HP
            go_wp2_with (first
          | (go_at_call 91; go_must (refine (HWS.out _ _ _ HB.out (by have h1 := HACC.out; have h2 := HS3.out; (try simp only [lit_data, List.length_append, List.length_cons, List.length_nil, data_length, lit_size, List.length_replicate]); omega)).mono ?_; rintro e w1 ⟨⟨u, rfl⟩, hb⟩; have cm := HM.out _ _ hb; have cw := HCW.out _ _ hb; clear HB; have HB := Aside0.mk hb; clear hb))
          | (go_at_call 47; go_must (refine (HRC.out _ s g c HCX.out (by omega) _ HB.out).mono ?_; rintro e w1 ⟨rfl, hb⟩; have cm := HM.out _ _ hb; have cw := HCW.out _ _ hb; clear HB; have HB := Aside0.mk hb; clear hb))
          | (go_at_call 90; go_must (refine (HWB.out _ s g c HCX.out _ HB.out (by have h1 := HACC.out; have h2 := HS3.out; (try simp only [lit_data, List.length_append, List.length_cons, List.length_nil, data_length, lit_size, List.length_replicate]); omega)).mono ?_; rintro e w1 ⟨⟨u, rfl⟩, hb⟩; have cm := HM.out _ _ hb; have cw := HCW.out _ _ hb; clear HB; have HB := Aside0.mk hb; clear hb)))
            go_roundg (l2.length - 1)
            case rel => exact ⟨0 + 1, rfl, hlt, by go_num, ⟨by rw [if_neg (Nat.succ_ne_zero _), HE.out]; have h := HB.out; simp only [List.append_assoc, List.cons_append, List.nil_append] at h ⊢; exact h⟩, ⟨by rw [if_neg (Nat.succ_ne_zero _)]; exact HLN2.out⟩⟩
            case measure => omega

          · have hmn0 : mn = false := eq_false_of_ne_true hmn1
            subst hmn0
            have HP := Aside0.mk (show piece false false s wd = s.data.toList ++ [124] by unfold piece sp1; simp)
            rw [HP.out] at HE
            clear HP
            go_wp2_with (first
          | (go_at_call 91; go_must (refine (HWS.out _ _ _ HB.out (by have h1 := HACC.out; have h2 := HS3.out; (try simp only [lit_data, List.length_append, List.length_cons, List.length_nil, data_length, lit_size, List.length_replicate]); omega)).mono ?_; rintro e w1 ⟨⟨u, rfl⟩, hb⟩; have cm := HM.out _ _ hb; have cw := HCW.out _ _ hb; clear HB; have HB := Aside0.mk hb; clear hb))
          | (go_at_call 47; go_must (refine (HRC.out _ s g c HCX.out (by omega) _ HB.out).mono ?_; rintro e w1 ⟨rfl, hb⟩; have cm := HM.out _ _ hb; have cw := HCW.out _ _ hb; clear HB; have HB := Aside0.mk hb; clear hb))
          | (go_at_call 90; go_must (refine (HWB.out _ s g c HCX.out _ HB.out (by have h1 := HACC.out; have h2 := HS3.out; (try simp only [lit_data, List.length_append, List.length_cons, List.length_nil, data_length, lit_size, List.length_replicate]); omega)).mono ?_; rintro e w1 ⟨⟨u, rfl⟩, hb⟩; have cm := HM.out _ _ hb; have cw := HCW.out _ _ hb; clear HB; have HB := Aside0.mk hb; clear hb)))
            go_roundg (l2.length - 1)
            case rel => exact ⟨0 + 1, rfl, hlt, by go_num, ⟨by rw [if_neg (Nat.succ_ne_zero _), HE.out]; have h := HB.out; simp only [List.append_assoc, List.cons_append, List.nil_append] at h ⊢; exact h⟩, ⟨by rw [if_neg (Nat.succ_ne_zero _)]; exact HLN2.out⟩⟩
            case measure => omega


      · have hj1 := hj0
        rw [if_neg hj0] at hac
        have HE := Aside0.mk (show [124] ++ rowUp al mn (l2.take (j + 1)) (l1.take (j + 1)) = acc ++ piece al mn s wd by rw [HSN.out, ← hac]; simp)
        have HLN2 := Aside0.mk (show ([124] ++ rowUp al mn (l2.take (j + 1)) (l1.take (j + 1))).length ≤ 6001 * (j + 1) by rw [HE.out, List.length_append]; have := HLN.out; omega)
        have hl31 : j < 2147483647 := by have := HL.out; omega
        clear hac HSN hpl hj1
        by_cases hal1 : al = true
        · subst hal1
          obtain ⟨n, hn⟩ : ∃ n : Nat, wd - (Lib.runeCount s : Int) = (n : Int) := ⟨(wd - (Lib.runeCount s : Int)).toNat, by omega⟩
          have hn3 : n ≤ 1000 := by omega
          have HN3 := Aside0.mk hn3
          have HP := Aside0.mk (show piece true mn s wd = [32] ++ s.data.toList ++ List.replicate n 32 ++ [32] ++ [124] by unfold piece; rw [hn, Int.toNat_natCast]; rfl)
          rw [HP.out] at HE
          clear HP
          by_cases hn0 : n = 0
          · subst hn0
            go_wp2_with (first
          | (go_at_call 91; go_must (refine (HWS.out _ _ _ HB.out (by have h1 := HACC.out; have h2 := HS3.out; (try simp only [lit_data, List.length_append, List.length_cons, List.length_nil, data_length, lit_size, List.length_replicate]); omega)).mono ?_; rintro e w1 ⟨⟨u, rfl⟩, hb⟩; have cm := HM.out _ _ hb; have cw := HCW.out _ _ hb; clear HB; have HB := Aside0.mk hb; clear hb))
          | (go_at_call 47; go_must (refine (HRC.out _ s g c HCX.out (by omega) _ HB.out).mono ?_; rintro e w1 ⟨rfl, hb⟩; have cm := HM.out _ _ hb; have cw := HCW.out _ _ hb; clear HB; have HB := Aside0.mk hb; clear hb))
          | (go_at_call 90; go_must (refine (HWB.out _ s g c HCX.out _ HB.out (by have h1 := HACC.out; have h2 := HS3.out; (try simp only [lit_data, List.length_append, List.length_cons, List.length_nil, data_length, lit_size, List.length_replicate]); omega)).mono ?_; rintro e w1 ⟨⟨u, rfl⟩, hb⟩; have cm := HM.out _ _ hb; have cw := HCW.out _ _ hb; clear HB; have HB := Aside0.mk hb; clear hb)))
            go_roundg (l2.length - (j + 1))
            case rel => exact ⟨j + 1, rfl, hlt, by go_num, ⟨by rw [if_neg (Nat.succ_ne_zero _), HE.out]; have h := HB.out; simp only [List.append_assoc, List.cons_append, List.nil_append] at h ⊢; exact h⟩, ⟨by rw [if_neg (Nat.succ_ne_zero _)]; exact HLN2.out⟩⟩
            case measure => omega

          · have hnp : 0 < n := Nat.pos_of_ne_zero hn0
            clear hn0
            go_wp2_with (first
          | (go_at_call 91; go_must (refine (HWS.out _ _ _ HB.out (by have h1 := HACC.out; have h2 := HS3.out; (try simp only [lit_data, List.length_append, List.length_cons, List.length_nil, data_length, lit_size, List.length_replicate]); omega)).mono ?_; rintro e w1 ⟨⟨u, rfl⟩, hb⟩; have cm := HM.out _ _ hb; have cw := HCW.out _ _ hb; clear HB; have HB := Aside0.mk hb; clear hb))
          | (go_at_call 47; go_must (refine (HRC.out _ s g c HCX.out (by omega) _ HB.out).mono ?_; rintro e w1 ⟨rfl, hb⟩; have cm := HM.out _ _ hb; have cw := HCW.out _ _ hb; clear HB; have HB := Aside0.mk hb; clear hb))
          | (go_at_call 90; go_must (refine (HWB.out _ s g c HCX.out _ HB.out (by have h1 := HACC.out; have h2 := HS3.out; (try simp only [lit_data, List.length_append, List.length_cons, List.length_nil, data_length, lit_size, List.length_replicate]); omega)).mono ?_; rintro e w1 ⟨⟨u, rfl⟩, hb⟩; have cm := HM.out _ _ hb; have cw := HCW.out _ _ hb; clear HB; have HB := Aside0.mk hb; clear hb)))
            have hmf : ∀ (fn : Fn) (first cap : Array Value) (w : World), (Instr.makeFunc fn first cap).run Try.prog w = .ok (.func fn first cap) w := fun _ _ _ _ => rfl
            go_region_law (first
              | (go_simp; go_at_call 48; refine (HRP.out _ n (by omega) _ (HB.out.old (below_drew (Below.refl _ _)))).mono ?_; rintro e w2 ⟨⟨sn, rfl, hsd, hsz⟩, hb⟩; have HSD := Aside0.mk hsd; have HSZ := Aside0.mk hsz; clear hsd hsz; have cm := HM.out _ _ hb; have cw := HCW.out _ _ hb; clear HB; have HB := Aside0.mk hb; clear hb)
              | (go_simp; go_at_call 91; refine (HWS.out _ _ _ HB.out (by have h1 := HACC.out; have h2 := HS3.out; have h3 := HSZ.out; have h4 := HN3.out; (try simp only [lit_data, List.length_append, List.length_cons, List.length_nil, data_length, lit_size, List.length_replicate]); omega)).mono ?_; rintro e w3 ⟨⟨u, rfl⟩, hb⟩; rw [HSD.out] at hb; have cm := HM.out _ _ hb; have cw := HCW.out _ _ hb; clear HB; have HB := Aside0.mk hb; clear hb))
            all_goals (simp only [Exit.inBlock, Exit.then]; go_wp2_with (first
          | (go_at_call 91; go_must (refine (HWS.out _ _ _ HB.out (by have h1 := HACC.out; have h2 := HS3.out; (try simp only [lit_data, List.length_append, List.length_cons, List.length_nil, data_length, lit_size, List.length_replicate]); omega)).mono ?_; rintro e w1 ⟨⟨u, rfl⟩, hb⟩; have cm := HM.out _ _ hb; have cw := HCW.out _ _ hb; clear HB; have HB := Aside0.mk hb; clear hb))
          | (go_at_call 47; go_must (refine (HRC.out _ s g c HCX.out (by omega) _ HB.out).mono ?_; rintro e w1 ⟨rfl, hb⟩; have cm := HM.out _ _ hb; have cw := HCW.out _ _ hb; clear HB; have HB := Aside0.mk hb; clear hb))
          | (go_at_call 90; go_must (refine (HWB.out _ s g c HCX.out _ HB.out (by have h1 := HACC.out; have h2 := HS3.out; (try simp only [lit_data, List.length_append, List.length_cons, List.length_nil, data_length, lit_size, List.length_replicate]); omega)).mono ?_; rintro e w1 ⟨⟨u, rfl⟩, hb⟩; have cm := HM.out _ _ hb; have cw := HCW.out _ _ hb; clear HB; have HB := Aside0.mk hb; clear hb))); go_roundg (l2.length - (j + 1)))
            all_goals first
              | exact ⟨j + 1, rfl, hlt, by go_num, ⟨by rw [if_neg (Nat.succ_ne_zero _), HE.out]; have h := HB.out; simp only [List.append_assoc, List.cons_append, List.nil_append] at h ⊢; exact h⟩, ⟨by rw [if_neg (Nat.succ_ne_zero _)]; exact HLN2.out⟩⟩
              | omega
        · have hal0 : al = false := eq_false_of_ne_true hal1
          subst hal0
          by_cases hmn1 : mn = true
          · subst hmn1
            have HP := Aside0.mk (show piece false true s wd = [32] ++ s.data.toList ++ [32] ++ [124] by unfold piece sp1; simp)
            rw [HP.out] at HE
            clear HP
            go_wp2_with (first
          | (go_at_call 91; go_must (refine (HWS.out _ _ _ HB.out (by have h1 := HACC.out; have h2 := HS3.out; (try simp only [lit_data, List.length_append, List.length_cons, List.length_nil, data_length, lit_size, List.length_replicate]); omega)).mono ?_; rintro e w1 ⟨⟨u, rfl⟩, hb⟩; have cm := HM.out _ _ hb; have cw := HCW.out _ _ hb; clear HB; have HB := Aside0.mk hb; clear hb))
          | (go_at_call 47; go_must (refine (HRC.out _ s g c HCX.out (by omega) _ HB.out).mono ?_; rintro e w1 ⟨rfl, hb⟩; have cm := HM.out _ _ hb; have cw := HCW.out _ _ hb; clear HB; have HB := Aside0.mk hb; clear hb))
          | (go_at_call 90; go_must (refine (HWB.out _ s g c HCX.out _ HB.out (by have h1 := HACC.out; have h2 := HS3.out; (try simp only [lit_data, List.length_append, List.length_cons, List.length_nil, data_length, lit_size, List.length_replicate]); omega)).mono ?_; rintro e w1 ⟨⟨u, rfl⟩, hb⟩; have cm := HM.out _ _ hb; have cw := HCW.out _ _ hb; clear HB; have HB := Aside0.mk hb; clear hb)))
            go_roundg (l2.length - (j + 1))
            case rel => exact ⟨j + 1, rfl, hlt, by go_num, ⟨by rw [if_neg (Nat.succ_ne_zero _), HE.out]; have h := HB.out; simp only [List.append_assoc, List.cons_append, List.nil_append] at h ⊢; exact h⟩, ⟨by rw [if_neg (Nat.succ_ne_zero _)]; exact HLN2.out⟩⟩
            case measure => omega

          · have hmn0 : mn = false := eq_false_of_ne_true hmn1
            subst hmn0
            have HP := Aside0.mk (show piece false false s wd = s.data.toList ++ [124] by unfold piece sp1; simp)
            rw [HP.out] at HE
            clear HP
            go_wp2_with (first
          | (go_at_call 91; go_must (refine (HWS.out _ _ _ HB.out (by have h1 := HACC.out; have h2 := HS3.out; (try simp only [lit_data, List.length_append, List.length_cons, List.length_nil, data_length, lit_size, List.length_replicate]); omega)).mono ?_; rintro e w1 ⟨⟨u, rfl⟩, hb⟩; have cm := HM.out _ _ hb; have cw := HCW.out _ _ hb; clear HB; have HB := Aside0.mk hb; clear hb))
          | (go_at_call 47; go_must (refine (HRC.out _ s g c HCX.out (by omega) _ HB.out).mono ?_; rintro e w1 ⟨rfl, hb⟩; have cm := HM.out _ _ hb; have cw := HCW.out _ _ hb; clear HB; have HB := Aside0.mk hb; clear hb))
          | (go_at_call 90; go_must (refine (HWB.out _ s g c HCX.out _ HB.out (by have h1 := HACC.out; have h2 := HS3.out; (try simp only [lit_data, List.length_append, List.length_cons, List.length_nil, data_length, lit_size, List.length_replicate]); omega)).mono ?_; rintro e w1 ⟨⟨u, rfl⟩, hb⟩; have cm := HM.out _ _ hb; have cw := HCW.out _ _ hb; clear HB; have HB := Aside0.mk hb; clear hb)))
            go_roundg (l2.length - (j + 1))
            case rel => exact ⟨j + 1, rfl, hlt, by go_num, ⟨by rw [if_neg (Nat.succ_ne_zero _), HE.out]; have h := HB.out; simp only [List.append_assoc, List.cons_append, List.nil_append] at h ⊢; exact h⟩, ⟨by rw [if_neg (Nat.succ_ne_zero _)]; exact HLN2.out⟩⟩
            case measure => omega


    · have hje : j = l2.length := by omega
      subst hje
      have hB := HB.out
      rw [List.take_length, show l1.take l2.length = l1 by rw [← H12.out, List.take_length]] at hB
      rw [HT.out] at hB
      have HB1 := Aside0.mk hB
      clear hB
      go_wp2_with fail
      go_end0
      exact ⟨rfl, HB1.out⟩
end Go.Proofs.Ytfciokcielponaa.PRow

/- impl.guarded, over a function that returns: false, and what that function left. -/
namespace Go.Proofs.Ytfciokcielponaa.Guard
open Go.RowKit Go.Proofs.YtfciokcielponaaW.PrintWords Go.Proofs.YtfciokcielponaaW.PrintLast Go.Proofs.YtfciokcielponaaW.PrintMore
set_option linter.unusedVariables false
set_option linter.unusedSimpArgs false

theorem catch_idle (p : Addr) (w : World) :
    CallsD Try.prog 37 #[.pointer (some p)] .returning w fun e u' w' => e = .returned (.tuple #[]) ∧ u' = .returning ∧ w' = w := by
  refine callsD_of_wpS Try.func37 rfl fun c₀ cs hu => ?_
  apply wpS_seq
  apply wpS_region
  simp [wpOpsS, go_sem, recoverD, hu, Try.ntmps37, Exit.thenS]
  refine wpS_cond (t := false) (by simp [Act.eval, Array.replicate]) ?_
  simp only [Bool.false_eq_true, if_false]
  refine wpS_of_wp (wp_skip ?_)
  cases c₀
  simp_all [bodyPostS, results, Try.results37]
theorem guarded_calls (F : Nat) (cap : Array Value) (w : World) (Q : World → Prop) (hF : ∀ (args : Array Value) (w : World), (callFunc F args).run Try.prog w = .ok (.enter F args) w)
    (HC : Calls Try.prog F cap (w.alloc (.cells #[.bool false] 4)) fun e w' => e = .returned (.tuple #[]) ∧ w'.heap[w.heap.size]? = some (.cells #[.bool false] 4 (0, 0)) ∧ Q w') :
    Calls Try.prog 23 #[.func (.func F) #[] cap] w fun e w' => e = .returned (.bool false) ∧ ∃ w2, Q w2 ∧ w2.heap[w.heap.size]? = some (.cells #[.bool false] 4 (0, 0)) ∧ w' = w2.setCell ⟨w.heap.size, 0, none⟩ (.bool false) := by
  have hmf : ∀ (fn : Fn) (first cap : Array Value) (w : World), (Instr.makeFunc fn first cap).run Try.prog w = .ok (.func fn first cap) w := fun _ _ _ _ => rfl
  have HC0 := Aside0.mk HC
  clear HC
  go_enter_defers Try.func23, Try.ntmps23
  go_wp2_with fail
  refine HC0.out.mono ?_
  rintro e w2 ⟨rfl, hb, hq⟩
  have c2 := blk_cell hb 0
  have f2 := blk_frozen hb 0
  have HB := Aside0.mk hb
  have HQ := Aside0.mk hq
  clear hb hq
  go_wp2_with fail
  refine leaves_cons (f := 37) (args := #[.pointer (some ⟨w.heap.size, 0, none⟩)]) (by simp) (by simp [go_sem]) ?_
  refine (catch_idle ⟨w.heap.size, 0, none⟩ _).mono ?_
  rintro e u' w'' ⟨rfl, rfl, rfl⟩
  have c3 : (w2.setCell ⟨w.heap.size, 0, none⟩ (.bool false)).cell? ⟨w.heap.size, 0, none⟩ = some (.bool false) := by rw [blk_cell (blk_set HB.out 0 (.bool false))]; rfl
  simp [Leaves, settle, results, Try.results23, go_sem, c3]
  exact ⟨w2, HQ.out, HB.out, rfl⟩
end Go.Proofs.Ytfciokcielponaa.Guard

/- table.ZzRow, impl.Row. -/
namespace Go.Proofs.Ytfciokcielponaa.PRow
open Go.Proofs.Ytfciokcielponaa.Txt Go.Proofs.Ytfciokcielponaa.Runes Go.Proofs.Ytfciokcielponaa.Guard Go.RowKit Go.Proofs.YtfciokcielponaaW.PrintWords Go.Proofs.YtfciokcielponaaW.PrintLast Go.Proofs.YtfciokcielponaaW.PrintMore
set_option linter.unusedVariables false
set_option linter.unusedSimpArgs false

theorem push_sz (w : World) (o : Obj) : (w.alloc o).heap.size = w.heap.size + 1 := by simp [World.alloc, -World.alloc_eq]
/-- The row's text. -/
def rowT (m : ByteArray) (l2 : List ByteArray) (l1 : List Int) : List UInt8 :=
  (if l2.length = 0 then [] else [124]) ++ rowUp (m.toList == [97, 108, 105, 103, 110, 101, 100]) (m.toList == [109, 105, 110, 105, 109, 97, 108]) l2 l1
theorem cells_nums (s : ByteArray) : Lib.byteCells s.data.toList = nums .u8 (bytesOf s) := by
  simp [Lib.byteCells, nums, bytesOf]
theorem own_old {w w' : World} {base e size n : Nat} {v : Value} {xs : List Value} (h : w.ownsRow base e size v n xs) (hb : Below w.heap.size w w') : w'.ownsRow base e size v n xs := by
  refine ⟨h.1, ?_⟩
  rcases h.2 with hn | ⟨g, cap, cur, hv, hbg, hg, rest⟩
  · exact .inl hn
  · exact .inr ⟨g, cap, cur, hv, hbg, (hb.block g (Array.getElem?_eq_some_iff.1 hg).1).trans hg, rest⟩
set_option maxRecDepth 100000 in
theorem zzrow_calls (m : ByteArray) (A1 : Option Addr) (c1 : Nat) (l1 : List Int) (A2 : Option Addr) (c2 : Nat) (l2 : List ByteArray) (xs : List (Nat × Nat × Nat)) (w : World) (h1 : Kd.C (Kd.int .i64) w A1 l1.length l1) (h2 : kC.C w A2 xs.length xs) (hx : CellsAt w l2 xs) (hc1 : l1.length ≤ c1) (hc2 : xs.length ≤ c2) (h12 : l1.length = l2.length)
    (hw : ∀ j (h : j < l2.length) (h' : j < l1.length), Wide l2[j] l1[j]) (hl : l2.length ≤ 2147483647) :
    Calls Try.prog 25 #[.string m, .slice A1 l1.length c1, .slice A2 xs.length c2] w fun e w' => ∃ v, e = .returned v ∧ (∀ W : World, Below w'.heap.size w' W → (convert 46 9 v).run Try.prog W = .ok (.string ⟨(rowT m l2 l1).toArray⟩) W) ∧ Below w.heap.size w w' := by
  have HC := Aside0.mk (fun (sp b : Nat) (hsb : sp ≠ b) (cs : Array Value) (hcs : cs[6]? = some (.string m)) (W : World) (h : BufW w sp (.cells cs 70 (0, 0)) b W []) => write_calls w sp b m _ _ rfl rfl hsb cs hcs A1 c1 l1 A2 c2 l2 xs h1 h2 hx hc1 hc2 h12 hw hl W h)
  clear h1 h2 hx hc1 hc2 h12 hw hl
  go_enter Try.func25, Try.ntmps25
  go_wp2_with fail
  refine (HC.out (w.heap.size + 1) w.heap.size (by omega) #[.nilIface, .string ⟨#[]⟩, .string ⟨#[]⟩, .bool false, .bool false, .bool false, .string m] rfl _ ⟨(Lib.fresh_isBuffer _ 5 w).alloc _, below_alloc (below_alloc (Below.refl _ _) _) _, by have := heap_alloc_new (w.alloc (.cells #[.slice none 0 0, .int .i64 0, .int .i8 0] 63)) (.cells #[.nilIface, .string ⟨#[]⟩, .string ⟨#[]⟩, .bool false, .bool false, .bool false, .string m] 70); rw [push_sz] at this; exact this⟩).mono ?_
  rintro e w1 ⟨rfl, hb⟩
  have HB := Aside0.mk hb.buf
  have HBB := Aside0.mk hb.below
  clear hb HC
  have CS := Aside0.mk (Try.Buffer_Bytes w.heap.size w.heap.size _ w1 HB.out)
  clear HB
  go_wp2_with (go_at_call 39; go_must (refine CS.out.mono ?_; rintro e w4 ⟨v, rfl, ho, nd, rfl⟩; have HO := Aside0.mk ho; clear ho))
  go_ret
  refine ⟨_, rfl, fun W hW => ?_, pw_below_drewN HBB.out nd⟩
  have ho := own_old HO.out hW
  rw [show (if l2.length = 0 then [] else [124]) ++ rowUp (m.toList == [97, 108, 105, 103, 110, 101, 100]) (m.toList == [109, 105, 110, 105, 109, 97, 108]) l2 l1 = (⟨(rowT m l2 l1).toArray⟩ : ByteArray).data.toList from rfl, cells_nums] at ho
  have hcv := own_string (P := Try.prog) Try.underlying46 Try.underlying5 Try.underlying9 ho
  rw [str_bytes] at hcv
  exact hcv

set_option maxRecDepth 100000 in
set_option maxHeartbeats 1000000 in
theorem row1_calls (p : Int) (A1 : Option Addr) (c1 : Nat) (l1 : List Int) (A2 : Option Addr) (c2 : Nat) (l2 : List ByteArray) (b0 b1 b2 b3 : Nat) (w : World) (h1 : Kd.C (Kd.int .i64) w A1 l1.length l1) (h2 : Kd.string.C w A2 l2.length l2) (hc1 : l1.length ≤ c1) (hc2 : l2.length ≤ c2) (h12 : l1.length = l2.length)
    (hw : ∀ j (h : j < l2.length) (h' : j < l1.length), Wide l2[j] l1[j]) (hl : l2.length ≤ 2147483647)
    (k0 : w.heap[b0]? = some (.cells #[.int .i64 p] 3 (0, 0))) (k1 : w.heap[b1]? = some (.cells #[.slice A1 l1.length c1] 28 (0, 0))) (k2 : w.heap[b2]? = some (.cells #[.slice A2 l2.length c2] 24 (0, 0))) (k3 : w.heap[b3]? = some (.cells #[.string ⟨#[]⟩] 9 (0, 0))) :
    Calls Try.prog 24 #[.pointer (some ⟨b0, 0, none⟩), .pointer (some ⟨b1, 0, none⟩), .pointer (some ⟨b2, 0, none⟩), .pointer (some ⟨b3, 0, none⟩)] w fun e w' => e = .returned (.tuple #[]) ∧ ∃ w5, Below w.heap.size w w5 ∧ w' = w5.setCell ⟨b3, 0, none⟩ (.string ⟨(rowT (padP p) l2 l1).toArray⟩) := by
  have hs : ∀ s ∈ l2, s.size ≤ 140737488351232 := by
    intro s hs
    obtain ⟨j, hj, rfl⟩ := List.getElem_of_mem hs
    have := (hw j hj (by omega)).2.2
    omega
  have q0 := blk_cell k0 0
  have q1 := blk_cell k1 0
  have q2 := blk_cell k2 0
  have HCE := Aside0.mk (fun (W : World) (hb : Below w.heap.size w W) => cellsOf_calls A2 c2 l2 W (Kd.C_below h2 hb) hc2 hl hs)
  have HZZ := Aside0.mk (fun (W : World) (hb : Below w.heap.size w W) (c' : Nat) (A' : Option Addr) (xs : List (Nat × Nat × Nat)) (hx : CellsAt W l2 xs) (hC : kC.C W A' xs.length xs) (hc' : xs.length ≤ c') => zzrow_calls (padP p) A1 c1 l1 A' c' l2 xs W (Kd.C_below h1 hb) hC hx hc1 hc' h12 hw hl)
  have HK3 := Aside0.mk (fun (W : World) (hb : Below w.heap.size w W) => blk_frozen ((hb.block _ (blk_lt k3)).trans k3) 0)
  have HK3c := Aside0.mk (fun (W : World) (hb : Below w.heap.size w W) => blk_cell ((hb.block _ (blk_lt k3)).trans k3) 0)
  have HB := Aside0.mk (below_drew (Below.refl w.heap.size w))
  have HQ1 := Aside0.mk (fun (W : World) (hb : Below w.heap.size w W) => blk_cell ((hb.block _ (blk_lt k1)).trans k1) 0)
  have HQ2 := Aside0.mk (fun (W : World) (hb : Below w.heap.size w W) => blk_cell ((hb.block _ (blk_lt k2)).trans k2) 0)
  clear h1 h2 hc1 hc2 h12 hw hl hs k0 k1 k2 k3
  go_enter Try.func24, Try.ntmps24
  go_region_law (first
    | (go_simp; go_at_call 26; refine (padded_calls p _).mono ?_; rintro e w1 ⟨rfl, rfl⟩)
    | (go_simp; go_at_call 27; refine (HCE.out _ HB.out).mono ?_; rintro e w2 ⟨v, xs, rfl, hR, hX, hb⟩; have HX := Aside0.mk hX; have HR := Aside0.mk hR; have hB := below_step HB.out hb; clear HB hb; have HB := Aside0.mk hB; have x1 := HQ1.out _ hB; have x2 := HQ2.out _ hB; clear hB; obtain ⟨A', c', rfl, hc', hcc⟩ := Kd.R_reads hR; have HC' := Aside0.mk hc'; have HCC := Aside0.mk hcc; clear hR hX hc' hcc)
    | (go_simp; go_at_call 25; refine (HZZ.out _ HB.out _ _ _ HX.out HCC.out HC'.out).mono ?_; rintro e w3 ⟨v, rfl, hcv, hb⟩; have kcv := hcv _ (Below.refl _ _); have hB := below_step HB.out hb; clear HB hb hcv; have HB := Aside0.mk hB; have f3 := HK3.out _ hB; have x3 := HK3c.out _ hB; clear hB))
  all_goals go_end0
  all_goals exact ⟨rfl, _, HB.out, rfl⟩

set_option maxHeartbeats 1000000 in
theorem row_calls (p : Int) (A1 : Option Addr) (c1 : Nat) (l1 : List Int) (A2 : Option Addr) (c2 : Nat) (l2 : List ByteArray) (w : World) (h1 : Kd.C (Kd.int .i64) w A1 l1.length l1) (h2 : Kd.string.C w A2 l2.length l2) (hc1 : l1.length ≤ c1) (hc2 : l2.length ≤ c2) (h12 : l1.length = l2.length)
    (hw : ∀ j (h : j < l2.length) (h' : j < l1.length), Wide l2[j] l1[j]) (hl : l2.length ≤ 2147483647) :
    Calls Try.prog 12 #[.int .i64 p, .slice A1 l1.length c1, .slice A2 l2.length c2] w fun e w' => e = .returned (.string ⟨(rowT (padP p) l2 l1).toArray⟩) ∧ Below w.heap.size w w' := by
  have hmf : ∀ (fn : Fn) (first cap : Array Value) (w : World), (Instr.makeFunc fn first cap).run Try.prog w = .ok (.func fn first cap) w := fun _ _ _ _ => rfl
  have HC : ∀ (W : World) (b0 b1 b2 b3 : Nat), Below w.heap.size w W → W.heap[b0]? = some (.cells #[.int .i64 p] 3 (0, 0)) → W.heap[b1]? = some (.cells #[.slice A1 l1.length c1] 28 (0, 0)) → W.heap[b2]? = some (.cells #[.slice A2 l2.length c2] 24 (0, 0)) → W.heap[b3]? = some (.cells #[.string ⟨#[]⟩] 9 (0, 0)) →
      Calls Try.prog 23 #[.func (.func 24) #[] #[.pointer (some ⟨b0, 0, none⟩), .pointer (some ⟨b1, 0, none⟩), .pointer (some ⟨b2, 0, none⟩), .pointer (some ⟨b3, 0, none⟩)]] W fun e w' => e = .returned (.bool false) ∧ w'.heap[b3]? = some (.cells #[.string ⟨(rowT (padP p) l2 l1).toArray⟩] 9 (0, 0)) ∧ ∃ w5, Below W.heap.size W w5 ∧ w' = (w5.setCell ⟨b3, 0, none⟩ (.string ⟨(rowT (padP p) l2 l1).toArray⟩)).setCell ⟨W.heap.size, 0, none⟩ (.bool false) := by
    intro W b0 b1 b2 b3 hwW h0 h1' h2' h3
    have hA := below_alloc (Below.refl W.heap.size W) (.cells #[.bool false] 4)
    have hwA := below_step hwW hA
    refine (guarded_calls 24 _ W (fun w2 => w2.heap[b3]? = some (.cells #[.string ⟨(rowT (padP p) l2 l1).toArray⟩] 9 (0, 0)) ∧ ∃ w5, Below W.heap.size W w5 ∧ w2 = w5.setCell ⟨b3, 0, none⟩ (.string ⟨(rowT (padP p) l2 l1).toArray⟩)) (fun _ _ => by kernel_rfl) ?_).mono ?_
    · refine (row1_calls p A1 c1 l1 A2 c2 l2 b0 b1 b2 b3 _ (Kd.C_below h1 hwA) (Kd.C_below h2 hwA) hc1 hc2 h12 hw hl ((hA.block _ (blk_lt h0)).trans h0) ((hA.block _ (blk_lt h1')).trans h1') ((hA.block _ (blk_lt h2')).trans h2') ((hA.block _ (blk_lt h3)).trans h3)).mono ?_
      rintro e w' ⟨rfl, w5, hb5, rfl⟩
      have hb := below_step hA hb5
      have k2 := (hb.block _ (blk_lt h3)).trans h3
      have kn := (hb5.block _ (by rw [push_sz]; omega)).trans (heap_alloc_new W (.cells #[.bool false] 4))
      have hne : W.heap.size ≠ b3 := by have := blk_lt h3; omega
      exact ⟨rfl, blk_far kn (p := ⟨b3, 0, none⟩) hne _, blk_set k2 0 _, w5, hb, rfl⟩
    · rintro e w' ⟨rfl, w2, ⟨hk, w5, hb5, rfl⟩, hg, rfl⟩
      have hne : b3 ≠ W.heap.size := by have := blk_lt h3; omega
      exact ⟨rfl, blk_far hk (p := ⟨W.heap.size, 0, none⟩) hne _, w5, hb5, rfl⟩
  have HCA := Aside0.mk HC
  clear HC h1 h2 hc1 hc2 h12 hw hl
  go_enter Try.func12, Try.ntmps12
  go_wp2_with fail
  have p1 := push_sz w (.cells #[.int .i64 p] 3)
  have p2 := push_sz (w.alloc (.cells #[.int .i64 p] 3)) (.cells #[.slice A1 l1.length c1] 28)
  have p3 := push_sz ((w.alloc (.cells #[.int .i64 p] 3)).alloc (.cells #[.slice A1 l1.length c1] 28)) (.cells #[.slice A2 l2.length c2] 24)
  have t0 := heap_alloc_new w (.cells #[.int .i64 p] 3)
  have t1 := heap_alloc_new (w.alloc (.cells #[.int .i64 p] 3)) (.cells #[.slice A1 l1.length c1] 28)
  have t2 := heap_alloc_new ((w.alloc (.cells #[.int .i64 p] 3)).alloc (.cells #[.slice A1 l1.length c1] 28)) (.cells #[.slice A2 l2.length c2] 24)
  have t3 := heap_alloc_new (((w.alloc (.cells #[.int .i64 p] 3)).alloc (.cells #[.slice A1 l1.length c1] 28)).alloc (.cells #[.slice A2 l2.length c2] 24)) (.cells #[.string ⟨#[]⟩] 9)
  rw [p1] at t1
  rw [p2, p1] at t2
  rw [p3, p2, p1] at t3
  have step : ∀ {W : World} {b : Nat} {o o' : Obj}, W.heap[b]? = some o → (W.alloc o').heap[b]? = some o := fun {W b o o'} h => ((below_alloc (Below.refl _ _) o').block _ (Array.getElem?_eq_some_iff.1 h).1).trans h
  have b4 : Below w.heap.size w ((((w.alloc (.cells #[.int .i64 p] 3)).alloc (.cells #[.slice A1 l1.length c1] 28)).alloc (.cells #[.slice A2 l2.length c2] 24)).alloc (.cells #[.string ⟨#[]⟩] 9)) := below_alloc (below_alloc (below_alloc (below_alloc (Below.refl _ _) _) _) _) _
  refine (HCA.out _ _ _ _ _ b4 (step (step (step t0))) (step (step t1)) (step t2) t3).mono ?_
  rintro e w' ⟨rfl, hk, w5, hb5, hw⟩
  have HB := Aside0.mk (show Below w.heap.size w w' by
    rw [hw]
    refine Below.setCell (Below.setCell (below_step b4 hb5) ?_ _) ?_ _
    · show w.heap.size ≤ w.heap.size + 1 + 1 + 1
      omega
    · exact b4.size)
  have ck := blk_cell hk 0
  clear hk hw hb5 t0 t1 t2 t3 p1 p2 p3 b4
  go_wp2_with fail
  go_ret
  exact ⟨rfl, HB.out⟩

theorem width_le (s : ByteArray) (i : Nat) : (Utf8.decode s i).2 ≤ 4 := by
  unfold Utf8.decode
  simp only
  repeat' split
  all_goals simp
theorem count_from (s : ByteArray) : ∀ (b pos : Nat), s.size ≤ pos + b → s.size ≤ pos + 4 * Lib.runeCountFrom s b pos
  | 0, pos, h => by simpa [Lib.runeCountFrom] using h
  | b + 1, pos, h => by
    unfold Lib.runeCountFrom
    by_cases hp : pos < s.size
    · rw [if_pos hp]
      have h1 := Lib.decode_width_pos s pos hp
      have h2 := width_le s pos
      have h3 := count_from s b (pos + (Utf8.decode s pos).2) (by omega)
      omega
    · rw [if_neg hp]
      omega
theorem size_le (s : ByteArray) : s.size ≤ 4 * Lib.runeCount s := by
  have := count_from s s.size 0 (by omega)
  unfold Lib.runeCount
  omega
/-- Every cell fits its width, and no width is more than 1000. -/
def fitsW : List ByteArray → List Int → Bool
  | [], [] => true
  | s :: l, wd :: ws => decide ((Lib.runeCount s : Int) ≤ wd) && decide (wd ≤ 1000) && fitsW l ws
  | _, _ => false
theorem fitsW_len : ∀ {l : List ByteArray} {ws : List Int}, fitsW l ws = true → ws.length = l.length
  | [], [], _ => rfl
  | s :: l, wd :: ws, h => by
    simp only [fitsW, Bool.and_eq_true] at h
    rw [List.length_cons, List.length_cons, fitsW_len h.2]
  | [], _ :: _, h => by simp [fitsW] at h
  | _ :: _, [], h => by simp [fitsW] at h
theorem fitsW_get : ∀ {l : List ByteArray} {ws : List Int}, fitsW l ws = true → ∀ j (h : j < l.length) (h' : j < ws.length), Wide l[j] ws[j]
  | s :: l, wd :: ws, h, 0, _, _ => by
    simp only [fitsW, Bool.and_eq_true, decide_eq_true_eq] at h
    have := size_le s
    exact ⟨h.1.1, h.1.2, show s.size ≤ 4000 by omega⟩
  | s :: l, wd :: ws, h, j + 1, h1, h2 => by
    simp only [fitsW, Bool.and_eq_true] at h
    exact fitsW_get h.2 j (Nat.lt_of_succ_lt_succ h1) (Nat.lt_of_succ_lt_succ h2)
  | [], [], _, _, h1, _ => absurd h1 (Nat.not_lt_zero _)
  | [], _ :: _, h, _, _, _ => by simp [fitsW] at h
  | _ :: _, [], h, _, _, _ => by simp [fitsW] at h
def impl_Row.f (_ : Nat) (a0 : Int) (l1 : List Int) (l2 : List ByteArray) : Option ByteArray := if fitsW l2 l1 = true ∧ l2.length ≤ 2147483647 then some ⟨(rowT (padP a0) l2 l1).toArray⟩ else none
theorem impl_Row.mono : ∀ a0 a1 a2 k, LeO (impl_Row.f k a0 a1 a2) (impl_Row.f (k + 1) a0 a1 a2) := fun _ _ _ _ => LeO.refl _
theorem impl_Row.calls (k : Nat) (a0 : Int) (A1 : Option Addr) (c1 : Nat) (l1 : List Int) (A2 : Option Addr) (c2 : Nat) (l2 : List ByteArray) (r : ByteArray) (w : World) (hr1 : Kd.C (Kd.int .i64) w A1 l1.length l1) (hc1 : l1.length ≤ c1) (hr2 : Kd.C Kd.string w A2 l2.length l2) (hc2 : l2.length ≤ c2) (h : impl_Row.f k a0 l1 l2 = some r) :
    Calls Try.prog 12 #[.int .i64 a0, .slice A1 l1.length c1, .slice A2 l2.length c2] w fun e w' => e = .returned (.string r) ∧ Below w.heap.size w w' := by
  unfold impl_Row.f at h
  split at h
  case isFalse => cases h
  rename_i hf
  obtain rfl := Option.some.inj h
  exact row_calls a0 A1 c1 l1 A2 c2 l2 w hr1 hr2 hc1 hc2 (fitsW_len hf.1) (fitsW_get hf.1) hf.2
end Go.Proofs.Ytfciokcielponaa.PRow

/- Printed by the program extprint.py of this session, out of the kit's print and contracts of this session's own; Lean checks it. -/
namespace Go.Proofs.Ytfciokcielponaa.PRow
open Go.RowKit Go.Proofs.YtfciokcielponaaW.PrintWords Go.Proofs.YtfciokcielponaaW.PrintLast Go.Proofs.YtfciokcielponaaW.PrintMore
attribute [local go_sem] max2_int min2_int max_two min_two max_three min_three max_four min_four   -- for this text's walks alone
set_option linter.unusedVariables false
set_option linter.unusedSimpArgs false




-- NOT PRINTED: function 23 (impl_guarded)





/-! ### laws_FnRow: function 4 -/
mutual
def laws_FnRow.j0 : Nat → Int → List Int → List ByteArray → Bool → Option (Bool)
  | 0, _, _, _, _ => none
  | k + 1, x0, x1, x2, x14 => if x14 = true then (some true) else (if x0 < 0 then (laws_FnRow.j1 k x0 x1 x2 true) else (if x0 > 3 then (laws_FnRow.j1 k x0 x1 x2 true) else ((laws_wide29.f k x1 x2).bind fun t116 => (if t116 = true then (laws_FnRow.j1 k x0 x1 x2 ((x2.length : Int) == 0)) else (laws_FnRow.j1 k x0 x1 x2 true)))))
def laws_FnRow.j1 : Nat → Int → List Int → List ByteArray → Bool → Option (Bool)
  | 0, _, _, _, _ => none
  | k + 1, x0, x1, x2, x31 => if x31 = true then (some true) else ((impl_Row.f k x0 x1 x2).bind fun t117 => ((laws_row29.f k x0 x1 x2).bind fun t118 => (some (t117.toList == t118.toList))))
end
def laws_FnRow.f (k : Nat) (a0 : Int) (l1 : List Int) (l2 : List ByteArray) : Option (Bool) := if (l1.length : Int) > 2147483647 then (laws_FnRow.j0 k a0 l1 l2 true) else ((laws_zzFits5.f k l2).bind fun t115 => (laws_FnRow.j0 k a0 l1 l2 (!t115)))
theorem laws_FnRow.mono_l : ∀ k, (∀ y0 y1 y2 y3, LeO (laws_FnRow.j0 k y0 y1 y2 y3) (laws_FnRow.j0 (k + 1) y0 y1 y2 y3)) ∧ (∀ y0 y1 y2 y3, LeO (laws_FnRow.j1 k y0 y1 y2 y3) (laws_FnRow.j1 (k + 1) y0 y1 y2 y3))
  | 0 => ⟨fun _ _ _ _ r h => by simp [laws_FnRow.j0] at h, fun _ _ _ _ r h => by simp [laws_FnRow.j1] at h⟩
  | k + 1 => by
    obtain ⟨ih0, ih1⟩ := laws_FnRow.mono_l k
    refine ⟨?_, ?_⟩
    · intro y0 y1 y2 y3
      unfold laws_FnRow.j0
      repeat' first
      | (with_reducible exact ih0 _ _ _ _)
      | (with_reducible exact ih1 _ _ _ _)
      | (with_reducible exact impl_Row.mono _ _ _ _)
      | (with_reducible exact laws_row29.mono _ _ _ _)
      | (with_reducible exact laws_wide29.mono _ _ _)
      | (with_reducible exact laws_zzFits5.mono _ _)
      | (with_reducible exact LeO.refl _)
      | (with_reducible exact LeO.none _)
      | (with_reducible refine LeO.ite ?_ ?_)
      | (with_reducible refine LeO.bind ?_ (fun _ => ?_))
      | exact ih0 _ _ _ _
      | exact ih1 _ _ _ _
      | exact impl_Row.mono _ _ _ _
      | exact laws_row29.mono _ _ _ _
      | exact laws_wide29.mono _ _ _
      | exact laws_zzFits5.mono _ _
      | exact LeO.none _
      | refine LeO.ite ?_ ?_
      | refine LeO.bind ?_ (fun _ => ?_)
    · intro y0 y1 y2 y3
      unfold laws_FnRow.j1
      repeat' first
      | (with_reducible exact ih0 _ _ _ _)
      | (with_reducible exact ih1 _ _ _ _)
      | (with_reducible exact impl_Row.mono _ _ _ _)
      | (with_reducible exact laws_row29.mono _ _ _ _)
      | (with_reducible exact laws_wide29.mono _ _ _)
      | (with_reducible exact laws_zzFits5.mono _ _)
      | (with_reducible exact LeO.refl _)
      | (with_reducible exact LeO.none _)
      | (with_reducible refine LeO.ite ?_ ?_)
      | (with_reducible refine LeO.bind ?_ (fun _ => ?_))
      | exact ih0 _ _ _ _
      | exact ih1 _ _ _ _
      | exact impl_Row.mono _ _ _ _
      | exact laws_row29.mono _ _ _ _
      | exact laws_wide29.mono _ _ _
      | exact laws_zzFits5.mono _ _
      | exact LeO.none _
      | refine LeO.ite ?_ ?_
      | refine LeO.bind ?_ (fun _ => ?_)
theorem laws_FnRow.mono : ∀ a0 a1 a2 k, LeO (laws_FnRow.f k a0 a1 a2) (laws_FnRow.f (k + 1) a0 a1 a2) := by
  intro a0 a1 a2 k
  obtain ⟨ih0, ih1⟩ := laws_FnRow.mono_l k
  unfold laws_FnRow.f
  repeat' first
      | (with_reducible exact ih0 _ _ _ _)
      | (with_reducible exact ih1 _ _ _ _)
      | (with_reducible exact impl_Row.mono _ _ _ _)
      | (with_reducible exact laws_row29.mono _ _ _ _)
      | (with_reducible exact laws_wide29.mono _ _ _)
      | (with_reducible exact laws_zzFits5.mono _ _)
      | (with_reducible exact LeO.refl _)
      | (with_reducible exact LeO.none _)
      | (with_reducible refine LeO.ite ?_ ?_)
      | (with_reducible refine LeO.bind ?_ (fun _ => ?_))
      | exact ih0 _ _ _ _
      | exact ih1 _ _ _ _
      | exact impl_Row.mono _ _ _ _
      | exact laws_row29.mono _ _ _ _
      | exact laws_wide29.mono _ _ _
      | exact laws_zzFits5.mono _ _
      | exact LeO.none _
      | refine LeO.ite ?_ ?_
      | refine LeO.bind ?_ (fun _ => ?_)
set_option maxHeartbeats 8000000 in
set_option maxRecDepth 100000 in
theorem laws_FnRow.calls (k : Nat) (a0 : Int) (A1 : Option Addr) (c1 : Nat) (l1 : List Int) (A2 : Option Addr) (c2 : Nat) (l2 : List ByteArray) (r : Bool) (w : World) (hr1 : Kd.C (Kd.int .i64) w A1 l1.length l1) (hc1 : l1.length ≤ c1) (hr2 : Kd.C Kd.string w A2 l2.length l2) (hc2 : l2.length ≤ c2) (h : laws_FnRow.f k a0 l1 l2 = some r) :
    Calls Try.prog 4 #[.int .i64 a0, .slice A1 l1.length c1, .slice A2 l2.length c2] w fun e w' => e = .returned (.bool r) ∧ Below w.heap.size w w' := by
  have HR1 := Aside0.mk hr1
  have HC1 := Aside0.mk hc1
  clear hr1 hc1
  have HR2 := Aside0.mk hr2
  have HC2 := Aside0.mk hc2
  clear hr2 hc2
  have HB := Aside0.mk (Below.refl w.heap.size w)
  have H : (if (l1.length : Int) > 2147483647 then (laws_FnRow.j0 k a0 l1 l2 true) else ((laws_zzFits5.f k l2).bind fun t115 => (laws_FnRow.j0 k a0 l1 l2 (!t115)))) = some r := h
  clear h
  have HC4 := Aside0.mk H
  clear H
  go_enter Try.func4, Try.ntmps4
  go_upto_region 1 with (fail)
  go_cut [14] (fun v14 wc => ∃ (kq : Nat) (x14_3 : Bool), v14 = .bool x14_3 ∧ Aside0 (laws_FnRow.j0 kq a0 l1 l2 x14_3 = some r) ∧ Aside0 (kq ≤ k) ∧ Aside0 (Below w.heap.size w wc))
  case first =>
    have H := HC4.out
    clear HC4
    by_cases c5 : (l1.length : Int) > 2147483647
    · rw [if_pos c5] at H
      have c5b0 : decide (2147483647 < (l1.length : Int)) = true := decide_eq_true c5
      have c5b1 : decide (2147483647 < l1.length) = true := decide_eq_true (by omega)
      clear c5
      (first | rw [c5b0] | (simp only [i64_w, i32_w]; rw [c5b0]) | skip)
      have H' := Aside0.mk H
      clear H
      go_wp2
      go_meet
      case rel => exact ⟨_, (true), (by first | rfl | (simp; done) | (simp [*]; done)), H', ⟨by first | omega | exact Nat.le_refl _⟩, ⟨by repeat (first | (with_reducible first | exact HB.out | apply below_alloc | apply pw_below_drewN | apply below_drew1) | exact HB.out)⟩⟩
    · rw [if_neg c5] at H
      have c5b0 : decide (2147483647 < (l1.length : Int)) = false := decide_eq_false c5
      have c5b1 : decide (2147483647 < l1.length) = false := decide_eq_false (by omega)
      clear c5
      (first | rw [c5b0] | (simp only [i64_w, i32_w]; rw [c5b0]) | skip)
      replace H := Option.bind_eq_some_iff.mp H
      obtain ⟨t115, A60, H⟩ := H
      replace H : (laws_FnRow.j0 k a0 l1 l2 (!t115)) = some r := H
      have A6 := Aside0.mk A60
      clear A60
      have H' := Aside0.mk H
      clear H
      go_wp2_with (first | (go_at_call 10; (with_reducible refine (laws_zzFits5.calls k _ _ l2 t115 _ ?side1 ?side2 A6.out).mono ?_); (case side1 => repeat (first | exact (Kd.C_below HR2.out HB.out) | (with_reducible refine Kd.C_alloc ?_ _) | (with_reducible refine Kd.C_drewN ?_ _) | (with_reducible refine Kd.C_drew ?_))); (case side2 => exact HC2.out); rintro e w' ⟨rfl, ⟨nd, rfl⟩⟩))
      go_meet
      case rel => exact ⟨_, (!t115), (by first | rfl | (simp; done) | (simp [*]; done)), H', ⟨by first | omega | exact Nat.le_refl _⟩, ⟨by repeat (first | (with_reducible first | exact HB.out | apply below_alloc | apply pw_below_drewN | apply below_drew1) | exact HB.out)⟩⟩
  case rest =>
    clear HC4
    try clear c1
    try clear c2
    try clear p2
    try clear c4
    try clear c5
    try clear c5b0
    try clear c5b1
    obtain ⟨kq, x14_3, rfl, HA, HJ3, HB⟩ := hcut
    cases kq with
    | zero => exact absurd HA.out (by simp [laws_FnRow.j0])
    | succ kj3 =>
      have H := HA.out
      clear HA
      simp only [laws_FnRow.j0] at H
      by_cases c7 : x14_3 = true
      · subst c7
        have H1 : (some true) = some r := by rw [if_pos rfl] at H; exact H
        clear H
        have H := H1
        clear H1
        obtain rfl := Option.some.inj H
        go_wp2
        go_ret
        exact ⟨by first | rfl | (simp [errW_none, errW_some] <;> rfl) | (simp [*, errW_none, errW_some] <;> rfl), by repeat (first | (with_reducible first | exact HB.out | apply below_alloc | apply pw_below_drewN | apply below_drew1) | exact HB.out)⟩
      · replace c7 := Bool.eq_false_iff.mpr c7
        subst c7
        have H1 : (if a0 < 0 then (laws_FnRow.j1 kj3 a0 l1 l2 true) else (if a0 > 3 then (laws_FnRow.j1 kj3 a0 l1 l2 true) else ((laws_wide29.f kj3 l1 l2).bind fun t116 => (if t116 = true then (laws_FnRow.j1 kj3 a0 l1 l2 ((l2.length : Int) == 0)) else (laws_FnRow.j1 kj3 a0 l1 l2 true))))) = some r := by rw [if_neg (show ¬ (false = true) by decide)] at H; exact H
        clear H
        have H := H1
        clear H1
        have HC8 := Aside0.mk H
        clear H
        go_upto_region 3 with (fail)
        go_cut [31] (fun v31 wc => ∃ (kq : Nat) (x31_7 : Bool), v31 = .bool x31_7 ∧ Aside0 (laws_FnRow.j1 kq a0 l1 l2 x31_7 = some r) ∧ Aside0 (kq ≤ kj3) ∧ Aside0 (Below w.heap.size w wc))
        case first =>
          have H := HC8.out
          clear HC8
          by_cases c9 : a0 < 0
          · rw [if_pos c9] at H
            have c9b0 : decide (a0 < 0) = true := decide_eq_true c9
            clear c9
            (first | rw [c9b0] | (simp only [i64_w, i32_w]; rw [c9b0]) | skip)
            have H' := Aside0.mk H
            clear H
            go_wp2
            go_meet
            case rel => exact ⟨_, (true), (by first | rfl | (simp; done) | (simp [*]; done)), H', ⟨by have := HJ3.out; first | omega | exact Nat.le_refl _⟩, ⟨by repeat (first | (with_reducible first | exact HB.out | apply below_alloc | apply pw_below_drewN | apply below_drew1) | exact HB.out)⟩⟩
          · rw [if_neg c9] at H
            have c9b0 : decide (a0 < 0) = false := decide_eq_false c9
            clear c9
            (first | rw [c9b0] | (simp only [i64_w, i32_w]; rw [c9b0]) | skip)
            by_cases c10 : a0 > 3
            · rw [if_pos c10] at H
              have c10b0 : decide (3 < a0) = true := decide_eq_true c10
              clear c10
              have H' := Aside0.mk H
              clear H
              go_wp2
              go_meet
              case rel => exact ⟨_, (true), (by first | rfl | (simp; done) | (simp [*]; done)), H', ⟨by have := HJ3.out; first | omega | exact Nat.le_refl _⟩, ⟨by repeat (first | (with_reducible first | exact HB.out | apply below_alloc | apply pw_below_drewN | apply below_drew1) | exact HB.out)⟩⟩
            · rw [if_neg c10] at H
              have c10b0 : decide (3 < a0) = false := decide_eq_false c10
              clear c10
              replace H := Option.bind_eq_some_iff.mp H
              obtain ⟨t116, A110, H⟩ := H
              replace H : (if t116 = true then (laws_FnRow.j1 kj3 a0 l1 l2 ((l2.length : Int) == 0)) else (laws_FnRow.j1 kj3 a0 l1 l2 true)) = some r := H
              have A11 := Aside0.mk A110
              clear A110
              by_cases c12 : t116 = true
              · subst c12
                have H1 : (laws_FnRow.j1 kj3 a0 l1 l2 ((l2.length : Int) == 0)) = some r := by rw [if_pos rfl] at H; exact H
                clear H
                have H := H1
                clear H1
                have H' := Aside0.mk H
                clear H
                go_wp2_with (first | (go_at_call 11; (with_reducible refine (laws_wide29.calls kj3 _ _ l1 _ _ l2 true _ ?side1 ?side2 ?side3 ?side4 A11.out).mono ?_); (case side1 => repeat (first | exact (Kd.C_below HR1.out HB.out) | (with_reducible refine Kd.C_alloc ?_ _) | (with_reducible refine Kd.C_drewN ?_ _) | (with_reducible refine Kd.C_drew ?_))); (case side2 => exact HC1.out); (case side3 => repeat (first | exact (Kd.C_below HR2.out HB.out) | (with_reducible refine Kd.C_alloc ?_ _) | (with_reducible refine Kd.C_drewN ?_ _) | (with_reducible refine Kd.C_drew ?_))); (case side4 => exact HC2.out); rintro e w13 ⟨rfl, hb⟩; have n0_ := Aside0.mk (below_step (by repeat (first | (with_reducible first | exact HB.out | apply below_alloc | apply pw_below_drewN | apply below_drew1) | exact HB.out)) hb); clear HB; have HB := n0_; clear n0_; (try clear hb); (try clear hb2); (try clear hk); (try clear hi)))
                go_meet
                case rel => exact ⟨_, (((l2.length : Int) == 0)), (by first | rfl | (simp; done) | (simp [*]; done)), H', ⟨by have := HJ3.out; first | omega | exact Nat.le_refl _⟩, ⟨by repeat (first | (with_reducible first | exact HB.out | apply below_alloc | apply pw_below_drewN | apply below_drew1) | exact HB.out)⟩⟩
              · replace c12 := Bool.eq_false_iff.mpr c12
                subst c12
                have H1 : (laws_FnRow.j1 kj3 a0 l1 l2 true) = some r := by rw [if_neg (show ¬ (false = true) by decide)] at H; exact H
                clear H
                have H := H1
                clear H1
                have H' := Aside0.mk H
                clear H
                go_wp2_with (first | (go_at_call 11; (with_reducible refine (laws_wide29.calls kj3 _ _ l1 _ _ l2 false _ ?side1 ?side2 ?side3 ?side4 A11.out).mono ?_); (case side1 => repeat (first | exact (Kd.C_below HR1.out HB.out) | (with_reducible refine Kd.C_alloc ?_ _) | (with_reducible refine Kd.C_drewN ?_ _) | (with_reducible refine Kd.C_drew ?_))); (case side2 => exact HC1.out); (case side3 => repeat (first | exact (Kd.C_below HR2.out HB.out) | (with_reducible refine Kd.C_alloc ?_ _) | (with_reducible refine Kd.C_drewN ?_ _) | (with_reducible refine Kd.C_drew ?_))); (case side4 => exact HC2.out); rintro e w14 ⟨rfl, hb⟩; have n0_ := Aside0.mk (below_step (by repeat (first | (with_reducible first | exact HB.out | apply below_alloc | apply pw_below_drewN | apply below_drew1) | exact HB.out)) hb); clear HB; have HB := n0_; clear n0_; (try clear hb); (try clear hb2); (try clear hk); (try clear hi)))
                go_meet
                case rel => exact ⟨_, (true), (by first | rfl | (simp; done) | (simp [*]; done)), H', ⟨by have := HJ3.out; first | omega | exact Nat.le_refl _⟩, ⟨by repeat (first | (with_reducible first | exact HB.out | apply below_alloc | apply pw_below_drewN | apply below_drew1) | exact HB.out)⟩⟩
        case rest =>
          clear HC8
          try clear c1
          try clear c2
          try clear p2
          try clear c4
          try clear c5
          try clear c5b0
          try clear c5b1
          try clear c7
          try clear c9
          try clear c9b0
          try clear c10
          try clear c10b0
          try clear c12
          try clear p2
          obtain ⟨kq, x31_7, rfl, HA, HJ7, HB⟩ := hcut
          cases kq with
          | zero => exact absurd HA.out (by simp [laws_FnRow.j1])
          | succ kj7 =>
            have H := HA.out
            clear HA
            simp only [laws_FnRow.j1] at H
            by_cases c15 : x31_7 = true
            · subst c15
              have H1 : (some true) = some r := by rw [if_pos rfl] at H; exact H
              clear H
              have H := H1
              clear H1
              obtain rfl := Option.some.inj H
              go_wp2
              go_ret
              exact ⟨by first | rfl | (simp [errW_none, errW_some] <;> rfl) | (simp [*, errW_none, errW_some] <;> rfl), by repeat (first | (with_reducible first | exact HB.out | apply below_alloc | apply pw_below_drewN | apply below_drew1) | exact HB.out)⟩
            · replace c15 := Bool.eq_false_iff.mpr c15
              subst c15
              have H1 : ((impl_Row.f kj7 a0 l1 l2).bind fun t117 => ((laws_row29.f kj7 a0 l1 l2).bind fun t118 => (some (t117.toList == t118.toList)))) = some r := by rw [if_neg (show ¬ (false = true) by decide)] at H; exact H
              clear H
              have H := H1
              clear H1
              replace H := Option.bind_eq_some_iff.mp H
              obtain ⟨t117, A160, H⟩ := H
              replace H : ((laws_row29.f kj7 a0 l1 l2).bind fun t118 => (some (t117.toList == t118.toList))) = some r := H
              have A16 := Aside0.mk A160
              clear A160
              replace H := Option.bind_eq_some_iff.mp H
              obtain ⟨t118, A170, H⟩ := H
              replace H : (some (t117.toList == t118.toList)) = some r := H
              have A17 := Aside0.mk A170
              clear A170
              obtain rfl := Option.some.inj H
              go_wp2_with (first | ((with_reducible refine gate_callee (f := 12) rfl ?_); refine goesL_ (some 35) rfl rfl Try.func12 (by kernel_rfl) rfl #[.int .i64 a0, .slice A1 l1.length c1, .slice A2 l2.length c2] rfl (by (try simp only [List.map_toArray, List.map_cons, List.map_nil]); first | done | rfl | (simp only [List.length_drop, List.length_take]; rfl)) ?_; (with_reducible refine (impl_Row.calls kj7 a0 _ _ l1 _ _ l2 t117 _ ?side1 ?side2 ?side3 ?side4 A16.out).mono ?_); (case side1 => repeat (first | exact (Kd.C_below HR1.out HB.out) | (with_reducible refine Kd.C_alloc ?_ _) | (with_reducible refine Kd.C_drewN ?_ _) | (with_reducible refine Kd.C_drew ?_))); (case side2 => exact HC1.out); (case side3 => repeat (first | exact (Kd.C_below HR2.out HB.out) | (with_reducible refine Kd.C_alloc ?_ _) | (with_reducible refine Kd.C_drewN ?_ _) | (with_reducible refine Kd.C_drew ?_))); (case side4 => exact HC2.out); rintro e w18 ⟨rfl, hb⟩; refine ⟨_, rfl, ?_⟩; have n0_ := Aside0.mk (below_step (by repeat (first | (with_reducible first | exact HB.out | apply below_alloc | apply pw_below_drewN | apply below_drew1) | exact HB.out)) hb); clear HB; have HB := n0_; clear n0_; (try clear hb); (try clear hb2); (try clear hk); (try clear hi)) | ((with_reducible refine gate_callee (f := 13) rfl ?_); refine goesL_ (some 39) rfl rfl Try.func13 (by kernel_rfl) rfl #[.int .i64 a0, .slice A1 l1.length c1, .slice A2 l2.length c2] rfl (by (try simp only [List.map_toArray, List.map_cons, List.map_nil]); first | done | rfl | (simp only [List.length_drop, List.length_take]; rfl)) ?_; (with_reducible refine (laws_row29.calls kj7 a0 _ _ l1 _ _ l2 t118 _ ?side1 ?side2 ?side3 ?side4 A17.out).mono ?_); (case side1 => repeat (first | exact (Kd.C_below HR1.out HB.out) | (with_reducible refine Kd.C_alloc ?_ _) | (with_reducible refine Kd.C_drewN ?_ _) | (with_reducible refine Kd.C_drew ?_))); (case side2 => exact HC1.out); (case side3 => repeat (first | exact (Kd.C_below HR2.out HB.out) | (with_reducible refine Kd.C_alloc ?_ _) | (with_reducible refine Kd.C_drewN ?_ _) | (with_reducible refine Kd.C_drew ?_))); (case side4 => exact HC2.out); rintro e w19 ⟨rfl, hb⟩; refine ⟨_, rfl, ?_⟩; have n0_ := Aside0.mk (below_step (by repeat (first | (with_reducible first | exact HB.out | apply below_alloc | apply pw_below_drewN | apply below_drew1) | exact HB.out)) hb); clear HB; have HB := n0_; clear n0_; (try clear hb); (try clear hb2); (try clear hk); (try clear hi)))
              go_ret
              exact ⟨by first | rfl | (simp [errW_none, errW_some] <;> rfl) | (simp [*, errW_none, errW_some] <;> rfl), by repeat (first | (with_reducible first | exact HB.out | apply below_alloc | apply pw_below_drewN | apply below_drew1) | exact HB.out)⟩
end Go.Proofs.Ytfciokcielponaa.PRow

/- The law FnRow answers true: the row that impl.Row tells is the spec's row. No further conditions. -/
namespace Go.Proofs.Ytfciokcielponaa.PRow
open Go.Proofs.Ytfciokcielponaa.Txt Go.RowKit Go.Proofs.YtfciokcielponaaW.PrintWords Go.Proofs.YtfciokcielponaaW.PrintLast Go.Proofs.YtfciokcielponaaW.PrintMore
set_option linter.unusedVariables false
set_option linter.unusedSimpArgs false

theorem rdOf_get {l : List ByteArray} {i : Nat} (h : i < l.length) : rdOf ByteArray.empty l (i : Int) = l[i] := by simp [rdOf, List.getD_eq_getElem?_getD, List.getElem?_eq_getElem h]
theorem rdI_get {l : List Int} {i : Nat} (h : i < l.length) : rd l (i : Int) = l[i] := by simp [rd, List.getD_eq_getElem?_getD, List.getElem?_eq_getElem h]
theorem wrap_s (i : Nat) (hi : i < 4294967296) : wrap64 ((i : Int) + 1) = ((i + 1 : Nat) : Int) := by unfold wrap64; omega
theorem fits_loop (l : List ByteArray) (hl : l.length ≤ 2147483647) : ∀ (d i : Nat), l.length - i = d → i ≤ l.length → ∃ b, Ev (fun k => laws_zzFits5.l0 k l (l.length : Int) (i : Int)) b ∧ (b = true → ∀ j (h : j < l.length), i ≤ j → l[j].size ≤ 2147483647) := by
  intro d
  induction d with
  | zero =>
    intro i hd hi
    refine ⟨true, Ev.step (f := fun _ => some true) (fun k => ?_) (Ev.now _), fun _ j h h2 => by omega⟩
    simp only [laws_zzFits5.l0]
    rw [if_neg (by omega)]
  | succ d ih =>
    intro i hd hi
    obtain ⟨b, hb, h2⟩ := ih (i + 1) (by omega) (by omega)
    by_cases hs : l[i].size ≤ 2147483647
    · refine ⟨b, Ev.step (fun k => ?_) hb, fun e j h h3 => ?_⟩
      · simp only [laws_zzFits5.l0]
        rw [if_pos (by omega), if_pos (by omega), if_pos (by omega), rdOf_get (by omega), if_neg (by omega), wrap_s i (by omega)]
      · rcases Nat.lt_or_ge i j with h4 | h4
        · exact h2 e j h (by omega)
        · obtain rfl : i = j := by omega
          exact hs
    · refine ⟨false, Ev.step (f := fun _ => some false) (fun k => ?_) (Ev.now _), fun e => by cases e⟩
      simp only [laws_zzFits5.l0]
      rw [if_pos (by omega), if_pos (by omega), if_pos (by omega), rdOf_get (by omega), if_pos (by omega)]
theorem fits5 (l : List ByteArray) : ∃ b, Ev (fun k => laws_zzFits5.f k l) b ∧ (b = true → l.length ≤ 2147483647 ∧ ∀ j (h : j < l.length), l[j].size ≤ 2147483647) := by
  by_cases hl : l.length ≤ 2147483647
  · obtain ⟨b, hb, h2⟩ := fits_loop l hl _ 0 rfl (Nat.zero_le _)
    refine ⟨b, Ev.congr (fun k => ?_) hb, fun e => ⟨hl, fun j h => h2 e j h (Nat.zero_le _)⟩⟩
    simp only [laws_zzFits5.f]
    rw [if_neg (by omega)]
    rfl
  · refine ⟨false, Ev.congr (f := fun _ => some false) (fun k => ?_) (Ev.now _), fun e => by cases e⟩
    simp only [laws_zzFits5.f]
    rw [if_pos (by omega)]
theorem runes_ev (s : ByteArray) (hs : s.size ≤ 2147483647) (k : Nat) : spec_Runes29.f k s = some (Lib.runeCount s : Int) := by
  unfold spec_Runes29.f
  rw [if_pos (by omega)]
theorem wide_loop (l : List ByteArray) (ws : List Int) (hlen : ws.length = l.length) (hl : l.length ≤ 2147483647) (hs : ∀ j (h : j < l.length), l[j].size ≤ 2147483647) : ∀ (d i : Nat), l.length - i = d → i ≤ l.length → Ev (fun k => laws_wide29.l0 k l ws (ws.length : Int) (i : Int)) (fitsW (l.drop i) (ws.drop i)) := by
  intro d
  induction d with
  | zero =>
    intro i hd hi
    rw [List.drop_of_length_le (by omega), List.drop_of_length_le (by omega)]
    refine Ev.step (f := fun _ => some true) (fun k => ?_) (Ev.now _)
    simp only [laws_wide29.l0]
    rw [if_neg (by omega)]
  | succ d ih =>
    intro i hd hi
    have hi1 : i < l.length := by omega
    have hi2 : i < ws.length := by omega
    have hb := ih (i + 1) (by omega) (by omega)
    rw [List.drop_eq_getElem_cons hi1, List.drop_eq_getElem_cons hi2]
    have hst : ∀ k, laws_wide29.l0 (k + 1) l ws (ws.length : Int) (i : Int) = if ws[i] < (Lib.runeCount l[i] : Int) then some false else if ws[i] > 1000 then some false else laws_wide29.l0 k l ws (ws.length : Int) ((i + 1 : Nat) : Int) := by
      intro k
      simp only [laws_wide29.l0]
      rw [if_pos (by omega), if_pos (by omega), if_pos (by omega), if_pos (by omega), rdOf_get hi1, rdI_get hi2, runes_ev _ (hs i hi1), wrap_s i (by omega)]
      rfl
    by_cases h1 : ws[i] < (Lib.runeCount l[i] : Int)
    · refine Ev.step (f := fun _ => some false) (fun k => by rw [hst, if_pos h1]) ?_
      have : fitsW (l[i] :: l.drop (i + 1)) (ws[i] :: ws.drop (i + 1)) = false := by
        unfold fitsW
        rw [decide_eq_false (by omega)]
        simp
      rw [this]
      exact Ev.now _
    · by_cases h2 : ws[i] > 1000
      · refine Ev.step (f := fun _ => some false) (fun k => by rw [hst, if_neg h1, if_pos h2]) ?_
        have : fitsW (l[i] :: l.drop (i + 1)) (ws[i] :: ws.drop (i + 1)) = false := by
          unfold fitsW
          rw [show decide (ws[i] ≤ 1000) = false from decide_eq_false (by omega)]
          simp
        rw [this]
        exact Ev.now _
      · have : fitsW (l[i] :: l.drop (i + 1)) (ws[i] :: ws.drop (i + 1)) = fitsW (l.drop (i + 1)) (ws.drop (i + 1)) := by
          conv => lhs; unfold fitsW
          rw [show decide (ws[i] ≤ 1000) = true from decide_eq_true (by omega), show decide ((Lib.runeCount l[i] : Int) ≤ ws[i]) = true from decide_eq_true (by omega)]
          simp
        rw [this]
        exact Ev.step (fun k => by rw [hst, if_neg h1, if_neg h2]) hb
theorem blank_bytes : bytesOf (⟨#[32]⟩ : ByteArray) = [32] := rfl
theorem times_loop (n : Nat) (hn : n ≤ 1000) : ∀ (d i : Nat), n - i = d → i ≤ n → Ev (fun k => spec_Times29.l0 k ⟨#[32]⟩ (List.replicate i 32) (n : Int) (i : Int)) ⟨(List.replicate n (32 : UInt8)).toArray⟩ := by
  intro d
  induction d with
  | zero =>
    intro i hd hi
    obtain rfl : i = n := by omega
    refine Ev.step (f := fun _ => some ⟨(List.replicate i (32 : UInt8)).toArray⟩) (fun k => ?_) (Ev.now _)
    simp only [spec_Times29.l0]
    rw [if_neg (by omega)]
    congr 1
    unfold strOfNums
    simp
  | succ d ih =>
    intro i hd hi
    refine Ev.step (fun k => ?_) (ih (i + 1) (by omega) (by omega))
    simp only [spec_Times29.l0]
    rw [if_pos (by omega), if_pos (by rw [List.length_replicate]; show i + 1 < _; omega), blank_bytes, wrap_s i (by omega), List.replicate_succ']
theorem times_ev (n : Nat) (hn : n ≤ 1000) : Ev (fun k => spec_Times29.f k ⟨#[32]⟩ (n : Int)) ⟨(List.replicate n (32 : UInt8)).toArray⟩ := times_loop n hn _ 0 rfl (Nat.zero_le _)
/-- Texts as lists of bytes. -/
def tx (l : List UInt8) : ByteArray := ⟨l.toArray⟩
theorem tx_append (l m : List UInt8) : tx l ++ tx m = tx (l ++ m) := by
  apply ByteArray.ext
  rw [ByteArray.data_append]
  simp [tx]
theorem tx_size (l : List UInt8) : (tx l).size = l.length := by simp [tx, ByteArray.size]
theorem tx_self (s : ByteArray) : s = tx s.data.toList := by
  apply ByteArray.ext
  simp [tx]
/-- Which way of padding. -/
def alP (p : Int) : Bool := !(p == 2) && !(p == 3)
def mnP (p : Int) : Bool := p == 2
theorem rowT_eq (p : Int) (l : List ByteArray) (ws : List Int) (h : l.length ≠ 0) : rowT (padP p) l ws = [124] ++ rowUp (alP p) (mnP p) l ws := by
  unfold rowT
  rw [if_neg h]
  congr 2
  · unfold padP alP
    by_cases h2 : p = 2
    · rw [if_pos h2, h2, Lib.toList_data]; rfl
    · rw [if_neg h2, beq_eq_false_iff_ne.2 h2]
      by_cases h3 : p = 3
      · rw [if_pos h3, h3, Lib.toList_data]; rfl
      · rw [if_neg h3, beq_eq_false_iff_ne.2 h3, Lib.toList_data]; rfl
  · unfold padP mnP
    by_cases h2 : p = 2
    · rw [if_pos h2, h2, Lib.toList_data]; rfl
    · rw [if_neg h2, beq_eq_false_iff_ne.2 h2]
      by_cases h3 : p = 3
      · rw [if_pos h3, Lib.toList_data]; rfl
      · rw [if_neg h3, Lib.toList_data]; rfl
theorem row_loop (p : Int) (l : List ByteArray) (ws : List Int) (hlen : ws.length = l.length) (hl : l.length ≤ 2147483647) (hw : ∀ j (h : j < l.length) (h' : j < ws.length), Wide l[j] ws[j]) : ∀ (d i : Nat), l.length - i = d → i ≤ l.length → ∀ X : List UInt8, X.length ≤ 10000 * i + 1 → Ev (fun k => laws_row29.l0 k p ws (tx X) l (l.length : Int) (i : Int)) (tx (X ++ rowUp (alP p) (mnP p) (l.drop i) (ws.drop i))) := by
  intro d
  induction d with
  | zero =>
    intro i hd hi X hX
    rw [List.drop_of_length_le (by omega), List.drop_of_length_le (by omega)]
    refine Ev.step (f := fun _ => some (tx X)) (fun k => ?_) ?_
    · simp only [laws_row29.l0]
      rw [if_neg (by omega)]
    · rw [show X ++ rowUp (alP p) (mnP p) [] [] = X by simp [rowUp]]
      exact Ev.now _
  | succ d ih =>
    intro i hd hi X hX
    have hi1 : i < l.length := by omega
    have hi2 : i < ws.length := by omega
    have hW := hw i hi1 hi2
    have hpl := piece_len (alP p) (mnP p) _ _ hW
    obtain ⟨hW1, hW2, hW3⟩ := hW
    have hb := ih (i + 1) (by omega) (by omega) (X ++ piece (alP p) (mnP p) l[i] ws[i]) (by rw [List.length_append]; omega)
    rw [List.drop_eq_getElem_cons hi1, List.drop_eq_getElem_cons hi2]
    rw [show X ++ rowUp (alP p) (mnP p) (l[i] :: l.drop (i + 1)) (ws[i] :: ws.drop (i + 1)) = X ++ piece (alP p) (mnP p) l[i] ws[i] ++ rowUp (alP p) (mnP p) (l.drop (i + 1)) (ws.drop (i + 1)) by rw [List.append_assoc]; rfl]
    have hr := runes_ev l[i] (by omega)
    have hge := rdOf_get hi1
    have hgw := rdI_get hi2
    have hws := wrap_s i (by omega)
    generalize l[i] = s at *
    generalize ws[i] = wd at *
    have hsl : s.data.toList.length = s.size := data_length s
    have e32 : (⟨#[32]⟩ : ByteArray) = tx [32] := rfl
    have e124 : (⟨#[124]⟩ : ByteArray) = tx [124] := rfl
    have es := tx_self s
    by_cases h2 : p = 2
    · have hp : piece (alP p) (mnP p) s wd = [32] ++ s.data.toList ++ [32] ++ [124] := by rw [h2]; unfold piece alP mnP sp1; simp
      rw [hp] at hb hpl ⊢
      refine Ev.step (fun k => ?_) hb
      simp only [laws_row29.l0]
      rw [if_pos (by omega), if_pos (by omega), if_pos (by omega), if_pos h2, hge, e32, e124, es]
      simp only [tx_append, tx_size, hws]
      rw [if_pos (by simp; omega), if_pos (by simp; omega), if_pos (by simp; omega), if_pos (by simp; omega)]
      simp only [List.append_assoc]
      try rfl
    · by_cases h3 : p = 3
      · have hp : piece (alP p) (mnP p) s wd = s.data.toList ++ [124] := by rw [h3]; unfold piece alP mnP sp1; simp
        rw [hp] at hb hpl ⊢
        refine Ev.step (fun k => ?_) hb
        simp only [laws_row29.l0]
        rw [if_pos (by omega), if_pos (by omega), if_pos (by omega), if_neg h2, if_pos h3, hge, e124, es]
        simp only [tx_append, tx_size, hws]
        rw [if_pos (by simp; omega), if_pos (by simp; omega)]
        simp only [List.append_assoc]
        try rfl
      · obtain ⟨n, hn⟩ : ∃ n : Nat, wd - (Lib.runeCount s : Int) = (n : Int) := ⟨(wd - (Lib.runeCount s : Int)).toNat, by omega⟩
        have hal : alP p = true := by unfold alP; rw [beq_eq_false_iff_ne.2 h2, beq_eq_false_iff_ne.2 h3]; rfl
        have hp : piece (alP p) (mnP p) s wd = [32] ++ s.data.toList ++ List.replicate n 32 ++ [32] ++ [124] := by rw [hal]; unfold piece; rw [hn, Int.toNat_natCast]; rfl
        rw [hp] at hb hpl ⊢
        have hwn : wrap64 (wd - (Lib.runeCount s : Int)) = (n : Int) := by rw [hn]; unfold wrap64; omega
        refine Ev.step (f := fun k => (spec_Times29.f k (⟨#[32]⟩ : ByteArray) (n : Int)).bind fun t => (if ((⟨#[32]⟩ : ByteArray) ++ s).size + t.size ≤ 9223372036854775807 then (if (((⟨#[32]⟩ : ByteArray) ++ s) ++ t).size + 1 ≤ 9223372036854775807 then (if (tx X).size + ((((⟨#[32]⟩ : ByteArray) ++ s) ++ t) ++ (⟨#[32]⟩ : ByteArray)).size ≤ 9223372036854775807 then (if (tx X ++ ((((⟨#[32]⟩ : ByteArray) ++ s) ++ t) ++ (⟨#[32]⟩ : ByteArray))).size + 1 ≤ 9223372036854775807 then (laws_row29.l0 k p ws ((tx X ++ ((((⟨#[32]⟩ : ByteArray) ++ s) ++ t) ++ (⟨#[32]⟩ : ByteArray))) ++ (⟨#[124]⟩ : ByteArray)) l (l.length : Int) ((i + 1 : Nat) : Int)) else (none)) else (none)) else (none)) else (none))) (fun k => ?_) ?_
        · simp only [laws_row29.l0]
          rw [if_pos (by omega), if_pos (by omega), if_pos (by omega), if_neg h2, if_neg h3, hge, hgw, hws, if_pos (by omega), if_pos (by omega), hr]
          simp only [Option.bind_some]
          rw [hwn]
        · refine Ev.bind (times_ev n (by omega)) ?_
          refine Ev.congr (fun k => ?_) hb
          rw [show (⟨(List.replicate n (32 : UInt8)).toArray⟩ : ByteArray) = tx (List.replicate n 32) from rfl, e32, e124, es]
          simp only [tx_append, tx_size]
          rw [if_pos (by simp; omega), if_pos (by simp; omega), if_pos (by simp; omega), if_pos (by simp; omega)]
          simp only [List.append_assoc]
          try rfl
theorem row_ev (p : Int) (l : List ByteArray) (ws : List Int) (hlen : ws.length = l.length) (hl : l.length ≤ 2147483647) (hw : ∀ j (h : j < l.length) (h' : j < ws.length), Wide l[j] ws[j]) : Ev (fun k => laws_row29.f k p ws l) (tx ([124] ++ rowUp (alP p) (mnP p) l ws)) := by
  have := row_loop p l ws hlen hl hw _ 0 rfl (Nat.zero_le _) [124] (by simp)
  exact this
theorem wide_ev (l : List ByteArray) (ws : List Int) (hl : l.length ≤ 2147483647) (hs : ∀ j (h : j < l.length), l[j].size ≤ 2147483647) : Ev (fun k => laws_wide29.f k ws l) (fitsW l ws) := by
  by_cases h : ws.length = l.length
  · refine Ev.congr (fun k => ?_) (wide_loop l ws h hl hs _ 0 rfl (Nat.zero_le _))
    simp only [laws_wide29.f]
    rw [if_pos (by omega)]
    rfl
  · have hf : fitsW l ws = false := by
      cases e : fitsW l ws with
      | false => rfl
      | true => exact absurd (fitsW_len e) h
    rw [hf]
    refine Ev.congr (f := fun _ => some false) (fun k => ?_) (Ev.now _)
    simp only [laws_wide29.f]
    rw [if_neg (by omega)]
theorem law_ev (p : Int) (ws : List Int) (l : List ByteArray) : Ev (fun k => laws_FnRow.f k p ws l) true := by
  by_cases h1 : (ws.length : Int) > 2147483647
  · refine Ev.congr (f := fun k => laws_FnRow.j0 k p ws l true) (fun k => by unfold laws_FnRow.f; rw [if_pos h1]) ?_
    exact Ev.step (f := fun _ => some true) (fun k => by simp [laws_FnRow.j0]) (Ev.now _)
  · obtain ⟨b, hb, hfit⟩ := fits5 l
    refine Ev.congr (f := fun k => (laws_zzFits5.f k l).bind fun t => laws_FnRow.j0 k p ws l (!t)) (fun k => by unfold laws_FnRow.f; rw [if_neg h1]) (Ev.bind hb ?_)
    cases b with
    | false => exact Ev.step (f := fun _ => some true) (fun k => by simp [laws_FnRow.j0]) (Ev.now _)
    | true =>
      obtain ⟨hl, hs⟩ := hfit rfl
      have j1t : Ev (fun k => laws_FnRow.j1 k p ws l true) true := Ev.step (f := fun _ => some true) (fun k => by simp [laws_FnRow.j1]) (Ev.now _)
      by_cases h2 : p < 0
      · exact Ev.step (fun k => by simp [laws_FnRow.j0, h2]) j1t
      · by_cases h3 : p > 3
        · exact Ev.step (fun k => by simp only [laws_FnRow.j0]; rw [if_neg (by simp), if_neg h2, if_pos h3]) j1t
        · refine Ev.step (f := fun k => (laws_wide29.f k ws l).bind fun t => (if t = true then (laws_FnRow.j1 k p ws l ((l.length : Int) == 0)) else (laws_FnRow.j1 k p ws l true))) (fun k => by simp only [laws_FnRow.j0]; rw [if_neg (by simp), if_neg h2, if_neg h3]) (Ev.bind (wide_ev l ws hl hs) ?_)
          cases hf : fitsW l ws with
          | false => exact Ev.congr (fun k => by rw [if_neg (by simp)]) j1t
          | true =>
            refine Ev.congr (f := fun k => laws_FnRow.j1 k p ws l ((l.length : Int) == 0)) (fun k => by rw [if_pos rfl]) ?_
            by_cases h0 : l.length = 0
            · rw [show ((l.length : Int) == 0) = true by rw [h0]; rfl]
              exact j1t
            · rw [show ((l.length : Int) == 0) = false from beq_eq_false_iff_ne.2 (by omega)]
              refine Ev.step (f := fun k => (impl_Row.f k p ws l).bind fun t117 => ((laws_row29.f k p ws l).bind fun t118 => (some (t117.toList == t118.toList)))) (fun k => by simp only [laws_FnRow.j1]; rw [if_neg (by simp)]) ?_
              refine Ev.bind (a := tx ([124] ++ rowUp (alP p) (mnP p) l ws)) (Ev.congr (f := fun _ => some (tx ([124] ++ rowUp (alP p) (mnP p) l ws))) (fun k => ?_) (Ev.now _)) (Ev.bind (row_ev p l ws (fitsW_len hf) hl (fitsW_get hf)) ?_)
              · unfold impl_Row.f
                rw [if_pos ⟨hf, hl⟩, rowT_eq p l ws h0]
                rfl
              · exact Ev.congr (f := fun _ => some true) (fun k => by simp) (Ev.now _)
theorem row_walk (a0 : Int) (A1 : Option Addr) (c1 : Nat) (l1 : List Int) (A2 : Option Addr) (c2 : Nat) (l2 : List ByteArray) (w : World) (_ : (Lit.int .i64 a0).wf = true) (hr1 : Kd.C (Kd.int .i64) w A1 l1.length l1) (hc1 : l1.length ≤ c1) (_ : l1.length * 8 ≤ 140737488351232) (_ : ∀ x ∈ l1, (Lit.int .i64 x).wf = true) (hr2 : Kd.C Kd.string w A2 l2.length l2) (hc2 : l2.length ≤ c2) (_ : l2.length * 16 ≤ 140737488351232) (_ : ∀ s ∈ l2, s.size ≤ 140737488351232) :
    Calls Try.prog 4 #[.int .i64 a0, .slice A1 l1.length c1, .slice A2 l2.length c2] w fun e w' => e = .returned (.bool true) ∧ Below w.heap.size w w' := by
  obtain ⟨k, hk⟩ := (law_ev a0 l1 l2).rounds
  exact laws_FnRow.calls k a0 A1 c1 l1 A2 c2 l2 true w hr1 hc1 hr2 hc2 hk
end Go.Proofs.Ytfciokcielponaa.PRow

/- Arguments opened: what the reading of a datum says of memory, for texts, numbers, slices and structs, and how large they are. Each as large as a row's reach allows. -/
namespace Go.Proofs.Ytfciokcielponaa.Open
open Go.RowKit Go.ChangeShapes Go.WideShapes Go.Proofs.YtfciokcielponaaW.PrintWords Go.Proofs.YtfciokcielponaaW.PrintLast Go.Proofs.YtfciokcielponaaW.PrintMore

/-- A datum of type t that is read within the fuel tells a value of kind k in memory, and the value is Good. -/
def Opens {α : Type} (P : Program) (t : TypeId) (k : Kd α) (Good : α → Prop) (fuel : Nat) : Prop :=
  ∀ (H : Type) (enc : TypeId × Value → H) (W : World) (base : Nat) (spare : Nat → Bool) (held : Bool) (cs : List Value) (x : DataW H × List MemPlace),
    DataW.trod enc P W base spare held fuel t cs = some x → (∀ n ∈ x.1.weights P t, n ≤ reachBytes) → ∃ y, k.K W y cs ∧ Good y

theorem opens_string {P : Program} {t : TypeId} (ht : P.underlying t = some .string) (fuel : Nat) : Opens P t Kd.string (fun s => s.size ≤ 140737488351232) fuel := by
  intro H enc W base spare held cs x h hw
  obtain ⟨s, rfl, rfl, _⟩ := DataW.trod_string ht h
  refine ⟨s, rfl, ?_⟩
  have := hw s.data.toList.length (by simp [DataW.weights])
  rw [Array.length_toList] at this
  exact this
theorem opens_int {P : Program} {t : TypeId} {k : IntKind} (ht : P.underlying t = some (.int k)) (fuel : Nat) : Opens P t (Kd.int k) (fun n => (Lit.int k n).wf = true) fuel := by
  intro H enc W base spare held cs x h hw
  obtain ⟨n, rfl, rfl, hwf⟩ := DataW.trod_int ht h
  exact ⟨n, rfl, hwf⟩

theorem weights_all {H : Type} {P : Program} {e : TypeId} : ∀ {ds : List (DataW H)} {d : DataW H}, d ∈ ds → ∀ n ∈ d.weights P e, n ∈ DataW.weightsAll P e ds
  | d0 :: ds, d, hd, n, hn => by
    simp only [DataW.weightsAll, List.mem_append]
    rcases List.mem_cons.1 hd with rfl | hd
    · exact .inl hn
    · exact .inr (weights_all hd n hn)
theorem addr_add (a : Addr) (i j : Nat) : (a.add i).add j = a.add (i + j) := by
  unfold Addr.add
  by_cases h1 : i = 0 <;> by_cases h2 : j = 0 <;> simp [h1, h2, Nat.add_assoc]

theorem opens_slice {α : Type} {P : Program} {t e : TypeId} {k : Kd α} {Good : α → Prop} (ht : P.underlying t = some (.slice e)) (hc : P.cellsOf e = k.sz) {B : Nat} (hB : P.bytesOf e = B) (fuel : Nat) (he : ∀ n, n < fuel → Opens P e k Good n) :
    Opens P t (Kd.slice e k) (fun xs => xs.length * B ≤ 140737488351232 ∧ ∀ x ∈ xs, Good x) fuel := by
  intro H enc W base spare held cs x h hw
  rcases DataW.trod_slice ht h with ⟨rfl, rfl⟩ | ⟨a, len, cap, elems, rest, n, rfl, rfl, rfl, hb, hl, hm, hlen, hel, hsp, hns⟩
  · exact ⟨[], ⟨none, 0, rfl, Nat.le_refl _, Kd.C_nil _ _⟩, by simp, fun _ h => by cases h⟩
  · have hwt : (elems.length + rest.length) * B ≤ reachBytes := by
      refine hw _ ?_
      simp only [DataW.weights, ht, List.length_map, hB]
      exact List.mem_cons_self ..
    have each : ∀ i, i < len → ∃ y : α, Good y ∧ ∃ c : List Value, c.length = k.sz ∧ k.K W y c ∧ ∀ j u, c[j]? = some u → W.cell? (a.add (i * k.sz + j)) = some u := by
      intro i hi
      have h1 := hel i hi
      rw [hc, List.getElem?_eq_getElem (by omega)] at h1
      obtain ⟨c, hcs, hy⟩ := Option.bind_eq_some_iff.1 h1
      obtain ⟨_, hcl, hcc⟩ := World.cells?_some hcs
      obtain ⟨y, hK, hG⟩ := he n (by omega) H enc W base spare held c _ hy (fun q hq => hw q (by
        simp only [DataW.weights, ht, List.mem_cons, List.mem_append]
        exact .inr (.inl (weights_all (List.mem_map.2 ⟨elems[i], List.getElem_mem _, rfl⟩) q hq))))
      refine ⟨y, hG, c, hcl, hK, fun j u hu => ?_⟩
      have hj : j < k.sz := by have := (List.getElem?_eq_some_iff.1 hu).1; omega
      have h2 := hcc j hj
      rw [addr_add] at h2
      rw [h2]
      exact hu
    let ys : List α := List.ofFn fun i : Fin len => Classical.choose (each i i.isLt)
    have hyl : ys.length = len := List.length_ofFn
    have hyg : ∀ (i : Nat) (hi : i < len), ys[i]'(by omega) = Classical.choose (each i hi) := fun i hi => by simp [ys]
    refine ⟨ys, ⟨some a, cap, by rw [hyl], by omega, rfl, ?_, fun hp => ⟨a, rfl, fun j p hj => ?_⟩⟩, ?_, fun y hy => ?_⟩
    · rw [hyl]
      simp only [maxLen] at hm
      omega
    · obtain ⟨hjl, rfl⟩ := List.getElem?_eq_some_iff.1 hj
      have h1 := Classical.choose_spec (each j (by omega))
      rw [hyg j (by omega)]
      exact h1.2
    · rw [hyl]
      refine Nat.le_trans (Nat.mul_le_mul_right _ ?_) hwt
      omega
    · obtain ⟨i, hi, rfl⟩ := List.getElem_of_mem hy
      rw [hyg i (by omega)]
      exact (Classical.choose_spec (each i (by omega))).1

/-- An argument of a law that is a slice: its value, what it reads as, how large. -/
theorem open_slice {α : Type} {P : Program} {t e : TypeId} {k : Kd α} {Good : α → Prop} {B : Nat} {H : Type} {enc : TypeId × Value → H} {W : World} {base : Nat} {spare : Nat → Bool} {held : Bool} {v : Value} {d : DataW H} {ps : List MemPlace} {ts : List TypeId} {ds : List (DataW H)} {j : Nat}
    (hO : ∀ fuel, Opens P t (Kd.slice e k) (fun xs => xs.length * B ≤ 140737488351232 ∧ ∀ x ∈ xs, Good x) fuel) (hd : DataW.Trod enc P W base spare held t v d ps)
    (hsz : (DataW.weightsEach P ts ds).all (· ≤ reachBytes) = true) (ht : ts[j]? = some t) (hdj : ds[j]? = some d) :
    ∃ (xs : List α) (A : Option Addr) (c : Nat), v.cells.toList = [.slice A xs.length c] ∧ xs.length ≤ c ∧ k.C W A xs.length xs ∧ xs.length * B ≤ 140737488351232 ∧ ∀ x ∈ xs, Good x := by
  obtain ⟨fuel, hf⟩ := hd
  obtain ⟨xs, ⟨A, c, hcs, hl, hC⟩, hB, hG⟩ := hO fuel H enc W base spare held _ _ hf (fun n hn => by
    have := List.all_eq_true.1 hsz n (DataW.weights_mem_each ht hdj n hn)
    simpa using this)
  exact ⟨xs, A, c, hcs, hl, hC, hB, hG⟩

end Go.Proofs.Ytfciokcielponaa.Open

/- The row of the law FnRow, out of its walk. No further conditions. -/
namespace Go.Proofs.Ytfciokcielponaa.fnRow
open Go.ChangeShapes Go.WideShapes Go.ChangeAt Go.RowKit
open Go.ChangeMaps (open_string shut_string)
open Go.Proofs.Ytfciokcielponaa.PRow
set_option linter.unusedVariables false
theorem own : ownKnob Try.prog.godebug = none := by kernel_rfl
theorem laidOut : laidOutB Try.prog = true := by kernel_rfl
set_option maxRecDepth 100000 in
theorem lifted (os : Os) (started : os.Started) (H : Type) (enc : TypeId × Value → H) :
    ReturnsInHanded {} Try.checked os 4 .any (Rows.fnRowSpec.pre6 enc Try.prog Try.f4 Rows.fnRowRow.domain false) (Rows.fnRowSpec.post enc Try.prog Try.f4 false true false false) := by
  refine returnsInHanded_of_change_sized (C := Try.checked) own started (by kernel_rfl) Try.func4
    (ChangeSpec.witness6 (enc := enc) (C := Try.checked) false ⟨#[], #[.int .i64 0, .slice none 0 0, .slice none 0 0], []⟩ 8 (by kernel_rfl) (by kernel_rfl) (by kernel_rfl) (by kernel_rfl)) ?_
  intro W base args ds gs before hval0 hW hcnd hsz0 _
  have hsz : (DataW.weightsEach Try.prog (Try.f4.params.toList ++ Rows.fnRowSpec.plain.varTypes Try.prog) (ds ++ gs)).all (· ≤ reachBytes) = true := hsz0
  have hval : ∀ (j : Nat) t v, Try.f4.params[j]? = some t → args[j]? = some v → Value.okWide Try.prog W .any base t v := hval0
  have hW' := hW
  obtain ⟨p, q, hA0, hV, rfl, hfz, hnd⟩ := hW
  have hA : DataW.TrodAll enc Try.prog W 0 (fun _ => true) true Try.f4.params.toList args.toList ds p := hA0
  rw [Try.params4] at hA hval hsz
  obtain ⟨v0, vs0, d0, ds0, p0, q0, hargs, rfl, rfl, h0, r0⟩ := trodAll_cons hA
  obtain ⟨v1, vs1, d1, ds1, p1, q1, rfl, rfl, rfl, h1, r1⟩ := trodAll_cons r0
  obtain ⟨v2, vs2, d2, ds2, p2, q2, rfl, rfl, rfl, h2, r2⟩ := trodAll_cons r1
  obtain ⟨rfl, rfl, rfl⟩ := trodAll_nil r2
  obtain rfl : args = #[v0, v1, v2] := by cases args; simp_all
  obtain ⟨rfl, rfl⟩ := trodVars_none hV
  obtain ⟨a0, rfl, rfl, rfl, w0⟩ := open_int Try.underlying3 (hval 0 3 v0 rfl rfl) h0
  obtain ⟨a1, len1, cap1, rfl⟩ := okWide_slice Try.underlying28 (hval 1 28 v1 rfl rfl)
  have k1 := h1
  have lt1 : ∀ x ∈ p1, x.block < W.heap.size := by obtain ⟨m, hm⟩ := k1; exact DataW.trod_lt m _ _ _ hm
  obtain ⟨x1, A1, c1, hcs1, hl1, hC1, hB1, hG1⟩ := Open.open_slice (fun fuel => (Open.opens_slice Try.underlying28 (by kernel_rfl) (B := 8) (by kernel_rfl) fuel (fun n4 _ => (Open.opens_int Try.underlying3 n4)))) h1 hsz (j := 1) (t := 28) rfl rfl
  obtain ⟨rfl, rfl, rfl⟩ : a1 = A1 ∧ len1 = x1.length ∧ cap1 = c1 := by simpa [Value.cells] using hcs1
  obtain ⟨a2, len2, cap2, rfl⟩ := okWide_slice Try.underlying24 (hval 2 24 v2 rfl rfl)
  have k2 := h2
  have lt2 : ∀ x ∈ p2, x.block < W.heap.size := by obtain ⟨m, hm⟩ := k2; exact DataW.trod_lt m _ _ _ hm
  obtain ⟨x2, A2, c2, hcs2, hl2, hC2, hB2, hG2⟩ := Open.open_slice (fun fuel => (Open.opens_slice Try.underlying24 (by kernel_rfl) (B := 16) (by kernel_rfl) fuel (fun n4 _ => (Open.opens_string Try.underlying9 n4)))) h2 hsz (j := 2) (t := 24) rfl rfl
  obtain ⟨rfl, rfl, rfl⟩ : a2 = A2 ∧ len2 = x2.length ∧ cap2 = c2 := by simpa [Value.cells] using hcs2
  clear hA0 hval0 hsz0
  refine (PRow.row_walk a0 a1 cap1 x1 a2 cap2 x2 W w0 hC1 hl1 hB1 hG1 hC2 hl2 hB2 hG2).mono fun e W' ⟨he, bel⟩ => ?_
  subst he
  exact ⟨_, rfl, _, _, _, [], _, [], hW', trodAll_mk1 (shut_bool Try.underlying4 _), (trodAll_cons_mk (shut_int Try.underlying3 w0) (trodAll_cons_mk (Below.trod laidOut (by kernel_rfl) (of_decide_eq_true (by kernel_rfl)) k1 bel lt1) (trodAll_cons_mk (Below.trod laidOut (by kernel_rfl) (of_decide_eq_true (by kernel_rfl)) k2 bel lt2) trodAll_mk0))), rfl, bel.frame _, fun h => by cases h⟩
theorem over : Rows.fnRowRow.holds Try.pinned (OpenSpec.ofChange Rows.fnRowSpec) :=
  OpenClaim.holds_of_wide 4 Try.f4 rfl rfl rfl rfl rfl rfl rfl ⟨rfl, rfl, rfl, rfl, rfl⟩ rfl rfl rfl rfl rfl (by kernel_rfl) Try.func4 (by kernel_rfl)
    (of_decide_eq_true (by kernel_rfl)) (by unfold Func.isWrapper; first | (rw [if_pos (by decide +kernel)]; kernel_rfl) | (rw [if_neg (by decide +kernel)]; exact ⟨rfl, rfl⟩))
    (fun os started H enc _ => lifted os started H enc)
theorem proved : Rows.FnRowSaid := over
#print axioms proved
end Go.Proofs.Ytfciokcielponaa.fnRow
namespace Go.Proofs.Ytfciokcielponaa
/-- The row, under a short name, for the claim. -/
theorem fnRow_holds : Rows.FnRowSaid := fnRow.proved
end Go.Proofs.Ytfciokcielponaa
