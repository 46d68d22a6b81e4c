/- Plain facts on texts as lists of numbers: joined, cut, read back. No conditions. -/
import Derived.Test.YtbhcoeabhdangaaDoorWMore
import Derived.Lib.Bytes
namespace Go.Proofs.YtbhcoeabhdangaaDoor.Txt
open Go.RowKit Go.Proofs.YtbhcoeabhdangaaDoorW.PrintWords Go.Proofs.YtbhcoeabhdangaaDoorW.PrintLast Go.Proofs.YtbhcoeabhdangaaDoorW.PrintMore

/-- All numbers are bytes. -/
def Byt (l : List Int) : Prop := ∀ x ∈ l, 0 ≤ x ∧ x < 256
theorem Byt.nil : Byt [] := fun _ h => by cases h
theorem Byt.app {a b : List Int} (h : Byt a) (k : Byt b) : Byt (a ++ b) := fun x hx => by
  rcases List.mem_append.1 hx with h1 | h1
  · exact h x h1
  · exact k x h1
theorem Byt.one {x : Int} (h0 : 0 ≤ x) (h1 : x < 256) : Byt [x] := fun y hy => by
  obtain rfl : y = x := by simpa using hy
  exact ⟨h0, h1⟩
theorem Byt.cons {x : Int} {l : List Int} (h0 : 0 ≤ x) (h1 : x < 256) (h : Byt l) : Byt (x :: l) := (Byt.one h0 h1).app h
theorem Byt.take {l : List Int} (h : Byt l) (n : Nat) : Byt (l.take n) := fun x hx => h x (List.mem_of_mem_take hx)
theorem Byt.drop {l : List Int} (h : Byt l) (n : Nat) : Byt (l.drop n) := fun x hx => h x (List.mem_of_mem_drop hx)
theorem Byt.of (s : ByteArray) : Byt (bytesOf s) := fun x hx => by
  obtain ⟨b, _, rfl⟩ := List.mem_map.1 hx
  have := b.toNat_lt
  omega
theorem str_size (l : List Int) : (strOfNums l).size = l.length := by simp [strOfNums, ByteArray.size]
theorem str_append (a b : List Int) : strOfNums (a ++ b) = strOfNums a ++ strOfNums b := by
  apply ByteArray.ext
  rw [ByteArray.data_append]
  simp [strOfNums]
theorem str_bytes (s : ByteArray) : strOfNums (bytesOf s) = s := by
  apply ByteArray.ext
  apply Array.ext'
  show ((bytesOf s).map fun n => UInt8.ofNat n.toNat) = s.data.toList
  unfold bytesOf
  rw [List.map_map]
  exact (List.map_congr_left (fun b _ => by simp)).trans (List.map_id _)
theorem bytes_str {l : List Int} (h : Byt l) : bytesOf (strOfNums l) = l := by
  show ((l.map fun n => UInt8.ofNat n.toNat).map fun b => (b.toNat : Int)) = l
  rw [List.map_map]
  refine (List.map_congr_left (fun x hx => ?_)).trans (List.map_id _)
  have := h x hx
  show ((UInt8.ofNat x.toNat).toNat : Int) = x
  rw [UInt8.toNat_ofNat']
  omega
theorem bytes_append (a b : ByteArray) : bytesOf (a ++ b) = bytesOf a ++ bytesOf b := by
  unfold bytesOf
  rw [ByteArray.data_append]
  simp
theorem bytes_inj {a b : ByteArray} (h : bytesOf a = bytesOf b) : a = b := by rw [← str_bytes a, ← str_bytes b, h]
theorem bt_rd (s : ByteArray) (i : Int) : bt s i = rd (bytesOf s) i := (rd_bytesOf s i).symm
theorem bt_str {l : List Int} (h : Byt l) (i : Int) : bt (strOfNums l) i = rd l i := by rw [bt_rd, bytes_str h]
theorem rd_get {l : List Int} {i : Nat} (h : i < l.length) : rd l (i : Int) = l[i] := by simp [rd, List.getD_eq_getElem?_getD, List.getElem?_eq_getElem h]
theorem bytes_extract (s : ByteArray) (i j : Nat) : bytesOf (s.extract i j) = ((bytesOf s).take j).drop i := by
  unfold bytesOf
  rw [ByteArray.data_extract, Array.toList_extract, List.extract_eq_take_drop, ← List.map_take, ← List.map_drop, List.drop_take]
theorem take_snoc {l : List Int} {i : Nat} (h : i < l.length) : l.take (i + 1) = l.take i ++ [l[i]] := by
  rw [List.take_succ_eq_append_getElem h]
theorem take_one_drop {l : List Int} {i : Nat} (h : i < l.length) : (l.take (i + 1)).drop i = [l[i]] := by
  rw [take_snoc h, List.drop_append_of_le_length (by rw [List.length_take]; omega), List.drop_of_length_le (by rw [List.length_take]; omega), List.nil_append]
theorem wrap_id {x : Int} (h0 : -9223372036854775808 ≤ x) (h1 : x ≤ 9223372036854775807) : wrap64 x = x := by
  unfold wrap64
  omega
theorem toList_inj {a b : ByteArray} (h : a.toList = b.toList) : a = b := by
  rw [Lib.toList_data, Lib.toList_data] at h
  exact ByteArray.ext (Array.ext' h)
theorem toList_beq_self (a : ByteArray) : (a.toList == a.toList) = true := by simp
theorem toList_nil {s : ByteArray} : s.toList = ([] : List UInt8) ↔ s.size = 0 := by
  rw [Lib.toList_data]
  constructor
  · intro h
    have := data_length s
    rw [h] at this
    exact this.symm
  · intro h
    exact List.eq_nil_of_length_eq_zero (by rw [data_length]; exact h)

end Go.Proofs.YtbhcoeabhdangaaDoor.Txt
