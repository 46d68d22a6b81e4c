/-
  DERIVED: THE SHELF's CONTRACTS AT THIS DUMP, IN PLAIN WORDS (tools/lay-plain.mjs out of 'TrydShelf.lean', which tools/lay-shelf.mjs wrote): THE SAME DECLARATIONS UNDER THE SAME NAMES: 'import', 'namespace', 'open', 'def', 'theorem' AND NOTHING ELSE: no command of the shelf's: FOR A HAND-IN. Each laying: the table of numbers ('.._ren') and one theorem, a field a fact of the dump's own or the kernel's comparison; each contract: ONE APPLICATION.
-/
import Derived.Shelf.LaysM
import Derived.Shelf.Bytes.Len
import Derived.Shelf.Bytes.TryGrow
import Derived.Shelf.Bytes.GrowSliceCatch
import Derived.Shelf.Bytes.GrowSlice
import Derived.Shelf.Bytes.String
import Derived.Shelf.Bytes.Reset
import Derived.Shelf.Bytes.GrowRow0Kept
import Derived.Shelf.Bytes.GrowRowKept
import Derived.Shelf.Bytes.GrowNilKept
import Derived.Shelf.Bytes.GrowKept
import Derived.Shelf.Bytes.WriteStringKept
import Derived.Shelf.Bytes.ResetKept
import Derived.Shelf.Bytes.BufferK
import Derived.Shelf.Bytes.GrowRow0Own
import Derived.Shelf.Bytes.GrowRowOwn
import Derived.Shelf.Bytes.GrowNilOwn
import Derived.Shelf.Bytes.GrowOwn
import Derived.Shelf.Bytes.LenAt
import Derived.Shelf.Bytes.StringAt
import Derived.Shelf.Bytes.TryGrowAt
import Derived.Shelf.Strings.Fields
import Derived.Shelf.Strings.SplitShaped
import Derived.Shelf.Unicode.Latin
import Derived.Shelf.Unicode.Is16White
import Derived.Shelf.Unicode.IsSpaceAny
import Derived.Shelf.Unicode.Is16WhiteD
import Derived.Shelf.Unicode.IsSpaceAnyD
import Derived.Shelf.Strings.FieldsAny
import Derived.Shelf.Strings.FieldsFuncAny
import Derived.Shelf.Unicode.Is16Any
import Derived.Shelf.Unicode.Is32Any
import Derived.Shelf.Unicode.ExclAny
import Derived.Test.YtibfoaahdbdogaaDoorProg
namespace Go.Proofs
open Go.Shelf
def Tryd.laysM181_ren : Go.Shelf.Ren := ⟨fun | 181 => 43 | n => n, fun | 130 => 56 | 3 => 3 | 0 => 0 | 93 => 54 | 37 => 46 | 91 => 52 | 5 => 5 | n => n, fun | n => n⟩
theorem Tryd.laysM181 : Go.Proofs.LaysM.n181 Tryd.prog Tryd.laysM181_ren := {
  mixed := by kernel_rfl
  f181 := Tryd.func43.trans (congrArg some (by kernel_rfl))
  t0 := Tryd.underlying0
  a0 := Tryd.isAgg0
  z0 := Tryd.sizeOf0
  v0 := Tryd.zeroValue0
  t3 := Tryd.underlying3
  a3 := Tryd.isAgg3
  z3 := Tryd.sizeOf3
  v3 := Tryd.zeroValue3
  t37 := Tryd.underlying46
  a37 := Tryd.isAgg46
  z37 := Tryd.sizeOf46
  v37 := Tryd.zeroValue46
  t93 := Tryd.underlying54
  a93 := Tryd.isAgg54
  z93 := Tryd.sizeOf54
  v93 := Tryd.zeroValue54
  t130 := Tryd.underlying56
  a130 := Tryd.isAgg56
  z130 := Tryd.sizeOf56
  v130 := Tryd.zeroValue56
  t5 := Tryd.underlying5
  a5 := Tryd.isAgg5
  z5 := Tryd.sizeOf5
  v5 := Tryd.zeroValue5
  t91 := Tryd.underlying52
  a91 := Tryd.isAgg52
  z91 := Tryd.sizeOf52
  v91 := Tryd.zeroValue52
  i0 := by kernel_rfl
  i3 := by kernel_rfl
  i5 := by kernel_rfl
  i37 := by kernel_rfl
  i91 := by kernel_rfl
  i93 := by kernel_rfl
  i130 := by kernel_rfl }
open Go.RowKit in
/-- (*bytes.Buffer).Len: "Len returns the number of bytes of the unread portion of the buffer; b.Len() == len(b.Bytes()).": the world is as it was but for the count of draws (the statement has two reads: its order is drawn). (LAID: no walk: one application.) -/
theorem Tryd.Buffer_Len (B b : Nat) (bs : List Value) (w : World) (h : Lib.IsBuffer 54 5 B b bs w) :
    Calls Tryd.prog 43 #[.pointer (some ⟨b, 0, none⟩)] w fun e w' => e = .returned (.int .i64 bs.length) ∧ ∃ n, w' = w.drewN n := Any.Buffer_Len Tryd.laysM181 B b bs w h
def Tryd.laysM251_ren : Go.Shelf.Ren := ⟨fun | 251 => 40 | n => n, fun | 130 => 56 | 3 => 3 | 4 => 4 | 0 => 0 | 93 => 54 | 37 => 46 | 91 => 52 | 5 => 5 | n => n, fun | n => n⟩
theorem Tryd.laysM251 : Go.Proofs.LaysM.n251 Tryd.prog Tryd.laysM251_ren := {
  mixed := by kernel_rfl
  f251 := Tryd.func40.trans (congrArg some (by kernel_rfl))
  t0 := Tryd.underlying0
  a0 := Tryd.isAgg0
  z0 := Tryd.sizeOf0
  v0 := Tryd.zeroValue0
  t3 := Tryd.underlying3
  a3 := Tryd.isAgg3
  z3 := Tryd.sizeOf3
  v3 := Tryd.zeroValue3
  t4 := Tryd.underlying4
  a4 := Tryd.isAgg4
  z4 := Tryd.sizeOf4
  v4 := Tryd.zeroValue4
  t37 := Tryd.underlying46
  a37 := Tryd.isAgg46
  z37 := Tryd.sizeOf46
  v37 := Tryd.zeroValue46
  t93 := Tryd.underlying54
  a93 := Tryd.isAgg54
  z93 := Tryd.sizeOf54
  v93 := Tryd.zeroValue54
  t130 := Tryd.underlying56
  a130 := Tryd.isAgg56
  z130 := Tryd.sizeOf56
  v130 := Tryd.zeroValue56
  t5 := Tryd.underlying5
  a5 := Tryd.isAgg5
  z5 := Tryd.sizeOf5
  v5 := Tryd.zeroValue5
  t91 := Tryd.underlying52
  a91 := Tryd.isAgg52
  z91 := Tryd.sizeOf52
  v91 := Tryd.zeroValue52
  i0 := by kernel_rfl
  i3 := by kernel_rfl
  i4 := by kernel_rfl
  i5 := by kernel_rfl
  i37 := by kernel_rfl
  i91 := by kernel_rfl
  i93 := by kernel_rfl
  i130 := by kernel_rfl }
open Go.RowKit in
/-- (*bytes.Buffer).tryGrowByReslice: "tryGrowByReslice is an inlineable version of grow for the fast-case where the internal buffer only needs to be resliced. It returns the index where bytes should be written and whether it succeeded.": THERE IS ROOM: 'buf' is resliced to l + n. (LAID: no walk: one application.) -/
theorem Tryd.Buffer_tryGrow_room (b : Nat) (ao : Option Addr) (l cap n : Nat) (w : World) (c0 : w.cell? ⟨b, 0, none⟩ = some (.slice ao l cap)) (f0 : w.frozen? ⟨b, 0, none⟩ = false) (hlc : l ≤ cap) (hcap : cap ≤ maxLen) (hn : n ≤ cap - l) :
    Calls Tryd.prog 40 #[.pointer (some ⟨b, 0, none⟩), .int .i64 n] w fun e w' => e = .returned (.tuple #[.int .i64 l, .bool true]) ∧ w' = w.setCell ⟨b, 0, none⟩ (.slice ao (l + n) cap) := Any.Buffer_tryGrow_room Tryd.laysM251 b ao l cap n w c0 f0 hlc hcap hn
open Go.RowKit in
/-- .. THERE IS NONE: nothing turns. (LAID: no walk: one application.) -/
theorem Tryd.Buffer_tryGrow_none (b : Nat) (ao : Option Addr) (l cap n : Nat) (w : World) (c0 : w.cell? ⟨b, 0, none⟩ = some (.slice ao l cap)) (hlc : l ≤ cap) (hcap : cap ≤ maxLen) (hn : cap - l < n) :
    Calls Tryd.prog 40 #[.pointer (some ⟨b, 0, none⟩), .int .i64 n] w fun e w' => e = .returned (.tuple #[.int .i64 0, .bool false]) ∧ w' = w := Any.Buffer_tryGrow_none Tryd.laysM251 b ao l cap n w c0 hlc hcap hn
def Tryd.laysM324_ren : Go.Shelf.Ren := ⟨fun | 324 => 48 | n => n, fun | 20 => 20 | 4 => 4 | 75 => 75 | 0 => 0 | 80 => 57 | 9 => 9 | n => n, fun | 14 => 2 | n => n⟩
theorem Tryd.laysM324 : Go.Proofs.LaysM.n324 Tryd.prog Tryd.laysM324_ren := {
  mixed := by kernel_rfl
  f324 := Tryd.func48.trans (congrArg some (by kernel_rfl))
  t0 := Tryd.underlying0
  a0 := Tryd.isAgg0
  z0 := Tryd.sizeOf0
  v0 := Tryd.zeroValue0
  t4 := Tryd.underlying4
  a4 := Tryd.isAgg4
  z4 := Tryd.sizeOf4
  v4 := Tryd.zeroValue4
  t20 := Tryd.underlying20
  a20 := Tryd.isAgg20
  z20 := Tryd.sizeOf20
  v20 := Tryd.zeroValue20
  t75 := Tryd.underlying75
  a75 := Tryd.isAgg75
  z75 := Tryd.sizeOf75
  v75 := Tryd.zeroValue75
  g14 := by kernel_rfl
  t9 := Tryd.underlying9
  a9 := Tryd.isAgg9
  z9 := Tryd.sizeOf9
  v9 := Tryd.zeroValue9
  t80 := Tryd.underlying57
  a80 := Tryd.isAgg57
  z80 := Tryd.sizeOf57
  v80 := Tryd.zeroValue57
  i0 := by kernel_rfl
  i4 := by kernel_rfl
  i9 := by kernel_rfl
  i20 := by kernel_rfl
  i75 := by kernel_rfl
  i80 := by kernel_rfl
  m14 := by kernel_rfl }
theorem Tryd.growSlice_catch_idle (w : World) :
    CallsD Tryd.prog 48 #[] .returning w fun e u' w' => e = .returned (.tuple #[]) ∧ u' = .returning ∧ w' = w := Any.growSlice_catch_idle Tryd.laysM324 w
def Tryd.laysM290_ren : Go.Shelf.Ren := ⟨fun | 290 => 45 | 324 => 48 | n => n, fun | 37 => 46 | 3 => 3 | 0 => 0 | 4 => 4 | 20 => 20 | 75 => 75 | 5 => 5 | 80 => 57 | 9 => 9 | n => n, fun | 14 => 2 | n => n⟩
theorem Tryd.laysM290 : Go.Proofs.LaysM.n290 Tryd.prog Tryd.laysM290_ren := {
  mixed := by kernel_rfl
  f290 := Tryd.func45.trans (congrArg some (by kernel_rfl))
  f324 := Tryd.func48.trans (congrArg some (by kernel_rfl))
  t0 := Tryd.underlying0
  a0 := Tryd.isAgg0
  z0 := Tryd.sizeOf0
  v0 := Tryd.zeroValue0
  t3 := Tryd.underlying3
  a3 := Tryd.isAgg3
  z3 := Tryd.sizeOf3
  v3 := Tryd.zeroValue3
  t4 := Tryd.underlying4
  a4 := Tryd.isAgg4
  z4 := Tryd.sizeOf4
  v4 := Tryd.zeroValue4
  t20 := Tryd.underlying20
  a20 := Tryd.isAgg20
  z20 := Tryd.sizeOf20
  v20 := Tryd.zeroValue20
  t37 := Tryd.underlying46
  a37 := Tryd.isAgg46
  z37 := Tryd.sizeOf46
  v37 := Tryd.zeroValue46
  t75 := Tryd.underlying75
  a75 := Tryd.isAgg75
  z75 := Tryd.sizeOf75
  v75 := Tryd.zeroValue75
  g14 := by kernel_rfl
  t5 := Tryd.underlying5
  a5 := Tryd.isAgg5
  z5 := Tryd.sizeOf5
  v5 := Tryd.zeroValue5
  t9 := Tryd.underlying9
  a9 := Tryd.isAgg9
  z9 := Tryd.sizeOf9
  v9 := Tryd.zeroValue9
  t80 := Tryd.underlying57
  a80 := Tryd.isAgg57
  z80 := Tryd.sizeOf57
  v80 := Tryd.zeroValue57
  i0 := by kernel_rfl
  i3 := by kernel_rfl
  i4 := by kernel_rfl
  i5 := by kernel_rfl
  i9 := by kernel_rfl
  i20 := by kernel_rfl
  i37 := by kernel_rfl
  i75 := by kernel_rfl
  i80 := by kernel_rfl
  m14 := by kernel_rfl }
open Go.RowKit in
/-- bytes.growSlice: "growSlice grows b by n, preserving the original content of b.": OF A SLICE THAT LIES AT THE HEAD OF A ROW: a new row, number 'w.heap.size': it begins with b's l cells; its capacity has room for n more; whatever lay below is as it was. (LAID: no walk: one application.) -/
theorem Tryd.bytes_growSlice_row (g l c n : Nat) (cur : Array Value) (w : World) (hg : w.heap[g]? = some (.cells cur 5 (0, 0))) (hcs : cur.size = c) (hlc : l ≤ c) (hn : 1 ≤ n) (hlim : l + n ≤ 140737488355328) (hc2 : c ≤ 140737488355328) (h1 : ∀ v ∈ cur.toList.take l, v.oneCell' = true) :
    Calls Tryd.prog 45 #[.slice (some ⟨g, 0, none⟩) l c, .int .i64 n] w fun e w' => ∃ cap2 cells, e = .returned (.slice (some ⟨w.heap.size, 0, none⟩) l cap2) ∧ w'.heap[w.heap.size]? = some (.cells cells 5 (0, 0)) ∧
      cells.size = cap2 ∧ cells.toList.take l = cur.toList.take l ∧ l + n ≤ cap2 ∧ cap2 ≤ maxLen ∧ Below w.heap.size w w' := Any.bytes_growSlice_row Tryd.laysM290 g l c n cur w hg hcs hlc hn hlim hc2 h1
open Go.RowKit in
/-- .. OF THE NIL SLICE: a new row with room for n. (LAID: no walk: one application.) -/
theorem Tryd.bytes_growSlice_nil (n : Nat) (w : World) (hn : 1 ≤ n) (hlim : n ≤ 140737488355328) :
    Calls Tryd.prog 45 #[.slice none 0 0, .int .i64 n] w fun e w' => ∃ cap2 cells, e = .returned (.slice (some ⟨w.heap.size, 0, none⟩) 0 cap2) ∧ w'.heap[w.heap.size]? = some (.cells cells 5 (0, 0)) ∧
      cells.size = cap2 ∧ n ≤ cap2 ∧ cap2 ≤ maxLen ∧ Below w.heap.size w w' := Any.bytes_growSlice_nil Tryd.laysM290 n w hn hlim
def Tryd.laysM182_ren : Go.Shelf.Ren := ⟨fun | 182 => 28 | n => n, fun | 130 => 56 | 9 => 9 | 4 => 4 | 0 => 0 | 93 => 54 | 37 => 46 | 3 => 3 | 91 => 52 | 5 => 5 | n => n, fun | n => n⟩
theorem Tryd.laysM182 : Go.Proofs.LaysM.n182 Tryd.prog Tryd.laysM182_ren := {
  mixed := by kernel_rfl
  f182 := Tryd.func28.trans (congrArg some (by kernel_rfl))
  t0 := Tryd.underlying0
  a0 := Tryd.isAgg0
  z0 := Tryd.sizeOf0
  v0 := Tryd.zeroValue0
  t3 := Tryd.underlying3
  a3 := Tryd.isAgg3
  z3 := Tryd.sizeOf3
  v3 := Tryd.zeroValue3
  t4 := Tryd.underlying4
  a4 := Tryd.isAgg4
  z4 := Tryd.sizeOf4
  v4 := Tryd.zeroValue4
  t9 := Tryd.underlying9
  a9 := Tryd.isAgg9
  z9 := Tryd.sizeOf9
  v9 := Tryd.zeroValue9
  t37 := Tryd.underlying46
  a37 := Tryd.isAgg46
  z37 := Tryd.sizeOf46
  v37 := Tryd.zeroValue46
  t93 := Tryd.underlying54
  a93 := Tryd.isAgg54
  z93 := Tryd.sizeOf54
  v93 := Tryd.zeroValue54
  t130 := Tryd.underlying56
  a130 := Tryd.isAgg56
  z130 := Tryd.sizeOf56
  v130 := Tryd.zeroValue56
  t5 := Tryd.underlying5
  a5 := Tryd.isAgg5
  z5 := Tryd.sizeOf5
  v5 := Tryd.zeroValue5
  t91 := Tryd.underlying52
  a91 := Tryd.isAgg52
  z91 := Tryd.sizeOf52
  v91 := Tryd.zeroValue52
  i0 := by kernel_rfl
  i3 := by kernel_rfl
  i4 := by kernel_rfl
  i5 := by kernel_rfl
  i9 := by kernel_rfl
  i37 := by kernel_rfl
  i91 := by kernel_rfl
  i93 := by kernel_rfl
  i130 := by kernel_rfl }
open Go.RowKit in
/-- (*bytes.Buffer).String: "String returns the contents of the unread portion of the buffer as a string.": THE BYTES THAT WERE WRITTEN. The world is as it was but for the count of draws (the statement has two reads: its order is drawn). (LAID: no walk: one application.) -/
theorem Tryd.Buffer_String (B b : Nat) (l : List UInt8) (w : World) (h : Lib.IsBuffer 54 5 B b (Lib.byteCells l) w) :
    Calls Tryd.prog 28 #[.pointer (some ⟨b, 0, none⟩)] w fun e w' => e = .returned (.string ⟨l.toArray⟩) ∧ ∃ n, w' = w.drewN n := Any.Buffer_String Tryd.laysM182 B b l w h
def Tryd.laysM184_ren : Go.Shelf.Ren := ⟨fun | 184 => 44 | n => n, fun | 130 => 56 | 0 => 0 | 93 => 54 | 37 => 46 | 3 => 3 | 91 => 52 | 5 => 5 | n => n, fun | n => n⟩
theorem Tryd.laysM184 : Go.Proofs.LaysM.n184 Tryd.prog Tryd.laysM184_ren := {
  mixed := by kernel_rfl
  f184 := Tryd.func44.trans (congrArg some (by kernel_rfl))
  t0 := Tryd.underlying0
  a0 := Tryd.isAgg0
  z0 := Tryd.sizeOf0
  v0 := Tryd.zeroValue0
  t3 := Tryd.underlying3
  a3 := Tryd.isAgg3
  z3 := Tryd.sizeOf3
  v3 := Tryd.zeroValue3
  t37 := Tryd.underlying46
  a37 := Tryd.isAgg46
  z37 := Tryd.sizeOf46
  v37 := Tryd.zeroValue46
  t91 := Tryd.underlying52
  a91 := Tryd.isAgg52
  z91 := Tryd.sizeOf52
  v91 := Tryd.zeroValue52
  t93 := Tryd.underlying54
  a93 := Tryd.isAgg54
  z93 := Tryd.sizeOf54
  v93 := Tryd.zeroValue54
  t130 := Tryd.underlying56
  a130 := Tryd.isAgg56
  z130 := Tryd.sizeOf56
  v130 := Tryd.zeroValue56
  t5 := Tryd.underlying5
  a5 := Tryd.isAgg5
  z5 := Tryd.sizeOf5
  v5 := Tryd.zeroValue5
  i0 := by kernel_rfl
  i3 := by kernel_rfl
  i5 := by kernel_rfl
  i37 := by kernel_rfl
  i91 := by kernel_rfl
  i93 := by kernel_rfl
  i130 := by kernel_rfl }
open Go.RowKit in
/-- (*bytes.Buffer).Reset: "Reset resets the buffer to be empty, but it retains the underlying storage for use by future writes." (LAID: no walk: one application.) -/
theorem Tryd.Buffer_Reset (B b : Nat) (bs : List Value) (w : World) (h : Lib.IsBuffer 54 5 B b bs w) :
    Calls Tryd.prog 44 #[.pointer (some ⟨b, 0, none⟩)] w fun e w' => e = .returned (.tuple #[]) ∧ Lib.IsBuffer 54 5 B b [] w' ∧ Below B w w' := Any.Buffer_Reset Tryd.laysM184 B b bs w h
def Tryd.laysM252_ren : Go.Shelf.Ren := ⟨fun | 252 => 41 | 181 => 43 | 184 => 44 | 251 => 40 | 290 => 45 | 324 => 48 | n => n, fun | 130 => 56 | 3 => 3 | 4 => 4 | 0 => 0 | 93 => 54 | 131 => 81 | 37 => 46 | 75 => 75 | 91 => 52 | 20 => 20 | 5 => 5 | 80 => 57 | 9 => 9 | n => n, fun | 14 => 2 | n => n⟩
theorem Tryd.laysM252 : Go.Proofs.LaysM.n252 Tryd.prog Tryd.laysM252_ren := {
  mixed := by kernel_rfl
  f181 := Tryd.func43.trans (congrArg some (by kernel_rfl))
  f184 := Tryd.func44.trans (congrArg some (by kernel_rfl))
  f251 := Tryd.func40.trans (congrArg some (by kernel_rfl))
  f252 := Tryd.func41.trans (congrArg some (by kernel_rfl))
  f290 := Tryd.func45.trans (congrArg some (by kernel_rfl))
  f324 := Tryd.func48.trans (congrArg some (by kernel_rfl))
  t0 := Tryd.underlying0
  a0 := Tryd.isAgg0
  z0 := Tryd.sizeOf0
  v0 := Tryd.zeroValue0
  t3 := Tryd.underlying3
  a3 := Tryd.isAgg3
  z3 := Tryd.sizeOf3
  v3 := Tryd.zeroValue3
  t4 := Tryd.underlying4
  a4 := Tryd.isAgg4
  z4 := Tryd.sizeOf4
  v4 := Tryd.zeroValue4
  t20 := Tryd.underlying20
  a20 := Tryd.isAgg20
  z20 := Tryd.sizeOf20
  v20 := Tryd.zeroValue20
  t37 := Tryd.underlying46
  a37 := Tryd.isAgg46
  z37 := Tryd.sizeOf46
  v37 := Tryd.zeroValue46
  t75 := Tryd.underlying75
  a75 := Tryd.isAgg75
  z75 := Tryd.sizeOf75
  v75 := Tryd.zeroValue75
  t91 := Tryd.underlying52
  a91 := Tryd.isAgg52
  z91 := Tryd.sizeOf52
  v91 := Tryd.zeroValue52
  t93 := Tryd.underlying54
  a93 := Tryd.isAgg54
  z93 := Tryd.sizeOf54
  v93 := Tryd.zeroValue54
  t130 := Tryd.underlying56
  a130 := Tryd.isAgg56
  z130 := Tryd.sizeOf56
  v130 := Tryd.zeroValue56
  t131 := Tryd.underlying81
  a131 := Tryd.isAgg81
  z131 := Tryd.sizeOf81
  v131 := Tryd.zeroValue81
  g14 := by kernel_rfl
  t5 := Tryd.underlying5
  a5 := Tryd.isAgg5
  z5 := Tryd.sizeOf5
  v5 := Tryd.zeroValue5
  t9 := Tryd.underlying9
  a9 := Tryd.isAgg9
  z9 := Tryd.sizeOf9
  v9 := Tryd.zeroValue9
  t80 := Tryd.underlying57
  a80 := Tryd.isAgg57
  z80 := Tryd.sizeOf57
  v80 := Tryd.zeroValue57
  i0 := by kernel_rfl
  i3 := by kernel_rfl
  i4 := by kernel_rfl
  i5 := by kernel_rfl
  i9 := by kernel_rfl
  i20 := by kernel_rfl
  i37 := by kernel_rfl
  i75 := by kernel_rfl
  i80 := by kernel_rfl
  i91 := by kernel_rfl
  i93 := by kernel_rfl
  i130 := by kernel_rfl
  i131 := by kernel_rfl
  m14 := by kernel_rfl }
open Go.RowKit in
/-- grow, WHERE THE BUFFER HOLDS A ROW, NO BYTE IN IT (behind a Reset), AND THE ROW HAS NO ROOM: growSlice. (THE TEXT OF 'Buffer_grow_row' WITH 0 FOR l, BY PROGRAM: the walk parts on 'm == 0' and writes 0 for l throughout the goal: facts that still say l then do not strike: so l is laid in ahead of the walk.) (LAID: no walk: one application.) -/
theorem Tryd.Buffer_grow_row0_kept (B b g cap n : Nat) (lr : Int) (cur : Array Value) (bs : List Value) (w : World) (hB : B ≤ b) (hBw : B ≤ w.heap.size) (hbk : w.heap[b]? = some (.cells #[.slice (some ⟨g, 0, none⟩) 0 cap, .int .i64 0, .int .i8 lr] 54 (0, 0))) (hl : bs.length = 0) (hBg : B ≤ g) (hg : w.heap[g]? = some (.cells cur 5 (0, 0))) (hlc : 0 ≤ cap) (hcm : cap ≤ maxLen) (hcs : cur.size = cap) (htake : cur.toList.take 0 = bs) (hgb : g ≠ b) (h1 : ∀ v ∈ bs, v.oneCell' = true) (hn : 1 ≤ n) (hroom : cap - 0 < n) (hlim : 0 + n ≤ 140737488355328) :
    Calls Tryd.prog 41 #[.pointer (some ⟨b, 0, none⟩), .int .i64 n] w fun e w' => e = .returned (.int .i64 0) ∧ ∃ xs, xs.length = n ∧ Lib.IsBuffer 54 5 B b (bs ++ xs) w' ∧ Below B w w' ∧ Lib.OthersKept 5 (some b) w w' := Any.Buffer_grow_row0_kept Tryd.laysM252 B b g cap n lr cur bs w hB hBw hbk hl hBg hg hlc hcm hcs htake hgb h1 hn hroom hlim
open Go.RowKit in
/-- grow, WHERE THE BUFFER HOLDS A ROW THAT HAS NO ROOM: growSlice. (LAID: no walk: one application.) -/
theorem Tryd.Buffer_grow_row_kept (B b g l cap n : Nat) (lr : Int) (cur : Array Value) (bs : List Value) (w : World) (hB : B ≤ b) (hBw : B ≤ w.heap.size) (hbk : w.heap[b]? = some (.cells #[.slice (some ⟨g, 0, none⟩) l cap, .int .i64 0, .int .i8 lr] 54 (0, 0))) (hl : bs.length = l) (hBg : B ≤ g) (hg : w.heap[g]? = some (.cells cur 5 (0, 0))) (hlc : l ≤ cap) (hcm : cap ≤ maxLen) (hcs : cur.size = cap) (htake : cur.toList.take l = bs) (hgb : g ≠ b) (h1 : ∀ v ∈ bs, v.oneCell' = true) (hn : 1 ≤ n) (hroom : cap - l < n) (hlim : l + n ≤ 140737488355328) :
    Calls Tryd.prog 41 #[.pointer (some ⟨b, 0, none⟩), .int .i64 n] w fun e w' => e = .returned (.int .i64 l) ∧ ∃ xs, xs.length = n ∧ Lib.IsBuffer 54 5 B b (bs ++ xs) w' ∧ Below B w w' ∧ Lib.OthersKept 5 (some b) w w' := Any.Buffer_grow_row_kept Tryd.laysM252 B b g l cap n lr cur bs w hB hBw hbk hl hBg hg hlc hcm hcs htake hgb h1 hn hroom hlim
open Go.RowKit in
/-- grow, 'buf' nil, n AT MOST 64: 'b.buf = make([]byte, n, smallBufferSize)'. (LAID: no walk: one application.) -/
theorem Tryd.Buffer_grow_nil_small_kept (B b n : Nat) (lr : Int) (w : World) (hB : B ≤ b) (hBw : B ≤ w.heap.size) (hbk : w.heap[b]? = some (.cells #[.slice none 0 0, .int .i64 0, .int .i8 lr] 54 (0, 0))) (hn : 1 ≤ n) (h64 : n ≤ 64) :
    Calls Tryd.prog 41 #[.pointer (some ⟨b, 0, none⟩), .int .i64 n] w fun e w' => e = .returned (.int .i64 0) ∧ ∃ xs, xs.length = n ∧ Lib.IsBuffer 54 5 B b xs w' ∧ Below B w w' ∧ Lib.OthersKept 5 (some b) w w' := Any.Buffer_grow_nil_small_kept Tryd.laysM252 B b n lr w hB hBw hbk hn h64
open Go.RowKit in
/-- grow, 'buf' nil, n ABOVE 64: growSlice of the nil slice. (LAID: no walk: one application.) -/
theorem Tryd.Buffer_grow_nil_big_kept (B b n : Nat) (lr : Int) (w : World) (hB : B ≤ b) (hBw : B ≤ w.heap.size) (hbk : w.heap[b]? = some (.cells #[.slice none 0 0, .int .i64 0, .int .i8 lr] 54 (0, 0))) (h64 : 64 < n) (hlim : n ≤ 140737488355328) :
    Calls Tryd.prog 41 #[.pointer (some ⟨b, 0, none⟩), .int .i64 n] w fun e w' => e = .returned (.int .i64 0) ∧ ∃ xs, xs.length = n ∧ Lib.IsBuffer 54 5 B b xs w' ∧ Below B w w' ∧ Lib.OthersKept 5 (some b) w w' := Any.Buffer_grow_nil_big_kept Tryd.laysM252 B b n lr w hB hBw hbk h64 hlim
open Go.RowKit in
/-- tryGrowByReslice: EITHER there is room: the place to write at is the old length, and the buffer holds the old bytes and n more of whatever lay there; OR there is none: nothing turns, and 'Lib.NoRoom' is what grow asks. (LAID: no walk: one application.) -/
theorem Tryd.Buffer_tryGrow_kept (B b n : Nat) (bs : List Value) (w : World) (h : Lib.IsBuffer 54 5 B b bs w) :
    Calls Tryd.prog 40 #[.pointer (some ⟨b, 0, none⟩), .int .i64 n] w fun e w' =>
      (e = .returned (.tuple #[.int .i64 bs.length, .bool true]) ∧ ∃ xs, xs.length = n ∧ Lib.IsBuffer 54 5 B b (bs ++ xs) w' ∧ Below B w w' ∧ Lib.OthersKept 5 (some b) w w') ∨
      (e = .returned (.tuple #[.int .i64 0, .bool false]) ∧ w' = w ∧ Lib.NoRoom b n w) := Any.Buffer_tryGrow_kept Tryd.laysM251 B b n bs w h
open Go.RowKit in
/-- (*bytes.Buffer).grow: "grow grows the buffer to guarantee space for n more bytes. It returns the index where bytes should be written.": WHERE THERE IS NO ROOM; UNDER Go's OWN LIMIT (the new length takes at most 2^47 bytes): the old length; the buffer holds the old bytes and n more of whatever. (LAID: no walk: one application.) -/
theorem Tryd.Buffer_grow_kept (B b n : Nat) (bs : List Value) (w : World) (h : Lib.IsBuffer 54 5 B b bs w) (hnr : Lib.NoRoom b n w) (hBw : B ≤ w.heap.size) (h1 : ∀ v ∈ bs, v.oneCell' = true) (hlim : bs.length + n ≤ 140737488355328) :
    Calls Tryd.prog 41 #[.pointer (some ⟨b, 0, none⟩), .int .i64 n] w fun e w' => e = .returned (.int .i64 bs.length) ∧ ∃ xs, xs.length = n ∧ Lib.IsBuffer 54 5 B b (bs ++ xs) w' ∧ Below B w w' ∧ Lib.OthersKept 5 (some b) w w' := Any.Buffer_grow_kept Tryd.laysM252 B b n bs w h hnr hBw h1 hlim
def Tryd.laysM178_ren : Go.Shelf.Ren := ⟨fun | 178 => 36 | 251 => 40 | 252 => 41 | 181 => 43 | 184 => 44 | 290 => 45 | 324 => 48 | n => n, fun | 130 => 56 | 9 => 9 | 3 => 3 | 75 => 75 | 0 => 0 | 93 => 54 | 91 => 52 | 131 => 81 | 4 => 4 | 37 => 46 | 20 => 20 | 80 => 57 | 5 => 5 | n => n, fun | 14 => 2 | n => n⟩
theorem Tryd.laysM178 : Go.Proofs.LaysM.n178 Tryd.prog Tryd.laysM178_ren := {
  mixed := by kernel_rfl
  f178 := Tryd.func36.trans (congrArg some (by kernel_rfl))
  f181 := Tryd.func43.trans (congrArg some (by kernel_rfl))
  f184 := Tryd.func44.trans (congrArg some (by kernel_rfl))
  f251 := Tryd.func40.trans (congrArg some (by kernel_rfl))
  f252 := Tryd.func41.trans (congrArg some (by kernel_rfl))
  f290 := Tryd.func45.trans (congrArg some (by kernel_rfl))
  f324 := Tryd.func48.trans (congrArg some (by kernel_rfl))
  t0 := Tryd.underlying0
  a0 := Tryd.isAgg0
  z0 := Tryd.sizeOf0
  v0 := Tryd.zeroValue0
  t3 := Tryd.underlying3
  a3 := Tryd.isAgg3
  z3 := Tryd.sizeOf3
  v3 := Tryd.zeroValue3
  t4 := Tryd.underlying4
  a4 := Tryd.isAgg4
  z4 := Tryd.sizeOf4
  v4 := Tryd.zeroValue4
  t9 := Tryd.underlying9
  a9 := Tryd.isAgg9
  z9 := Tryd.sizeOf9
  v9 := Tryd.zeroValue9
  t20 := Tryd.underlying20
  a20 := Tryd.isAgg20
  z20 := Tryd.sizeOf20
  v20 := Tryd.zeroValue20
  t37 := Tryd.underlying46
  a37 := Tryd.isAgg46
  z37 := Tryd.sizeOf46
  v37 := Tryd.zeroValue46
  t75 := Tryd.underlying75
  a75 := Tryd.isAgg75
  z75 := Tryd.sizeOf75
  v75 := Tryd.zeroValue75
  t91 := Tryd.underlying52
  a91 := Tryd.isAgg52
  z91 := Tryd.sizeOf52
  v91 := Tryd.zeroValue52
  t93 := Tryd.underlying54
  a93 := Tryd.isAgg54
  z93 := Tryd.sizeOf54
  v93 := Tryd.zeroValue54
  t130 := Tryd.underlying56
  a130 := Tryd.isAgg56
  z130 := Tryd.sizeOf56
  v130 := Tryd.zeroValue56
  t131 := Tryd.underlying81
  a131 := Tryd.isAgg81
  z131 := Tryd.sizeOf81
  v131 := Tryd.zeroValue81
  g14 := by kernel_rfl
  t5 := Tryd.underlying5
  a5 := Tryd.isAgg5
  z5 := Tryd.sizeOf5
  v5 := Tryd.zeroValue5
  t80 := Tryd.underlying57
  a80 := Tryd.isAgg57
  z80 := Tryd.sizeOf57
  v80 := Tryd.zeroValue57
  i0 := by kernel_rfl
  i3 := by kernel_rfl
  i4 := by kernel_rfl
  i5 := by kernel_rfl
  i9 := by kernel_rfl
  i20 := by kernel_rfl
  i37 := by kernel_rfl
  i75 := by kernel_rfl
  i80 := by kernel_rfl
  i91 := by kernel_rfl
  i93 := by kernel_rfl
  i130 := by kernel_rfl
  i131 := by kernel_rfl
  m14 := by kernel_rfl }
open Go.RowKit in
/-- (*bytes.Buffer).WriteString: "WriteString appends the contents of s to the buffer, growing the buffer as needed. The return value n is the length of s; err is always nil." (LAID: no walk: one application.) -/
theorem Tryd.Buffer_WriteString_kept (B b : Nat) (bs : List Value) (s : ByteArray) (w : World) (h : Lib.IsBuffer 54 5 B b bs w) (hBw : B ≤ w.heap.size) (h1 : ∀ v ∈ bs, v.oneCell' = true) (hlim : bs.length + s.size ≤ 140737488355328) :
    Calls Tryd.prog 36 #[.pointer (some ⟨b, 0, none⟩), .string s] w fun e w' => e = .returned (.tuple #[.int .i64 s.size, .nilIface]) ∧ Lib.IsBuffer 54 5 B b (bs ++ Lib.byteCells s.data.toList) w' ∧ Below B w w' ∧ Lib.OthersKept 5 (some b) w w' := Any.Buffer_WriteString_kept Tryd.laysM178 B b bs s w h hBw h1 hlim
open Go.RowKit in
/-- (*bytes.Buffer).Reset: "Reset resets the buffer to be empty, but it retains the underlying storage for use by future writes." (LAID: no walk: one application.) -/
theorem Tryd.Buffer_Reset_kept (B b : Nat) (bs : List Value) (w : World) (h : Lib.IsBuffer 54 5 B b bs w) :
    Calls Tryd.prog 44 #[.pointer (some ⟨b, 0, none⟩)] w fun e w' => e = .returned (.tuple #[]) ∧ Lib.IsBuffer 54 5 B b [] w' ∧ Below B w w' ∧ Lib.OthersKept 5 (some b) w w' := Any.Buffer_Reset_kept Tryd.laysM184 B b bs w h
open Go.RowKit in
theorem Tryd.Buffer_WriteString_k (B b : Nat) (bs : List Value) (s : ByteArray) (w : World) (h : Lib.IsBuffer 54 5 B b bs w) (hBw : B ≤ w.heap.size) (h1 : ∀ v ∈ bs, v.oneCell' = true) (hlim : bs.length + s.size ≤ 140737488355328) :
    Calls Tryd.prog 36 #[.pointer (some ⟨b, 0, none⟩), .string s] w fun e w' => e = .returned (.tuple #[.int .i64 s.size, .nilIface]) ∧ Lib.IsBuffer 54 5 B b (bs ++ Lib.byteCells s.data.toList) w' ∧ Below B w w' ∧ Lib.OthersKept 5 (some b) w w' := Any.Buffer_WriteString_k Tryd.laysM178 B b bs s w h hBw h1 hlim
open Go.RowKit in
theorem Tryd.Buffer_Reset_k (B b : Nat) (bs : List Value) (w : World) (h : Lib.IsBuffer 54 5 B b bs w) :
    Calls Tryd.prog 44 #[.pointer (some ⟨b, 0, none⟩)] w fun e w' => e = .returned (.tuple #[]) ∧ Lib.IsBuffer 54 5 B b [] w' ∧ Below B w w' ∧ Lib.OthersKept 5 (some b) w w' := Any.Buffer_Reset_k Tryd.laysM184 B b bs w h
open Go.RowKit in
/-- grow, WHERE THE BUFFER HOLDS A ROW, NO BYTE IN IT (behind a Reset), AND THE ROW HAS NO ROOM: growSlice. (THE TEXT OF 'Buffer_grow_row' WITH 0 FOR l, BY PROGRAM: the walk parts on 'm == 0' and writes 0 for l throughout the goal: facts that still say l then do not strike: so l is laid in ahead of the walk.) (LAID: no walk: one application.) -/
theorem Tryd.Buffer_grow_row0_own (B b g cap n : Nat) (lr : Int) (cur : Array Value) (bs : List Value) (w : World) (hB : B ≤ b) (hBw : B ≤ w.heap.size) (hbk : w.heap[b]? = some (.cells #[.slice (some ⟨g, 0, none⟩) 0 cap, .int .i64 0, .int .i8 lr] 54 (0, 0))) (hl : bs.length = 0) (hBg : B ≤ g) (hg : w.heap[g]? = some (.cells cur 5 (0, 0))) (hlc : 0 ≤ cap) (hcm : cap ≤ maxLen) (hcs : cur.size = cap) (htake : cur.toList.take 0 = bs) (hgb : g ≠ b) (h1 : ∀ v ∈ bs, v.oneCell' = true) (hn : 1 ≤ n) (hroom : cap - 0 < n) (hlim : 0 + n ≤ 140737488355328) :
    Calls Tryd.prog 41 #[.pointer (some ⟨b, 0, none⟩), .int .i64 n] w fun e w' => e = .returned (.int .i64 0) ∧ ∃ xs, xs.length = n ∧ Lib.IsBuffer 54 5 B b (bs ++ xs) w' ∧ Below B w w' ∧ Lib.OthersKept 5 (some b) w w' ∧ w.grownBy w' (some b) := Any.Buffer_grow_row0_own Tryd.laysM252 B b g cap n lr cur bs w hB hBw hbk hl hBg hg hlc hcm hcs htake hgb h1 hn hroom hlim
open Go.RowKit in
/-- grow, WHERE THE BUFFER HOLDS A ROW THAT HAS NO ROOM: growSlice. (LAID: no walk: one application.) -/
theorem Tryd.Buffer_grow_row_own (B b g l cap n : Nat) (lr : Int) (cur : Array Value) (bs : List Value) (w : World) (hB : B ≤ b) (hBw : B ≤ w.heap.size) (hbk : w.heap[b]? = some (.cells #[.slice (some ⟨g, 0, none⟩) l cap, .int .i64 0, .int .i8 lr] 54 (0, 0))) (hl : bs.length = l) (hBg : B ≤ g) (hg : w.heap[g]? = some (.cells cur 5 (0, 0))) (hlc : l ≤ cap) (hcm : cap ≤ maxLen) (hcs : cur.size = cap) (htake : cur.toList.take l = bs) (hgb : g ≠ b) (h1 : ∀ v ∈ bs, v.oneCell' = true) (hn : 1 ≤ n) (hroom : cap - l < n) (hlim : l + n ≤ 140737488355328) :
    Calls Tryd.prog 41 #[.pointer (some ⟨b, 0, none⟩), .int .i64 n] w fun e w' => e = .returned (.int .i64 l) ∧ ∃ xs, xs.length = n ∧ Lib.IsBuffer 54 5 B b (bs ++ xs) w' ∧ Below B w w' ∧ Lib.OthersKept 5 (some b) w w' ∧ w.grownBy w' (some b) := Any.Buffer_grow_row_own Tryd.laysM252 B b g l cap n lr cur bs w hB hBw hbk hl hBg hg hlc hcm hcs htake hgb h1 hn hroom hlim
open Go.RowKit in
/-- grow, 'buf' nil, n AT MOST 64: 'b.buf = make([]byte, n, smallBufferSize)'. (LAID: no walk: one application.) -/
theorem Tryd.Buffer_grow_nil_small_own (B b n : Nat) (lr : Int) (w : World) (hB : B ≤ b) (hBw : B ≤ w.heap.size) (hbk : w.heap[b]? = some (.cells #[.slice none 0 0, .int .i64 0, .int .i8 lr] 54 (0, 0))) (hn : 1 ≤ n) (h64 : n ≤ 64) :
    Calls Tryd.prog 41 #[.pointer (some ⟨b, 0, none⟩), .int .i64 n] w fun e w' => e = .returned (.int .i64 0) ∧ ∃ xs, xs.length = n ∧ Lib.IsBuffer 54 5 B b xs w' ∧ Below B w w' ∧ Lib.OthersKept 5 (some b) w w' ∧ w.grownBy w' (some b) := Any.Buffer_grow_nil_small_own Tryd.laysM252 B b n lr w hB hBw hbk hn h64
open Go.RowKit in
/-- grow, 'buf' nil, n ABOVE 64: growSlice of the nil slice. (LAID: no walk: one application.) -/
theorem Tryd.Buffer_grow_nil_big_own (B b n : Nat) (lr : Int) (w : World) (hB : B ≤ b) (hBw : B ≤ w.heap.size) (hbk : w.heap[b]? = some (.cells #[.slice none 0 0, .int .i64 0, .int .i8 lr] 54 (0, 0))) (h64 : 64 < n) (hlim : n ≤ 140737488355328) :
    Calls Tryd.prog 41 #[.pointer (some ⟨b, 0, none⟩), .int .i64 n] w fun e w' => e = .returned (.int .i64 0) ∧ ∃ xs, xs.length = n ∧ Lib.IsBuffer 54 5 B b xs w' ∧ Below B w w' ∧ Lib.OthersKept 5 (some b) w w' ∧ w.grownBy w' (some b) := Any.Buffer_grow_nil_big_own Tryd.laysM252 B b n lr w hB hBw hbk h64 hlim
open Go.RowKit in
/-- tryGrowByReslice: EITHER there is room: the place to write at is the old length, and the buffer holds the old bytes and n more of whatever lay there; OR there is none: nothing turns, and 'Lib.NoRoom' is what grow asks. (LAID: no walk: one application.) -/
theorem Tryd.Buffer_tryGrow_own (B b n : Nat) (bs : List Value) (w : World) (h : Lib.IsBuffer 54 5 B b bs w) :
    Calls Tryd.prog 40 #[.pointer (some ⟨b, 0, none⟩), .int .i64 n] w fun e w' =>
      (e = .returned (.tuple #[.int .i64 bs.length, .bool true]) ∧ ∃ xs, xs.length = n ∧ Lib.IsBuffer 54 5 B b (bs ++ xs) w' ∧ Below B w w' ∧ Lib.OthersKept 5 (some b) w w' ∧ w.grownBy w' (some b)) ∨
      (e = .returned (.tuple #[.int .i64 0, .bool false]) ∧ w' = w ∧ Lib.NoRoom b n w) := Any.Buffer_tryGrow_own Tryd.laysM251 B b n bs w h
open Go.RowKit in
/-- (*bytes.Buffer).grow: "grow grows the buffer to guarantee space for n more bytes. It returns the index where bytes should be written.": WHERE THERE IS NO ROOM; UNDER Go's OWN LIMIT (the new length takes at most 2^47 bytes): the old length; the buffer holds the old bytes and n more of whatever. (LAID: no walk: one application.) -/
theorem Tryd.Buffer_grow_own (B b n : Nat) (bs : List Value) (w : World) (h : Lib.IsBuffer 54 5 B b bs w) (hnr : Lib.NoRoom b n w) (hBw : B ≤ w.heap.size) (h1 : ∀ v ∈ bs, v.oneCell' = true) (hlim : bs.length + n ≤ 140737488355328) :
    Calls Tryd.prog 41 #[.pointer (some ⟨b, 0, none⟩), .int .i64 n] w fun e w' => e = .returned (.int .i64 bs.length) ∧ ∃ xs, xs.length = n ∧ Lib.IsBuffer 54 5 B b (bs ++ xs) w' ∧ Below B w w' ∧ Lib.OthersKept 5 (some b) w w' ∧ w.grownBy w' (some b) := Any.Buffer_grow_own Tryd.laysM252 B b n bs w h hnr hBw h1 hlim
open Go.RowKit in
/-- (*bytes.Buffer).Len: "Len returns the number of bytes of the unread portion of the buffer; b.Len() == len(b.Bytes()).": the world is as it was but for the count of draws (the statement has two reads: its order is drawn). (LAID: no walk: one application.) -/
theorem Tryd.Buffer_Len_at (T : TypeId) (R : Nat → Option Value) (B b q : Nat) (bs : List Value) (w : World) (h : LibA.IsBuffer T R 5 B b q bs w) :
    Calls Tryd.prog 43 #[.pointer (some ⟨b, q, none⟩)] w fun e w' => e = .returned (.int .i64 bs.length) ∧ ∃ n, w' = w.drewN n := Any.Buffer_Len_at Tryd.laysM181 T R B b q bs w h
open Go.RowKit in
/-- (*bytes.Buffer).String: "String returns the contents of the unread portion of the buffer as a string.": THE BYTES THAT WERE WRITTEN. The world is as it was but for the count of draws (the statement has two reads: its order is drawn). (LAID: no walk: one application.) -/
theorem Tryd.Buffer_String_at (T : TypeId) (R : Nat → Option Value) (B b q : Nat) (l : List UInt8) (w : World) (h : LibA.IsBuffer T R 5 B b q (Lib.byteCells l) w) :
    Calls Tryd.prog 28 #[.pointer (some ⟨b, q, none⟩)] w fun e w' => e = .returned (.string ⟨l.toArray⟩) ∧ ∃ n, w' = w.drewN n := Any.Buffer_String_at Tryd.laysM182 T R B b q l w h
open Go.RowKit in
/-- (*bytes.Buffer).tryGrowByReslice: "tryGrowByReslice is an inlineable version of grow for the fast-case where the internal buffer only needs to be resliced. It returns the index where bytes should be written and whether it succeeded.": THERE IS ROOM: 'buf' is resliced to l + n. (LAID: no walk: one application.) -/
theorem Tryd.Buffer_tryGrow_room_at (b q : Nat) (ao : Option Addr) (l cap n : Nat) (w : World) (c0 : w.cell? ⟨b, q, none⟩ = some (.slice ao l cap)) (f0 : w.frozen? ⟨b, q, none⟩ = false) (hlc : l ≤ cap) (hcap : cap ≤ maxLen) (hn : n ≤ cap - l) :
    Calls Tryd.prog 40 #[.pointer (some ⟨b, q, none⟩), .int .i64 n] w fun e w' => e = .returned (.tuple #[.int .i64 l, .bool true]) ∧ w' = w.setCell ⟨b, q, none⟩ (.slice ao (l + n) cap) := Any.Buffer_tryGrow_room_at Tryd.laysM251 b q ao l cap n w c0 f0 hlc hcap hn
open Go.RowKit in
/-- .. THERE IS NONE: nothing turns. (LAID: no walk: one application.) -/
theorem Tryd.Buffer_tryGrow_none_at (b q : Nat) (ao : Option Addr) (l cap n : Nat) (w : World) (c0 : w.cell? ⟨b, q, none⟩ = some (.slice ao l cap)) (hlc : l ≤ cap) (hcap : cap ≤ maxLen) (hn : cap - l < n) :
    Calls Tryd.prog 40 #[.pointer (some ⟨b, q, none⟩), .int .i64 n] w fun e w' => e = .returned (.tuple #[.int .i64 0, .bool false]) ∧ w' = w := Any.Buffer_tryGrow_none_at Tryd.laysM251 b q ao l cap n w c0 hlc hcap hn
def Tryd.lays157_ren : Go.Shelf.Ren := ⟨fun | 157 => 35 | 229 => 38 | 199 => 39 | 261 => 42 | 311 => 46 | 312 => 47 | n => n, fun | 9 => 9 | 31 => 29 | 3 => 3 | 5 => 5 | 4 => 4 | 119 => 78 | 0 => 0 | 40 => 80 | 152 => 84 | 21 => 21 | 154 => 86 | 51 => 58 | 141 => 88 | 196 => 94 | 193 => 91 | 198 => 97 | 49 => 95 | 194 => 92 | 201 => 100 | 226 => 102 | 46 => 103 | 227 => 104 | n => n, fun | 0 => 0 | 6 => 1 | n => n⟩
theorem Tryd.lays157 : Go.Proofs.Lays.n157 Tryd.prog Tryd.lays157_ren := {
  mixed := by kernel_rfl
  f157 := Tryd.func35.trans (congrArg some (by kernel_rfl))
  f199 := Tryd.func39.trans (congrArg some (by kernel_rfl))
  f229 := Tryd.func38.trans (congrArg some (by kernel_rfl))
  f261 := Tryd.func42.trans (congrArg some (by kernel_rfl))
  f311 := Tryd.func46.trans (congrArg some (by kernel_rfl))
  f312 := Tryd.func47.trans (congrArg some (by kernel_rfl))
  t0 := Tryd.underlying0
  a0 := Tryd.isAgg0
  z0 := Tryd.sizeOf0
  v0 := Tryd.zeroValue0
  t3 := Tryd.underlying3
  a3 := Tryd.isAgg3
  z3 := Tryd.sizeOf3
  v3 := Tryd.zeroValue3
  t4 := Tryd.underlying4
  a4 := Tryd.isAgg4
  z4 := Tryd.sizeOf4
  v4 := Tryd.zeroValue4
  t5 := Tryd.underlying5
  a5 := Tryd.isAgg5
  z5 := Tryd.sizeOf5
  v5 := Tryd.zeroValue5
  t9 := Tryd.underlying9
  a9 := Tryd.isAgg9
  z9 := Tryd.sizeOf9
  v9 := Tryd.zeroValue9
  t21 := Tryd.underlying21
  a21 := Tryd.isAgg21
  z21 := Tryd.sizeOf21
  v21 := Tryd.zeroValue21
  t31 := Tryd.underlying29
  a31 := Tryd.isAgg29
  z31 := Tryd.sizeOf29
  v31 := Tryd.zeroValue29
  t40 := Tryd.underlying80
  a40 := Tryd.isAgg80
  z40 := Tryd.sizeOf80
  v40 := Tryd.zeroValue80
  t46 := Tryd.underlying103
  a46 := Tryd.isAgg103
  z46 := Tryd.sizeOf103
  v46 := Tryd.zeroValue103
  t49 := Tryd.underlying95
  a49 := Tryd.isAgg95
  z49 := Tryd.sizeOf95
  v49 := Tryd.zeroValue95
  t51 := Tryd.underlying58
  a51 := Tryd.isAgg58
  z51 := Tryd.sizeOf58
  v51 := Tryd.zeroValue58
  t119 := Tryd.underlying78
  a119 := Tryd.isAgg78
  z119 := Tryd.sizeOf78
  t141 := Tryd.underlying88
  a141 := Tryd.isAgg88
  z141 := Tryd.sizeOf88
  v141 := Tryd.zeroValue88
  t152 := Tryd.underlying84
  a152 := Tryd.isAgg84
  z152 := Tryd.sizeOf84
  v152 := Tryd.zeroValue84
  t154 := Tryd.underlying86
  a154 := Tryd.isAgg86
  z154 := Tryd.sizeOf86
  v154 := Tryd.zeroValue86
  t193 := Tryd.underlying91
  a193 := Tryd.isAgg91
  z193 := Tryd.sizeOf91
  v193 := Tryd.zeroValue91
  t194 := Tryd.underlying92
  a194 := Tryd.isAgg92
  z194 := Tryd.sizeOf92
  v194 := Tryd.zeroValue92
  t196 := Tryd.underlying94
  a196 := Tryd.isAgg94
  z196 := Tryd.sizeOf94
  v196 := Tryd.zeroValue94
  t198 := Tryd.underlying97
  a198 := Tryd.isAgg97
  z198 := Tryd.sizeOf97
  v198 := Tryd.zeroValue97
  t201 := Tryd.underlying100
  a201 := Tryd.isAgg100
  z201 := Tryd.sizeOf100
  v201 := Tryd.zeroValue100
  t226 := Tryd.underlying102
  a226 := Tryd.isAgg102
  z226 := Tryd.sizeOf102
  v226 := Tryd.zeroValue102
  t227 := Tryd.underlying104
  a227 := Tryd.isAgg104
  z227 := Tryd.sizeOf104
  v227 := Tryd.zeroValue104
  g0 := by kernel_rfl
  g6 := by kernel_rfl }
open Go.RowKit Go.Lib in
/-- strings.Fields, the table by 'Lib.TabIs' (as strings.TrimSpace's contract). 'hg': the table's number, by its name: at a dump 'by kernel_rfl'. (LAID: no walk: one application.) -/
theorem Tryd.strings_Fields (s : ByteArray) (w : World) (hs : s.size < 4294967281) (hascii : ∀ (j : Nat) b, s.data.toList[j]? = some b → b.toNat < 128) (htab : Lib.TabIs Tryd.prog w "strings.asciiSpace" .u8 Lib.asciiSpaceTab) :
    Calls Tryd.prog 35 #[.string s] w fun e w' =>
      e = .returned (.slice (some ⟨w.heap.size, 0, none⟩) (Lib.fields s.data.toList).length (Lib.fields s.data.toList).length) ∧ w' = w.alloc (.cells ((Lib.fields s.data.toList).map fun l => Value.string ⟨l.toArray⟩).toArray 9) := Any.strings_Fields Tryd.lays157 (by kernel_rfl) (by kernel_rfl) s w hs hascii htab
def Tryd.laysM157_ren : Go.Shelf.Ren := ⟨fun | 157 => 35 | 229 => 38 | 199 => 39 | 261 => 42 | 311 => 46 | 312 => 47 | n => n, fun | 9 => 9 | 31 => 29 | 3 => 3 | 5 => 5 | 4 => 4 | 119 => 78 | 0 => 0 | 40 => 80 | 152 => 84 | 21 => 21 | 154 => 86 | 51 => 58 | 141 => 88 | 196 => 94 | 193 => 91 | 198 => 97 | 49 => 95 | 194 => 92 | 201 => 100 | 226 => 102 | 46 => 103 | 227 => 104 | n => n, fun | 0 => 0 | 6 => 1 | n => n⟩
theorem Tryd.laysM157 : Go.Proofs.LaysM.n157 Tryd.prog Tryd.laysM157_ren := {
  mixed := by kernel_rfl
  f157 := Tryd.func35.trans (congrArg some (by kernel_rfl))
  f199 := Tryd.func39.trans (congrArg some (by kernel_rfl))
  f229 := Tryd.func38.trans (congrArg some (by kernel_rfl))
  f261 := Tryd.func42.trans (congrArg some (by kernel_rfl))
  f311 := Tryd.func46.trans (congrArg some (by kernel_rfl))
  f312 := Tryd.func47.trans (congrArg some (by kernel_rfl))
  t0 := Tryd.underlying0
  a0 := Tryd.isAgg0
  z0 := Tryd.sizeOf0
  v0 := Tryd.zeroValue0
  t3 := Tryd.underlying3
  a3 := Tryd.isAgg3
  z3 := Tryd.sizeOf3
  v3 := Tryd.zeroValue3
  t4 := Tryd.underlying4
  a4 := Tryd.isAgg4
  z4 := Tryd.sizeOf4
  v4 := Tryd.zeroValue4
  t5 := Tryd.underlying5
  a5 := Tryd.isAgg5
  z5 := Tryd.sizeOf5
  v5 := Tryd.zeroValue5
  t9 := Tryd.underlying9
  a9 := Tryd.isAgg9
  z9 := Tryd.sizeOf9
  v9 := Tryd.zeroValue9
  t21 := Tryd.underlying21
  a21 := Tryd.isAgg21
  z21 := Tryd.sizeOf21
  v21 := Tryd.zeroValue21
  t31 := Tryd.underlying29
  a31 := Tryd.isAgg29
  z31 := Tryd.sizeOf29
  v31 := Tryd.zeroValue29
  t40 := Tryd.underlying80
  a40 := Tryd.isAgg80
  z40 := Tryd.sizeOf80
  v40 := Tryd.zeroValue80
  t46 := Tryd.underlying103
  a46 := Tryd.isAgg103
  z46 := Tryd.sizeOf103
  v46 := Tryd.zeroValue103
  t49 := Tryd.underlying95
  a49 := Tryd.isAgg95
  z49 := Tryd.sizeOf95
  v49 := Tryd.zeroValue95
  t51 := Tryd.underlying58
  a51 := Tryd.isAgg58
  z51 := Tryd.sizeOf58
  v51 := Tryd.zeroValue58
  t119 := Tryd.underlying78
  a119 := Tryd.isAgg78
  z119 := Tryd.sizeOf78
  t141 := Tryd.underlying88
  a141 := Tryd.isAgg88
  z141 := Tryd.sizeOf88
  v141 := Tryd.zeroValue88
  t152 := Tryd.underlying84
  a152 := Tryd.isAgg84
  z152 := Tryd.sizeOf84
  v152 := Tryd.zeroValue84
  t154 := Tryd.underlying86
  a154 := Tryd.isAgg86
  z154 := Tryd.sizeOf86
  v154 := Tryd.zeroValue86
  t193 := Tryd.underlying91
  a193 := Tryd.isAgg91
  z193 := Tryd.sizeOf91
  v193 := Tryd.zeroValue91
  t194 := Tryd.underlying92
  a194 := Tryd.isAgg92
  z194 := Tryd.sizeOf92
  v194 := Tryd.zeroValue92
  t196 := Tryd.underlying94
  a196 := Tryd.isAgg94
  z196 := Tryd.sizeOf94
  v196 := Tryd.zeroValue94
  t198 := Tryd.underlying97
  a198 := Tryd.isAgg97
  z198 := Tryd.sizeOf97
  v198 := Tryd.zeroValue97
  t201 := Tryd.underlying100
  a201 := Tryd.isAgg100
  z201 := Tryd.sizeOf100
  v201 := Tryd.zeroValue100
  t226 := Tryd.underlying102
  a226 := Tryd.isAgg102
  z226 := Tryd.sizeOf102
  v226 := Tryd.zeroValue102
  t227 := Tryd.underlying104
  a227 := Tryd.isAgg104
  z227 := Tryd.sizeOf104
  v227 := Tryd.zeroValue104
  g0 := by kernel_rfl
  g6 := by kernel_rfl
  i0 := by kernel_rfl
  i3 := by kernel_rfl
  i4 := by kernel_rfl
  i5 := by kernel_rfl
  i9 := by kernel_rfl
  i21 := by kernel_rfl
  i31 := by kernel_rfl
  i40 := by kernel_rfl
  i46 := by kernel_rfl
  i49 := by kernel_rfl
  i51 := by kernel_rfl
  i141 := by kernel_rfl
  i152 := by kernel_rfl
  i154 := by kernel_rfl
  i193 := by kernel_rfl
  i194 := by kernel_rfl
  i196 := by kernel_rfl
  i198 := by kernel_rfl
  i201 := by kernel_rfl
  i226 := by kernel_rfl
  i227 := by kernel_rfl
  m0 := by kernel_rfl
  m6 := by kernel_rfl }
open Go.RowKit Go.Lib in
/-- strings.Fields on ASCII bytes. (The table: 'Lib.TabIs', as strings.TrimSpace's contract asks it.) (LAID: no walk: one application.) -/
theorem Tryd.strings_Fields_laid (s : ByteArray) (w : World) (hs : s.size < 4294967281) (hascii : ∀ (j : Nat) b, s.data.toList[j]? = some b → b.toNat < 128) (htab : Lib.TabIs Tryd.prog w "strings.asciiSpace" .u8 Lib.asciiSpaceTab) :
    Calls Tryd.prog 35 #[.string s] w fun e w' =>
      e = .returned (.slice (some ⟨w.heap.size, 0, none⟩) (Lib.fields s.data.toList).length (Lib.fields s.data.toList).length) ∧ w' = w.alloc (.cells ((Lib.fields s.data.toList).map fun l => Value.string ⟨l.toArray⟩).toArray 9) := Any.strings_Fields_laid Tryd.laysM157 s w hs hascii htab
def Tryd.lays199_ren : Go.Shelf.Ren := ⟨fun | 199 => 39 | 261 => 42 | 311 => 46 | 312 => 47 | n => n, fun | 21 => 21 | 4 => 4 | 51 => 58 | 141 => 88 | 0 => 0 | 196 => 94 | 193 => 91 | 3 => 3 | 198 => 97 | 49 => 95 | 194 => 92 | 201 => 100 | 226 => 102 | 46 => 103 | 227 => 104 | n => n, fun | 6 => 1 | n => n⟩
theorem Tryd.lays199 : Go.Proofs.Lays.n199 Tryd.prog Tryd.lays199_ren := {
  mixed := by kernel_rfl
  f199 := Tryd.func39.trans (congrArg some (by kernel_rfl))
  f261 := Tryd.func42.trans (congrArg some (by kernel_rfl))
  f311 := Tryd.func46.trans (congrArg some (by kernel_rfl))
  f312 := Tryd.func47.trans (congrArg some (by kernel_rfl))
  t0 := Tryd.underlying0
  a0 := Tryd.isAgg0
  z0 := Tryd.sizeOf0
  v0 := Tryd.zeroValue0
  t3 := Tryd.underlying3
  a3 := Tryd.isAgg3
  z3 := Tryd.sizeOf3
  v3 := Tryd.zeroValue3
  t4 := Tryd.underlying4
  a4 := Tryd.isAgg4
  z4 := Tryd.sizeOf4
  v4 := Tryd.zeroValue4
  t21 := Tryd.underlying21
  a21 := Tryd.isAgg21
  z21 := Tryd.sizeOf21
  v21 := Tryd.zeroValue21
  t46 := Tryd.underlying103
  a46 := Tryd.isAgg103
  z46 := Tryd.sizeOf103
  v46 := Tryd.zeroValue103
  t49 := Tryd.underlying95
  a49 := Tryd.isAgg95
  z49 := Tryd.sizeOf95
  v49 := Tryd.zeroValue95
  t51 := Tryd.underlying58
  a51 := Tryd.isAgg58
  z51 := Tryd.sizeOf58
  v51 := Tryd.zeroValue58
  t141 := Tryd.underlying88
  a141 := Tryd.isAgg88
  z141 := Tryd.sizeOf88
  v141 := Tryd.zeroValue88
  t193 := Tryd.underlying91
  a193 := Tryd.isAgg91
  z193 := Tryd.sizeOf91
  v193 := Tryd.zeroValue91
  t194 := Tryd.underlying92
  a194 := Tryd.isAgg92
  z194 := Tryd.sizeOf92
  v194 := Tryd.zeroValue92
  t196 := Tryd.underlying94
  a196 := Tryd.isAgg94
  z196 := Tryd.sizeOf94
  v196 := Tryd.zeroValue94
  t198 := Tryd.underlying97
  a198 := Tryd.isAgg97
  z198 := Tryd.sizeOf97
  v198 := Tryd.zeroValue97
  t201 := Tryd.underlying100
  a201 := Tryd.isAgg100
  z201 := Tryd.sizeOf100
  v201 := Tryd.zeroValue100
  t226 := Tryd.underlying102
  a226 := Tryd.isAgg102
  z226 := Tryd.sizeOf102
  v226 := Tryd.zeroValue102
  t227 := Tryd.underlying104
  a227 := Tryd.isAgg104
  z227 := Tryd.sizeOf104
  v227 := Tryd.zeroValue104
  g6 := by kernel_rfl }
open Go.RowKit Go.Lib in
theorem Tryd.unicode_IsSpace (r : Int) (w : World) (h0 : 0 ≤ r) (h : r ≤ 255) :
    Calls Tryd.prog 39 #[.int .i32 r] w fun e w' => e = .returned (.bool (Lib.isSpaceL r)) ∧ w' = w := Any.unicode_IsSpace Tryd.lays199 r w h0 h
def Tryd.lays311_ren : Go.Shelf.Ren := ⟨fun | 311 => 46 | n => n, fun | 193 => 91 | 49 => 95 | 4 => 4 | 3 => 3 | 0 => 0 | 226 => 102 | 198 => 97 | 46 => 103 | n => n, fun | n => n⟩
theorem Tryd.lays311 : Go.Proofs.Lays.n311 Tryd.prog Tryd.lays311_ren := {
  mixed := by kernel_rfl
  f311 := Tryd.func46.trans (congrArg some (by kernel_rfl))
  t0 := Tryd.underlying0
  a0 := Tryd.isAgg0
  z0 := Tryd.sizeOf0
  v0 := Tryd.zeroValue0
  t3 := Tryd.underlying3
  a3 := Tryd.isAgg3
  z3 := Tryd.sizeOf3
  v3 := Tryd.zeroValue3
  t4 := Tryd.underlying4
  a4 := Tryd.isAgg4
  z4 := Tryd.sizeOf4
  v4 := Tryd.zeroValue4
  t46 := Tryd.underlying103
  a46 := Tryd.isAgg103
  z46 := Tryd.sizeOf103
  v46 := Tryd.zeroValue103
  t49 := Tryd.underlying95
  a49 := Tryd.isAgg95
  z49 := Tryd.sizeOf95
  v49 := Tryd.zeroValue95
  t193 := Tryd.underlying91
  a193 := Tryd.isAgg91
  z193 := Tryd.sizeOf91
  v193 := Tryd.zeroValue91
  t198 := Tryd.underlying97
  a198 := Tryd.isAgg97
  z198 := Tryd.sizeOf97
  v198 := Tryd.zeroValue97
  t226 := Tryd.underlying102
  a226 := Tryd.isAgg102
  z226 := Tryd.sizeOf102
  v226 := Tryd.zeroValue102 }
open Go.RowKit Go.Lib in
theorem Tryd.unicode_is16_white (R oR : Nat) (z : Nat) (w : World) (hz : z < 65536) (hz0 : 255 < z) (c6 : w.cell? ⟨R, oR + 6, none⟩ = some (.int .u16 160)) (c7 : w.cell? ⟨R, oR + 7, none⟩ = some (.int .u16 5760)) (c8 : w.cell? ⟨R, oR + 8, none⟩ = some (.int .u16 5600)) (c9 : w.cell? ⟨R, oR + 9, none⟩ = some (.int .u16 8192)) (c10 : w.cell? ⟨R, oR + 10, none⟩ = some (.int .u16 8202)) (c11 : w.cell? ⟨R, oR + 11, none⟩ = some (.int .u16 1)) (c12 : w.cell? ⟨R, oR + 12, none⟩ = some (.int .u16 8232)) (c13 : w.cell? ⟨R, oR + 13, none⟩ = some (.int .u16 8233)) (c14 : w.cell? ⟨R, oR + 14, none⟩ = some (.int .u16 1)) (c15 : w.cell? ⟨R, oR + 15, none⟩ = some (.int .u16 8239)) (c16 : w.cell? ⟨R, oR + 16, none⟩ = some (.int .u16 8287)) (c17 : w.cell? ⟨R, oR + 17, none⟩ = some (.int .u16 48)) (c18 : w.cell? ⟨R, oR + 18, none⟩ = some (.int .u16 12288)) (c19 : w.cell? ⟨R, oR + 19, none⟩ = some (.int .u16 12288)) (c20 : w.cell? ⟨R, oR + 20, none⟩ = some (.int .u16 1)) :
    Calls Tryd.prog 46 #[.slice (some ⟨R, oR + 6, none⟩) 5 5, .int .u16 z] w fun e w' => e = .returned (.bool (Lib.isSpaceR z)) ∧ Below w.heap.size w w' := Any.unicode_is16_white Tryd.lays311 R oR z w hz hz0 c6 c7 c8 c9 c10 c11 c12 c13 c14 c15 c16 c17 c18 c19 c20
def Tryd.lays261_ren : Go.Shelf.Ren := ⟨fun | 261 => 42 | 311 => 46 | 312 => 47 | n => n, fun | 141 => 88 | 21 => 21 | 4 => 4 | 0 => 0 | 196 => 94 | 193 => 91 | 3 => 3 | 51 => 58 | 198 => 97 | 49 => 95 | 194 => 92 | 201 => 100 | 226 => 102 | 46 => 103 | 227 => 104 | n => n, fun | n => n⟩
theorem Tryd.lays261 : Go.Proofs.Lays.n261 Tryd.prog Tryd.lays261_ren := {
  mixed := by kernel_rfl
  f261 := Tryd.func42.trans (congrArg some (by kernel_rfl))
  f311 := Tryd.func46.trans (congrArg some (by kernel_rfl))
  f312 := Tryd.func47.trans (congrArg some (by kernel_rfl))
  t0 := Tryd.underlying0
  a0 := Tryd.isAgg0
  z0 := Tryd.sizeOf0
  v0 := Tryd.zeroValue0
  t3 := Tryd.underlying3
  a3 := Tryd.isAgg3
  z3 := Tryd.sizeOf3
  v3 := Tryd.zeroValue3
  t4 := Tryd.underlying4
  a4 := Tryd.isAgg4
  z4 := Tryd.sizeOf4
  v4 := Tryd.zeroValue4
  t21 := Tryd.underlying21
  a21 := Tryd.isAgg21
  z21 := Tryd.sizeOf21
  v21 := Tryd.zeroValue21
  t46 := Tryd.underlying103
  a46 := Tryd.isAgg103
  z46 := Tryd.sizeOf103
  v46 := Tryd.zeroValue103
  t49 := Tryd.underlying95
  a49 := Tryd.isAgg95
  z49 := Tryd.sizeOf95
  v49 := Tryd.zeroValue95
  t51 := Tryd.underlying58
  a51 := Tryd.isAgg58
  z51 := Tryd.sizeOf58
  v51 := Tryd.zeroValue58
  t141 := Tryd.underlying88
  a141 := Tryd.isAgg88
  z141 := Tryd.sizeOf88
  v141 := Tryd.zeroValue88
  t193 := Tryd.underlying91
  a193 := Tryd.isAgg91
  z193 := Tryd.sizeOf91
  v193 := Tryd.zeroValue91
  t194 := Tryd.underlying92
  a194 := Tryd.isAgg92
  z194 := Tryd.sizeOf92
  v194 := Tryd.zeroValue92
  t196 := Tryd.underlying94
  a196 := Tryd.isAgg94
  z196 := Tryd.sizeOf94
  v196 := Tryd.zeroValue94
  t198 := Tryd.underlying97
  a198 := Tryd.isAgg97
  z198 := Tryd.sizeOf97
  v198 := Tryd.zeroValue97
  t201 := Tryd.underlying100
  a201 := Tryd.isAgg100
  z201 := Tryd.sizeOf100
  v201 := Tryd.zeroValue100
  t226 := Tryd.underlying102
  a226 := Tryd.isAgg102
  z226 := Tryd.sizeOf102
  v226 := Tryd.zeroValue102
  t227 := Tryd.underlying104
  a227 := Tryd.isAgg104
  z227 := Tryd.sizeOf104
  v227 := Tryd.zeroValue104 }
open Go.RowKit Go.Lib in
/-- unicode.isExcludingLatin(White_Space, r), r beyond U+00FF or negative. (LAID: no walk: one application.) -/
theorem Tryd.unicode_isExcludingLatin_white (T oT R oR : Nat) (r : Int) (w : World) (hlo : -2147483648 ≤ r) (hhi : r ≤ 2147483647) (hr : r < 0 ∨ 255 < r) (h2 : w.cell? ⟨T, oT, none⟩ = some (.slice (some ⟨R, oR, none⟩) 7 7)) (h3 : w.cell? ⟨T, oT + 1, none⟩ = some (.slice none 0 0)) (h4 : w.cell? ⟨T, oT + 2, none⟩ = some (.int .i64 2)) (h5 : ∀ i, i < 21 → w.cell? ⟨R, oR + i, none⟩ = some (.int .u16 (whiteT.getD i 0))) :
    Calls Tryd.prog 42 #[.pointer (some ⟨T, oT, none⟩), .int .i32 r] w fun e w' => e = .returned (.bool (Lib.isSpaceZ r)) ∧ Below w.heap.size w w' := Any.unicode_isExcludingLatin_white Tryd.lays261 T oT R oR r w hlo hhi hr h2 h3 h4 h5
open Go.RowKit Go.Lib in
/-- **unicode.IsSpace AT EVERY int32.** (LAID: no walk: one application.) -/
theorem Tryd.unicode_IsSpace_any (r : Int) (w : World) (hlo : -2147483648 ≤ r) (hhi : r ≤ 2147483647) (hW : Lib.WhiteTab 1 w) :
    Calls Tryd.prog 39 #[.int .i32 r] w fun e w' => e = .returned (.bool (Lib.isSpaceZ r)) ∧ Below w.heap.size w w' := Any.unicode_IsSpace_any Tryd.lays199 r w hlo hhi hW
open Go.RowKit Go.Lib in
theorem Tryd.unicode_is16_white_d (R oR : Nat) (z : Nat) (w : World) (hz : z < 65536) (hz0 : 255 < z) (c6 : w.cell? ⟨R, oR + 6, none⟩ = some (.int .u16 160)) (c7 : w.cell? ⟨R, oR + 7, none⟩ = some (.int .u16 5760)) (c8 : w.cell? ⟨R, oR + 8, none⟩ = some (.int .u16 5600)) (c9 : w.cell? ⟨R, oR + 9, none⟩ = some (.int .u16 8192)) (c10 : w.cell? ⟨R, oR + 10, none⟩ = some (.int .u16 8202)) (c11 : w.cell? ⟨R, oR + 11, none⟩ = some (.int .u16 1)) (c12 : w.cell? ⟨R, oR + 12, none⟩ = some (.int .u16 8232)) (c13 : w.cell? ⟨R, oR + 13, none⟩ = some (.int .u16 8233)) (c14 : w.cell? ⟨R, oR + 14, none⟩ = some (.int .u16 1)) (c15 : w.cell? ⟨R, oR + 15, none⟩ = some (.int .u16 8239)) (c16 : w.cell? ⟨R, oR + 16, none⟩ = some (.int .u16 8287)) (c17 : w.cell? ⟨R, oR + 17, none⟩ = some (.int .u16 48)) (c18 : w.cell? ⟨R, oR + 18, none⟩ = some (.int .u16 12288)) (c19 : w.cell? ⟨R, oR + 19, none⟩ = some (.int .u16 12288)) (c20 : w.cell? ⟨R, oR + 20, none⟩ = some (.int .u16 1)) :
    Calls Tryd.prog 46 #[.slice (some ⟨R, oR + 6, none⟩) 5 5, .int .u16 z] w fun e w' => e = .returned (.bool (Lib.isSpaceR z)) ∧ ∃ q, w' = w.drewN q := Any.unicode_is16_white_d Tryd.lays311 R oR z w hz hz0 c6 c7 c8 c9 c10 c11 c12 c13 c14 c15 c16 c17 c18 c19 c20
open Go.RowKit Go.Lib in
/-- unicode.isExcludingLatin(White_Space, r), r beyond U+00FF or negative. (LAID: no walk: one application.) -/
theorem Tryd.unicode_isExcludingLatin_white_d (T oT R oR : Nat) (r : Int) (w : World) (hlo : -2147483648 ≤ r) (hhi : r ≤ 2147483647) (hr : r < 0 ∨ 255 < r) (h2 : w.cell? ⟨T, oT, none⟩ = some (.slice (some ⟨R, oR, none⟩) 7 7)) (h3 : w.cell? ⟨T, oT + 1, none⟩ = some (.slice none 0 0)) (h4 : w.cell? ⟨T, oT + 2, none⟩ = some (.int .i64 2)) (h5 : ∀ i, i < 21 → w.cell? ⟨R, oR + i, none⟩ = some (.int .u16 (whiteT.getD i 0))) :
    Calls Tryd.prog 42 #[.pointer (some ⟨T, oT, none⟩), .int .i32 r] w fun e w' => e = .returned (.bool (Lib.isSpaceZ r)) ∧ ∃ q, w' = w.drewN q := Any.unicode_isExcludingLatin_white_d Tryd.lays261 T oT R oR r w hlo hhi hr h2 h3 h4 h5
open Go.RowKit Go.Lib in
/-- **unicode.IsSpace AT EVERY int32.** (LAID: no walk: one application.) -/
theorem Tryd.unicode_IsSpace_any_d (r : Int) (w : World) (hlo : -2147483648 ≤ r) (hhi : r ≤ 2147483647) (hW : Lib.WhiteTab 1 w) :
    Calls Tryd.prog 39 #[.int .i32 r] w fun e w' => e = .returned (.bool (Lib.isSpaceZ r)) ∧ ∃ q, w' = w.drewN q := Any.unicode_IsSpace_any_d Tryd.lays199 r w hlo hhi hW
open Go.RowKit Go.Lib in
theorem Tryd.strings_Fields_beyond (s : ByteArray) (w : World) (hs : s.size < 4294967281) (hhigh : ∃ (j : Nat) (b : UInt8), s.data.toList[j]? = some b ∧ 128 ≤ b.toNat) (hT : ∀ c : Nat, c < 256 → w.cell? ⟨0, c, none⟩ = some (.int .u8 (if Lib.isSp (UInt8.ofNat c) then 1 else 0))) (hW : Lib.WhiteTab 1 w) :
    Calls Tryd.prog 35 #[.string s] w fun e w' => ∃ A, e = .returned (.slice (some ⟨A, 0, none⟩) (Lib.goFieldsP Lib.isSpaceR s).length (Lib.goFieldsP Lib.isSpaceR s).length) ∧ w.heap.size ≤ A ∧
      w'.ownsRow w.heap.size 9 1 (.slice (some ⟨A, 0, none⟩) (Lib.goFieldsP Lib.isSpaceR s).length (Lib.goFieldsP Lib.isSpaceR s).length) (Lib.goFieldsP Lib.isSpaceR s).length ((Lib.goFieldsP Lib.isSpaceR s).map Value.string) ∧ Below w.heap.size w w' := Any.strings_Fields_beyond Tryd.lays157 (by kernel_rfl) (by kernel_rfl) s w hs hhigh hT hW
open Go.RowKit Go.Lib in
/-- **strings.Fields AT EVERY STRING, VALID UTF-8 OR NOT.** (LAID: no walk: one application.) -/
theorem Tryd.strings_Fields_any (s : ByteArray) (w : World) (hs : s.size < 4294967281) (htab : Lib.TabIs Tryd.prog w "strings.asciiSpace" .u8 Lib.asciiSpaceTab) (hW : Lib.WhiteTab 1 w) :
    Calls Tryd.prog 35 #[.string s] w fun e w' => ∃ A, e = .returned (.slice (some ⟨A, 0, none⟩) (Lib.fieldsD s.data.toList).length (Lib.fieldsD s.data.toList).length) ∧ w.heap.size ≤ A ∧
      w'.ownsRow w.heap.size 9 1 (.slice (some ⟨A, 0, none⟩) (Lib.fieldsD s.data.toList).length (Lib.fieldsD s.data.toList).length) (Lib.fieldsD s.data.toList).length ((Lib.fieldsD s.data.toList).map fun x => Value.string ⟨x.toArray⟩) ∧ Below w.heap.size w w' := Any.strings_Fields_any Tryd.lays157 (by kernel_rfl) (by kernel_rfl) (by kernel_rfl) s w hs htab hW
def Tryd.lays229_ren : Go.Shelf.Ren := ⟨fun | 229 => 38 | n => n, fun | 9 => 9 | 40 => 80 | 31 => 29 | 152 => 84 | 3 => 3 | 0 => 0 | 4 => 4 | 21 => 21 | 154 => 86 | n => n, fun | n => n⟩
theorem Tryd.lays229 : Go.Proofs.Lays.n229 Tryd.prog Tryd.lays229_ren := {
  mixed := by kernel_rfl
  f229 := Tryd.func38.trans (congrArg some (by kernel_rfl))
  t0 := Tryd.underlying0
  a0 := Tryd.isAgg0
  z0 := Tryd.sizeOf0
  v0 := Tryd.zeroValue0
  t3 := Tryd.underlying3
  a3 := Tryd.isAgg3
  z3 := Tryd.sizeOf3
  v3 := Tryd.zeroValue3
  t4 := Tryd.underlying4
  a4 := Tryd.isAgg4
  z4 := Tryd.sizeOf4
  v4 := Tryd.zeroValue4
  t9 := Tryd.underlying9
  a9 := Tryd.isAgg9
  z9 := Tryd.sizeOf9
  v9 := Tryd.zeroValue9
  t21 := Tryd.underlying21
  a21 := Tryd.isAgg21
  z21 := Tryd.sizeOf21
  v21 := Tryd.zeroValue21
  t31 := Tryd.underlying29
  a31 := Tryd.isAgg29
  z31 := Tryd.sizeOf29
  v31 := Tryd.zeroValue29
  t40 := Tryd.underlying80
  a40 := Tryd.isAgg80
  z40 := Tryd.sizeOf80
  v40 := Tryd.zeroValue80
  t152 := Tryd.underlying84
  a152 := Tryd.isAgg84
  z152 := Tryd.sizeOf84
  v152 := Tryd.zeroValue84
  t154 := Tryd.underlying86
  a154 := Tryd.isAgg86
  z154 := Tryd.sizeOf86
  v154 := Tryd.zeroValue86 }
open Go.RowKit Go.Lib in
theorem Tryd.strings_FieldsFunc_runes (g : Nat) (lb : Array Value) (eg : ∀ args w, (callFunc g args).run Tryd.prog w = .ok (.enter g args) w) (p : Nat → Bool) (s : ByteArray) (w : World) (hs : s.size ≤ 4294967296) (hp : PredAtRunes Tryd.prog g lb p w) :
    Calls Tryd.prog 38 #[.string s, .func (.func g) #[] lb] w fun e w' => ∃ A, e = .returned (.slice (some ⟨A, 0, none⟩) (Lib.goFieldsP p s).length (Lib.goFieldsP p s).length) ∧ w.heap.size ≤ A ∧
      w'.ownsRow w.heap.size 9 1 (.slice (some ⟨A, 0, none⟩) (Lib.goFieldsP p s).length (Lib.goFieldsP p s).length) (Lib.goFieldsP p s).length ((Lib.goFieldsP p s).map Value.string) ∧ Below w.heap.size w w' := Any.strings_FieldsFunc_runes Tryd.lays229 g lb eg p s w hs hp (by kernel_rfl) (by kernel_rfl)
open Go.RowKit Go.Lib in
/-- .. over a hand of the authors' house's premise as it stands. (LAID: no walk: one application.) -/
theorem Tryd.strings_FieldsFunc (g : Nat) (lb : Array Value) (eg : ∀ args w, (callFunc g args).run Tryd.prog w = .ok (.enter g args) w) (p : Nat → Bool) (s : ByteArray) (w : World) (hs : s.size ≤ 4294967296) (hp : PredAt Tryd.prog g lb encR p w) :
    Calls Tryd.prog 38 #[.string s, .func (.func g) #[] lb] w fun e w' => ∃ A, e = .returned (.slice (some ⟨A, 0, none⟩) (Lib.goFieldsP p s).length (Lib.goFieldsP p s).length) ∧ w.heap.size ≤ A ∧
      w'.ownsRow w.heap.size 9 1 (.slice (some ⟨A, 0, none⟩) (Lib.goFieldsP p s).length (Lib.goFieldsP p s).length) (Lib.goFieldsP p s).length ((Lib.goFieldsP p s).map Value.string) ∧ Below w.heap.size w w' := Any.strings_FieldsFunc Tryd.lays229 g lb eg p s w hs hp (by kernel_rfl) (by kernel_rfl)
open Go.RowKit Go.Lib in
theorem Tryd.unicode_is16_any (T : Array Rg) (R oR cap : Nat) (z : Nat) (w : World) (hz : z < 65536) (hT : RgTab .u16 R oR T w) (hok : RgOk 65536 T) (hn : T.size ≤ 1000000000) :
    Calls Tryd.prog 46 #[.slice (some ⟨R, oR, none⟩) T.size cap, .int .u16 z] w fun e w' => e = .returned (.bool (is16Go T z)) ∧ ∃ q, w' = w.drewN q := Any.unicode_is16_any Tryd.lays311 T R oR cap z w hz hT hok hn
def Tryd.lays312_ren : Go.Shelf.Ren := ⟨fun | 312 => 47 | n => n, fun | 194 => 92 | 51 => 58 | 4 => 4 | 3 => 3 | 0 => 0 | 227 => 104 | 201 => 100 | 46 => 103 | n => n, fun | n => n⟩
theorem Tryd.lays312 : Go.Proofs.Lays.n312 Tryd.prog Tryd.lays312_ren := {
  mixed := by kernel_rfl
  f312 := Tryd.func47.trans (congrArg some (by kernel_rfl))
  t0 := Tryd.underlying0
  a0 := Tryd.isAgg0
  z0 := Tryd.sizeOf0
  v0 := Tryd.zeroValue0
  t3 := Tryd.underlying3
  a3 := Tryd.isAgg3
  z3 := Tryd.sizeOf3
  v3 := Tryd.zeroValue3
  t4 := Tryd.underlying4
  a4 := Tryd.isAgg4
  z4 := Tryd.sizeOf4
  v4 := Tryd.zeroValue4
  t46 := Tryd.underlying103
  a46 := Tryd.isAgg103
  z46 := Tryd.sizeOf103
  v46 := Tryd.zeroValue103
  t51 := Tryd.underlying58
  a51 := Tryd.isAgg58
  z51 := Tryd.sizeOf58
  v51 := Tryd.zeroValue58
  t194 := Tryd.underlying92
  a194 := Tryd.isAgg92
  z194 := Tryd.sizeOf92
  v194 := Tryd.zeroValue92
  t201 := Tryd.underlying100
  a201 := Tryd.isAgg100
  z201 := Tryd.sizeOf100
  v201 := Tryd.zeroValue100
  t227 := Tryd.underlying104
  a227 := Tryd.isAgg104
  z227 := Tryd.sizeOf104
  v227 := Tryd.zeroValue104 }
open Go.RowKit Go.Lib in
theorem Tryd.unicode_is32_any (T : Array Rg) (R oR cap : Nat) (z : Nat) (w : World) (hz : z < 4294967296) (hT : RgTab .u32 R oR T w) (hok : RgOk 4294967296 T) (hn : T.size ≤ 1000000000) :
    Calls Tryd.prog 47 #[.slice (some ⟨R, oR, none⟩) T.size cap, .int .u32 z] w fun e w' => e = .returned (.bool (is32Go T z)) ∧ Below w.heap.size w w' := Any.unicode_is32_any Tryd.lays312 T R oR cap z w hz hT hok hn
open Go.RowKit Go.Lib in
theorem Tryd.unicode_isExcludingLatin_any (Tb oT : Nat) (T : RTab) (r : Int) (w : World) (hlo : -2147483648 ≤ r) (hhi : r ≤ 2147483647) (hA : RTabAt Tb oT T w) (hok : RTabOk T) :
    Calls Tryd.prog 42 #[.pointer (some ⟨Tb, oT, none⟩), .int .i32 r] w fun e w' => e = .returned (.bool (exclGo T r)) ∧ Below w.heap.size w w' := Any.unicode_isExcludingLatin_any Tryd.lays261 Tb oT T r w hlo hhi hA hok
end Go.Proofs
