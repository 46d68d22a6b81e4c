/-
  DERIVED: THE SHELF's CONTRACTS AT THIS DUMP, IN PLAIN WORDS (tools/lay-plain.mjs out of 'TrydShelf.lean', which tools/lay-shelf.mjs wrote): THE SAME DECLARATIONS UNDER THE SAME NAMES: 'import', 'namespace', 'open', 'def', 'theorem' AND NOTHING ELSE: no command of the shelf's: FOR A HAND-IN. Each laying: the table of numbers ('.._ren') and one theorem, a field a fact of the dump's own or the kernel's comparison; each contract: ONE APPLICATION.
-/
import Derived.Shelf.Strings.TrimSpace
import Derived.Shelf.Small.Utf8
import Derived.Shelf.GgClosure.StringsIndexFunc
import Derived.Shelf.Unicode.Latin
import Derived.Shelf.Unicode.Decode
import Derived.Shelf.Unicode.DecodeSlow
import Derived.Shelf.Unicode.DecodeAny
import Derived.Shelf.Unicode.Is16White
import Derived.Shelf.Unicode.IsSpaceAny
import Derived.Shelf.Unicode.DecodeLast
import Derived.Shelf.Unicode.Is16WhiteD
import Derived.Shelf.Unicode.IsSpaceAnyD
import Derived.Shelf.Unicode.Is16Any
import Derived.Shelf.Unicode.Is32Any
import Derived.Shelf.Unicode.ExclAny
import Derived.Test.YtmfjbljdbkmkgaaDoorProg
namespace Go.Proofs
open Go.Shelf
def Tryd.lays163_ren : Go.Shelf.Ren := ⟨fun | 163 => 43 | 237 => 50 | 199 => 51 | 238 => 52 | 272 => 54 | 261 => 55 | 273 => 56 | 197 => 57 | 315 => 58 | 311 => 59 | 312 => 60 | 271 => 61 | 260 => 62 | 120 => 63 | n => n, fun | 9 => 9 | 37 => 54 | 3 => 3 | 0 => 0 | 5 => 5 | 4 => 4 | 40 => 78 | 119 => 79 | 21 => 21 | 51 => 62 | 141 => 81 | 105 => 83 | 196 => 88 | 193 => 85 | 198 => 91 | 49 => 89 | 194 => 86 | 201 => 94 | 226 => 96 | 46 => 23 | 227 => 97 | 139 => 101 | 138 => 100 | n => n, fun | 0 => 0 | 6 => 1 | 3 => 2 | 4 => 3 | n => n⟩
theorem Tryd.lays163 : Go.Proofs.Lays.n163 Tryd.prog Tryd.lays163_ren := {
  mixed := by kernel_rfl
  f120 := Tryd.func63.trans (congrArg some (by kernel_rfl))
  f163 := Tryd.func43.trans (congrArg some (by kernel_rfl))
  f197 := Tryd.func57.trans (congrArg some (by kernel_rfl))
  f199 := Tryd.func51.trans (congrArg some (by kernel_rfl))
  f237 := Tryd.func50.trans (congrArg some (by kernel_rfl))
  f238 := Tryd.func52.trans (congrArg some (by kernel_rfl))
  f260 := Tryd.func62.trans (congrArg some (by kernel_rfl))
  f261 := Tryd.func55.trans (congrArg some (by kernel_rfl))
  f271 := Tryd.func61.trans (congrArg some (by kernel_rfl))
  f272 := Tryd.func54.trans (congrArg some (by kernel_rfl))
  f273 := Tryd.func56.trans (congrArg some (by kernel_rfl))
  f311 := Tryd.func59.trans (congrArg some (by kernel_rfl))
  f312 := Tryd.func60.trans (congrArg some (by kernel_rfl))
  f315 := Tryd.func58.trans (congrArg some (by kernel_rfl))
  t0 := Tryd.underlying0
  a0 := Tryd.isAgg0
  z0 := Tryd.sizeOf0
  v0 := Tryd.zeroValue0
  t3 := Tryd.underlying3
  a3 := Tryd.isAgg3
  z3 := Tryd.sizeOf3
  v3 := Tryd.zeroValue3
  t4 := Tryd.underlying4
  a4 := Tryd.isAgg4
  z4 := Tryd.sizeOf4
  v4 := Tryd.zeroValue4
  t5 := Tryd.underlying5
  a5 := Tryd.isAgg5
  z5 := Tryd.sizeOf5
  v5 := Tryd.zeroValue5
  t9 := Tryd.underlying9
  a9 := Tryd.isAgg9
  z9 := Tryd.sizeOf9
  v9 := Tryd.zeroValue9
  t21 := Tryd.underlying21
  a21 := Tryd.isAgg21
  z21 := Tryd.sizeOf21
  v21 := Tryd.zeroValue21
  t37 := Tryd.underlying54
  a37 := Tryd.isAgg54
  z37 := Tryd.sizeOf54
  v37 := Tryd.zeroValue54
  t40 := Tryd.underlying78
  a40 := Tryd.isAgg78
  z40 := Tryd.sizeOf78
  v40 := Tryd.zeroValue78
  t46 := Tryd.underlying23
  a46 := Tryd.isAgg23
  z46 := Tryd.sizeOf23
  v46 := Tryd.zeroValue23
  t49 := Tryd.underlying89
  a49 := Tryd.isAgg89
  z49 := Tryd.sizeOf89
  v49 := Tryd.zeroValue89
  t51 := Tryd.underlying62
  a51 := Tryd.isAgg62
  z51 := Tryd.sizeOf62
  v51 := Tryd.zeroValue62
  t105 := Tryd.underlying83
  a105 := Tryd.isAgg83
  z105 := Tryd.sizeOf83
  v105 := Tryd.zeroValue83
  t119 := Tryd.underlying79
  a119 := Tryd.isAgg79
  z119 := Tryd.sizeOf79
  t138 := Tryd.underlying100
  a138 := Tryd.isAgg100
  z138 := Tryd.sizeOf100
  v138 := Tryd.zeroValue100
  t139 := Tryd.underlying101
  a139 := Tryd.isAgg101
  z139 := Tryd.sizeOf101
  v139 := Tryd.zeroValue101
  t141 := Tryd.underlying81
  a141 := Tryd.isAgg81
  z141 := Tryd.sizeOf81
  v141 := Tryd.zeroValue81
  t193 := Tryd.underlying85
  a193 := Tryd.isAgg85
  z193 := Tryd.sizeOf85
  v193 := Tryd.zeroValue85
  t194 := Tryd.underlying86
  a194 := Tryd.isAgg86
  z194 := Tryd.sizeOf86
  v194 := Tryd.zeroValue86
  t196 := Tryd.underlying88
  a196 := Tryd.isAgg88
  z196 := Tryd.sizeOf88
  v196 := Tryd.zeroValue88
  t198 := Tryd.underlying91
  a198 := Tryd.isAgg91
  z198 := Tryd.sizeOf91
  v198 := Tryd.zeroValue91
  t201 := Tryd.underlying94
  a201 := Tryd.isAgg94
  z201 := Tryd.sizeOf94
  v201 := Tryd.zeroValue94
  t226 := Tryd.underlying96
  a226 := Tryd.isAgg96
  z226 := Tryd.sizeOf96
  v226 := Tryd.zeroValue96
  t227 := Tryd.underlying97
  a227 := Tryd.isAgg97
  z227 := Tryd.sizeOf97
  v227 := Tryd.zeroValue97
  g0 := by kernel_rfl
  g3 := by kernel_rfl
  g4 := by kernel_rfl
  g6 := by kernel_rfl }
theorem Tryd.Space_Extra_163 : Space.Extra Tryd.prog Tryd.lays163_ren := {
  gNamed := by kernel_rfl }
open Go.RowKit in
theorem Tryd.strings_TrimSpace (s : ByteArray) (w : World) (hs : s.size ≤ 9223372036854775807) (hascii : ∀ (j : Nat) b, s.data.toList[j]? = some b → b.toNat < 128) (htab : Lib.TabIs Tryd.prog w "strings.asciiSpace" .u8 Lib.asciiSpaceTab) :
    Calls Tryd.prog 43 #[.string s] w fun e w' => e = .returned (.string ⟨(Lib.trimSpace s.data.toList).toArray⟩) ∧ w' = Lib.bytesWorld w 5 s := Any.strings_TrimSpace Tryd.lays163 Tryd.Space_Extra_163 s w hs hascii htab
def Tryd.lays120_ren : Go.Shelf.Ren := ⟨fun | 120 => 63 | n => n, fun | 5 => 5 | 4 => 4 | n => n, fun | n => n⟩
theorem Tryd.lays120 : Go.Proofs.Lays.n120 Tryd.prog Tryd.lays120_ren := {
  mixed := by kernel_rfl
  f120 := Tryd.func63.trans (congrArg some (by kernel_rfl))
  t4 := Tryd.underlying4
  a4 := Tryd.isAgg4
  z4 := Tryd.sizeOf4
  v4 := Tryd.zeroValue4
  t5 := Tryd.underlying5
  a5 := Tryd.isAgg5
  z5 := Tryd.sizeOf5
  v5 := Tryd.zeroValue5 }
/-- utf8.RuneStart: "RuneStart reports whether the byte could be the first byte of an encoded, possibly invalid rune. Second and subsequent bytes always have the top two bits set to 10.": IT RETURNS 'Lib.runeStart b'; the world is as it was. ('h0', 'h1': b is a byte: a caller has it of every byte that it was handed.) (LAID: no walk: one application.) -/
theorem Tryd.utf8_RuneStart (b : Int) (w : World) (h0 : 0 ≤ b) (h1 : b < 256) :
    Calls Tryd.prog 63 #[.int .u8 b] w fun e w' => e = .returned (.bool (Lib.runeStart b)) ∧ w' = w := Any.utf8_RuneStart Tryd.lays120 b w h0 h1
def Tryd.lays315_ren : Go.Shelf.Ren := ⟨fun | 315 => 58 | n => n, fun | 9 => 9 | 40 => 78 | 4 => 4 | 3 => 3 | 0 => 0 | 21 => 21 | n => n, fun | n => n⟩
theorem Tryd.lays315 : Go.Proofs.Lays.n315 Tryd.prog Tryd.lays315_ren := {
  mixed := by kernel_rfl
  f315 := Tryd.func58.trans (congrArg some (by kernel_rfl))
  t0 := Tryd.underlying0
  a0 := Tryd.isAgg0
  z0 := Tryd.sizeOf0
  v0 := Tryd.zeroValue0
  t3 := Tryd.underlying3
  a3 := Tryd.isAgg3
  z3 := Tryd.sizeOf3
  v3 := Tryd.zeroValue3
  t4 := Tryd.underlying4
  a4 := Tryd.isAgg4
  z4 := Tryd.sizeOf4
  v4 := Tryd.zeroValue4
  t9 := Tryd.underlying9
  a9 := Tryd.isAgg9
  z9 := Tryd.sizeOf9
  v9 := Tryd.zeroValue9
  t21 := Tryd.underlying21
  a21 := Tryd.isAgg21
  z21 := Tryd.sizeOf21
  v21 := Tryd.zeroValue21
  t40 := Tryd.underlying78
  a40 := Tryd.isAgg78
  z40 := Tryd.sizeOf78
  v40 := Tryd.zeroValue78 }
open Go.RowKit Go.Lib in
theorem Tryd.strings_indexFunc (g : Nat) (lb : Array Value) (eg : ∀ args w, (callFunc g args).run Tryd.prog w = .ok (.enter g args) w) (p : Nat → Bool) (truth : Bool) (s : ByteArray) (w : World) (hp : PredAt Tryd.prog g lb encR p w) :
    Calls Tryd.prog 58 #[.string s, .func (.func g) #[] lb, .bool truth] w fun e w' => e = .returned (.int .i64 (Lib.idxFunc p truth s)) ∧ Below w.heap.size w w' := Any.strings_indexFunc Tryd.lays315 g lb eg p truth s w hp
def Tryd.lays199_ren : Go.Shelf.Ren := ⟨fun | 199 => 51 | 261 => 55 | 311 => 59 | 312 => 60 | n => n, fun | 21 => 21 | 4 => 4 | 51 => 62 | 141 => 81 | 0 => 0 | 196 => 88 | 193 => 85 | 3 => 3 | 198 => 91 | 49 => 89 | 194 => 86 | 201 => 94 | 226 => 96 | 46 => 23 | 227 => 97 | n => n, fun | 6 => 1 | n => n⟩
theorem Tryd.lays199 : Go.Proofs.Lays.n199 Tryd.prog Tryd.lays199_ren := {
  mixed := by kernel_rfl
  f199 := Tryd.func51.trans (congrArg some (by kernel_rfl))
  f261 := Tryd.func55.trans (congrArg some (by kernel_rfl))
  f311 := Tryd.func59.trans (congrArg some (by kernel_rfl))
  f312 := Tryd.func60.trans (congrArg some (by kernel_rfl))
  t0 := Tryd.underlying0
  a0 := Tryd.isAgg0
  z0 := Tryd.sizeOf0
  v0 := Tryd.zeroValue0
  t3 := Tryd.underlying3
  a3 := Tryd.isAgg3
  z3 := Tryd.sizeOf3
  v3 := Tryd.zeroValue3
  t4 := Tryd.underlying4
  a4 := Tryd.isAgg4
  z4 := Tryd.sizeOf4
  v4 := Tryd.zeroValue4
  t21 := Tryd.underlying21
  a21 := Tryd.isAgg21
  z21 := Tryd.sizeOf21
  v21 := Tryd.zeroValue21
  t46 := Tryd.underlying23
  a46 := Tryd.isAgg23
  z46 := Tryd.sizeOf23
  v46 := Tryd.zeroValue23
  t49 := Tryd.underlying89
  a49 := Tryd.isAgg89
  z49 := Tryd.sizeOf89
  v49 := Tryd.zeroValue89
  t51 := Tryd.underlying62
  a51 := Tryd.isAgg62
  z51 := Tryd.sizeOf62
  v51 := Tryd.zeroValue62
  t141 := Tryd.underlying81
  a141 := Tryd.isAgg81
  z141 := Tryd.sizeOf81
  v141 := Tryd.zeroValue81
  t193 := Tryd.underlying85
  a193 := Tryd.isAgg85
  z193 := Tryd.sizeOf85
  v193 := Tryd.zeroValue85
  t194 := Tryd.underlying86
  a194 := Tryd.isAgg86
  z194 := Tryd.sizeOf86
  v194 := Tryd.zeroValue86
  t196 := Tryd.underlying88
  a196 := Tryd.isAgg88
  z196 := Tryd.sizeOf88
  v196 := Tryd.zeroValue88
  t198 := Tryd.underlying91
  a198 := Tryd.isAgg91
  z198 := Tryd.sizeOf91
  v198 := Tryd.zeroValue91
  t201 := Tryd.underlying94
  a201 := Tryd.isAgg94
  z201 := Tryd.sizeOf94
  v201 := Tryd.zeroValue94
  t226 := Tryd.underlying96
  a226 := Tryd.isAgg96
  z226 := Tryd.sizeOf96
  v226 := Tryd.zeroValue96
  t227 := Tryd.underlying97
  a227 := Tryd.isAgg97
  z227 := Tryd.sizeOf97
  v227 := Tryd.zeroValue97
  g6 := by kernel_rfl }
open Go.RowKit Go.Lib in
theorem Tryd.unicode_IsSpace (r : Int) (w : World) (h0 : 0 ≤ r) (h : r ≤ 255) :
    Calls Tryd.prog 51 #[.int .i32 r] w fun e w' => e = .returned (.bool (Lib.isSpaceL r)) ∧ w' = w := Any.unicode_IsSpace Tryd.lays199 r w h0 h
def Tryd.lays197_ren : Go.Shelf.Ren := ⟨fun | 197 => 57 | 260 => 62 | n => n, fun | 9 => 9 | 21 => 21 | 3 => 3 | 4 => 4 | 5 => 5 | 105 => 83 | 119 => 79 | 0 => 0 | 46 => 23 | 139 => 101 | 138 => 100 | n => n, fun | 3 => 2 | 4 => 3 | n => n⟩
theorem Tryd.lays197 : Go.Proofs.Lays.n197 Tryd.prog Tryd.lays197_ren := {
  mixed := by kernel_rfl
  f197 := Tryd.func57.trans (congrArg some (by kernel_rfl))
  f260 := Tryd.func62.trans (congrArg some (by kernel_rfl))
  t0 := Tryd.underlying0
  a0 := Tryd.isAgg0
  z0 := Tryd.sizeOf0
  v0 := Tryd.zeroValue0
  t3 := Tryd.underlying3
  a3 := Tryd.isAgg3
  z3 := Tryd.sizeOf3
  v3 := Tryd.zeroValue3
  t4 := Tryd.underlying4
  a4 := Tryd.isAgg4
  z4 := Tryd.sizeOf4
  v4 := Tryd.zeroValue4
  t5 := Tryd.underlying5
  a5 := Tryd.isAgg5
  z5 := Tryd.sizeOf5
  v5 := Tryd.zeroValue5
  t9 := Tryd.underlying9
  a9 := Tryd.isAgg9
  z9 := Tryd.sizeOf9
  v9 := Tryd.zeroValue9
  t21 := Tryd.underlying21
  a21 := Tryd.isAgg21
  z21 := Tryd.sizeOf21
  v21 := Tryd.zeroValue21
  t46 := Tryd.underlying23
  a46 := Tryd.isAgg23
  z46 := Tryd.sizeOf23
  v46 := Tryd.zeroValue23
  t105 := Tryd.underlying83
  a105 := Tryd.isAgg83
  z105 := Tryd.sizeOf83
  v105 := Tryd.zeroValue83
  t119 := Tryd.underlying79
  a119 := Tryd.isAgg79
  z119 := Tryd.sizeOf79
  t138 := Tryd.underlying100
  a138 := Tryd.isAgg100
  z138 := Tryd.sizeOf100
  v138 := Tryd.zeroValue100
  t139 := Tryd.underlying101
  a139 := Tryd.isAgg101
  z139 := Tryd.sizeOf101
  v139 := Tryd.zeroValue101
  g3 := by kernel_rfl
  g4 := by kernel_rfl }
open Go.RowKit Go.Lib in
/-- unicode/utf8.DecodeRuneInString: "DecodeRuneInString is like DecodeRune but its input is a string.": ("DecodeRune unpacks the first UTF-8 encoding in p and returns the rune and its width in bytes."): WHERE s BEGINS WITH AN ASCII BYTE x: (x, 1). (LAID: no walk: one application.) -/
theorem Tryd.utf8_DecodeRuneInString_ascii (s : ByteArray) (x : UInt8) (w : World) (h0 : s.data.toList[0]? = some x) (hx : x.toNat < 128) :
    Calls Tryd.prog 57 #[.string s] w fun e w' => e = .returned (.tuple #[.int .i32 x.toNat, .int .i64 1]) ∧ w' = w := Any.utf8_DecodeRuneInString_ascii Tryd.lays197 s x w h0 hx
def Tryd.lays260_ren : Go.Shelf.Ren := ⟨fun | 260 => 62 | n => n, fun | 9 => 9 | 21 => 21 | 3 => 3 | 4 => 4 | 5 => 5 | 119 => 79 | 0 => 0 | 46 => 23 | 139 => 101 | 138 => 100 | n => n, fun | 3 => 2 | 4 => 3 | n => n⟩
theorem Tryd.lays260 : Go.Proofs.Lays.n260 Tryd.prog Tryd.lays260_ren := {
  mixed := by kernel_rfl
  f260 := Tryd.func62.trans (congrArg some (by kernel_rfl))
  t0 := Tryd.underlying0
  a0 := Tryd.isAgg0
  z0 := Tryd.sizeOf0
  v0 := Tryd.zeroValue0
  t3 := Tryd.underlying3
  a3 := Tryd.isAgg3
  z3 := Tryd.sizeOf3
  v3 := Tryd.zeroValue3
  t4 := Tryd.underlying4
  a4 := Tryd.isAgg4
  z4 := Tryd.sizeOf4
  v4 := Tryd.zeroValue4
  t5 := Tryd.underlying5
  a5 := Tryd.isAgg5
  z5 := Tryd.sizeOf5
  v5 := Tryd.zeroValue5
  t9 := Tryd.underlying9
  a9 := Tryd.isAgg9
  z9 := Tryd.sizeOf9
  v9 := Tryd.zeroValue9
  t21 := Tryd.underlying21
  a21 := Tryd.isAgg21
  z21 := Tryd.sizeOf21
  v21 := Tryd.zeroValue21
  t46 := Tryd.underlying23
  a46 := Tryd.isAgg23
  z46 := Tryd.sizeOf23
  v46 := Tryd.zeroValue23
  t119 := Tryd.underlying79
  a119 := Tryd.isAgg79
  z119 := Tryd.sizeOf79
  t138 := Tryd.underlying100
  a138 := Tryd.isAgg100
  z138 := Tryd.sizeOf100
  v138 := Tryd.zeroValue100
  t139 := Tryd.underlying101
  a139 := Tryd.isAgg101
  z139 := Tryd.sizeOf101
  v139 := Tryd.zeroValue101
  g3 := by kernel_rfl
  g4 := by kernel_rfl }
open Go.RowKit Go.Lib in
theorem Tryd.utf8_decodeRuneInStringSlow (s : ByteArray) (w : World) (hT : Lib.Utf8Tabs 2 3 w) :
    Calls Tryd.prog 62 #[.string s] w fun e w' => e = .returned (.tuple #[.int .i32 (Lib.decodeGo s).1, .int .i64 (Lib.decodeGo s).2]) ∧ Below w.heap.size w w' := Any.utf8_decodeRuneInStringSlow Tryd.lays260 s w hT
open Go.RowKit Go.Lib in
/-- **unicode/utf8.DecodeRuneInString AT EVERY STRING.** (LAID: no walk: one application.) -/
theorem Tryd.utf8_DecodeRuneInString (s : ByteArray) (w : World) (hT : Lib.Utf8Tabs 2 3 w) :
    Calls Tryd.prog 57 #[.string s] w fun e w' => e = .returned (.tuple #[.int .i32 (Lib.decodeGo s).1, .int .i64 (Lib.decodeGo s).2]) ∧ Below w.heap.size w w' := Any.utf8_DecodeRuneInString Tryd.lays197 s w hT
def Tryd.lays311_ren : Go.Shelf.Ren := ⟨fun | 311 => 59 | n => n, fun | 193 => 85 | 49 => 89 | 4 => 4 | 3 => 3 | 0 => 0 | 226 => 96 | 198 => 91 | 46 => 23 | n => n, fun | n => n⟩
theorem Tryd.lays311 : Go.Proofs.Lays.n311 Tryd.prog Tryd.lays311_ren := {
  mixed := by kernel_rfl
  f311 := Tryd.func59.trans (congrArg some (by kernel_rfl))
  t0 := Tryd.underlying0
  a0 := Tryd.isAgg0
  z0 := Tryd.sizeOf0
  v0 := Tryd.zeroValue0
  t3 := Tryd.underlying3
  a3 := Tryd.isAgg3
  z3 := Tryd.sizeOf3
  v3 := Tryd.zeroValue3
  t4 := Tryd.underlying4
  a4 := Tryd.isAgg4
  z4 := Tryd.sizeOf4
  v4 := Tryd.zeroValue4
  t46 := Tryd.underlying23
  a46 := Tryd.isAgg23
  z46 := Tryd.sizeOf23
  v46 := Tryd.zeroValue23
  t49 := Tryd.underlying89
  a49 := Tryd.isAgg89
  z49 := Tryd.sizeOf89
  v49 := Tryd.zeroValue89
  t193 := Tryd.underlying85
  a193 := Tryd.isAgg85
  z193 := Tryd.sizeOf85
  v193 := Tryd.zeroValue85
  t198 := Tryd.underlying91
  a198 := Tryd.isAgg91
  z198 := Tryd.sizeOf91
  v198 := Tryd.zeroValue91
  t226 := Tryd.underlying96
  a226 := Tryd.isAgg96
  z226 := Tryd.sizeOf96
  v226 := Tryd.zeroValue96 }
open Go.RowKit Go.Lib in
theorem Tryd.unicode_is16_white (R oR : Nat) (z : Nat) (w : World) (hz : z < 65536) (hz0 : 255 < z) (c6 : w.cell? ⟨R, oR + 6, none⟩ = some (.int .u16 160)) (c7 : w.cell? ⟨R, oR + 7, none⟩ = some (.int .u16 5760)) (c8 : w.cell? ⟨R, oR + 8, none⟩ = some (.int .u16 5600)) (c9 : w.cell? ⟨R, oR + 9, none⟩ = some (.int .u16 8192)) (c10 : w.cell? ⟨R, oR + 10, none⟩ = some (.int .u16 8202)) (c11 : w.cell? ⟨R, oR + 11, none⟩ = some (.int .u16 1)) (c12 : w.cell? ⟨R, oR + 12, none⟩ = some (.int .u16 8232)) (c13 : w.cell? ⟨R, oR + 13, none⟩ = some (.int .u16 8233)) (c14 : w.cell? ⟨R, oR + 14, none⟩ = some (.int .u16 1)) (c15 : w.cell? ⟨R, oR + 15, none⟩ = some (.int .u16 8239)) (c16 : w.cell? ⟨R, oR + 16, none⟩ = some (.int .u16 8287)) (c17 : w.cell? ⟨R, oR + 17, none⟩ = some (.int .u16 48)) (c18 : w.cell? ⟨R, oR + 18, none⟩ = some (.int .u16 12288)) (c19 : w.cell? ⟨R, oR + 19, none⟩ = some (.int .u16 12288)) (c20 : w.cell? ⟨R, oR + 20, none⟩ = some (.int .u16 1)) :
    Calls Tryd.prog 59 #[.slice (some ⟨R, oR + 6, none⟩) 5 5, .int .u16 z] w fun e w' => e = .returned (.bool (Lib.isSpaceR z)) ∧ Below w.heap.size w w' := Any.unicode_is16_white Tryd.lays311 R oR z w hz hz0 c6 c7 c8 c9 c10 c11 c12 c13 c14 c15 c16 c17 c18 c19 c20
def Tryd.lays261_ren : Go.Shelf.Ren := ⟨fun | 261 => 55 | 311 => 59 | 312 => 60 | n => n, fun | 141 => 81 | 21 => 21 | 4 => 4 | 0 => 0 | 196 => 88 | 193 => 85 | 3 => 3 | 51 => 62 | 198 => 91 | 49 => 89 | 194 => 86 | 201 => 94 | 226 => 96 | 46 => 23 | 227 => 97 | n => n, fun | n => n⟩
theorem Tryd.lays261 : Go.Proofs.Lays.n261 Tryd.prog Tryd.lays261_ren := {
  mixed := by kernel_rfl
  f261 := Tryd.func55.trans (congrArg some (by kernel_rfl))
  f311 := Tryd.func59.trans (congrArg some (by kernel_rfl))
  f312 := Tryd.func60.trans (congrArg some (by kernel_rfl))
  t0 := Tryd.underlying0
  a0 := Tryd.isAgg0
  z0 := Tryd.sizeOf0
  v0 := Tryd.zeroValue0
  t3 := Tryd.underlying3
  a3 := Tryd.isAgg3
  z3 := Tryd.sizeOf3
  v3 := Tryd.zeroValue3
  t4 := Tryd.underlying4
  a4 := Tryd.isAgg4
  z4 := Tryd.sizeOf4
  v4 := Tryd.zeroValue4
  t21 := Tryd.underlying21
  a21 := Tryd.isAgg21
  z21 := Tryd.sizeOf21
  v21 := Tryd.zeroValue21
  t46 := Tryd.underlying23
  a46 := Tryd.isAgg23
  z46 := Tryd.sizeOf23
  v46 := Tryd.zeroValue23
  t49 := Tryd.underlying89
  a49 := Tryd.isAgg89
  z49 := Tryd.sizeOf89
  v49 := Tryd.zeroValue89
  t51 := Tryd.underlying62
  a51 := Tryd.isAgg62
  z51 := Tryd.sizeOf62
  v51 := Tryd.zeroValue62
  t141 := Tryd.underlying81
  a141 := Tryd.isAgg81
  z141 := Tryd.sizeOf81
  v141 := Tryd.zeroValue81
  t193 := Tryd.underlying85
  a193 := Tryd.isAgg85
  z193 := Tryd.sizeOf85
  v193 := Tryd.zeroValue85
  t194 := Tryd.underlying86
  a194 := Tryd.isAgg86
  z194 := Tryd.sizeOf86
  v194 := Tryd.zeroValue86
  t196 := Tryd.underlying88
  a196 := Tryd.isAgg88
  z196 := Tryd.sizeOf88
  v196 := Tryd.zeroValue88
  t198 := Tryd.underlying91
  a198 := Tryd.isAgg91
  z198 := Tryd.sizeOf91
  v198 := Tryd.zeroValue91
  t201 := Tryd.underlying94
  a201 := Tryd.isAgg94
  z201 := Tryd.sizeOf94
  v201 := Tryd.zeroValue94
  t226 := Tryd.underlying96
  a226 := Tryd.isAgg96
  z226 := Tryd.sizeOf96
  v226 := Tryd.zeroValue96
  t227 := Tryd.underlying97
  a227 := Tryd.isAgg97
  z227 := Tryd.sizeOf97
  v227 := Tryd.zeroValue97 }
open Go.RowKit Go.Lib in
/-- unicode.isExcludingLatin(White_Space, r), r beyond U+00FF or negative. (LAID: no walk: one application.) -/
theorem Tryd.unicode_isExcludingLatin_white (T oT R oR : Nat) (r : Int) (w : World) (hlo : -2147483648 ≤ r) (hhi : r ≤ 2147483647) (hr : r < 0 ∨ 255 < r) (h2 : w.cell? ⟨T, oT, none⟩ = some (.slice (some ⟨R, oR, none⟩) 7 7)) (h3 : w.cell? ⟨T, oT + 1, none⟩ = some (.slice none 0 0)) (h4 : w.cell? ⟨T, oT + 2, none⟩ = some (.int .i64 2)) (h5 : ∀ i, i < 21 → w.cell? ⟨R, oR + i, none⟩ = some (.int .u16 (whiteT.getD i 0))) :
    Calls Tryd.prog 55 #[.pointer (some ⟨T, oT, none⟩), .int .i32 r] w fun e w' => e = .returned (.bool (Lib.isSpaceZ r)) ∧ Below w.heap.size w w' := Any.unicode_isExcludingLatin_white Tryd.lays261 T oT R oR r w hlo hhi hr h2 h3 h4 h5
open Go.RowKit Go.Lib in
/-- **unicode.IsSpace AT EVERY int32.** (LAID: no walk: one application.) -/
theorem Tryd.unicode_IsSpace_any (r : Int) (w : World) (hlo : -2147483648 ≤ r) (hhi : r ≤ 2147483647) (hW : Lib.WhiteTab 1 w) :
    Calls Tryd.prog 51 #[.int .i32 r] w fun e w' => e = .returned (.bool (Lib.isSpaceZ r)) ∧ Below w.heap.size w w' := Any.unicode_IsSpace_any Tryd.lays199 r w hlo hhi hW
def Tryd.lays271_ren : Go.Shelf.Ren := ⟨fun | 271 => 61 | 120 => 63 | 197 => 57 | 260 => 62 | n => n, fun | 9 => 9 | 21 => 21 | 3 => 3 | 4 => 4 | 5 => 5 | 105 => 83 | 119 => 79 | 0 => 0 | 46 => 23 | 139 => 101 | 138 => 100 | n => n, fun | 3 => 2 | 4 => 3 | n => n⟩
theorem Tryd.lays271 : Go.Proofs.Lays.n271 Tryd.prog Tryd.lays271_ren := {
  mixed := by kernel_rfl
  f120 := Tryd.func63.trans (congrArg some (by kernel_rfl))
  f197 := Tryd.func57.trans (congrArg some (by kernel_rfl))
  f260 := Tryd.func62.trans (congrArg some (by kernel_rfl))
  f271 := Tryd.func61.trans (congrArg some (by kernel_rfl))
  t0 := Tryd.underlying0
  a0 := Tryd.isAgg0
  z0 := Tryd.sizeOf0
  v0 := Tryd.zeroValue0
  t3 := Tryd.underlying3
  a3 := Tryd.isAgg3
  z3 := Tryd.sizeOf3
  v3 := Tryd.zeroValue3
  t4 := Tryd.underlying4
  a4 := Tryd.isAgg4
  z4 := Tryd.sizeOf4
  v4 := Tryd.zeroValue4
  t5 := Tryd.underlying5
  a5 := Tryd.isAgg5
  z5 := Tryd.sizeOf5
  v5 := Tryd.zeroValue5
  t9 := Tryd.underlying9
  a9 := Tryd.isAgg9
  z9 := Tryd.sizeOf9
  v9 := Tryd.zeroValue9
  t21 := Tryd.underlying21
  a21 := Tryd.isAgg21
  z21 := Tryd.sizeOf21
  v21 := Tryd.zeroValue21
  t46 := Tryd.underlying23
  a46 := Tryd.isAgg23
  z46 := Tryd.sizeOf23
  v46 := Tryd.zeroValue23
  t105 := Tryd.underlying83
  a105 := Tryd.isAgg83
  z105 := Tryd.sizeOf83
  v105 := Tryd.zeroValue83
  t119 := Tryd.underlying79
  a119 := Tryd.isAgg79
  z119 := Tryd.sizeOf79
  t138 := Tryd.underlying100
  a138 := Tryd.isAgg100
  z138 := Tryd.sizeOf100
  v138 := Tryd.zeroValue100
  t139 := Tryd.underlying101
  a139 := Tryd.isAgg101
  z139 := Tryd.sizeOf101
  v139 := Tryd.zeroValue101
  g3 := by kernel_rfl
  g4 := by kernel_rfl }
open Go.RowKit Go.Lib in
/-- **unicode/utf8.DecodeLastRuneInString AT EVERY STRING.** (LAID: no walk: one application.) -/
theorem Tryd.utf8_DecodeLastRuneInString (s : ByteArray) (w : World) (hs : s.size ≤ 9223372036854775807) (hT : Lib.Utf8Tabs 2 3 w) :
    Calls Tryd.prog 61 #[.string s] w fun e w' => e = .returned (.tuple #[.int .i32 (Lib.decodeLastL s.data.toList).1, .int .i64 (Lib.decodeLastL s.data.toList).2]) ∧ Below w.heap.size w w' := Any.utf8_DecodeLastRuneInString Tryd.lays271 s w hs hT
open Go.RowKit Go.Lib in
theorem Tryd.unicode_is16_white_d (R oR : Nat) (z : Nat) (w : World) (hz : z < 65536) (hz0 : 255 < z) (c6 : w.cell? ⟨R, oR + 6, none⟩ = some (.int .u16 160)) (c7 : w.cell? ⟨R, oR + 7, none⟩ = some (.int .u16 5760)) (c8 : w.cell? ⟨R, oR + 8, none⟩ = some (.int .u16 5600)) (c9 : w.cell? ⟨R, oR + 9, none⟩ = some (.int .u16 8192)) (c10 : w.cell? ⟨R, oR + 10, none⟩ = some (.int .u16 8202)) (c11 : w.cell? ⟨R, oR + 11, none⟩ = some (.int .u16 1)) (c12 : w.cell? ⟨R, oR + 12, none⟩ = some (.int .u16 8232)) (c13 : w.cell? ⟨R, oR + 13, none⟩ = some (.int .u16 8233)) (c14 : w.cell? ⟨R, oR + 14, none⟩ = some (.int .u16 1)) (c15 : w.cell? ⟨R, oR + 15, none⟩ = some (.int .u16 8239)) (c16 : w.cell? ⟨R, oR + 16, none⟩ = some (.int .u16 8287)) (c17 : w.cell? ⟨R, oR + 17, none⟩ = some (.int .u16 48)) (c18 : w.cell? ⟨R, oR + 18, none⟩ = some (.int .u16 12288)) (c19 : w.cell? ⟨R, oR + 19, none⟩ = some (.int .u16 12288)) (c20 : w.cell? ⟨R, oR + 20, none⟩ = some (.int .u16 1)) :
    Calls Tryd.prog 59 #[.slice (some ⟨R, oR + 6, none⟩) 5 5, .int .u16 z] w fun e w' => e = .returned (.bool (Lib.isSpaceR z)) ∧ ∃ q, w' = w.drewN q := Any.unicode_is16_white_d Tryd.lays311 R oR z w hz hz0 c6 c7 c8 c9 c10 c11 c12 c13 c14 c15 c16 c17 c18 c19 c20
open Go.RowKit Go.Lib in
/-- unicode.isExcludingLatin(White_Space, r), r beyond U+00FF or negative. (LAID: no walk: one application.) -/
theorem Tryd.unicode_isExcludingLatin_white_d (T oT R oR : Nat) (r : Int) (w : World) (hlo : -2147483648 ≤ r) (hhi : r ≤ 2147483647) (hr : r < 0 ∨ 255 < r) (h2 : w.cell? ⟨T, oT, none⟩ = some (.slice (some ⟨R, oR, none⟩) 7 7)) (h3 : w.cell? ⟨T, oT + 1, none⟩ = some (.slice none 0 0)) (h4 : w.cell? ⟨T, oT + 2, none⟩ = some (.int .i64 2)) (h5 : ∀ i, i < 21 → w.cell? ⟨R, oR + i, none⟩ = some (.int .u16 (whiteT.getD i 0))) :
    Calls Tryd.prog 55 #[.pointer (some ⟨T, oT, none⟩), .int .i32 r] w fun e w' => e = .returned (.bool (Lib.isSpaceZ r)) ∧ ∃ q, w' = w.drewN q := Any.unicode_isExcludingLatin_white_d Tryd.lays261 T oT R oR r w hlo hhi hr h2 h3 h4 h5
open Go.RowKit Go.Lib in
/-- **unicode.IsSpace AT EVERY int32.** (LAID: no walk: one application.) -/
theorem Tryd.unicode_IsSpace_any_d (r : Int) (w : World) (hlo : -2147483648 ≤ r) (hhi : r ≤ 2147483647) (hW : Lib.WhiteTab 1 w) :
    Calls Tryd.prog 51 #[.int .i32 r] w fun e w' => e = .returned (.bool (Lib.isSpaceZ r)) ∧ ∃ q, w' = w.drewN q := Any.unicode_IsSpace_any_d Tryd.lays199 r w hlo hhi hW
open Go.RowKit Go.Lib in
theorem Tryd.unicode_is16_any (T : Array Rg) (R oR cap : Nat) (z : Nat) (w : World) (hz : z < 65536) (hT : RgTab .u16 R oR T w) (hok : RgOk 65536 T) (hn : T.size ≤ 1000000000) :
    Calls Tryd.prog 59 #[.slice (some ⟨R, oR, none⟩) T.size cap, .int .u16 z] w fun e w' => e = .returned (.bool (is16Go T z)) ∧ ∃ q, w' = w.drewN q := Any.unicode_is16_any Tryd.lays311 T R oR cap z w hz hT hok hn
def Tryd.lays312_ren : Go.Shelf.Ren := ⟨fun | 312 => 60 | n => n, fun | 194 => 86 | 51 => 62 | 4 => 4 | 3 => 3 | 0 => 0 | 227 => 97 | 201 => 94 | 46 => 23 | n => n, fun | n => n⟩
theorem Tryd.lays312 : Go.Proofs.Lays.n312 Tryd.prog Tryd.lays312_ren := {
  mixed := by kernel_rfl
  f312 := Tryd.func60.trans (congrArg some (by kernel_rfl))
  t0 := Tryd.underlying0
  a0 := Tryd.isAgg0
  z0 := Tryd.sizeOf0
  v0 := Tryd.zeroValue0
  t3 := Tryd.underlying3
  a3 := Tryd.isAgg3
  z3 := Tryd.sizeOf3
  v3 := Tryd.zeroValue3
  t4 := Tryd.underlying4
  a4 := Tryd.isAgg4
  z4 := Tryd.sizeOf4
  v4 := Tryd.zeroValue4
  t46 := Tryd.underlying23
  a46 := Tryd.isAgg23
  z46 := Tryd.sizeOf23
  v46 := Tryd.zeroValue23
  t51 := Tryd.underlying62
  a51 := Tryd.isAgg62
  z51 := Tryd.sizeOf62
  v51 := Tryd.zeroValue62
  t194 := Tryd.underlying86
  a194 := Tryd.isAgg86
  z194 := Tryd.sizeOf86
  v194 := Tryd.zeroValue86
  t201 := Tryd.underlying94
  a201 := Tryd.isAgg94
  z201 := Tryd.sizeOf94
  v201 := Tryd.zeroValue94
  t227 := Tryd.underlying97
  a227 := Tryd.isAgg97
  z227 := Tryd.sizeOf97
  v227 := Tryd.zeroValue97 }
open Go.RowKit Go.Lib in
theorem Tryd.unicode_is32_any (T : Array Rg) (R oR cap : Nat) (z : Nat) (w : World) (hz : z < 4294967296) (hT : RgTab .u32 R oR T w) (hok : RgOk 4294967296 T) (hn : T.size ≤ 1000000000) :
    Calls Tryd.prog 60 #[.slice (some ⟨R, oR, none⟩) T.size cap, .int .u32 z] w fun e w' => e = .returned (.bool (is32Go T z)) ∧ Below w.heap.size w w' := Any.unicode_is32_any Tryd.lays312 T R oR cap z w hz hT hok hn
open Go.RowKit Go.Lib in
theorem Tryd.unicode_isExcludingLatin_any (Tb oT : Nat) (T : RTab) (r : Int) (w : World) (hlo : -2147483648 ≤ r) (hhi : r ≤ 2147483647) (hA : RTabAt Tb oT T w) (hok : RTabOk T) :
    Calls Tryd.prog 55 #[.pointer (some ⟨Tb, oT, none⟩), .int .i32 r] w fun e w' => e = .returned (.bool (exclGo T r)) ∧ Below w.heap.size w w' := Any.unicode_isExcludingLatin_any Tryd.lays261 Tb oT T r w hlo hhi hA hok
end Go.Proofs
