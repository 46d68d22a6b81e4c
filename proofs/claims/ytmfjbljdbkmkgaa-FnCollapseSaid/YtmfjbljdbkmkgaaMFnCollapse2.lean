/- A part of the proof of FnCollapse: EDomx0, EDomx2, Txt, Asc, EDomx3, Dom, DomX, DomT, MadeS, MadeK, MadeX, NodeX, RTree, PathX, AllX, SibX, NbrX, NextP, AtX, NodupT, Surg, PtrEq, SurgX, one behind the other. -/
import Derived.Test.YtmfjbljdbkmkgaaProg
import Derived.Below
import Derived.Deep.Draws
import Derived.Deep.AppendLies
import Derived.Maps.AppendAt
import Derived.OwnWalk
import Derived.Laws.BytesArg
import Derived.Laws.MakeOwn
import Derived.Laws.OwnMore
import Derived.Deep.OwnRows
import Derived.Tactics
import Derived.Lib.ConvBytes
import Derived.Laws.Slices
import Derived.WalkKit
import Derived.KernelRfl
import Derived.RowKit3
import Derived.Deep.LoopGhost
import Derived.Deep.QuietTactic
import Derived.BigQuiet
import Derived.WideLaws
import Derived.Deep.DeepCutAuto
import Derived.Deep.CutBlock
import Derived.Deep.RegionHeld3
import Derived.Laws.Rows
import Derived.Lib.AppendStr
import Derived.ArgAppend
import Derived.Laws.IdiomCopy
import Derived.OrdersHeld
import Derived.Laws.BitsLemmas
import Derived.RowKit
import Derived.Test.YtmfjbljdbkmkgaaMFnCollapse1
import Derived.Lib.Bytes
import Derived.Deep.DeepAppendWide
import Derived.Deep.RegionWith
import Derived.Deep.RegionLaw
import Derived.BigRegion
import Derived.StillTailTactics
import Derived.Deep.DeepMust
import Derived.Laws.EntriesVeiled
import Derived.LaidEqlPtr
import Derived.RegionTactic
import Derived.Tactics2
/- Printed by the program extprint.py of this session, out of the kit's print and contracts of this session's own; Lean checks it. -/
namespace Go.Proofs.Ytmfjbljdbkmkgaa.PDom
open Go.RowKit Go.Proofs.YtmfjbljdbkmkgaaW.PrintWords Go.Proofs.YtmfjbljdbkmkgaaW.PrintLast Go.Proofs.YtmfjbljdbkmkgaaW.PrintMore
attribute [local go_sem] max2_int min2_int max_two min_two max_three min_three max_four min_four   -- for this text's walks alone
set_option linter.unusedVariables false
set_option linter.unusedSimpArgs false



def errW : Option Int → Value
 | none => .nilIface
 | some c => .iface 0 (.int .i64 c)
theorem errW_none : errW none = .nilIface := rfl
theorem errW_some (c : Int) : errW (some c) = .iface 0 (.int .i64 c) := rfl

theorem info5 : (Try.prog.info? 5).map (fun i => (i.zero, i.size, i.bytes)) = some (some (.int .u8 0), 1, 1) := by kernel_rfl
theorem info9 : (Try.prog.info? 9).map (fun i => (i.zero, i.size, i.bytes)) = some (some (.string ⟨#[]⟩), 1, 16) := by kernel_rfl
-- the values' own types
/-! #### struct type 53 -/
structure S53 where
 f0 : ByteArray
 f1 : ByteArray
def z53 : S53 := ⟨(⟨#[]⟩ : ByteArray), (⟨#[]⟩ : ByteArray)⟩
def k53 : Kd S53 := Kd.iso (Kd.pair Kd.string Kd.string) (fun x : S53 => (x.f0, x.f1))
theorem k53_heap : Kd.Heap k53 := Kd.heap_iso _ (Kd.heap_pair Kd.heap_string Kd.heap_string)
theorem k53_open {w : World} {x : S53} {cs : List Value} (h : k53.K w x cs) : cs = [.string x.f0, .string x.f1] := by
 obtain ⟨_, _, rfl, rfl, rfl⟩ := h
 exact rfl
theorem k53_mk (w : World) (x : S53)  : k53.K w x [.string x.f0, .string x.f1] := ⟨[.string x.f0], [.string x.f1], rfl, rfl, rfl⟩
theorem k53_mkF (W : World) (ok : Nat → Prop) (x : S53) : Kd.FK k53 W ok x [.string x.f0, .string x.f1] := fun W2 _ => k53_mk W2 x
def rd_T53 (xs : List S53) (i : Int) : S53 := xs.getD i.toNat z53
theorem at_T53 {w : World} {A : Option Addr} {n : Nat} {xs : List S53} (h : Kd.C k53 w A n xs) (i : Int) (h0 : 0 ≤ i) (h1 : i < n) : ∃ ad , A = some ad ∧ w.cell? (ad.add (i.toNat * 2)) = some (.string (rd_T53 xs i).f0) ∧ w.cell? ⟨(ad.add (i.toNat * 2)).block, (ad.add (i.toNat * 2)).off + 1, none⟩ = some (.string (rd_T53 xs i).f1) := by
 obtain ⟨ad, c, e, _, hK, hc0⟩ := Kd.C_get h z53 i h0 h1
 have hc : ∀ j u, c[j]? = some u → w.cell? (ad.add (i.toNat * 2 + j)) = some u := hc0
 obtain rfl := k53_open hK
 exact ⟨ad, e, hc 0 _ rfl, by rw [← add_field _ _ 1 (by omega)]; exact hc 1 _ rfl⟩

/-! #### struct type 25, nested in itself -/
structure S25 where
 f0 : Int
 f1 : ByteArray
 f2 : ByteArray
 f3 : (List S53)
 f4 : (List S25)
def z25 : S25 := ⟨(0 : Int), (⟨#[]⟩ : ByteArray), (⟨#[]⟩ : ByteArray), ([] : List S53), ([] : List S25)⟩
def F25 (d : Kd S25) : Kd S25 := Kd.iso (Kd.pair (Kd.int .i64) (Kd.pair Kd.string (Kd.pair Kd.string (Kd.pair (Kd.slice 53 k53) (Kd.slice 25 d))))) (fun x : S25 => (x.f0, x.f1, x.f2, x.f3, x.f4))
theorem mono25 : Kd.Mono F25 := Kd.mono_iso _ (Kd.mono_pair (Kd.mono_const _) (Kd.mono_pair (Kd.mono_const _) (Kd.mono_pair (Kd.mono_const _) (Kd.mono_pair (Kd.mono_const _) (Kd.mono_slice 25 Kd.mono_id)))))
theorem sub25 : Kd.Sub F25 [25, 53] := Kd.sub_iso _ (Kd.sub_pair (Kd.sub_const _ (by decide)) (Kd.sub_pair (Kd.sub_const _ (by decide)) (Kd.sub_pair (Kd.sub_const _ (by decide)) (Kd.sub_pair (Kd.sub_const _ (by decide)) (Kd.sub_slice 25 (by decide) Kd.sub_id)))))
theorem sz25 : ∀ n, (Kd.upto F25 5 [25, 53] n).sz = 5 := Kd.upto_sz (fun _ => rfl)
def k25 : Kd S25 := Kd.fix F25 5 [25, 53] sz25 (Kd.upto_E sub25)
theorem k25_heap : Kd.Heap k25 := Kd.heap_fix (fun _ h_ => Kd.heap_iso _ (Kd.heap_pair (Kd.heap_int .i64) (Kd.heap_pair Kd.heap_string (Kd.heap_pair Kd.heap_string (Kd.heap_pair (Kd.heap_slice 53 k53_heap) (Kd.heap_slice 25 h_))))))
theorem k25_open {w : World} {x : S25} {cs : List Value} (h : k25.K w x cs) : ∃ A3 c3 A4 c4, cs = [.int .i64 x.f0, .string x.f1, .string x.f2, .slice A3 x.f3.length c3, .slice A4 x.f4.length c4] ∧ x.f3.length ≤ c3 ∧ k53.C w A3 x.f3.length x.f3 ∧ x.f4.length ≤ c4 ∧ k25.C w A4 x.f4.length x.f4 := by
 obtain ⟨n, h⟩ := h
 cases n with
 | zero => exact h.elim
 | succ n =>
  obtain ⟨_, _, rfl, rfl, ⟨_, _, rfl, rfl, ⟨_, _, rfl, rfl, ⟨_, _, rfl, ⟨A3, c3, rfl, l3, g3⟩, ⟨A4, c4, rfl, l4, g4⟩⟩⟩⟩⟩ := h
  exact ⟨A3, c3, A4, c4, rfl, l3, g3, l4, Kd.fix_C g4⟩
theorem k25_mk (w : World) (x : S25) {A3 : Option Addr} {c3 : Nat} (l3 : x.f3.length ≤ c3) (g3 : k53.C w A3 x.f3.length x.f3) {A4 : Option Addr} {c4 : Nat} (l4 : x.f4.length ≤ c4) (g4 : k25.C w A4 x.f4.length x.f4) : k25.K w x [.int .i64 x.f0, .string x.f1, .string x.f2, .slice A3 x.f3.length c3, .slice A4 x.f4.length c4] := by
 obtain ⟨n4, q4⟩ := Kd.fix_C_back mono25 g4
 have r4 := Kd.upto_C_le mono25 sz25 (show n4 ≤ n4 by omega) q4
 exact ⟨n4 + 1, ⟨[.int .i64 x.f0], [.string x.f1, .string x.f2, .slice A3 x.f3.length c3, .slice A4 x.f4.length c4], rfl, rfl, ⟨[.string x.f1], [.string x.f2, .slice A3 x.f3.length c3, .slice A4 x.f4.length c4], rfl, rfl, ⟨[.string x.f2], [.slice A3 x.f3.length c3, .slice A4 x.f4.length c4], rfl, rfl, ⟨[.slice A3 x.f3.length c3], [.slice A4 x.f4.length c4], rfl, ⟨A3, c3, rfl, l3, g3⟩, ⟨A4, c4, rfl, l4, r4⟩⟩⟩⟩⟩⟩
theorem k25_openF {W : World} {ok : Nat → Prop} {x : S25} {cs : List Value} (h : Kd.FK k25 W ok x cs) : ∃ A3 c3 A4 c4, cs = [.int .i64 x.f0, .string x.f1, .string x.f2, .slice A3 x.f3.length c3, .slice A4 x.f4.length c4] ∧ x.f3.length ≤ c3 ∧ Kd.F k53 W ok A3 x.f3.length x.f3 ∧ x.f4.length ≤ c4 ∧ Kd.F k25 W ok A4 x.f4.length x.f4 := by
 obtain ⟨A3, c3, A4, c4, rfl, l3, _, l4, _⟩ := k25_open (Kd.FK_now h)
 exact ⟨A3, c3, A4, c4, rfl, l3, (fun W' hW => by obtain ⟨A3_, c3_, A4_, c4_, he, l3_, g3_, l4_, g4_⟩ := k25_open (h W' hW); injection (Option.some.inj (show some (Value.slice A3 x.f3.length c3) = some (Value.slice A3_ x.f3.length c3_) from congrArg (fun l => l[3]?) he)) with ha_ _ _; rw [ha_]; exact g3_), l4, (fun W' hW => by obtain ⟨A3_, c3_, A4_, c4_, he, l3_, g3_, l4_, g4_⟩ := k25_open (h W' hW); injection (Option.some.inj (show some (Value.slice A4 x.f4.length c4) = some (Value.slice A4_ x.f4.length c4_) from congrArg (fun l => l[4]?) he)) with ha_ _ _; rw [ha_]; exact g4_)⟩
theorem k25_mkF (W : World) (ok : Nat → Prop) (x : S25) {A3 : Option Addr} {c3 : Nat} (l3 : x.f3.length ≤ c3) (g3 : Kd.F k53 W ok A3 x.f3.length x.f3) {A4 : Option Addr} {c4 : Nat} (l4 : x.f4.length ≤ c4) (g4 : Kd.F k25 W ok A4 x.f4.length x.f4) : Kd.FK k25 W ok x [.int .i64 x.f0, .string x.f1, .string x.f2, .slice A3 x.f3.length c3, .slice A4 x.f4.length c4] := fun W2 hW => k25_mk W2 x l3 (g3 W2 hW) l4 (g4 W2 hW)
def rd_T25 (xs : List S25) (i : Int) : S25 := xs.getD i.toNat z25
theorem at_T25 {w : World} {A : Option Addr} {n : Nat} {xs : List S25} (h : Kd.C k25 w A n xs) (i : Int) (h0 : 0 ≤ i) (h1 : i < n) : ∃ ad A3 c3 A4 c4, A = some ad ∧ w.cell? (ad.add (i.toNat * 5)) = some (.int .i64 (rd_T25 xs i).f0) ∧ w.cell? ⟨(ad.add (i.toNat * 5)).block, (ad.add (i.toNat * 5)).off + 1, none⟩ = some (.string (rd_T25 xs i).f1) ∧ w.cell? ⟨(ad.add (i.toNat * 5)).block, (ad.add (i.toNat * 5)).off + 2, none⟩ = some (.string (rd_T25 xs i).f2) ∧ w.cell? ⟨(ad.add (i.toNat * 5)).block, (ad.add (i.toNat * 5)).off + 3, none⟩ = some (.slice A3 (rd_T25 xs i).f3.length c3) ∧ w.cell? ⟨(ad.add (i.toNat * 5)).block, (ad.add (i.toNat * 5)).off + 4, none⟩ = some (.slice A4 (rd_T25 xs i).f4.length c4) ∧ (rd_T25 xs i).f3.length ≤ c3 ∧ k53.C w A3 (rd_T25 xs i).f3.length (rd_T25 xs i).f3 ∧ (rd_T25 xs i).f4.length ≤ c4 ∧ k25.C w A4 (rd_T25 xs i).f4.length (rd_T25 xs i).f4 := by
 obtain ⟨ad, c, e, _, hK, hc0⟩ := Kd.C_get h z25 i h0 h1
 have hc : ∀ j u, c[j]? = some u → w.cell? (ad.add (i.toNat * 5 + j)) = some u := hc0
 obtain ⟨A3, c3, A4, c4, rfl, l3, g3, l4, g4⟩ := k25_open hK
 exact ⟨ad, A3, c3, A4, c4, e, hc 0 _ rfl, by rw [← add_field _ _ 1 (by omega)]; exact hc 1 _ rfl, by rw [← add_field _ _ 2 (by omega)]; exact hc 2 _ rfl, by rw [← add_field _ _ 3 (by omega)]; exact hc 3 _ rfl, by rw [← add_field _ _ 4 (by omega)]; exact hc 4 _ rfl, l3, g3, l4, g4⟩

/-! #### struct type 100 -/
structure S100 where
 f0 : Int
 f1 : Int
def z100 : S100 := ⟨(0 : Int), (0 : Int)⟩
def k100 : Kd S100 := Kd.iso (Kd.pair (Kd.int .i64) (Kd.int .i64)) (fun x : S100 => (x.f0, x.f1))
theorem k100_open {w : World} {x : S100} {cs : List Value} (h : k100.K w x cs) : cs = [.int .i64 x.f0, .int .i64 x.f1] := by
 obtain ⟨_, _, rfl, rfl, rfl⟩ := h
 exact rfl
theorem k100_mkM (w : World) (base : Nat) (ok : Nat → Prop) (x : S100)  : k100.M w base ok x [.int .i64 x.f0, .int .i64 x.f1] := ⟨[.int .i64 x.f0], [.int .i64 x.f1], rfl, rfl, rfl⟩
def rd_T100 (xs : List S100) (i : Int) : S100 := xs.getD i.toNat z100
theorem at_T100 {w : World} {A : Option Addr} {n : Nat} {xs : List S100} (h : Kd.C k100 w A n xs) (i : Int) (h0 : 0 ≤ i) (h1 : i < n) : ∃ ad , A = some ad ∧ w.cell? (ad.add (i.toNat * 2)) = some (.int .i64 (rd_T100 xs i).f0) ∧ w.cell? ⟨(ad.add (i.toNat * 2)).block, (ad.add (i.toNat * 2)).off + 1, none⟩ = some (.int .i64 (rd_T100 xs i).f1) := by
 obtain ⟨ad, c, e, _, hK, hc0⟩ := Kd.C_get h z100 i h0 h1
 have hc : ∀ j u, c[j]? = some u → w.cell? (ad.add (i.toNat * 2 + j)) = some u := hc0
 obtain rfl := k100_open hK
 exact ⟨ad, e, hc 0 _ rfl, by rw [← add_field _ _ 1 (by omega)]; exact hc 1 _ rfl⟩

end Go.Proofs.Ytmfjbljdbkmkgaa.PDom

/- Printed by the program extprint.py of this session, out of the kit's print and contracts of this session's own; Lean checks it. -/
namespace Go.Proofs.Ytmfjbljdbkmkgaa.PDom
open Go.RowKit Go.Proofs.YtmfjbljdbkmkgaaW.PrintWords Go.Proofs.YtmfjbljdbkmkgaaW.PrintLast Go.Proofs.YtmfjbljdbkmkgaaW.PrintMore
attribute [local go_sem] max2_int min2_int max_two min_two max_three min_three max_four min_four   -- for this text's walks alone
set_option linter.unusedVariables false
set_option linter.unusedSimpArgs false


/-! ### atom_ZzAtom: function 95 -/
def atom_ZzAtom.f (a0 : ByteArray) : Option (Int) := if a0.toList = ([99, 97, 112, 116, 105, 111, 110] : List UInt8) then (some 140295) else (if a0.toList = ([108, 105] : List UInt8) then (some 45570) else (some 0))
set_option maxHeartbeats 8000000 in
set_option maxRecDepth 100000 in
theorem atom_ZzAtom.calls (a0 : ByteArray) (r : Int) (w : World) (h : atom_ZzAtom.f a0 = some r) :
  Calls Try.prog 95 #[.string a0] w fun e w' => e = .returned (.int .u32 r) ∧ Drawn0 w w' := by
 have H : (if a0.toList = ([99, 97, 112, 116, 105, 111, 110] : List UInt8) then (some 140295) else (if a0.toList = ([108, 105] : List UInt8) then (some 45570) else (some 0))) = some r := h
 clear h
 by_cases c2 : a0.toList = ([99, 97, 112, 116, 105, 111, 110] : List UInt8)
 ·rw [if_pos c2] at H
  have c2b0 : (a0.toList == ([99, 97, 112, 116, 105, 111, 110] : List UInt8)) = true := beq_iff_eq.mpr c2
  have c2b1 : (a0.toList != ([99, 97, 112, 116, 105, 111, 110] : List UInt8)) = false := bne_eq_false_iff_eq.mpr c2
  clear c2
  obtain rfl := Option.some.inj H
  go_enter Try.func95, Try.ntmps95
  go_wp2
  go_ret
  exact ⟨by first | rfl | (simp; done) | (simp [*]; done), by repeat (first | exact Drawn0.refl _ | apply Drawn0.step)⟩
 ·rw [if_neg c2] at H
  have c2b0 : (a0.toList == ([99, 97, 112, 116, 105, 111, 110] : List UInt8)) = false := beq_eq_false_iff_ne.mpr c2
  have c2b1 : (a0.toList != ([99, 97, 112, 116, 105, 111, 110] : List UInt8)) = true := bne_iff_ne.mpr c2
  by_cases c3 : a0.toList = ([108, 105] : List UInt8)
  ·rw [if_pos c3] at H
   have c3b0 : (a0.toList == ([108, 105] : List UInt8)) = true := beq_iff_eq.mpr c3
   have c3b1 : (a0.toList != ([108, 105] : List UInt8)) = false := bne_eq_false_iff_eq.mpr c3
   clear c3
   obtain rfl := Option.some.inj H
   go_enter Try.func95, Try.ntmps95
   go_wp2
   go_ret
   exact ⟨by first | rfl | (simp; done) | (simp [*]; done), by repeat (first | exact Drawn0.refl _ | apply Drawn0.step)⟩
  ·rw [if_neg c3] at H
   have c3b0 : (a0.toList == ([108, 105] : List UInt8)) = false := beq_eq_false_iff_ne.mpr c3
   have c3b1 : (a0.toList != ([108, 105] : List UInt8)) = true := bne_iff_ne.mpr c3
   obtain rfl := Option.some.inj H
   go_enter Try.func95, Try.ntmps95
   go_wp2
   go_ret
   exact ⟨by first | rfl | (simp; done) | (simp [*]; done), by repeat (first | exact Drawn0.refl _ | apply Drawn0.step)⟩
/-! ### stringslite_HasSuffix: function 116 -/
def stringslite_HasSuffix.f (a0 : ByteArray) (a1 : ByteArray) : Option (Bool) := if (a0.size : Int) ≥ (a1.size : Int) then (if 0 ≤ (wrap64 ((a0.size : Int) - (a1.size : Int))) then (if (wrap64 ((a0.size : Int) - (a1.size : Int))) ≤ (a0.size : Int) then (some ((a0.extract ((wrap64 ((a0.size : Int) - (a1.size : Int))) : Int).toNat a0.size).toList == a1.toList)) else (none)) else (none)) else (some false)
set_option maxHeartbeats 8000000 in
set_option maxRecDepth 100000 in
theorem stringslite_HasSuffix.calls (a0 : ByteArray) (a1 : ByteArray) (r : Bool) (w : World) (h : stringslite_HasSuffix.f a0 a1 = some r) :
  Calls Try.prog 116 #[.string a0, .string a1] w fun e w' => e = .returned (.bool r) ∧ Drawn0 w w' := by
 have H : (if (a0.size : Int) ≥ (a1.size : Int) then (if 0 ≤ (wrap64 ((a0.size : Int) - (a1.size : Int))) then (if (wrap64 ((a0.size : Int) - (a1.size : Int))) ≤ (a0.size : Int) then (some ((a0.extract ((wrap64 ((a0.size : Int) - (a1.size : Int))) : Int).toNat a0.size).toList == a1.toList)) else (none)) else (none)) else (some false)) = some r := h
 clear h
 by_cases c3 : (a0.size : Int) ≥ (a1.size : Int)
 ·rw [if_pos c3] at H
  have c3b0 : decide ((a1.size : Int) ≤ (a0.size : Int)) = true := decide_eq_true c3
  have c3b1 : decide (a1.size ≤ a0.size) = true := decide_eq_true (Int.ofNat_le.mp c3)
  clear c3
  obtain ⟨ji4, hji4⟩ : ∃ j_ : Int, (wrap64 ((a0.size : Int) - (a1.size : Int))) = j_ := ⟨_, rfl⟩
  replace H : (if 0 ≤ (ji4) then (if (ji4) ≤ (a0.size : Int) then (some ((a0.extract ((ji4) : Int).toNat a0.size).toList == a1.toList)) else (none)) else (none)) = some r := by first | (rw [hji4] at H; exact H) | (simp only [hji4] at H ⊢; exact H)
  have hji4w : (IntKind.i64.wrap ((a0.size : Int) - (a1.size : Int))) = ji4 := (i64_w _).trans hji4
  by_cases c5 : 0 ≤ (ji4)
  ·rw [if_pos c5] at H
   have c5b0 := eq_true c5
   have c5b1 : decide (0 ≤ (ji4)) = true := decide_eq_true c5
   clear c5
   by_cases c6 : (ji4) ≤ (a0.size : Int)
   ·rw [if_pos c6] at H
    have c6b0 := eq_true c6
    have c6b1 : decide ((ji4) ≤ (a0.size : Int)) = true := decide_eq_true c6
    clear c6
    obtain rfl := Option.some.inj H
    go_enter Try.func116, Try.ntmps116
    go_wp2
    go_ret
    exact ⟨by first | rfl | (simp; done) | (simp only [← hji4] <;> (first | rfl | simp)) | (simp [*]; done), by repeat (first | exact Drawn0.refl _ | apply Drawn0.step)⟩
   ·rw [if_neg c6] at H
    exact absurd H (by simp)
  ·rw [if_neg c5] at H
   exact absurd H (by simp)
 ·rw [if_neg c3] at H
  have c3b0 : decide ((a1.size : Int) ≤ (a0.size : Int)) = false := decide_eq_false c3
  have c3b1 : decide (a1.size ≤ a0.size) = false := decide_eq_false (fun h => c3 (Int.ofNat_le.mpr h))
  clear c3
  obtain rfl := Option.some.inj H
  go_enter Try.func116, Try.ntmps116
  go_wp2
  go_ret
  exact ⟨by first | rfl | (simp; done) | (simp [*]; done), by repeat (first | exact Drawn0.refl _ | apply Drawn0.step)⟩
/-! ### strings_HasSuffix: function 82 -/
def strings_HasSuffix.f (a0 : ByteArray) (a1 : ByteArray) : Option (Bool) := (stringslite_HasSuffix.f a0 a1).bind fun t101 => (some t101)
set_option maxHeartbeats 8000000 in
set_option maxRecDepth 100000 in
theorem strings_HasSuffix.calls (a0 : ByteArray) (a1 : ByteArray) (r : Bool) (w : World) (h : strings_HasSuffix.f a0 a1 = some r) :
  Calls Try.prog 82 #[.string a0, .string a1] w fun e w' => e = .returned (.bool r) ∧ Drawn0 w w' := by
 have H : ((stringslite_HasSuffix.f a0 a1).bind fun t101 => (some t101)) = some r := h
 clear h
 replace H := Option.bind_eq_some_iff.mp H
 obtain ⟨t101, A30, H⟩ := H
 replace H : (some t101) = some r := H
 have A3 := Aside0.mk A30
 clear A30
 obtain rfl := Option.some.inj H
 go_enter Try.func82, Try.ntmps82
 go_wp2_with (first | ((with_reducible refine gate_callee (f := 116) rfl ?_); refine goesL_ (some 7) rfl rfl Try.func116 (by kernel_rfl) rfl #[.string a0, .string a1] rfl (by (try simp only [List.map_toArray, List.map_cons, List.map_nil]); first | done | rfl | (simp only [List.length_drop, List.length_take]; rfl)) ?_; (with_reducible refine (stringslite_HasSuffix.calls a0 a1 t101 _ A3.out).mono ?_); rintro e w' ⟨rfl, ⟨nd, rfl⟩⟩; refine ⟨_, rfl, ?_⟩))
 go_ret
 exact ⟨by first | rfl | (simp; done) | (simp [*]; done), by repeat (first | exact Drawn0.refl _ | apply Drawn0.step)⟩

/-- THE ONE PURE STATEMENT of strings_HasSuffix: yours. -/
def strings_HasSuffix.Pure : Prop := ∀ (a0 : ByteArray) (a1 : ByteArray), a0.size ≤ 140737488351232 → a1.size ≤ 140737488351232 → strings_HasSuffix.f a0 a1 = some true
theorem strings_HasSuffix.walk (P : strings_HasSuffix.Pure) (a0 : ByteArray) (a1 : ByteArray) (w : World) (w0 : a0.size ≤ 140737488351232) (w1 : a1.size ≤ 140737488351232) :
  Calls Try.prog 82 #[.string a0, .string a1] w fun e w' => e = .returned (.bool true) ∧ Below w.heap.size w w' := by
 have h := P a0 a1 w0 w1
 refine (strings_HasSuffix.calls a0 a1 true w h).mono ?_
 rintro e w' ⟨rfl, hd⟩
 exact ⟨rfl, hd.below⟩
/-! ### stringslite_TrimSuffix: function 117 -/
def stringslite_TrimSuffix.f (a0 : ByteArray) (a1 : ByteArray) : Option (ByteArray) := (stringslite_HasSuffix.f a0 a1).bind fun t102 => (if t102 = true then (if 0 ≤ (wrap64 ((a0.size : Int) - (a1.size : Int))) then (if (wrap64 ((a0.size : Int) - (a1.size : Int))) ≤ (a0.size : Int) then (some (a0.extract 0 ((wrap64 ((a0.size : Int) - (a1.size : Int))) : Int).toNat)) else (none)) else (none)) else (some a0))
set_option maxHeartbeats 8000000 in
set_option maxRecDepth 100000 in
theorem stringslite_TrimSuffix.calls (a0 : ByteArray) (a1 : ByteArray) (r : ByteArray) (w : World) (h : stringslite_TrimSuffix.f a0 a1 = some r) :
  Calls Try.prog 117 #[.string a0, .string a1] w fun e w' => e = .returned (.string r) ∧ Drawn0 w w' := by
 have H : ((stringslite_HasSuffix.f a0 a1).bind fun t102 => (if t102 = true then (if 0 ≤ (wrap64 ((a0.size : Int) - (a1.size : Int))) then (if (wrap64 ((a0.size : Int) - (a1.size : Int))) ≤ (a0.size : Int) then (some (a0.extract 0 ((wrap64 ((a0.size : Int) - (a1.size : Int))) : Int).toNat)) else (none)) else (none)) else (some a0))) = some r := h
 clear h
 replace H := Option.bind_eq_some_iff.mp H
 obtain ⟨t102, A30, H⟩ := H
 replace H : (if t102 = true then (if 0 ≤ (wrap64 ((a0.size : Int) - (a1.size : Int))) then (if (wrap64 ((a0.size : Int) - (a1.size : Int))) ≤ (a0.size : Int) then (some (a0.extract 0 ((wrap64 ((a0.size : Int) - (a1.size : Int))) : Int).toNat)) else (none)) else (none)) else (some a0)) = some r := H
 have A3 := Aside0.mk A30
 clear A30
 by_cases c4 : t102 = true
 ·subst c4
  have H1 : (if 0 ≤ (wrap64 ((a0.size : Int) - (a1.size : Int))) then (if (wrap64 ((a0.size : Int) - (a1.size : Int))) ≤ (a0.size : Int) then (some (a0.extract 0 ((wrap64 ((a0.size : Int) - (a1.size : Int))) : Int).toNat)) else (none)) else (none)) = some r := by rw [if_pos rfl] at H; exact H
  clear H
  have H := H1
  clear H1
  obtain ⟨ji5, hji5⟩ : ∃ j_ : Int, (wrap64 ((a0.size : Int) - (a1.size : Int))) = j_ := ⟨_, rfl⟩
  replace H : (if 0 ≤ (ji5) then (if (ji5) ≤ (a0.size : Int) then (some (a0.extract 0 ((ji5) : Int).toNat)) else (none)) else (none)) = some r := by first | (rw [hji5] at H; exact H) | (simp only [hji5] at H ⊢; exact H)
  (try rw [hji5] at A3)
  have hji5w : (IntKind.i64.wrap ((a0.size : Int) - (a1.size : Int))) = ji5 := (i64_w _).trans hji5
  by_cases c6 : 0 ≤ (ji5)
  ·rw [if_pos c6] at H
   have c6b0 := eq_true c6
   have c6b1 : decide (0 ≤ (ji5)) = true := decide_eq_true c6
   clear c6
   by_cases c7 : (ji5) ≤ (a0.size : Int)
   ·rw [if_pos c7] at H
    have c7b0 := eq_true c7
    have c7b1 : decide ((ji5) ≤ (a0.size : Int)) = true := decide_eq_true c7
    clear c7
    obtain rfl := Option.some.inj H
    go_enter Try.func117, Try.ntmps117
    go_wp2_with (first | ((with_reducible refine gate_callee (f := 116) rfl ?_); refine goesL_ (some 7) rfl rfl Try.func116 (by kernel_rfl) rfl #[.string a0, .string a1] rfl (by (try simp only [List.map_toArray, List.map_cons, List.map_nil]); first | done | rfl | (simp only [List.length_drop, List.length_take]; rfl)) ?_; (with_reducible refine (stringslite_HasSuffix.calls a0 a1 true _ A3.out).mono ?_); rintro e w' ⟨rfl, ⟨nd, rfl⟩⟩; refine ⟨_, rfl, ?_⟩))
    go_ret
    exact ⟨by first | rfl | (simp; done) | (simp only [← hji5] <;> (first | rfl | simp)) | (simp [*]; done), by repeat (first | exact Drawn0.refl _ | apply Drawn0.step)⟩
   ·rw [if_neg c7] at H
    exact absurd H (by simp)
  ·rw [if_neg c6] at H
   exact absurd H (by simp)
 ·replace c4 := Bool.eq_false_iff.mpr c4
  subst c4
  have H1 : (some a0) = some r := by rw [if_neg (show ¬ (false = true) by decide)] at H; exact H
  clear H
  have H := H1
  clear H1
  obtain rfl := Option.some.inj H
  go_enter Try.func117, Try.ntmps117
  go_wp2_with (first | ((with_reducible refine gate_callee (f := 116) rfl ?_); refine goesL_ (some 7) rfl rfl Try.func116 (by kernel_rfl) rfl #[.string a0, .string a1] rfl (by (try simp only [List.map_toArray, List.map_cons, List.map_nil]); first | done | rfl | (simp only [List.length_drop, List.length_take]; rfl)) ?_; (with_reducible refine (stringslite_HasSuffix.calls a0 a1 false _ A3.out).mono ?_); rintro e w' ⟨rfl, ⟨nd, rfl⟩⟩; refine ⟨_, rfl, ?_⟩))
  go_ret
  exact ⟨by first | rfl | (simp; done) | (simp [*]; done), by repeat (first | exact Drawn0.refl _ | apply Drawn0.step)⟩
/-! ### strings_TrimSuffix: function 84 -/
def strings_TrimSuffix.f (a0 : ByteArray) (a1 : ByteArray) : Option (ByteArray) := (stringslite_TrimSuffix.f a0 a1).bind fun t103 => (some t103)
set_option maxHeartbeats 8000000 in
set_option maxRecDepth 100000 in
theorem strings_TrimSuffix.calls (a0 : ByteArray) (a1 : ByteArray) (r : ByteArray) (w : World) (h : strings_TrimSuffix.f a0 a1 = some r) :
  Calls Try.prog 84 #[.string a0, .string a1] w fun e w' => e = .returned (.string r) ∧ Drawn0 w w' := by
 have H : ((stringslite_TrimSuffix.f a0 a1).bind fun t103 => (some t103)) = some r := h
 clear h
 replace H := Option.bind_eq_some_iff.mp H
 obtain ⟨t103, A30, H⟩ := H
 replace H : (some t103) = some r := H
 have A3 := Aside0.mk A30
 clear A30
 obtain rfl := Option.some.inj H
 go_enter Try.func84, Try.ntmps84
 go_wp2_with (first | ((with_reducible refine gate_callee (f := 117) rfl ?_); refine goesL_ (some 7) rfl rfl Try.func117 (by kernel_rfl) rfl #[.string a0, .string a1] rfl (by (try simp only [List.map_toArray, List.map_cons, List.map_nil]); first | done | rfl | (simp only [List.length_drop, List.length_take]; rfl)) ?_; (with_reducible refine (stringslite_TrimSuffix.calls a0 a1 t103 _ A3.out).mono ?_); rintro e w' ⟨rfl, ⟨nd, rfl⟩⟩; refine ⟨_, rfl, ?_⟩))
 go_ret
 exact ⟨by first | rfl | (simp; done) | (simp [*]; done), by repeat (first | exact Drawn0.refl _ | apply Drawn0.step)⟩
/-! ### laws_zzFits4: function 58 -/
def laws_zzFits4.f (a0_0 : ByteArray) (a0_1 : ByteArray) : Option (Bool) := if (a0_0.size : Int) > 2147483647 then (some false) else (if (a0_1.size : Int) > 2147483647 then (some false) else (some true))
set_option maxHeartbeats 8000000 in
set_option maxRecDepth 100000 in
theorem laws_zzFits4.calls (a0_0 : ByteArray) (a0_1 : ByteArray) (r : Bool) (w : World) (h : laws_zzFits4.f a0_0 a0_1 = some r) :
  Calls Try.prog 58 #[.agg #[.string a0_0, .string a0_1]] w fun e w' => e = .returned (.bool r) ∧ Below w.heap.size w w' := by
 have hu53 := Try.underlying53
 have HB := Aside0.mk (Below.refl w.heap.size w)
 have H : (if (a0_0.size : Int) > 2147483647 then (some false) else (if (a0_1.size : Int) > 2147483647 then (some false) else (some true))) = some r := h
 clear h
 by_cases c2 : (a0_0.size : Int) > 2147483647
 ·rw [if_pos c2] at H
  have c2b0 : decide (2147483647 < (a0_0.size : Int)) = true := decide_eq_true c2
  have c2b1 : decide (2147483647 < a0_0.size) = true := decide_eq_true (by omega)
  clear c2
  obtain rfl := Option.some.inj H
  go_enter Try.func58, Try.ntmps58
  go_wp2_with (first | ((with_reducible refine gate_dst (N := 1) rfl ?_); refine box_event ?hg (N := 1) ?hd (cs := #[.string a0_0, .string a0_1]) (t := 53) ?hr ?_; (case hd => rfl); (case hg => rfl); (case hr => first | (go_simp; done) | (go_simp; rfl)); intro gb104 hg w3 hbox hb; have n0_ := Aside0.mk (below_step (by repeat (first | (with_reducible first | exact HB.out | apply below_alloc | apply pw_below_drewN | apply below_drew1) | exact HB.out)) hb); have n1_ := Aside0.mk (hbox); have n2_ := Aside0.mk ((by rw [hg]; exact (below_size (by repeat (first | (with_reducible first | exact HB.out | apply below_alloc | apply pw_below_drewN | apply below_drew1) | exact HB.out))) : w.heap.size ≤ gb104)); have n3_ := Aside0.mk ((by rw [hg]; exact (below_size (by repeat (first | (with_reducible first | exact HB.out | apply below_alloc | apply pw_below_drewN | apply below_drew1) | exact HB.out))) : w.heap.size ≤ gb104)); clear HB; have HB := n0_; have BK104 := n1_; have GW104 := n2_; have GE104 := n3_; clear n0_ n1_ n2_ n3_; clear hb hbox hg; have hcz4_0 : w3.cell? ⟨gb104, 0, none⟩ = some (.string a0_0) := (blk_cell BK104.out 0).trans rfl; have hcz4_1 : w3.cell? ⟨gb104, 1, none⟩ = some (.string a0_1) := (blk_cell BK104.out 1).trans rfl; have hfz4_0 := blk_frozen BK104.out 0; have hfz4_1 := blk_frozen BK104.out 1))
  go_ret
  exact ⟨by first | rfl | (simp [errW_none, errW_some] <;> rfl) | (simp [*, errW_none, errW_some] <;> rfl), by repeat (first | (with_reducible first | exact HB.out | apply below_alloc | apply pw_below_drewN | apply below_drew1 | refine below_set ?_ GE104.out) | exact HB.out)⟩
 ·rw [if_neg c2] at H
  have c2b0 : decide (2147483647 < (a0_0.size : Int)) = false := decide_eq_false c2
  have c2b1 : decide (2147483647 < a0_0.size) = false := decide_eq_false (by omega)
  clear c2
  by_cases c5 : (a0_1.size : Int) > 2147483647
  ·rw [if_pos c5] at H
   have c5b0 : decide (2147483647 < (a0_1.size : Int)) = true := decide_eq_true c5
   have c5b1 : decide (2147483647 < a0_1.size) = true := decide_eq_true (by omega)
   clear c5
   obtain rfl := Option.some.inj H
   go_enter Try.func58, Try.ntmps58
   go_wp2_with (first | ((with_reducible refine gate_dst (N := 1) rfl ?_); refine box_event ?hg (N := 1) ?hd (cs := #[.string a0_0, .string a0_1]) (t := 53) ?hr ?_; (case hd => rfl); (case hg => rfl); (case hr => first | (go_simp; done) | (go_simp; rfl)); intro gb104 hg w6 hbox hb; have n0_ := Aside0.mk (below_step (by repeat (first | (with_reducible first | exact HB.out | apply below_alloc | apply pw_below_drewN | apply below_drew1) | exact HB.out)) hb); have n1_ := Aside0.mk (hbox); have n2_ := Aside0.mk ((by rw [hg]; exact (below_size (by repeat (first | (with_reducible first | exact HB.out | apply below_alloc | apply pw_below_drewN | apply below_drew1) | exact HB.out))) : w.heap.size ≤ gb104)); have n3_ := Aside0.mk ((by rw [hg]; exact (below_size (by repeat (first | (with_reducible first | exact HB.out | apply below_alloc | apply pw_below_drewN | apply below_drew1) | exact HB.out))) : w.heap.size ≤ gb104)); clear HB; have HB := n0_; have BK104 := n1_; have GW104 := n2_; have GE104 := n3_; clear n0_ n1_ n2_ n3_; clear hb hbox hg; have hcz7_0 : w6.cell? ⟨gb104, 0, none⟩ = some (.string a0_0) := (blk_cell BK104.out 0).trans rfl; have hcz7_1 : w6.cell? ⟨gb104, 1, none⟩ = some (.string a0_1) := (blk_cell BK104.out 1).trans rfl; have hfz7_0 := blk_frozen BK104.out 0; have hfz7_1 := blk_frozen BK104.out 1))
   go_ret
   exact ⟨by first | rfl | (simp [errW_none, errW_some] <;> rfl) | (simp [*, errW_none, errW_some] <;> rfl), by repeat (first | (with_reducible first | exact HB.out | apply below_alloc | apply pw_below_drewN | apply below_drew1 | refine below_set ?_ GE104.out) | exact HB.out)⟩
  ·rw [if_neg c5] at H
   have c5b0 : decide (2147483647 < (a0_1.size : Int)) = false := decide_eq_false c5
   have c5b1 : decide (2147483647 < a0_1.size) = false := decide_eq_false (by omega)
   clear c5
   obtain rfl := Option.some.inj H
   go_enter Try.func58, Try.ntmps58
   go_wp2_with (first | ((with_reducible refine gate_dst (N := 1) rfl ?_); refine box_event ?hg (N := 1) ?hd (cs := #[.string a0_0, .string a0_1]) (t := 53) ?hr ?_; (case hd => rfl); (case hg => rfl); (case hr => first | (go_simp; done) | (go_simp; rfl)); intro gb104 hg w8 hbox hb; have n0_ := Aside0.mk (below_step (by repeat (first | (with_reducible first | exact HB.out | apply below_alloc | apply pw_below_drewN | apply below_drew1) | exact HB.out)) hb); have n1_ := Aside0.mk (hbox); have n2_ := Aside0.mk ((by rw [hg]; exact (below_size (by repeat (first | (with_reducible first | exact HB.out | apply below_alloc | apply pw_below_drewN | apply below_drew1) | exact HB.out))) : w.heap.size ≤ gb104)); have n3_ := Aside0.mk ((by rw [hg]; exact (below_size (by repeat (first | (with_reducible first | exact HB.out | apply below_alloc | apply pw_below_drewN | apply below_drew1) | exact HB.out))) : w.heap.size ≤ gb104)); clear HB; have HB := n0_; have BK104 := n1_; have GW104 := n2_; have GE104 := n3_; clear n0_ n1_ n2_ n3_; clear hb hbox hg; have hcz9_0 : w8.cell? ⟨gb104, 0, none⟩ = some (.string a0_0) := (blk_cell BK104.out 0).trans rfl; have hcz9_1 : w8.cell? ⟨gb104, 1, none⟩ = some (.string a0_1) := (blk_cell BK104.out 1).trans rfl; have hfz9_0 := blk_frozen BK104.out 0; have hfz9_1 := blk_frozen BK104.out 1))
   go_ret
   exact ⟨by first | rfl | (simp [errW_none, errW_some] <;> rfl) | (simp [*, errW_none, errW_some] <;> rfl), by repeat (first | (with_reducible first | exact HB.out | apply below_alloc | apply pw_below_drewN | apply below_drew1 | refine below_set ?_ GE104.out) | exact HB.out)⟩
/-! ### laws_zzFits3: function 30 -/
def laws_zzFits3.l0 : Nat → List (S53) → Int → Int → Option (Bool)
 | 0, _, _, _ => none
 | k + 1, x8, x9, x10 => if x10 < x9 then (if 0 ≤ x10 then (if x10 < (x8.length : Int) then ((laws_zzFits4.f ((rd_T53 x8 x10).f0) ((rd_T53 x8 x10).f1)).bind fun t107 => (if t107 = true then (laws_zzFits3.l0 k x8 x9 (wrap64 (x10 + 1))) else (some false))) else (none)) else (none)) else (some true)
def laws_zzFits3.f (k : Nat) (l0 : List (S53)) : Option (Bool) := if (l0.length : Int) > 2147483647 then (some false) else (laws_zzFits3.l0 k l0 (l0.length : Int) 0)
theorem laws_zzFits3.mono_l : ∀ k, (∀ y0 y1 y2, LeO (laws_zzFits3.l0 k y0 y1 y2) (laws_zzFits3.l0 (k + 1) y0 y1 y2))
 | 0 => fun _ _ _ r h => by simp [laws_zzFits3.l0] at h
 | k + 1 => by
  have ih0 := laws_zzFits3.mono_l k
  ·intro y0 y1 y2
   unfold laws_zzFits3.l0
   repeat' first
   | (with_reducible exact ih0 _ _ _)
   | (with_reducible exact LeO.refl _)
   | (with_reducible exact LeO.none _)
   | (with_reducible refine LeO.ite ?_ ?_)
   | (with_reducible refine LeO.bind ?_ (fun _ => ?_))
   | exact ih0 _ _ _
   | exact LeO.none _
   | refine LeO.ite ?_ ?_
   | refine LeO.bind ?_ (fun _ => ?_)
theorem laws_zzFits3.mono : ∀ a0 k, LeO (laws_zzFits3.f k a0) (laws_zzFits3.f (k + 1) a0) := by
 intro a0 k
 have ih0 := laws_zzFits3.mono_l k
 unfold laws_zzFits3.f
 repeat' first
   | (with_reducible exact ih0 _ _ _)
   | (with_reducible exact LeO.refl _)
   | (with_reducible exact LeO.none _)
   | (with_reducible refine LeO.ite ?_ ?_)
   | (with_reducible refine LeO.bind ?_ (fun _ => ?_))
   | exact ih0 _ _ _
   | exact LeO.none _
   | refine LeO.ite ?_ ?_
   | refine LeO.bind ?_ (fun _ => ?_)
set_option maxHeartbeats 8000000 in
set_option maxRecDepth 100000 in
theorem laws_zzFits3.calls (k : Nat) (A0 : Option Addr) (c0 : Nat) (l0 : List (S53)) (r : Bool) (w : World) (hr0 : Kd.C k53 w A0 l0.length l0) (hc0 : l0.length ≤ c0) (h : laws_zzFits3.f k l0 = some r) :
  Calls Try.prog 30 #[.slice A0 l0.length c0] w fun e w' => e = .returned (.bool r) ∧ Below w.heap.size w w' := by
 have hu53 := Try.underlying53
 have HR0 := Aside0.mk hr0
 have HC0 := Aside0.mk hc0
 clear hr0 hc0
 have HB := Aside0.mk (Below.refl w.heap.size w)
 have H : (if (l0.length : Int) > 2147483647 then (some false) else (laws_zzFits3.l0 k l0 (l0.length : Int) 0)) = some r := h
 clear h
 by_cases c2 : (l0.length : Int) > 2147483647
 ·rw [if_pos c2] at H
  have c2b0 : decide (2147483647 < (l0.length : Int)) = true := decide_eq_true c2
  have c2b1 : decide (2147483647 < l0.length) = true := decide_eq_true (by omega)
  clear c2
  obtain rfl := Option.some.inj H
  go_enter Try.func30, Try.ntmps30
  go_wp2
  go_ret
  exact ⟨by first | rfl | (simp [errW_none, errW_some] <;> rfl) | (simp [*, errW_none, errW_some] <;> rfl), by repeat (first | (with_reducible first | exact HB.out | apply below_alloc | apply pw_below_drewN | apply below_drew1) | exact HB.out)⟩
 ·rw [if_neg c2] at H
  have c2b0 : decide (2147483647 < (l0.length : Int)) = false := decide_eq_false c2
  have c2b1 : decide (2147483647 < l0.length) = false := decide_eq_false (by omega)
  clear c2
  have H' := Aside0.mk H
  clear H
  go_enter Try.func30, Try.ntmps30
  go_wp2
  go_loopg [10] k (fun kq v10 w' => ∃ (x10_1 : Int), v10 = .int .i64 x10_1 ∧ Aside0 (laws_zzFits3.l0 kq l0 (l0.length : Int) x10_1 = some r) ∧ Aside0 (kq ≤ k) ∧ Aside0 (Below w.heap.size w w'))
  case atStart => exact ⟨(0), (by first | rfl | (simp; done) | (simp [*]; done)), H', ⟨Nat.le_refl _⟩, ⟨by repeat (first | (with_reducible first | exact HB.out | apply below_alloc | apply pw_below_drewN | apply below_drew1) | exact HB.out)⟩⟩
  case round =>
   clear H'
   try clear c2
   try clear c2b0
   try clear c2b1
   try clear p2
   obtain ⟨x10_1, rfl, HA, HK1, HB⟩ := hrel
   cases gk with
   | zero => exact absurd HA.out (by simp [laws_zzFits3.l0])
   | succ k1 =>
    have H := HA.out
    clear HA
    simp only [laws_zzFits3.l0] at H
    by_cases c3 : x10_1 < (l0.length : Int)
    ·rw [if_pos c3] at H
     have c3b0 : decide (x10_1 < (l0.length : Int)) = true := decide_eq_true c3
     clear c3
     by_cases c4 : 0 ≤ x10_1
     ·rw [if_pos c4] at H
      have c4b0 : decide (0 ≤ x10_1) = true := decide_eq_true c4
      clear c4
      by_cases c5 : x10_1 < (l0.length : Int)
      ·rw [if_pos c5] at H
       have c5b0 : decide (x10_1 < (l0.length : Int)) = true := decide_eq_true c5
       clear c5
       replace H := Option.bind_eq_some_iff.mp H
       obtain ⟨t107, A60, H⟩ := H
       replace H : (if t107 = true then (laws_zzFits3.l0 k1 l0 (l0.length : Int) (wrap64 (x10_1 + 1))) else (some false)) = some r := H
       have A6 := Aside0.mk A60
       clear A60
       by_cases c7 : t107 = true
       ·subst c7
        have H1 : (laws_zzFits3.l0 k1 l0 (l0.length : Int) (wrap64 (x10_1 + 1))) = some r := by rw [if_pos rfl] at H; exact H
        clear H
        have H := H1
        clear H1
        have H' := Aside0.mk H
        clear H
        have p105 : 0 ≤ (x10_1 : Int) := of_decide_eq_true (by first | (with_reducible assumption) | assumption)
        have q105 : x10_1 < (l0.length : Int) := of_decide_eq_true (by first | (with_reducible assumption) | assumption)
        obtain ⟨ad105, e105, hx105_0, hx105_1⟩ := at_T53 HR0.out x10_1 p105 q105
        cases e105
        replace hx105_0 := (HB.out.cell (World.block_lt_of_cell? w _ hx105_0)).trans hx105_0
        replace hx105_1 := (HB.out.cell (World.block_lt_of_cell? w _ hx105_1)).trans hx105_1
        replace p105 := eq_true p105
        replace q105 := eq_true q105
        go_wp2_with (first | ((with_reducible refine gate_dst (N := 4) rfl ?_); refine box_event ?hg (N := 4) ?hd (cs := #[.string (⟨#[]⟩ : ByteArray), .string (⟨#[]⟩ : ByteArray)]) (t := 53) ?hr ?_; (case hd => rfl); (case hg => rfl); (case hr => first | (go_simp; done) | (go_simp; rfl)); intro gb106 hg w8 hbox hb; have n0_ := Aside0.mk (below_step (by repeat (first | (with_reducible first | exact HB.out | apply below_alloc | apply pw_below_drewN | apply below_drew1) | exact HB.out)) hb); have n1_ := Aside0.mk (hbox); have n2_ := Aside0.mk ((by rw [hg]; exact (below_size (by repeat (first | (with_reducible first | exact HB.out | apply below_alloc | apply pw_below_drewN | apply below_drew1) | exact HB.out))) : w.heap.size ≤ gb106)); have n3_ := Aside0.mk ((by rw [hg]; exact (below_size (by repeat (first | (with_reducible first | exact HB.out | apply below_alloc | apply pw_below_drewN | apply below_drew1) | exact HB.out))) : w.heap.size ≤ gb106)); clear HB; have HB := n0_; have BK106 := n1_; have GW106 := n2_; have GE106 := n3_; clear n0_ n1_ n2_ n3_; clear hb hbox hg; have hcz9_0 : w8.cell? ⟨gb106, 0, none⟩ = some (.string (⟨#[]⟩ : ByteArray)) := (blk_cell BK106.out 0).trans rfl; have hcz9_1 : w8.cell? ⟨gb106, 1, none⟩ = some (.string (⟨#[]⟩ : ByteArray)) := (blk_cell BK106.out 1).trans rfl; have hfz9_0 := blk_frozen BK106.out 0; have hfz9_1 := blk_frozen BK106.out 1) | ((with_reducible refine gate_callee (f := 58) rfl ?_); refine goesL_ (some 15) rfl rfl Try.func58 (by kernel_rfl) rfl #[.agg #[.string ((rd_T53 l0 x10_1).f0), .string ((rd_T53 l0 x10_1).f1)]] rfl (by (try simp only [List.map_toArray, List.map_cons, List.map_nil]); first | done | rfl | (simp only [List.length_drop, List.length_take]; rfl)) ?_; (with_reducible refine (laws_zzFits4.calls ((rd_T53 l0 x10_1).f0) ((rd_T53 l0 x10_1).f1) true _ A6.out).mono ?_); rintro e w10 ⟨rfl, hb⟩; refine ⟨_, rfl, ?_⟩; have n0_ := Aside0.mk (blk_below (g := gb106) (o := .cells #[.string ((rd_T53 l0 x10_1).f0), .string ((rd_T53 l0 x10_1).f1)] 53 (0, 0)) (by (with_reducible repeat (first | refine blk_drewN ?_ _ | refine blk_drew ?_ | refine blk_alloc ?_ _)); refine blk_put (cs := #[.string ((rd_T53 l0 x10_1).f0), .string (⟨#[]⟩ : ByteArray)]) ?_ 1 _ rfl; (with_reducible repeat (first | refine blk_drewN ?_ _ | refine blk_drew ?_ | refine blk_alloc ?_ _)); refine blk_put (cs := #[.string (⟨#[]⟩ : ByteArray), .string (⟨#[]⟩ : ByteArray)]) ?_ 0 _ rfl; (with_reducible repeat (first | refine blk_drewN ?_ _ | refine blk_drew ?_ | refine blk_alloc ?_ _)); exact BK106.out) hb); have n1_ := Aside0.mk (below_step (by repeat (first | (with_reducible first | exact HB.out | apply below_alloc | apply pw_below_drewN | apply below_drew1 | refine below_set ?_ GE106.out) | exact HB.out)) hb); clear BK106; clear HB; have BK106 := n0_; have HB := n1_; clear n0_ n1_; (try clear hb); (try clear hb2); (try clear hk); (try clear hi)))
        go_roundg k1
        case measure => have := HK1.out; omega
        case rel => exact ⟨(wrap64 (x10_1 + 1)), (by first | rfl | (simp; done) | (simp [*]; done)), H', ⟨by have := HK1.out; omega⟩, ⟨by repeat (first | (with_reducible first | exact HB.out | apply below_alloc | apply pw_below_drewN | apply below_drew1 | refine below_set ?_ GE106.out) | exact HB.out)⟩⟩
       ·replace c7 := Bool.eq_false_iff.mpr c7
        subst c7
        have H1 : (some false) = some r := by rw [if_neg (show ¬ (false = true) by decide)] at H; exact H
        clear H
        have H := H1
        clear H1
        obtain rfl := Option.some.inj H
        have p105 : 0 ≤ (x10_1 : Int) := of_decide_eq_true (by first | (with_reducible assumption) | assumption)
        have q105 : x10_1 < (l0.length : Int) := of_decide_eq_true (by first | (with_reducible assumption) | assumption)
        obtain ⟨ad105, e105, hx105_0, hx105_1⟩ := at_T53 HR0.out x10_1 p105 q105
        cases e105
        replace hx105_0 := (HB.out.cell (World.block_lt_of_cell? w _ hx105_0)).trans hx105_0
        replace hx105_1 := (HB.out.cell (World.block_lt_of_cell? w _ hx105_1)).trans hx105_1
        replace p105 := eq_true p105
        replace q105 := eq_true q105
        go_wp2_with (first | ((with_reducible refine gate_dst (N := 4) rfl ?_); refine box_event ?hg (N := 4) ?hd (cs := #[.string (⟨#[]⟩ : ByteArray), .string (⟨#[]⟩ : ByteArray)]) (t := 53) ?hr ?_; (case hd => rfl); (case hg => rfl); (case hr => first | (go_simp; done) | (go_simp; rfl)); intro gb106 hg w11 hbox hb; have n0_ := Aside0.mk (below_step (by repeat (first | (with_reducible first | exact HB.out | apply below_alloc | apply pw_below_drewN | apply below_drew1) | exact HB.out)) hb); have n1_ := Aside0.mk (hbox); have n2_ := Aside0.mk ((by rw [hg]; exact (below_size (by repeat (first | (with_reducible first | exact HB.out | apply below_alloc | apply pw_below_drewN | apply below_drew1) | exact HB.out))) : w.heap.size ≤ gb106)); have n3_ := Aside0.mk ((by rw [hg]; exact (below_size (by repeat (first | (with_reducible first | exact HB.out | apply below_alloc | apply pw_below_drewN | apply below_drew1) | exact HB.out))) : w.heap.size ≤ gb106)); clear HB; have HB := n0_; have BK106 := n1_; have GW106 := n2_; have GE106 := n3_; clear n0_ n1_ n2_ n3_; clear hb hbox hg; have hcz12_0 : w11.cell? ⟨gb106, 0, none⟩ = some (.string (⟨#[]⟩ : ByteArray)) := (blk_cell BK106.out 0).trans rfl; have hcz12_1 : w11.cell? ⟨gb106, 1, none⟩ = some (.string (⟨#[]⟩ : ByteArray)) := (blk_cell BK106.out 1).trans rfl; have hfz12_0 := blk_frozen BK106.out 0; have hfz12_1 := blk_frozen BK106.out 1) | ((with_reducible refine gate_callee (f := 58) rfl ?_); refine goesL_ (some 15) rfl rfl Try.func58 (by kernel_rfl) rfl #[.agg #[.string ((rd_T53 l0 x10_1).f0), .string ((rd_T53 l0 x10_1).f1)]] rfl (by (try simp only [List.map_toArray, List.map_cons, List.map_nil]); first | done | rfl | (simp only [List.length_drop, List.length_take]; rfl)) ?_; (with_reducible refine (laws_zzFits4.calls ((rd_T53 l0 x10_1).f0) ((rd_T53 l0 x10_1).f1) false _ A6.out).mono ?_); rintro e w13 ⟨rfl, hb⟩; refine ⟨_, rfl, ?_⟩; have n0_ := Aside0.mk (blk_below (g := gb106) (o := .cells #[.string ((rd_T53 l0 x10_1).f0), .string ((rd_T53 l0 x10_1).f1)] 53 (0, 0)) (by (with_reducible repeat (first | refine blk_drewN ?_ _ | refine blk_drew ?_ | refine blk_alloc ?_ _)); refine blk_put (cs := #[.string ((rd_T53 l0 x10_1).f0), .string (⟨#[]⟩ : ByteArray)]) ?_ 1 _ rfl; (with_reducible repeat (first | refine blk_drewN ?_ _ | refine blk_drew ?_ | refine blk_alloc ?_ _)); refine blk_put (cs := #[.string (⟨#[]⟩ : ByteArray), .string (⟨#[]⟩ : ByteArray)]) ?_ 0 _ rfl; (with_reducible repeat (first | refine blk_drewN ?_ _ | refine blk_drew ?_ | refine blk_alloc ?_ _)); exact BK106.out) hb); have n1_ := Aside0.mk (below_step (by repeat (first | (with_reducible first | exact HB.out | apply below_alloc | apply pw_below_drewN | apply below_drew1 | refine below_set ?_ GE106.out) | exact HB.out)) hb); clear BK106; clear HB; have BK106 := n0_; have HB := n1_; clear n0_ n1_; (try clear hb); (try clear hb2); (try clear hk); (try clear hi)))
        go_ret
        exact ⟨by first | rfl | (simp [errW_none, errW_some] <;> rfl) | (simp [*, errW_none, errW_some] <;> rfl), by repeat (first | (with_reducible first | exact HB.out | apply below_alloc | apply pw_below_drewN | apply below_drew1 | refine below_set ?_ GE106.out) | exact HB.out)⟩
      ·rw [if_neg c5] at H
       exact absurd H (by simp)
     ·rw [if_neg c4] at H
      exact absurd H (by simp)
    ·rw [if_neg c3] at H
     have c3b0 : decide (x10_1 < (l0.length : Int)) = false := decide_eq_false c3
     clear c3
     obtain rfl := Option.some.inj H
     go_wp2
     go_ret
     exact ⟨by first | rfl | (simp [errW_none, errW_some] <;> rfl) | (simp [*, errW_none, errW_some] <;> rfl), by repeat (first | (with_reducible first | exact HB.out | apply below_alloc | apply pw_below_drewN | apply below_drew1) | exact HB.out)⟩
/-! ### laws_zzFits2: function 9 -/
def laws_zzFits2.f (k : Nat) (a0_0 : Int) (a0_1 : ByteArray) (a0_2 : ByteArray) (l0_3 : List (S53)) (l0_4 : List (S25)) : Option (Bool) := if (a0_1.size : Int) > 2147483647 then (some false) else (if (a0_2.size : Int) > 2147483647 then (some false) else ((laws_zzFits3.f k l0_3).bind fun t109 => (if t109 = true then (if (l0_4.length : Int) > 2147483647 then (some false) else (some true)) else (some false))))
theorem laws_zzFits2.mono : ∀ a0 a1 a2 a3 a4 k, LeO (laws_zzFits2.f k a0 a1 a2 a3 a4) (laws_zzFits2.f (k + 1) a0 a1 a2 a3 a4) := by
 intro a0 a1 a2 a3 a4 k
 unfold laws_zzFits2.f
 repeat' first
   | (with_reducible exact laws_zzFits3.mono _ _)
   | (with_reducible exact LeO.refl _)
   | (with_reducible exact LeO.none _)
   | (with_reducible refine LeO.ite ?_ ?_)
   | (with_reducible refine LeO.bind ?_ (fun _ => ?_))
   | exact laws_zzFits3.mono _ _
   | exact LeO.none _
   | refine LeO.ite ?_ ?_
   | refine LeO.bind ?_ (fun _ => ?_)
set_option maxHeartbeats 8000000 in
set_option maxRecDepth 100000 in
theorem laws_zzFits2.calls (k : Nat) (a0_0 : Int) (a0_1 : ByteArray) (a0_2 : ByteArray) (A0_3 : Option Addr) (c0_3 : Nat) (l0_3 : List (S53)) (A0_4 : Option Addr) (c0_4 : Nat) (l0_4 : List (S25)) (r : Bool) (w : World) (hr0_3 : Kd.C k53 w A0_3 l0_3.length l0_3) (hc0_3 : l0_3.length ≤ c0_3) (hr0_4 : Kd.C k25 w A0_4 l0_4.length l0_4) (hc0_4 : l0_4.length ≤ c0_4) (h : laws_zzFits2.f k a0_0 a0_1 a0_2 l0_3 l0_4 = some r) :
  Calls Try.prog 9 #[.agg #[.int .i64 a0_0, .string a0_1, .string a0_2, .slice A0_3 l0_3.length c0_3, .slice A0_4 l0_4.length c0_4]] w fun e w' => e = .returned (.bool r) ∧ Below w.heap.size w w' := by
 have hu25 := Try.underlying25
 have HR0_3 := Aside0.mk hr0_3
 have HC0_3 := Aside0.mk hc0_3
 clear hr0_3 hc0_3
 have HR0_4 := Aside0.mk hr0_4
 have HC0_4 := Aside0.mk hc0_4
 clear hr0_4 hc0_4
 have HB := Aside0.mk (Below.refl w.heap.size w)
 have H : (if (a0_1.size : Int) > 2147483647 then (some false) else (if (a0_2.size : Int) > 2147483647 then (some false) else ((laws_zzFits3.f k l0_3).bind fun t109 => (if t109 = true then (if (l0_4.length : Int) > 2147483647 then (some false) else (some true)) else (some false))))) = some r := h
 clear h
 by_cases c2 : (a0_1.size : Int) > 2147483647
 ·rw [if_pos c2] at H
  have c2b0 : decide (2147483647 < (a0_1.size : Int)) = true := decide_eq_true c2
  have c2b1 : decide (2147483647 < a0_1.size) = true := decide_eq_true (by omega)
  clear c2
  obtain rfl := Option.some.inj H
  go_enter Try.func9, Try.ntmps9
  go_wp2_with (first | ((with_reducible refine gate_dst (N := 1) rfl ?_); refine box_event ?hg (N := 1) ?hd (cs := #[.int .i64 a0_0, .string a0_1, .string a0_2, .slice A0_3 l0_3.length c0_3, .slice A0_4 l0_4.length c0_4]) (t := 25) ?hr ?_; (case hd => rfl); (case hg => rfl); (case hr => first | (go_simp; done) | (go_simp; rfl)); intro gb108 hg w3 hbox hb; have n0_ := Aside0.mk (below_step (by repeat (first | (with_reducible first | exact HB.out | apply below_alloc | apply pw_below_drewN | apply below_drew1) | exact HB.out)) hb); have n1_ := Aside0.mk (hbox); have n2_ := Aside0.mk ((by rw [hg]; exact (below_size (by repeat (first | (with_reducible first | exact HB.out | apply below_alloc | apply pw_below_drewN | apply below_drew1) | exact HB.out))) : w.heap.size ≤ gb108)); have n3_ := Aside0.mk ((by rw [hg]; exact (below_size (by repeat (first | (with_reducible first | exact HB.out | apply below_alloc | apply pw_below_drewN | apply below_drew1) | exact HB.out))) : w.heap.size ≤ gb108)); clear HB; have HB := n0_; have BK108 := n1_; have GW108 := n2_; have GE108 := n3_; clear n0_ n1_ n2_ n3_; clear hb hbox hg; have hcz4_0 : w3.cell? ⟨gb108, 0, none⟩ = some (.int .i64 a0_0) := (blk_cell BK108.out 0).trans rfl; have hcz4_1 : w3.cell? ⟨gb108, 1, none⟩ = some (.string a0_1) := (blk_cell BK108.out 1).trans rfl; have hcz4_2 : w3.cell? ⟨gb108, 2, none⟩ = some (.string a0_2) := (blk_cell BK108.out 2).trans rfl; have hcz4_3 : w3.cell? ⟨gb108, 3, none⟩ = some (.slice A0_3 l0_3.length c0_3) := (blk_cell BK108.out 3).trans rfl; have hcz4_4 : w3.cell? ⟨gb108, 4, none⟩ = some (.slice A0_4 l0_4.length c0_4) := (blk_cell BK108.out 4).trans rfl; have hfz4_0 := blk_frozen BK108.out 0; have hfz4_1 := blk_frozen BK108.out 1; have hfz4_2 := blk_frozen BK108.out 2; have hfz4_3 := blk_frozen BK108.out 3; have hfz4_4 := blk_frozen BK108.out 4))
  go_ret
  exact ⟨by first | rfl | (simp [errW_none, errW_some] <;> rfl) | (simp [*, errW_none, errW_some] <;> rfl), by repeat (first | (with_reducible first | exact HB.out | apply below_alloc | apply pw_below_drewN | apply below_drew1 | refine below_set ?_ GE108.out) | exact HB.out)⟩
 ·rw [if_neg c2] at H
  have c2b0 : decide (2147483647 < (a0_1.size : Int)) = false := decide_eq_false c2
  have c2b1 : decide (2147483647 < a0_1.size) = false := decide_eq_false (by omega)
  clear c2
  by_cases c5 : (a0_2.size : Int) > 2147483647
  ·rw [if_pos c5] at H
   have c5b0 : decide (2147483647 < (a0_2.size : Int)) = true := decide_eq_true c5
   have c5b1 : decide (2147483647 < a0_2.size) = true := decide_eq_true (by omega)
   clear c5
   obtain rfl := Option.some.inj H
   go_enter Try.func9, Try.ntmps9
   go_wp2_with (first | ((with_reducible refine gate_dst (N := 1) rfl ?_); refine box_event ?hg (N := 1) ?hd (cs := #[.int .i64 a0_0, .string a0_1, .string a0_2, .slice A0_3 l0_3.length c0_3, .slice A0_4 l0_4.length c0_4]) (t := 25) ?hr ?_; (case hd => rfl); (case hg => rfl); (case hr => first | (go_simp; done) | (go_simp; rfl)); intro gb108 hg w6 hbox hb; have n0_ := Aside0.mk (below_step (by repeat (first | (with_reducible first | exact HB.out | apply below_alloc | apply pw_below_drewN | apply below_drew1) | exact HB.out)) hb); have n1_ := Aside0.mk (hbox); have n2_ := Aside0.mk ((by rw [hg]; exact (below_size (by repeat (first | (with_reducible first | exact HB.out | apply below_alloc | apply pw_below_drewN | apply below_drew1) | exact HB.out))) : w.heap.size ≤ gb108)); have n3_ := Aside0.mk ((by rw [hg]; exact (below_size (by repeat (first | (with_reducible first | exact HB.out | apply below_alloc | apply pw_below_drewN | apply below_drew1) | exact HB.out))) : w.heap.size ≤ gb108)); clear HB; have HB := n0_; have BK108 := n1_; have GW108 := n2_; have GE108 := n3_; clear n0_ n1_ n2_ n3_; clear hb hbox hg; have hcz7_0 : w6.cell? ⟨gb108, 0, none⟩ = some (.int .i64 a0_0) := (blk_cell BK108.out 0).trans rfl; have hcz7_1 : w6.cell? ⟨gb108, 1, none⟩ = some (.string a0_1) := (blk_cell BK108.out 1).trans rfl; have hcz7_2 : w6.cell? ⟨gb108, 2, none⟩ = some (.string a0_2) := (blk_cell BK108.out 2).trans rfl; have hcz7_3 : w6.cell? ⟨gb108, 3, none⟩ = some (.slice A0_3 l0_3.length c0_3) := (blk_cell BK108.out 3).trans rfl; have hcz7_4 : w6.cell? ⟨gb108, 4, none⟩ = some (.slice A0_4 l0_4.length c0_4) := (blk_cell BK108.out 4).trans rfl; have hfz7_0 := blk_frozen BK108.out 0; have hfz7_1 := blk_frozen BK108.out 1; have hfz7_2 := blk_frozen BK108.out 2; have hfz7_3 := blk_frozen BK108.out 3; have hfz7_4 := blk_frozen BK108.out 4))
   go_ret
   exact ⟨by first | rfl | (simp [errW_none, errW_some] <;> rfl) | (simp [*, errW_none, errW_some] <;> rfl), by repeat (first | (with_reducible first | exact HB.out | apply below_alloc | apply pw_below_drewN | apply below_drew1 | refine below_set ?_ GE108.out) | exact HB.out)⟩
  ·rw [if_neg c5] at H
   have c5b0 : decide (2147483647 < (a0_2.size : Int)) = false := decide_eq_false c5
   have c5b1 : decide (2147483647 < a0_2.size) = false := decide_eq_false (by omega)
   clear c5
   replace H := Option.bind_eq_some_iff.mp H
   obtain ⟨t109, A80, H⟩ := H
   replace H : (if t109 = true then (if (l0_4.length : Int) > 2147483647 then (some false) else (some true)) else (some false)) = some r := H
   have A8 := Aside0.mk A80
   clear A80
   by_cases c9 : t109 = true
   ·subst c9
    have H1 : (if (l0_4.length : Int) > 2147483647 then (some false) else (some true)) = some r := by rw [if_pos rfl] at H; exact H
    clear H
    have H := H1
    clear H1
    by_cases c10 : (l0_4.length : Int) > 2147483647
    ·rw [if_pos c10] at H
     have c10b0 : decide (2147483647 < (l0_4.length : Int)) = true := decide_eq_true c10
     have c10b1 : decide (2147483647 < l0_4.length) = true := decide_eq_true (by omega)
     clear c10
     obtain rfl := Option.some.inj H
     go_enter Try.func9, Try.ntmps9
     go_wp2_with (first | ((with_reducible refine gate_dst (N := 1) rfl ?_); refine box_event ?hg (N := 1) ?hd (cs := #[.int .i64 a0_0, .string a0_1, .string a0_2, .slice A0_3 l0_3.length c0_3, .slice A0_4 l0_4.length c0_4]) (t := 25) ?hr ?_; (case hd => rfl); (case hg => rfl); (case hr => first | (go_simp; done) | (go_simp; rfl)); intro gb108 hg w11 hbox hb; have n0_ := Aside0.mk (below_step (by repeat (first | (with_reducible first | exact HB.out | apply below_alloc | apply pw_below_drewN | apply below_drew1) | exact HB.out)) hb); have n1_ := Aside0.mk (hbox); have n2_ := Aside0.mk ((by rw [hg]; exact (below_size (by repeat (first | (with_reducible first | exact HB.out | apply below_alloc | apply pw_below_drewN | apply below_drew1) | exact HB.out))) : w.heap.size ≤ gb108)); have n3_ := Aside0.mk ((by rw [hg]; exact (below_size (by repeat (first | (with_reducible first | exact HB.out | apply below_alloc | apply pw_below_drewN | apply below_drew1) | exact HB.out))) : w.heap.size ≤ gb108)); clear HB; have HB := n0_; have BK108 := n1_; have GW108 := n2_; have GE108 := n3_; clear n0_ n1_ n2_ n3_; clear hb hbox hg; have hcz12_0 : w11.cell? ⟨gb108, 0, none⟩ = some (.int .i64 a0_0) := (blk_cell BK108.out 0).trans rfl; have hcz12_1 : w11.cell? ⟨gb108, 1, none⟩ = some (.string a0_1) := (blk_cell BK108.out 1).trans rfl; have hcz12_2 : w11.cell? ⟨gb108, 2, none⟩ = some (.string a0_2) := (blk_cell BK108.out 2).trans rfl; have hcz12_3 : w11.cell? ⟨gb108, 3, none⟩ = some (.slice A0_3 l0_3.length c0_3) := (blk_cell BK108.out 3).trans rfl; have hcz12_4 : w11.cell? ⟨gb108, 4, none⟩ = some (.slice A0_4 l0_4.length c0_4) := (blk_cell BK108.out 4).trans rfl; have hfz12_0 := blk_frozen BK108.out 0; have hfz12_1 := blk_frozen BK108.out 1; have hfz12_2 := blk_frozen BK108.out 2; have hfz12_3 := blk_frozen BK108.out 3; have hfz12_4 := blk_frozen BK108.out 4) | ((with_reducible refine gate_callee (f := 30) rfl ?_); refine goesL_ (some 13) rfl rfl Try.func30 (by kernel_rfl) rfl #[.slice A0_3 l0_3.length c0_3] rfl (by (try simp only [List.map_toArray, List.map_cons, List.map_nil]); first | done | rfl | (simp only [List.length_drop, List.length_take]; rfl)) ?_; (with_reducible refine (laws_zzFits3.calls k _ _ l0_3 true _ ?side1 ?side2 A8.out).mono ?_); (case side1 => repeat (first | exact (Kd.C_below HR0_3.out HB.out) | (with_reducible refine Kd.C_alloc ?_ _) | (with_reducible refine Kd.C_drewN ?_ _) | (with_reducible refine Kd.C_drew ?_))); (case side2 => exact HC0_3.out); rintro e w13 ⟨rfl, hb⟩; refine ⟨_, rfl, ?_⟩; have n0_ := Aside0.mk (blk_below (g := gb108) (o := .cells #[.int .i64 a0_0, .string a0_1, .string a0_2, .slice A0_3 l0_3.length c0_3, .slice A0_4 l0_4.length c0_4] 25 (0, 0)) (by (with_reducible repeat (first | refine blk_drewN ?_ _ | refine blk_drew ?_ | refine blk_alloc ?_ _)); exact BK108.out) hb); have n1_ := Aside0.mk (below_step (by repeat (first | (with_reducible first | exact HB.out | apply below_alloc | apply pw_below_drewN | apply below_drew1 | refine below_set ?_ GE108.out) | exact HB.out)) hb); clear BK108; clear HB; have BK108 := n0_; have HB := n1_; clear n0_ n1_; (try clear hb); (try clear hb2); (try clear hk); (try clear hi); have hcz14_0 : w13.cell? ⟨gb108, 0, none⟩ = some (.int .i64 a0_0) := (blk_cell BK108.out 0).trans rfl; have hcz14_1 : w13.cell? ⟨gb108, 1, none⟩ = some (.string a0_1) := (blk_cell BK108.out 1).trans rfl; have hcz14_2 : w13.cell? ⟨gb108, 2, none⟩ = some (.string a0_2) := (blk_cell BK108.out 2).trans rfl; have hcz14_3 : w13.cell? ⟨gb108, 3, none⟩ = some (.slice A0_3 l0_3.length c0_3) := (blk_cell BK108.out 3).trans rfl; have hcz14_4 : w13.cell? ⟨gb108, 4, none⟩ = some (.slice A0_4 l0_4.length c0_4) := (blk_cell BK108.out 4).trans rfl; have hfz14_0 := blk_frozen BK108.out 0; have hfz14_1 := blk_frozen BK108.out 1; have hfz14_2 := blk_frozen BK108.out 2; have hfz14_3 := blk_frozen BK108.out 3; have hfz14_4 := blk_frozen BK108.out 4))
     go_ret
     exact ⟨by first | rfl | (simp [errW_none, errW_some] <;> rfl) | (simp [*, errW_none, errW_some] <;> rfl), by repeat (first | (with_reducible first | exact HB.out | apply below_alloc | apply pw_below_drewN | apply below_drew1 | refine below_set ?_ GE108.out) | exact HB.out)⟩
    ·rw [if_neg c10] at H
     have c10b0 : decide (2147483647 < (l0_4.length : Int)) = false := decide_eq_false c10
     have c10b1 : decide (2147483647 < l0_4.length) = false := decide_eq_false (by omega)
     clear c10
     obtain rfl := Option.some.inj H
     go_enter Try.func9, Try.ntmps9
     go_wp2_with (first | ((with_reducible refine gate_dst (N := 1) rfl ?_); refine box_event ?hg (N := 1) ?hd (cs := #[.int .i64 a0_0, .string a0_1, .string a0_2, .slice A0_3 l0_3.length c0_3, .slice A0_4 l0_4.length c0_4]) (t := 25) ?hr ?_; (case hd => rfl); (case hg => rfl); (case hr => first | (go_simp; done) | (go_simp; rfl)); intro gb108 hg w15 hbox hb; have n0_ := Aside0.mk (below_step (by repeat (first | (with_reducible first | exact HB.out | apply below_alloc | apply pw_below_drewN | apply below_drew1) | exact HB.out)) hb); have n1_ := Aside0.mk (hbox); have n2_ := Aside0.mk ((by rw [hg]; exact (below_size (by repeat (first | (with_reducible first | exact HB.out | apply below_alloc | apply pw_below_drewN | apply below_drew1) | exact HB.out))) : w.heap.size ≤ gb108)); have n3_ := Aside0.mk ((by rw [hg]; exact (below_size (by repeat (first | (with_reducible first | exact HB.out | apply below_alloc | apply pw_below_drewN | apply below_drew1) | exact HB.out))) : w.heap.size ≤ gb108)); clear HB; have HB := n0_; have BK108 := n1_; have GW108 := n2_; have GE108 := n3_; clear n0_ n1_ n2_ n3_; clear hb hbox hg; have hcz16_0 : w15.cell? ⟨gb108, 0, none⟩ = some (.int .i64 a0_0) := (blk_cell BK108.out 0).trans rfl; have hcz16_1 : w15.cell? ⟨gb108, 1, none⟩ = some (.string a0_1) := (blk_cell BK108.out 1).trans rfl; have hcz16_2 : w15.cell? ⟨gb108, 2, none⟩ = some (.string a0_2) := (blk_cell BK108.out 2).trans rfl; have hcz16_3 : w15.cell? ⟨gb108, 3, none⟩ = some (.slice A0_3 l0_3.length c0_3) := (blk_cell BK108.out 3).trans rfl; have hcz16_4 : w15.cell? ⟨gb108, 4, none⟩ = some (.slice A0_4 l0_4.length c0_4) := (blk_cell BK108.out 4).trans rfl; have hfz16_0 := blk_frozen BK108.out 0; have hfz16_1 := blk_frozen BK108.out 1; have hfz16_2 := blk_frozen BK108.out 2; have hfz16_3 := blk_frozen BK108.out 3; have hfz16_4 := blk_frozen BK108.out 4) | ((with_reducible refine gate_callee (f := 30) rfl ?_); refine goesL_ (some 13) rfl rfl Try.func30 (by kernel_rfl) rfl #[.slice A0_3 l0_3.length c0_3] rfl (by (try simp only [List.map_toArray, List.map_cons, List.map_nil]); first | done | rfl | (simp only [List.length_drop, List.length_take]; rfl)) ?_; (with_reducible refine (laws_zzFits3.calls k _ _ l0_3 true _ ?side1 ?side2 A8.out).mono ?_); (case side1 => repeat (first | exact (Kd.C_below HR0_3.out HB.out) | (with_reducible refine Kd.C_alloc ?_ _) | (with_reducible refine Kd.C_drewN ?_ _) | (with_reducible refine Kd.C_drew ?_))); (case side2 => exact HC0_3.out); rintro e w17 ⟨rfl, hb⟩; refine ⟨_, rfl, ?_⟩; have n0_ := Aside0.mk (blk_below (g := gb108) (o := .cells #[.int .i64 a0_0, .string a0_1, .string a0_2, .slice A0_3 l0_3.length c0_3, .slice A0_4 l0_4.length c0_4] 25 (0, 0)) (by (with_reducible repeat (first | refine blk_drewN ?_ _ | refine blk_drew ?_ | refine blk_alloc ?_ _)); exact BK108.out) hb); have n1_ := Aside0.mk (below_step (by repeat (first | (with_reducible first | exact HB.out | apply below_alloc | apply pw_below_drewN | apply below_drew1 | refine below_set ?_ GE108.out) | exact HB.out)) hb); clear BK108; clear HB; have BK108 := n0_; have HB := n1_; clear n0_ n1_; (try clear hb); (try clear hb2); (try clear hk); (try clear hi); have hcz18_0 : w17.cell? ⟨gb108, 0, none⟩ = some (.int .i64 a0_0) := (blk_cell BK108.out 0).trans rfl; have hcz18_1 : w17.cell? ⟨gb108, 1, none⟩ = some (.string a0_1) := (blk_cell BK108.out 1).trans rfl; have hcz18_2 : w17.cell? ⟨gb108, 2, none⟩ = some (.string a0_2) := (blk_cell BK108.out 2).trans rfl; have hcz18_3 : w17.cell? ⟨gb108, 3, none⟩ = some (.slice A0_3 l0_3.length c0_3) := (blk_cell BK108.out 3).trans rfl; have hcz18_4 : w17.cell? ⟨gb108, 4, none⟩ = some (.slice A0_4 l0_4.length c0_4) := (blk_cell BK108.out 4).trans rfl; have hfz18_0 := blk_frozen BK108.out 0; have hfz18_1 := blk_frozen BK108.out 1; have hfz18_2 := blk_frozen BK108.out 2; have hfz18_3 := blk_frozen BK108.out 3; have hfz18_4 := blk_frozen BK108.out 4))
     go_ret
     exact ⟨by first | rfl | (simp [errW_none, errW_some] <;> rfl) | (simp [*, errW_none, errW_some] <;> rfl), by repeat (first | (with_reducible first | exact HB.out | apply below_alloc | apply pw_below_drewN | apply below_drew1 | refine below_set ?_ GE108.out) | exact HB.out)⟩
   ·replace c9 := Bool.eq_false_iff.mpr c9
    subst c9
    have H1 : (some false) = some r := by rw [if_neg (show ¬ (false = true) by decide)] at H; exact H
    clear H
    have H := H1
    clear H1
    obtain rfl := Option.some.inj H
    go_enter Try.func9, Try.ntmps9
    go_wp2_with (first | ((with_reducible refine gate_dst (N := 1) rfl ?_); refine box_event ?hg (N := 1) ?hd (cs := #[.int .i64 a0_0, .string a0_1, .string a0_2, .slice A0_3 l0_3.length c0_3, .slice A0_4 l0_4.length c0_4]) (t := 25) ?hr ?_; (case hd => rfl); (case hg => rfl); (case hr => first | (go_simp; done) | (go_simp; rfl)); intro gb108 hg w19 hbox hb; have n0_ := Aside0.mk (below_step (by repeat (first | (with_reducible first | exact HB.out | apply below_alloc | apply pw_below_drewN | apply below_drew1) | exact HB.out)) hb); have n1_ := Aside0.mk (hbox); have n2_ := Aside0.mk ((by rw [hg]; exact (below_size (by repeat (first | (with_reducible first | exact HB.out | apply below_alloc | apply pw_below_drewN | apply below_drew1) | exact HB.out))) : w.heap.size ≤ gb108)); have n3_ := Aside0.mk ((by rw [hg]; exact (below_size (by repeat (first | (with_reducible first | exact HB.out | apply below_alloc | apply pw_below_drewN | apply below_drew1) | exact HB.out))) : w.heap.size ≤ gb108)); clear HB; have HB := n0_; have BK108 := n1_; have GW108 := n2_; have GE108 := n3_; clear n0_ n1_ n2_ n3_; clear hb hbox hg; have hcz20_0 : w19.cell? ⟨gb108, 0, none⟩ = some (.int .i64 a0_0) := (blk_cell BK108.out 0).trans rfl; have hcz20_1 : w19.cell? ⟨gb108, 1, none⟩ = some (.string a0_1) := (blk_cell BK108.out 1).trans rfl; have hcz20_2 : w19.cell? ⟨gb108, 2, none⟩ = some (.string a0_2) := (blk_cell BK108.out 2).trans rfl; have hcz20_3 : w19.cell? ⟨gb108, 3, none⟩ = some (.slice A0_3 l0_3.length c0_3) := (blk_cell BK108.out 3).trans rfl; have hcz20_4 : w19.cell? ⟨gb108, 4, none⟩ = some (.slice A0_4 l0_4.length c0_4) := (blk_cell BK108.out 4).trans rfl; have hfz20_0 := blk_frozen BK108.out 0; have hfz20_1 := blk_frozen BK108.out 1; have hfz20_2 := blk_frozen BK108.out 2; have hfz20_3 := blk_frozen BK108.out 3; have hfz20_4 := blk_frozen BK108.out 4) | ((with_reducible refine gate_callee (f := 30) rfl ?_); refine goesL_ (some 13) rfl rfl Try.func30 (by kernel_rfl) rfl #[.slice A0_3 l0_3.length c0_3] rfl (by (try simp only [List.map_toArray, List.map_cons, List.map_nil]); first | done | rfl | (simp only [List.length_drop, List.length_take]; rfl)) ?_; (with_reducible refine (laws_zzFits3.calls k _ _ l0_3 false _ ?side1 ?side2 A8.out).mono ?_); (case side1 => repeat (first | exact (Kd.C_below HR0_3.out HB.out) | (with_reducible refine Kd.C_alloc ?_ _) | (with_reducible refine Kd.C_drewN ?_ _) | (with_reducible refine Kd.C_drew ?_))); (case side2 => exact HC0_3.out); rintro e w21 ⟨rfl, hb⟩; refine ⟨_, rfl, ?_⟩; have n0_ := Aside0.mk (blk_below (g := gb108) (o := .cells #[.int .i64 a0_0, .string a0_1, .string a0_2, .slice A0_3 l0_3.length c0_3, .slice A0_4 l0_4.length c0_4] 25 (0, 0)) (by (with_reducible repeat (first | refine blk_drewN ?_ _ | refine blk_drew ?_ | refine blk_alloc ?_ _)); exact BK108.out) hb); have n1_ := Aside0.mk (below_step (by repeat (first | (with_reducible first | exact HB.out | apply below_alloc | apply pw_below_drewN | apply below_drew1 | refine below_set ?_ GE108.out) | exact HB.out)) hb); clear BK108; clear HB; have BK108 := n0_; have HB := n1_; clear n0_ n1_; (try clear hb); (try clear hb2); (try clear hk); (try clear hi)))
    go_ret
    exact ⟨by first | rfl | (simp [errW_none, errW_some] <;> rfl) | (simp [*, errW_none, errW_some] <;> rfl), by repeat (first | (with_reducible first | exact HB.out | apply below_alloc | apply pw_below_drewN | apply below_drew1 | refine below_set ?_ GE108.out) | exact HB.out)⟩
/-! ### laws_inlineASCII: function 59 -/
def laws_inlineASCII.l0 : Nat → ByteArray → List Int → Int → Int → Option (ByteArray)
 | 0, _, _, _, _ => none
 | k + 1, x0, x3, x9, x10 => if x10 < x9 then (if 0 ≤ x10 then (if x10 < (x0.size : Int) then (if (bt x0 x10) ≥ 32 then (if (bt x0 x10) ≤ 126 then (if x3.length < 140737488355328 then (laws_inlineASCII.l0 k x0 (x3 ++ [bt x0 x10]) x9 (wrap64 (x10 + 1))) else (none)) else (if (bt x0 x10) = 9 then (if x3.length < 140737488355328 then (laws_inlineASCII.l0 k x0 (x3 ++ [bt x0 x10]) x9 (wrap64 (x10 + 1))) else (none)) else (if (bt x0 x10) = 10 then (if x3.length < 140737488355328 then (laws_inlineASCII.l0 k x0 (x3 ++ [bt x0 x10]) x9 (wrap64 (x10 + 1))) else (none)) else (laws_inlineASCII.l0 k x0 x3 x9 (wrap64 (x10 + 1)))))) else (if (bt x0 x10) = 9 then (if x3.length < 140737488355328 then (laws_inlineASCII.l0 k x0 (x3 ++ [bt x0 x10]) x9 (wrap64 (x10 + 1))) else (none)) else (if (bt x0 x10) = 10 then (if x3.length < 140737488355328 then (laws_inlineASCII.l0 k x0 (x3 ++ [bt x0 x10]) x9 (wrap64 (x10 + 1))) else (none)) else (laws_inlineASCII.l0 k x0 x3 x9 (wrap64 (x10 + 1)))))) else (none)) else (none)) else (some (strOfNums x3))
def laws_inlineASCII.f (k : Nat) (a0 : ByteArray) : Option (ByteArray) := laws_inlineASCII.l0 k a0 (([] : List Int)) (mn (a0.size : Int) 300) 0
theorem laws_inlineASCII.mono_l : ∀ k, (∀ y0 y1 y2 y3, LeO (laws_inlineASCII.l0 k y0 y1 y2 y3) (laws_inlineASCII.l0 (k + 1) y0 y1 y2 y3))
 | 0 => fun _ _ _ _ r h => by simp [laws_inlineASCII.l0] at h
 | k + 1 => by
  have ih0 := laws_inlineASCII.mono_l k
  ·intro y0 y1 y2 y3
   unfold laws_inlineASCII.l0
   repeat' first
   | (with_reducible exact ih0 _ _ _ _)
   | (with_reducible exact LeO.refl _)
   | (with_reducible exact LeO.none _)
   | (with_reducible refine LeO.ite ?_ ?_)
   | (with_reducible refine LeO.bind ?_ (fun _ => ?_))
   | exact ih0 _ _ _ _
   | exact LeO.none _
   | refine LeO.ite ?_ ?_
   | refine LeO.bind ?_ (fun _ => ?_)
theorem laws_inlineASCII.mono : ∀ a0 k, LeO (laws_inlineASCII.f k a0) (laws_inlineASCII.f (k + 1) a0) := by
 intro a0 k
 have ih0 := laws_inlineASCII.mono_l k
 unfold laws_inlineASCII.f
 repeat' first
   | (with_reducible exact ih0 _ _ _ _)
   | (with_reducible exact LeO.refl _)
   | (with_reducible exact LeO.none _)
   | (with_reducible refine LeO.ite ?_ ?_)
   | (with_reducible refine LeO.bind ?_ (fun _ => ?_))
   | exact ih0 _ _ _ _
   | exact LeO.none _
   | refine LeO.ite ?_ ?_
   | refine LeO.bind ?_ (fun _ => ?_)
set_option maxHeartbeats 8000000 in
set_option maxRecDepth 100000 in
theorem laws_inlineASCII.calls (k : Nat) (a0 : ByteArray) (r : ByteArray) (w : World) (h : laws_inlineASCII.f k a0 = some r) :
  Calls Try.prog 59 #[.string a0] w fun e w' => e = .returned (.string r) ∧ Below w.heap.size w w' := by
 have HB := Aside0.mk (Below.refl w.heap.size w)
 have H : (laws_inlineASCII.l0 k a0 (([] : List Int)) (mn (a0.size : Int) 300) 0) = some r := h
 clear h
 obtain ⟨y110, hy110⟩ : ∃ y_ : List Int, y_ = (([] : List Int)) := ⟨_, rfl⟩
 replace H : (laws_inlineASCII.l0 k a0 y110 (mn (a0.size : Int) 300) 0) = some r := by first | (rw [hy110]; with_reducible exact H) | (have H2_ := (Option.bind_some _ _).symm.trans H; rw [hy110]; with_reducible exact H2_) | (have H2_ := (Option.bind_some _ _).symm.trans H; with_reducible exact H2_) | with_reducible exact H | (rw [hy110]; exact H) | exact H
 have Ny110 := Aside0.mk hy110
 clear hy110
 obtain ⟨ji2, hji2⟩ : ∃ j_ : Int, (mn (a0.size : Int) 300) = j_ := ⟨_, rfl⟩
 replace H : (laws_inlineASCII.l0 k a0 y110 ji2 0) = some r := by first | (rw [hji2] at H; exact H) | (simp only [hji2] at H ⊢; exact H)
 (try (have hji2h : ji2 ≤ 300 := by (rw [← hji2]; unfold mn; (repeat' split) <;> omega)))
 (try (have hji2g : ji2 ≤ 64 := by omega))
 (try (have hji2l : 0 ≤ ji2 := by (rw [← hji2]; unfold mn; (repeat' split) <;> omega)))
 (try (have hji2m : 0 ≤ ji2 := by omega))
 have hji2_ : (if 300 < (a0.size : Int) then 300 else (a0.size : Int)) = ji2 := hji2
 have H' := Aside0.mk H
 clear H
 go_enter Try.func59, Try.ntmps59
 go_wp2_with (first | ((with_reducible refine gate_dst (N := 6) rfl ?_); refine Kd.R_lit (Kd.int .u8) _ 5 ?hg (N := 6) ?hd (xs := ([] : List Int)) (inner := []) (ok := fun _ => True) (okp := fun _ => True) ?hr ?hp (fun _ hk => hk) trivial (Below.refl _ _) (Nat.le_refl _) (by simp) ?_; (case hd => rfl); (case hg => rfl); (case hr => first | (go_simp; done) | (go_simp; rfl)); (case hp => exact (Reps.none _ _)); intro v111 w3 ho4 hb hg_ hnew_; clear hg_ hnew_; (first | rw [← Ny110.out] at ho4 | (simp only [Int.reduceToNat] at ho4; rw [← Ny110.out] at ho4)); have n0_ := Aside0.mk (Kd.R_lower ho4 (below_size (by repeat (first | (with_reducible first | exact HB.out | apply below_alloc | apply pw_below_drewN | apply below_drew1) | exact HB.out)))); have n1_ := Aside0.mk (below_step (by repeat (first | (with_reducible first | exact HB.out | apply below_alloc | apply pw_below_drewN | apply below_drew1) | exact HB.out)) hb); clear HB; have HO112 := n0_; have HB := n1_; clear n0_ n1_; clear hb ho4))
 go_loopg [3, 10] k (fun kq v3 v10 w' => ∃ (x3_1 : List Int) (x10_1 : Int), v10 = .int .i64 x10_1 ∧ Aside0 (laws_inlineASCII.l0 kq a0 x3_1 ji2 x10_1 = some r) ∧ Aside0 (kq ≤ k) ∧ Aside0 (Kd.R (Kd.int .u8) 5 w' w.heap.size (fun _ => True) v3 x3_1) ∧ Aside0 (Below w.heap.size w w'))
 case atStart => exact ⟨(y110), (0), (by first | rfl | (simp; done) | (simp [*]; done)), H', ⟨Nat.le_refl _⟩, ⟨by (with_reducible repeat (first | apply Kd.R_alloc | apply Kd.R_drewN | apply Kd.R_drew)); exact HO112.out⟩, ⟨by repeat (first | (with_reducible first | exact HB.out | apply below_alloc | apply pw_below_drewN | apply below_drew1) | exact HB.out)⟩⟩
 case round =>
  clear H'
  try clear p2
  obtain ⟨x3_1, x10_1, rfl, HA, HK1, HO_3, HB⟩ := hrel
  cases gk with
  | zero => exact absurd HA.out (by simp [laws_inlineASCII.l0])
  | succ k1 =>
   have H := HA.out
   clear HA
   simp only [laws_inlineASCII.l0] at H
   by_cases c5 : x10_1 < ji2
   ·rw [if_pos c5] at H
    have c5b0 : decide (x10_1 < ji2) = true := decide_eq_true c5
    clear c5
    by_cases c6 : 0 ≤ x10_1
    ·rw [if_pos c6] at H
     have c6b0 : decide (0 ≤ x10_1) = true := decide_eq_true c6
     clear c6
     by_cases c7 : x10_1 < (a0.size : Int)
     ·rw [if_pos c7] at H
      have c7b0 : decide (x10_1 < (a0.size : Int)) = true := decide_eq_true c7
      clear c7
      by_cases c9 : (bt a0 x10_1) ≥ 32
      ·rw [if_pos c9] at H
       have c9b0 : decide (32 ≤ (bt a0 x10_1)) = true := decide_eq_true c9
       clear c9
       by_cases c10 : (bt a0 x10_1) ≤ 126
       ·rw [if_pos c10] at H
        have c10b0 : decide ((bt a0 x10_1) ≤ 126) = true := decide_eq_true c10
        clear c10
        by_cases c11 : x3_1.length < 140737488355328
        ·rw [if_pos c11] at H
         have LMc11 := Aside0.mk c11
         clear c11
         obtain ⟨y113, hy113⟩ : ∃ y_ : List Int, y_ = (x3_1 ++ [bt a0 x10_1]) := ⟨_, rfl⟩
         replace H : (laws_inlineASCII.l0 k1 a0 y113 ji2 (wrap64 (x10_1 + 1))) = some r := by first | (rw [hy113]; with_reducible exact H) | (have H2_ := (Option.bind_some _ _).symm.trans H; rw [hy113]; with_reducible exact H2_) | (have H2_ := (Option.bind_some _ _).symm.trans H; with_reducible exact H2_) | with_reducible exact H | (rw [hy113]; exact H) | exact H
         have Ny113 := Aside0.mk hy113
         clear hy113
         have H' := Aside0.mk H
         clear H
         have p8 : 0 ≤ (x10_1 : Int) := of_decide_eq_true (by first | (with_reducible assumption) | assumption)
         have q8 : x10_1 < (a0.size : Int) := of_decide_eq_true (by first | (with_reducible assumption) | assumption)
         have hx8 := bt_at a0 x10_1
         replace p8 := eq_true p8
         replace q8 := eq_true q8
         go_wp2_with (first | ((with_reducible refine gate_builtin (b := .append) (xs := #[.tmp 30, .tmp 32]) rfl ?_); at_builtin; refine Kd.R_append (Kd.int .u8) (w0 := w) w.heap.size rfl (.tmp 30) (.tmp 32) 58 5 (.int .u8 0) 1 rfl Try.underlying58 info5 rfl (by decide) (by omega) u3 x3_1 (bt a0 x10_1) [.int .u8 (bt a0 x10_1)] (fun _ => True) (fun _ => False) rfl rfl ?aP (fun _ hk => hk.elim) ?aF ?aO ?aB ?aS ?aL ?_; (case aP => exact rfl); (case aB => exact (by repeat (first | (with_reducible first | exact HB.out | apply below_alloc | apply pw_below_drewN | apply below_drew1) | exact HB.out))); (case aF => exact (fun _ _ => trivial)); (case aO => exact (by (with_reducible repeat (first | apply Kd.R_alloc | apply Kd.R_drewN | apply Kd.R_drew)); exact HO_3.out)); (case aS => exact (below_size (by repeat (first | (with_reducible first | exact HB.out | apply below_alloc | apply pw_below_drewN | apply below_drew1) | exact HB.out)))); (case aL => have := LMc11.out; omega); intro v114 w12 ho hb hg hat; rw [← Ny113.out] at ho; have n0_ := Aside0.mk (hb); have n1_ := Aside0.mk (ho); clear HB; clear HO_3; have HB := n0_; have HO115 := n1_; clear n0_ n1_; clear ho hb hg hat))
         go_roundg k1
         case measure => have := HK1.out; omega
         case rel => exact ⟨(y113), (wrap64 (x10_1 + 1)), (by first | rfl | (simp; done) | (simp [*]; done)), H', ⟨by have := HK1.out; omega⟩, ⟨by (with_reducible repeat (first | apply Kd.R_alloc | apply Kd.R_drewN | apply Kd.R_drew)); exact HO115.out⟩, ⟨by repeat (first | (with_reducible first | exact HB.out | apply below_alloc | apply pw_below_drewN | apply below_drew1) | exact HB.out)⟩⟩
        ·rw [if_neg c11] at H
         exact absurd H (by simp)
       ·rw [if_neg c10] at H
        have c10b0 : decide ((bt a0 x10_1) ≤ 126) = false := decide_eq_false c10
        clear c10
        by_cases c13 : (bt a0 x10_1) = 9
        ·rw [if_pos c13] at H
         have c13b0 : ((bt a0 x10_1) == 9) = true := beq_iff_eq.mpr c13
         have c13b1 : ((bt a0 x10_1) != 9) = false := bne_eq_false_iff_eq.mpr c13
         clear c13
         by_cases c14 : x3_1.length < 140737488355328
         ·rw [if_pos c14] at H
          have LMc14 := Aside0.mk c14
          clear c14
          obtain ⟨y116, hy116⟩ : ∃ y_ : List Int, y_ = (x3_1 ++ [bt a0 x10_1]) := ⟨_, rfl⟩
          replace H : (laws_inlineASCII.l0 k1 a0 y116 ji2 (wrap64 (x10_1 + 1))) = some r := by first | (rw [hy116]; with_reducible exact H) | (have H2_ := (Option.bind_some _ _).symm.trans H; rw [hy116]; with_reducible exact H2_) | (have H2_ := (Option.bind_some _ _).symm.trans H; with_reducible exact H2_) | with_reducible exact H | (rw [hy116]; exact H) | exact H
          have Ny116 := Aside0.mk hy116
          clear hy116
          have H' := Aside0.mk H
          clear H
          have p8 : 0 ≤ (x10_1 : Int) := of_decide_eq_true (by first | (with_reducible assumption) | assumption)
          have q8 : x10_1 < (a0.size : Int) := of_decide_eq_true (by first | (with_reducible assumption) | assumption)
          have hx8 := bt_at a0 x10_1
          replace p8 := eq_true p8
          replace q8 := eq_true q8
          go_wp2_with (first | ((with_reducible refine gate_builtin (b := .append) (xs := #[.tmp 30, .tmp 32]) rfl ?_); at_builtin; refine Kd.R_append (Kd.int .u8) (w0 := w) w.heap.size rfl (.tmp 30) (.tmp 32) 58 5 (.int .u8 0) 1 rfl Try.underlying58 info5 rfl (by decide) (by omega) u3 x3_1 (bt a0 x10_1) [.int .u8 (bt a0 x10_1)] (fun _ => True) (fun _ => False) rfl rfl ?aP (fun _ hk => hk.elim) ?aF ?aO ?aB ?aS ?aL ?_; (case aP => exact rfl); (case aB => exact (by repeat (first | (with_reducible first | exact HB.out | apply below_alloc | apply pw_below_drewN | apply below_drew1) | exact HB.out))); (case aF => exact (fun _ _ => trivial)); (case aO => exact (by (with_reducible repeat (first | apply Kd.R_alloc | apply Kd.R_drewN | apply Kd.R_drew)); exact HO_3.out)); (case aS => exact (below_size (by repeat (first | (with_reducible first | exact HB.out | apply below_alloc | apply pw_below_drewN | apply below_drew1) | exact HB.out)))); (case aL => have := LMc14.out; omega); intro v117 w15 ho hb hg hat; rw [← Ny116.out] at ho; have n0_ := Aside0.mk (hb); have n1_ := Aside0.mk (ho); clear HB; clear HO_3; have HB := n0_; have HO118 := n1_; clear n0_ n1_; clear ho hb hg hat))
          go_roundg k1
          case measure => have := HK1.out; omega
          case rel => exact ⟨(y116), (wrap64 (x10_1 + 1)), (by first | rfl | (simp; done) | (simp [*]; done)), H', ⟨by have := HK1.out; omega⟩, ⟨by (with_reducible repeat (first | apply Kd.R_alloc | apply Kd.R_drewN | apply Kd.R_drew)); exact HO118.out⟩, ⟨by repeat (first | (with_reducible first | exact HB.out | apply below_alloc | apply pw_below_drewN | apply below_drew1) | exact HB.out)⟩⟩
         ·rw [if_neg c14] at H
          exact absurd H (by simp)
        ·rw [if_neg c13] at H
         have c13b0 : ((bt a0 x10_1) == 9) = false := beq_eq_false_iff_ne.mpr c13
         have c13b1 : ((bt a0 x10_1) != 9) = true := bne_iff_ne.mpr c13
         by_cases c16 : (bt a0 x10_1) = 10
         ·rw [if_pos c16] at H
          have c16b0 : ((bt a0 x10_1) == 10) = true := beq_iff_eq.mpr c16
          have c16b1 : ((bt a0 x10_1) != 10) = false := bne_eq_false_iff_eq.mpr c16
          clear c16
          by_cases c17 : x3_1.length < 140737488355328
          ·rw [if_pos c17] at H
           have LMc17 := Aside0.mk c17
           clear c17
           obtain ⟨y119, hy119⟩ : ∃ y_ : List Int, y_ = (x3_1 ++ [bt a0 x10_1]) := ⟨_, rfl⟩
           replace H : (laws_inlineASCII.l0 k1 a0 y119 ji2 (wrap64 (x10_1 + 1))) = some r := by first | (rw [hy119]; with_reducible exact H) | (have H2_ := (Option.bind_some _ _).symm.trans H; rw [hy119]; with_reducible exact H2_) | (have H2_ := (Option.bind_some _ _).symm.trans H; with_reducible exact H2_) | with_reducible exact H | (rw [hy119]; exact H) | exact H
           have Ny119 := Aside0.mk hy119
           clear hy119
           have H' := Aside0.mk H
           clear H
           have p8 : 0 ≤ (x10_1 : Int) := of_decide_eq_true (by first | (with_reducible assumption) | assumption)
           have q8 : x10_1 < (a0.size : Int) := of_decide_eq_true (by first | (with_reducible assumption) | assumption)
           have hx8 := bt_at a0 x10_1
           replace p8 := eq_true p8
           replace q8 := eq_true q8
           go_wp2_with (first | ((with_reducible refine gate_builtin (b := .append) (xs := #[.tmp 30, .tmp 32]) rfl ?_); at_builtin; refine Kd.R_append (Kd.int .u8) (w0 := w) w.heap.size rfl (.tmp 30) (.tmp 32) 58 5 (.int .u8 0) 1 rfl Try.underlying58 info5 rfl (by decide) (by omega) u3 x3_1 (bt a0 x10_1) [.int .u8 (bt a0 x10_1)] (fun _ => True) (fun _ => False) rfl rfl ?aP (fun _ hk => hk.elim) ?aF ?aO ?aB ?aS ?aL ?_; (case aP => exact rfl); (case aB => exact (by repeat (first | (with_reducible first | exact HB.out | apply below_alloc | apply pw_below_drewN | apply below_drew1) | exact HB.out))); (case aF => exact (fun _ _ => trivial)); (case aO => exact (by (with_reducible repeat (first | apply Kd.R_alloc | apply Kd.R_drewN | apply Kd.R_drew)); exact HO_3.out)); (case aS => exact (below_size (by repeat (first | (with_reducible first | exact HB.out | apply below_alloc | apply pw_below_drewN | apply below_drew1) | exact HB.out)))); (case aL => have := LMc17.out; omega); intro v120 w18 ho hb hg hat; rw [← Ny119.out] at ho; have n0_ := Aside0.mk (hb); have n1_ := Aside0.mk (ho); clear HB; clear HO_3; have HB := n0_; have HO121 := n1_; clear n0_ n1_; clear ho hb hg hat))
           go_roundg k1
           case measure => have := HK1.out; omega
           case rel => exact ⟨(y119), (wrap64 (x10_1 + 1)), (by first | rfl | (simp; done) | (simp [*]; done)), H', ⟨by have := HK1.out; omega⟩, ⟨by (with_reducible repeat (first | apply Kd.R_alloc | apply Kd.R_drewN | apply Kd.R_drew)); exact HO121.out⟩, ⟨by repeat (first | (with_reducible first | exact HB.out | apply below_alloc | apply pw_below_drewN | apply below_drew1) | exact HB.out)⟩⟩
          ·rw [if_neg c17] at H
           exact absurd H (by simp)
         ·rw [if_neg c16] at H
          have c16b0 : ((bt a0 x10_1) == 10) = false := beq_eq_false_iff_ne.mpr c16
          have c16b1 : ((bt a0 x10_1) != 10) = true := bne_iff_ne.mpr c16
          have H' := Aside0.mk H
          clear H
          have p8 : 0 ≤ (x10_1 : Int) := of_decide_eq_true (by first | (with_reducible assumption) | assumption)
          have q8 : x10_1 < (a0.size : Int) := of_decide_eq_true (by first | (with_reducible assumption) | assumption)
          have hx8 := bt_at a0 x10_1
          replace p8 := eq_true p8
          replace q8 := eq_true q8
          go_wp2
          go_roundg k1
          case measure => have := HK1.out; omega
          case rel => exact ⟨(x3_1), (wrap64 (x10_1 + 1)), (by first | rfl | (simp; done) | (simp [*]; done)), H', ⟨by have := HK1.out; omega⟩, ⟨by (with_reducible repeat (first | apply Kd.R_alloc | apply Kd.R_drewN | apply Kd.R_drew)); exact HO_3.out⟩, ⟨by repeat (first | (with_reducible first | exact HB.out | apply below_alloc | apply pw_below_drewN | apply below_drew1) | exact HB.out)⟩⟩
      ·rw [if_neg c9] at H
       have c9b0 : decide (32 ≤ (bt a0 x10_1)) = false := decide_eq_false c9
       clear c9
       by_cases c19 : (bt a0 x10_1) = 9
       ·rw [if_pos c19] at H
        have c19b0 : ((bt a0 x10_1) == 9) = true := beq_iff_eq.mpr c19
        have c19b1 : ((bt a0 x10_1) != 9) = false := bne_eq_false_iff_eq.mpr c19
        clear c19
        by_cases c20 : x3_1.length < 140737488355328
        ·rw [if_pos c20] at H
         have LMc20 := Aside0.mk c20
         clear c20
         obtain ⟨y122, hy122⟩ : ∃ y_ : List Int, y_ = (x3_1 ++ [bt a0 x10_1]) := ⟨_, rfl⟩
         replace H : (laws_inlineASCII.l0 k1 a0 y122 ji2 (wrap64 (x10_1 + 1))) = some r := by first | (rw [hy122]; with_reducible exact H) | (have H2_ := (Option.bind_some _ _).symm.trans H; rw [hy122]; with_reducible exact H2_) | (have H2_ := (Option.bind_some _ _).symm.trans H; with_reducible exact H2_) | with_reducible exact H | (rw [hy122]; exact H) | exact H
         have Ny122 := Aside0.mk hy122
         clear hy122
         have H' := Aside0.mk H
         clear H
         have p8 : 0 ≤ (x10_1 : Int) := of_decide_eq_true (by first | (with_reducible assumption) | assumption)
         have q8 : x10_1 < (a0.size : Int) := of_decide_eq_true (by first | (with_reducible assumption) | assumption)
         have hx8 := bt_at a0 x10_1
         replace p8 := eq_true p8
         replace q8 := eq_true q8
         go_wp2_with (first | ((with_reducible refine gate_builtin (b := .append) (xs := #[.tmp 30, .tmp 32]) rfl ?_); at_builtin; refine Kd.R_append (Kd.int .u8) (w0 := w) w.heap.size rfl (.tmp 30) (.tmp 32) 58 5 (.int .u8 0) 1 rfl Try.underlying58 info5 rfl (by decide) (by omega) u3 x3_1 (bt a0 x10_1) [.int .u8 (bt a0 x10_1)] (fun _ => True) (fun _ => False) rfl rfl ?aP (fun _ hk => hk.elim) ?aF ?aO ?aB ?aS ?aL ?_; (case aP => exact rfl); (case aB => exact (by repeat (first | (with_reducible first | exact HB.out | apply below_alloc | apply pw_below_drewN | apply below_drew1) | exact HB.out))); (case aF => exact (fun _ _ => trivial)); (case aO => exact (by (with_reducible repeat (first | apply Kd.R_alloc | apply Kd.R_drewN | apply Kd.R_drew)); exact HO_3.out)); (case aS => exact (below_size (by repeat (first | (with_reducible first | exact HB.out | apply below_alloc | apply pw_below_drewN | apply below_drew1) | exact HB.out)))); (case aL => have := LMc20.out; omega); intro v123 w21 ho hb hg hat; rw [← Ny122.out] at ho; have n0_ := Aside0.mk (hb); have n1_ := Aside0.mk (ho); clear HB; clear HO_3; have HB := n0_; have HO124 := n1_; clear n0_ n1_; clear ho hb hg hat))
         go_roundg k1
         case measure => have := HK1.out; omega
         case rel => exact ⟨(y122), (wrap64 (x10_1 + 1)), (by first | rfl | (simp; done) | (simp [*]; done)), H', ⟨by have := HK1.out; omega⟩, ⟨by (with_reducible repeat (first | apply Kd.R_alloc | apply Kd.R_drewN | apply Kd.R_drew)); exact HO124.out⟩, ⟨by repeat (first | (with_reducible first | exact HB.out | apply below_alloc | apply pw_below_drewN | apply below_drew1) | exact HB.out)⟩⟩
        ·rw [if_neg c20] at H
         exact absurd H (by simp)
       ·rw [if_neg c19] at H
        have c19b0 : ((bt a0 x10_1) == 9) = false := beq_eq_false_iff_ne.mpr c19
        have c19b1 : ((bt a0 x10_1) != 9) = true := bne_iff_ne.mpr c19
        by_cases c22 : (bt a0 x10_1) = 10
        ·rw [if_pos c22] at H
         have c22b0 : ((bt a0 x10_1) == 10) = true := beq_iff_eq.mpr c22
         have c22b1 : ((bt a0 x10_1) != 10) = false := bne_eq_false_iff_eq.mpr c22
         clear c22
         by_cases c23 : x3_1.length < 140737488355328
         ·rw [if_pos c23] at H
          have LMc23 := Aside0.mk c23
          clear c23
          obtain ⟨y125, hy125⟩ : ∃ y_ : List Int, y_ = (x3_1 ++ [bt a0 x10_1]) := ⟨_, rfl⟩
          replace H : (laws_inlineASCII.l0 k1 a0 y125 ji2 (wrap64 (x10_1 + 1))) = some r := by first | (rw [hy125]; with_reducible exact H) | (have H2_ := (Option.bind_some _ _).symm.trans H; rw [hy125]; with_reducible exact H2_) | (have H2_ := (Option.bind_some _ _).symm.trans H; with_reducible exact H2_) | with_reducible exact H | (rw [hy125]; exact H) | exact H
          have Ny125 := Aside0.mk hy125
          clear hy125
          have H' := Aside0.mk H
          clear H
          have p8 : 0 ≤ (x10_1 : Int) := of_decide_eq_true (by first | (with_reducible assumption) | assumption)
          have q8 : x10_1 < (a0.size : Int) := of_decide_eq_true (by first | (with_reducible assumption) | assumption)
          have hx8 := bt_at a0 x10_1
          replace p8 := eq_true p8
          replace q8 := eq_true q8
          go_wp2_with (first | ((with_reducible refine gate_builtin (b := .append) (xs := #[.tmp 30, .tmp 32]) rfl ?_); at_builtin; refine Kd.R_append (Kd.int .u8) (w0 := w) w.heap.size rfl (.tmp 30) (.tmp 32) 58 5 (.int .u8 0) 1 rfl Try.underlying58 info5 rfl (by decide) (by omega) u3 x3_1 (bt a0 x10_1) [.int .u8 (bt a0 x10_1)] (fun _ => True) (fun _ => False) rfl rfl ?aP (fun _ hk => hk.elim) ?aF ?aO ?aB ?aS ?aL ?_; (case aP => exact rfl); (case aB => exact (by repeat (first | (with_reducible first | exact HB.out | apply below_alloc | apply pw_below_drewN | apply below_drew1) | exact HB.out))); (case aF => exact (fun _ _ => trivial)); (case aO => exact (by (with_reducible repeat (first | apply Kd.R_alloc | apply Kd.R_drewN | apply Kd.R_drew)); exact HO_3.out)); (case aS => exact (below_size (by repeat (first | (with_reducible first | exact HB.out | apply below_alloc | apply pw_below_drewN | apply below_drew1) | exact HB.out)))); (case aL => have := LMc23.out; omega); intro v126 w24 ho hb hg hat; rw [← Ny125.out] at ho; have n0_ := Aside0.mk (hb); have n1_ := Aside0.mk (ho); clear HB; clear HO_3; have HB := n0_; have HO127 := n1_; clear n0_ n1_; clear ho hb hg hat))
          go_roundg k1
          case measure => have := HK1.out; omega
          case rel => exact ⟨(y125), (wrap64 (x10_1 + 1)), (by first | rfl | (simp; done) | (simp [*]; done)), H', ⟨by have := HK1.out; omega⟩, ⟨by (with_reducible repeat (first | apply Kd.R_alloc | apply Kd.R_drewN | apply Kd.R_drew)); exact HO127.out⟩, ⟨by repeat (first | (with_reducible first | exact HB.out | apply below_alloc | apply pw_below_drewN | apply below_drew1) | exact HB.out)⟩⟩
         ·rw [if_neg c23] at H
          exact absurd H (by simp)
        ·rw [if_neg c22] at H
         have c22b0 : ((bt a0 x10_1) == 10) = false := beq_eq_false_iff_ne.mpr c22
         have c22b1 : ((bt a0 x10_1) != 10) = true := bne_iff_ne.mpr c22
         have H' := Aside0.mk H
         clear H
         have p8 : 0 ≤ (x10_1 : Int) := of_decide_eq_true (by first | (with_reducible assumption) | assumption)
         have q8 : x10_1 < (a0.size : Int) := of_decide_eq_true (by first | (with_reducible assumption) | assumption)
         have hx8 := bt_at a0 x10_1
         replace p8 := eq_true p8
         replace q8 := eq_true q8
         go_wp2
         go_roundg k1
         case measure => have := HK1.out; omega
         case rel => exact ⟨(x3_1), (wrap64 (x10_1 + 1)), (by first | rfl | (simp; done) | (simp [*]; done)), H', ⟨by have := HK1.out; omega⟩, ⟨by (with_reducible repeat (first | apply Kd.R_alloc | apply Kd.R_drewN | apply Kd.R_drew)); exact HO_3.out⟩, ⟨by repeat (first | (with_reducible first | exact HB.out | apply below_alloc | apply pw_below_drewN | apply below_drew1) | exact HB.out)⟩⟩
     ·rw [if_neg c7] at H
      exact absurd H (by simp)
    ·rw [if_neg c6] at H
     exact absurd H (by simp)
   ·rw [if_neg c5] at H
    have c5b0 : decide (x10_1 < ji2) = false := decide_eq_false c5
    clear c5
    obtain rfl := Option.some.inj H
    have hcv25 := own_string (P := Try.prog) Try.underlying58 Try.underlying5 Try.underlying9 (Kd.own_of_R HO_3.out)
    go_wp2
    go_ret
    exact ⟨by first | rfl | (simp [errW_none, errW_some] <;> rfl) | (simp only [← hji2]; first | rfl | (simp [errW_none, errW_some] <;> rfl)) | (simp [*, errW_none, errW_some] <;> rfl), by repeat (first | (with_reducible first | exact HB.out | apply below_alloc | apply pw_below_drewN | apply below_drew1) | exact HB.out)⟩
/-! ### spec_Named: function 37 -/
def spec_Named.l0 : Nat → ByteArray → List ByteArray → Int → Int → Option (Bool)
 | 0, _, _, _, _ => none
 | k + 1, x1, x7, x8, x9 => if x9 < x8 then (if 0 ≤ x9 then (if x9 < (x7.length : Int) then (if (rdOf ByteArray.empty x7 x9).toList = x1.toList then (some true) else (spec_Named.l0 k x1 x7 x8 (wrap64 (x9 + 1)))) else (none)) else (none)) else (some false)
def spec_Named.f (k : Nat) (l0 : List ByteArray) (a1 : ByteArray) : Option (Bool) := spec_Named.l0 k a1 l0 (l0.length : Int) 0
theorem spec_Named.mono_l : ∀ k, (∀ y0 y1 y2 y3, LeO (spec_Named.l0 k y0 y1 y2 y3) (spec_Named.l0 (k + 1) y0 y1 y2 y3))
 | 0 => fun _ _ _ _ r h => by simp [spec_Named.l0] at h
 | k + 1 => by
  have ih0 := spec_Named.mono_l k
  ·intro y0 y1 y2 y3
   unfold spec_Named.l0
   repeat' first
   | (with_reducible exact ih0 _ _ _ _)
   | (with_reducible exact LeO.refl _)
   | (with_reducible exact LeO.none _)
   | (with_reducible refine LeO.ite ?_ ?_)
   | (with_reducible refine LeO.bind ?_ (fun _ => ?_))
   | exact ih0 _ _ _ _
   | exact LeO.none _
   | refine LeO.ite ?_ ?_
   | refine LeO.bind ?_ (fun _ => ?_)
theorem spec_Named.mono : ∀ a0 a1 k, LeO (spec_Named.f k a0 a1) (spec_Named.f (k + 1) a0 a1) := by
 intro a0 a1 k
 have ih0 := spec_Named.mono_l k
 unfold spec_Named.f
 repeat' first
   | (with_reducible exact ih0 _ _ _ _)
   | (with_reducible exact LeO.refl _)
   | (with_reducible exact LeO.none _)
   | (with_reducible refine LeO.ite ?_ ?_)
   | (with_reducible refine LeO.bind ?_ (fun _ => ?_))
   | exact ih0 _ _ _ _
   | exact LeO.none _
   | refine LeO.ite ?_ ?_
   | refine LeO.bind ?_ (fun _ => ?_)
set_option maxHeartbeats 8000000 in
set_option maxRecDepth 100000 in
theorem spec_Named.calls (k : Nat) (A0 : Option Addr) (c0 : Nat) (l0 : List ByteArray) (a1 : ByteArray) (r : Bool) (w : World) (hr0 : Kd.C Kd.string w A0 l0.length l0) (hc0 : l0.length ≤ c0) (h : spec_Named.f k l0 a1 = some r) :
  Calls Try.prog 37 #[.slice A0 l0.length c0, .string a1] w fun e w' => e = .returned (.bool r) ∧ Drawn0 w w' := by
 have HR0 := Aside0.mk hr0
 have HC0 := Aside0.mk hc0
 clear hr0 hc0
 have H : (spec_Named.l0 k a1 l0 (l0.length : Int) 0) = some r := h
 clear h
 have H' := Aside0.mk H
 clear H
 go_enter Try.func37, Try.ntmps37
 go_wp2
 go_loopg [9] k (fun kq v9 w' => ∃ (x9_1 : Int), v9 = .int .i64 x9_1 ∧ Aside0 (spec_Named.l0 kq a1 l0 (l0.length : Int) x9_1 = some r) ∧ Aside0 (kq ≤ k) ∧ Drawn0 w w')
 case atStart => exact ⟨(0), (by first | rfl | (simp; done) | (simp [*]; done)), H', ⟨Nat.le_refl _⟩, by repeat (first | exact Drawn0.refl _ | apply Drawn0.step)⟩
 case round =>
  clear H'
  try clear p2
  obtain ⟨x9_1, rfl, HA, HK1, ⟨m1, rfl⟩⟩ := hrel
  cases gk with
  | zero => exact absurd HA.out (by simp [spec_Named.l0])
  | succ k1 =>
   have H := HA.out
   clear HA
   simp only [spec_Named.l0] at H
   by_cases c3 : x9_1 < (l0.length : Int)
   ·rw [if_pos c3] at H
    have c3b0 : decide (x9_1 < (l0.length : Int)) = true := decide_eq_true c3
    clear c3
    by_cases c4 : 0 ≤ x9_1
    ·rw [if_pos c4] at H
     have c4b0 : decide (0 ≤ x9_1) = true := decide_eq_true c4
     clear c4
     by_cases c5 : x9_1 < (l0.length : Int)
     ·rw [if_pos c5] at H
      have c5b0 : decide (x9_1 < (l0.length : Int)) = true := decide_eq_true c5
      clear c5
      by_cases c6 : (rdOf ByteArray.empty l0 x9_1).toList = a1.toList
      ·rw [if_pos c6] at H
       have c6b0 : ((rdOf ByteArray.empty l0 x9_1).toList == a1.toList) = true := beq_iff_eq.mpr c6
       have c6b1 : ((rdOf ByteArray.empty l0 x9_1).toList != a1.toList) = false := bne_eq_false_iff_eq.mpr c6
       clear c6
       obtain rfl := Option.some.inj H
       have p128 : 0 ≤ (x9_1 : Int) := of_decide_eq_true (by first | (with_reducible assumption) | assumption)
       have q128 : x9_1 < (l0.length : Int) := of_decide_eq_true (by first | (with_reducible assumption) | assumption)
       obtain ⟨ad128, e128, hx128_0⟩ := Kd.at_string HR0.out x9_1 p128 q128
       cases e128
       replace p128 := eq_true p128
       replace q128 := eq_true q128
       go_wp2
       go_ret
       exact ⟨by first | rfl | (simp; done) | (simp [*]; done), by repeat (first | exact Drawn0.refl _ | apply Drawn0.step)⟩
      ·rw [if_neg c6] at H
       have c6b0 : ((rdOf ByteArray.empty l0 x9_1).toList == a1.toList) = false := beq_eq_false_iff_ne.mpr c6
       have c6b1 : ((rdOf ByteArray.empty l0 x9_1).toList != a1.toList) = true := bne_iff_ne.mpr c6
       have H' := Aside0.mk H
       clear H
       have p128 : 0 ≤ (x9_1 : Int) := of_decide_eq_true (by first | (with_reducible assumption) | assumption)
       have q128 : x9_1 < (l0.length : Int) := of_decide_eq_true (by first | (with_reducible assumption) | assumption)
       obtain ⟨ad128, e128, hx128_0⟩ := Kd.at_string HR0.out x9_1 p128 q128
       cases e128
       replace p128 := eq_true p128
       replace q128 := eq_true q128
       go_wp2
       go_roundg k1
       case measure => have := HK1.out; omega
       case rel => exact ⟨(wrap64 (x9_1 + 1)), (by first | rfl | (simp; done) | (simp [*]; done)), H', ⟨by have := HK1.out; omega⟩, by repeat (first | exact Drawn0.refl _ | apply Drawn0.step)⟩
     ·rw [if_neg c5] at H
      exact absurd H (by simp)
    ·rw [if_neg c4] at H
     exact absurd H (by simp)
   ·rw [if_neg c3] at H
    have c3b0 : decide (x9_1 < (l0.length : Int)) = false := decide_eq_false c3
    clear c3
    obtain rfl := Option.some.inj H
    go_wp2
    go_ret
    exact ⟨by first | rfl | (simp; done) | (simp [*]; done), by repeat (first | exact Drawn0.refl _ | apply Drawn0.step)⟩
/-! ### laws_inlineNames: function 93 -/
def laws_inlineNames.f  : Option (List ByteArray) := some (([(⟨#[100, 105, 118]⟩ : ByteArray), (⟨#[112]⟩ : ByteArray), (⟨#[115, 112, 97, 110]⟩ : ByteArray), (⟨#[98]⟩ : ByteArray), (⟨#[115, 116, 114, 111, 110, 103]⟩ : ByteArray), (⟨#[101, 109]⟩ : ByteArray), (⟨#[105]⟩ : ByteArray), (⟨#[97]⟩ : ByteArray), (⟨#[99, 111, 100, 101]⟩ : ByteArray), (⟨#[112, 114, 101]⟩ : ByteArray), (⟨#[98, 114]⟩ : ByteArray), (⟨#[105, 109, 103]⟩ : ByteArray), (⟨#[117, 108]⟩ : ByteArray), (⟨#[108, 105]⟩ : ByteArray)] : List ByteArray))
set_option maxHeartbeats 8000000 in
set_option maxRecDepth 100000 in
theorem laws_inlineNames.calls  (r : List ByteArray) (w : World) (h : laws_inlineNames.f  = some r) :
  Calls Try.prog 93 #[] w fun e w' => ∃ v0_ : Value, e = .returned (v0_) ∧ Kd.R Kd.string 9 w' w.heap.size (fun _ => True) v0_ r ∧ Below w.heap.size w w' := by
 have HB := Aside0.mk (Below.refl w.heap.size w)
 have H : (some (([(⟨#[100, 105, 118]⟩ : ByteArray), (⟨#[112]⟩ : ByteArray), (⟨#[115, 112, 97, 110]⟩ : ByteArray), (⟨#[98]⟩ : ByteArray), (⟨#[115, 116, 114, 111, 110, 103]⟩ : ByteArray), (⟨#[101, 109]⟩ : ByteArray), (⟨#[105]⟩ : ByteArray), (⟨#[97]⟩ : ByteArray), (⟨#[99, 111, 100, 101]⟩ : ByteArray), (⟨#[112, 114, 101]⟩ : ByteArray), (⟨#[98, 114]⟩ : ByteArray), (⟨#[105, 109, 103]⟩ : ByteArray), (⟨#[117, 108]⟩ : ByteArray), (⟨#[108, 105]⟩ : ByteArray)] : List ByteArray))) = some r := h
 clear h
 obtain ⟨y129, hy129⟩ : ∃ y_ : List ByteArray, y_ = (([(⟨#[100, 105, 118]⟩ : ByteArray), (⟨#[112]⟩ : ByteArray), (⟨#[115, 112, 97, 110]⟩ : ByteArray), (⟨#[98]⟩ : ByteArray), (⟨#[115, 116, 114, 111, 110, 103]⟩ : ByteArray), (⟨#[101, 109]⟩ : ByteArray), (⟨#[105]⟩ : ByteArray), (⟨#[97]⟩ : ByteArray), (⟨#[99, 111, 100, 101]⟩ : ByteArray), (⟨#[112, 114, 101]⟩ : ByteArray), (⟨#[98, 114]⟩ : ByteArray), (⟨#[105, 109, 103]⟩ : ByteArray), (⟨#[117, 108]⟩ : ByteArray), (⟨#[108, 105]⟩ : ByteArray)] : List ByteArray)) := ⟨_, rfl⟩
 replace H : (some y129) = some r := by first | (rw [hy129]; with_reducible exact H) | (have H2_ := (Option.bind_some _ _).symm.trans H; rw [hy129]; with_reducible exact H2_) | (have H2_ := (Option.bind_some _ _).symm.trans H; with_reducible exact H2_) | with_reducible exact H | (rw [hy129]; exact H) | exact H
 have Ny129 := Aside0.mk hy129
 clear hy129
 obtain rfl := Option.some.inj H
 go_enter Try.func93, Try.ntmps93
 go_wp2_with (first | ((with_reducible refine gate_dst (N := 1) rfl ?_); refine Kd.R_lit Kd.string _ 9 ?hg (N := 1) ?hd (xs := ([(⟨#[100, 105, 118]⟩ : ByteArray), (⟨#[112]⟩ : ByteArray), (⟨#[115, 112, 97, 110]⟩ : ByteArray), (⟨#[98]⟩ : ByteArray), (⟨#[115, 116, 114, 111, 110, 103]⟩ : ByteArray), (⟨#[101, 109]⟩ : ByteArray), (⟨#[105]⟩ : ByteArray), (⟨#[97]⟩ : ByteArray), (⟨#[99, 111, 100, 101]⟩ : ByteArray), (⟨#[112, 114, 101]⟩ : ByteArray), (⟨#[98, 114]⟩ : ByteArray), (⟨#[105, 109, 103]⟩ : ByteArray), (⟨#[117, 108]⟩ : ByteArray), (⟨#[108, 105]⟩ : ByteArray)] : List ByteArray)) (inner := [.string (⟨#[100, 105, 118]⟩ : ByteArray), .string (⟨#[112]⟩ : ByteArray), .string (⟨#[115, 112, 97, 110]⟩ : ByteArray), .string (⟨#[98]⟩ : ByteArray), .string (⟨#[115, 116, 114, 111, 110, 103]⟩ : ByteArray), .string (⟨#[101, 109]⟩ : ByteArray), .string (⟨#[105]⟩ : ByteArray), .string (⟨#[97]⟩ : ByteArray), .string (⟨#[99, 111, 100, 101]⟩ : ByteArray), .string (⟨#[112, 114, 101]⟩ : ByteArray), .string (⟨#[98, 114]⟩ : ByteArray), .string (⟨#[105, 109, 103]⟩ : ByteArray), .string (⟨#[117, 108]⟩ : ByteArray), .string (⟨#[108, 105]⟩ : ByteArray)]) (ok := fun _ => True) (okp := fun _ => True) ?hr ?hp (fun _ hk => hk) trivial (Below.refl _ _) (Nat.le_refl _) (by simp) ?_; (case hd => rfl); (case hg => rfl); (case hr => first | (go_simp; done) | (go_simp; rfl)); (case hp => exact (Reps.one (show Kd.M Kd.string _ _ _ (⟨#[100, 105, 118]⟩ : ByteArray) [.string (⟨#[100, 105, 118]⟩ : ByteArray)] from rfl) (Reps.one (show Kd.M Kd.string _ _ _ (⟨#[112]⟩ : ByteArray) [.string (⟨#[112]⟩ : ByteArray)] from rfl) (Reps.one (show Kd.M Kd.string _ _ _ (⟨#[115, 112, 97, 110]⟩ : ByteArray) [.string (⟨#[115, 112, 97, 110]⟩ : ByteArray)] from rfl) (Reps.one (show Kd.M Kd.string _ _ _ (⟨#[98]⟩ : ByteArray) [.string (⟨#[98]⟩ : ByteArray)] from rfl) (Reps.one (show Kd.M Kd.string _ _ _ (⟨#[115, 116, 114, 111, 110, 103]⟩ : ByteArray) [.string (⟨#[115, 116, 114, 111, 110, 103]⟩ : ByteArray)] from rfl) (Reps.one (show Kd.M Kd.string _ _ _ (⟨#[101, 109]⟩ : ByteArray) [.string (⟨#[101, 109]⟩ : ByteArray)] from rfl) (Reps.one (show Kd.M Kd.string _ _ _ (⟨#[105]⟩ : ByteArray) [.string (⟨#[105]⟩ : ByteArray)] from rfl) (Reps.one (show Kd.M Kd.string _ _ _ (⟨#[97]⟩ : ByteArray) [.string (⟨#[97]⟩ : ByteArray)] from rfl) (Reps.one (show Kd.M Kd.string _ _ _ (⟨#[99, 111, 100, 101]⟩ : ByteArray) [.string (⟨#[99, 111, 100, 101]⟩ : ByteArray)] from rfl) (Reps.one (show Kd.M Kd.string _ _ _ (⟨#[112, 114, 101]⟩ : ByteArray) [.string (⟨#[112, 114, 101]⟩ : ByteArray)] from rfl) (Reps.one (show Kd.M Kd.string _ _ _ (⟨#[98, 114]⟩ : ByteArray) [.string (⟨#[98, 114]⟩ : ByteArray)] from rfl) (Reps.one (show Kd.M Kd.string _ _ _ (⟨#[105, 109, 103]⟩ : ByteArray) [.string (⟨#[105, 109, 103]⟩ : ByteArray)] from rfl) (Reps.one (show Kd.M Kd.string _ _ _ (⟨#[117, 108]⟩ : ByteArray) [.string (⟨#[117, 108]⟩ : ByteArray)] from rfl) (Reps.one (show Kd.M Kd.string _ _ _ (⟨#[108, 105]⟩ : ByteArray) [.string (⟨#[108, 105]⟩ : ByteArray)] from rfl) (Reps.none _ _)))))))))))))))); intro v130 w1 ho2 hb hg_ hnew_; clear hg_ hnew_; (first | rw [← Ny129.out] at ho2 | (simp only [Int.reduceToNat] at ho2; rw [← Ny129.out] at ho2)); have n0_ := Aside0.mk (Kd.R_lower ho2 (below_size (by repeat (first | (with_reducible first | exact HB.out | apply below_alloc | apply pw_below_drewN | apply below_drew1) | exact HB.out)))); have n1_ := Aside0.mk (below_step (by repeat (first | (with_reducible first | exact HB.out | apply below_alloc | apply pw_below_drewN | apply below_drew1) | exact HB.out)) hb); clear HB; have HO131 := n0_; have HB := n1_; clear n0_ n1_; clear hb ho2))
 go_ret
 exact ⟨_, by first | rfl | (simp [errW_none, errW_some] <;> rfl) | (simp [*, errW_none, errW_some] <;> rfl), by (with_reducible repeat (first | apply Kd.R_alloc | apply Kd.R_drewN | apply Kd.R_drew)); exact HO131.out, by repeat (first | (with_reducible first | exact HB.out | apply below_alloc | apply pw_below_drewN | apply below_drew1) | exact HB.out)⟩
end Go.Proofs.Ytmfjbljdbkmkgaa.PDom

/- Plain facts on texts as lists of numbers: joined, cut, read back. No conditions. -/
namespace Go.Proofs.Ytmfjbljdbkmkgaa.Txt
open Go.RowKit Go.Proofs.YtmfjbljdbkmkgaaW.PrintWords Go.Proofs.YtmfjbljdbkmkgaaW.PrintLast Go.Proofs.YtmfjbljdbkmkgaaW.PrintMore

/-- All numbers are bytes. -/
def Byt (l : List Int) : Prop := ∀ x ∈ l, 0 ≤ x ∧ x < 256
theorem Byt.nil : Byt [] := fun _ h => by cases h
theorem Byt.app {a b : List Int} (h : Byt a) (k : Byt b) : Byt (a ++ b) := fun x hx => by
 rcases List.mem_append.1 hx with h1 | h1
 ·exact h x h1
 ·exact k x h1
theorem Byt.one {x : Int} (h0 : 0 ≤ x) (h1 : x < 256) : Byt [x] := fun y hy => by
 obtain rfl : y = x := by simpa using hy
 exact ⟨h0, h1⟩
theorem Byt.cons {x : Int} {l : List Int} (h0 : 0 ≤ x) (h1 : x < 256) (h : Byt l) : Byt (x :: l) := (Byt.one h0 h1).app h
theorem Byt.drop {l : List Int} (h : Byt l) (n : Nat) : Byt (l.drop n) := fun x hx => h x (List.mem_of_mem_drop hx)
theorem Byt.of (s : ByteArray) : Byt (bytesOf s) := fun x hx => by
 obtain ⟨b, _, rfl⟩ := List.mem_map.1 hx
 have := b.toNat_lt
 omega
theorem str_size (l : List Int) : (strOfNums l).size = l.length := by simp [strOfNums, ByteArray.size]
theorem str_append (a b : List Int) : strOfNums (a ++ b) = strOfNums a ++ strOfNums b := by
 apply ByteArray.ext
 rw [ByteArray.data_append]
 simp [strOfNums]
theorem str_bytes (s : ByteArray) : strOfNums (bytesOf s) = s := by
 apply ByteArray.ext
 apply Array.ext'
 show ((bytesOf s).map fun n => UInt8.ofNat n.toNat) = s.data.toList
 unfold bytesOf
 rw [List.map_map]
 exact (List.map_congr_left (fun b _ => by simp)).trans (List.map_id _)
theorem bytes_str {l : List Int} (h : Byt l) : bytesOf (strOfNums l) = l := by
 show ((l.map fun n => UInt8.ofNat n.toNat).map fun b => (b.toNat : Int)) = l
 rw [List.map_map]
 refine (List.map_congr_left (fun x hx => ?_)).trans (List.map_id _)
 have := h x hx
 show ((UInt8.ofNat x.toNat).toNat : Int) = x
 rw [UInt8.toNat_ofNat']
 omega
theorem bt_rd (s : ByteArray) (i : Int) : bt s i = rd (bytesOf s) i := (rd_bytesOf s i).symm
theorem bt_str {l : List Int} (h : Byt l) (i : Int) : bt (strOfNums l) i = rd l i := by rw [bt_rd, bytes_str h]
theorem rd_get {l : List Int} {i : Nat} (h : i < l.length) : rd l (i : Int) = l[i] := by simp [rd, List.getD_eq_getElem?_getD, List.getElem?_eq_getElem h]
theorem bytes_extract (s : ByteArray) (i j : Nat) : bytesOf (s.extract i j) = ((bytesOf s).take j).drop i := by
 unfold bytesOf
 rw [ByteArray.data_extract, Array.toList_extract, List.extract_eq_take_drop, ← List.map_take, ← List.map_drop, List.drop_take]
theorem take_snoc {l : List Int} {i : Nat} (h : i < l.length) : l.take (i + 1) = l.take i ++ [l[i]] := by
 rw [List.take_succ_eq_append_getElem h]
theorem wrap_id {x : Int} (h0 : -9223372036854775808 ≤ x) (h1 : x ≤ 9223372036854775807) : wrap64 x = x := by
 unfold wrap64
 omega
theorem toList_inj {a b : ByteArray} (h : a.toList = b.toList) : a = b := by
 rw [Lib.toList_data, Lib.toList_data] at h
 exact ByteArray.ext (Array.ext' h)
theorem toList_nil {s : ByteArray} : s.toList = ([] : List UInt8) ↔ s.size = 0 := by
 rw [Lib.toList_data]
 constructor
 ·intro h
  have := data_length s
  rw [h] at this
  exact this.symm
 ·intro h
  exact List.eq_nil_of_length_eq_zero (by rw [data_length]; exact h)

end Go.Proofs.Ytmfjbljdbkmkgaa.Txt

/- What laws.inlineASCII leaves of a text: at most 300 bytes, each a printed one, a tab or a line feed. For texts of less than 2^47 bytes. -/
namespace Go.Proofs.Ytmfjbljdbkmkgaa.PDom
open Go.Proofs.Ytmfjbljdbkmkgaa.Txt Go.RowKit Go.Proofs.YtmfjbljdbkmkgaaW.PrintWords Go.Proofs.YtmfjbljdbkmkgaaW.PrintLast Go.Proofs.YtmfjbljdbkmkgaaW.PrintMore

def Asc (l : List Int) : Prop := ∀ x ∈ l, x = 9 ∨ x = 10 ∨ (32 ≤ x ∧ x ≤ 126)
theorem Asc.snoc {l : List Int} {x : Int} (h : Asc l) (hx : x = 9 ∨ x = 10 ∨ (32 ≤ x ∧ x ≤ 126)) : Asc (l ++ [x]) := fun y hy => by
 rcases List.mem_append.1 hy with h1 | h1
 ·exact h y h1
 ·obtain rfl : y = x := by simpa using h1
  exact hx

theorem ascii_loop (s : ByteArray) (N : Int) (hN : N ≤ s.size) (hN3 : N ≤ 300) (d : Nat) : ∀ (k : Nat) (i : Int) (acc : List Int), 0 ≤ i → i ≤ N → N - i = d → d < k → (acc.length : Int) ≤ i → Asc acc →
  ∃ r, laws_inlineASCII.l0 k s acc N i = some (strOfNums r) ∧ (r.length : Int) ≤ N ∧ Asc r := by
 induction d with
 | zero =>
  intro k i acc h0 h1 hd hk ha hA
  obtain ⟨k, rfl⟩ : ∃ m, k = m + 1 := ⟨k - 1, by omega⟩
  have hx : ¬ i < N := by omega
  exact ⟨acc, by simp only [laws_inlineASCII.l0]; rw [if_neg hx], by omega, hA⟩
 | succ d ih =>
  intro k i acc h0 h1 hd hk ha hA
  obtain ⟨k, rfl⟩ : ∃ m, k = m + 1 := ⟨k - 1, by omega⟩
  have hlt : i < N := by omega
  have hls : i < (s.size : Int) := by omega
  have hacc : acc.length < 140737488355328 := by omega
  have hw : wrap64 (i + 1) = i + 1 := wrap_id (by omega) (by omega)
  simp only [laws_inlineASCII.l0, hw]
  rw [if_pos hlt, if_pos h0, if_pos hls]
  repeat' split
  all_goals first
   | exact ih k (i + 1) acc (by omega) (by omega) (by omega) (by omega) (by omega) hA
   | exact ih k (i + 1) (acc ++ [bt s i]) (by omega) (by omega) (by omega) (by omega) (by simp; omega) (hA.snoc (by omega))
   | (exfalso; omega)

theorem ascii (s : ByteArray) (hs : s.size ≤ 140737488351232) : ∃ r, (∀ k, 301 < k → laws_inlineASCII.f k s = some (strOfNums r)) ∧ r.length ≤ 300 ∧ Asc r := by
 have hN : mn (s.size : Int) 300 ≤ s.size := by unfold mn; omega
 have hN3 : mn (s.size : Int) 300 ≤ 300 := by unfold mn; omega
 have hN0 : 0 ≤ mn (s.size : Int) 300 := by unfold mn; omega
 obtain ⟨r, h, hl, hA⟩ := ascii_loop s _ hN hN3 (mn (s.size : Int) 300).toNat 302 0 [] (by omega) (by omega) (by omega) (by omega) (by simp) (fun _ h => by cases h)
 refine ⟨r, fun k hk => ?_, by omega, hA⟩
 exact at_rounds (fun k => laws_inlineASCII.mono s k) (show 302 ≤ k by omega) h

end Go.Proofs.Ytmfjbljdbkmkgaa.PDom

/- Printed by the program extprint.py of this session, out of the kit's print and contracts of this session's own; Lean checks it. -/
namespace Go.Proofs.Ytmfjbljdbkmkgaa.PDom
open Go.RowKit Go.Proofs.YtmfjbljdbkmkgaaW.PrintWords Go.Proofs.YtmfjbljdbkmkgaaW.PrintLast Go.Proofs.YtmfjbljdbkmkgaaW.PrintMore
attribute [local go_sem] max2_int min2_int max_two min_two max_three min_three max_four min_four   -- for this text's walks alone
set_option linter.unusedVariables false
set_option linter.unusedSimpArgs false


/-! ### laws_inlineName: function 60 -/
def laws_inlineName.f (k : Nat) (a0 : ByteArray) : Option (ByteArray) := (laws_inlineNames.f).bind fun t132 => ((spec_Named.f k t132 a0).bind fun t135 => (if t135 = true then (some a0) else (if (t132.length : Int) = 0 then (none) else (if 0 ≤ ((a0.size : Int) % (t132.length : Int)) then (if ((a0.size : Int) % (t132.length : Int)) < (t132.length : Int) then (some (rdOf ByteArray.empty t132 ((a0.size : Int) % (t132.length : Int)))) else (none)) else (none)))))
theorem laws_inlineName.mono : ∀ a0 k, LeO (laws_inlineName.f k a0) (laws_inlineName.f (k + 1) a0) := by
 intro a0 k
 unfold laws_inlineName.f
 repeat' first
   | (with_reducible exact spec_Named.mono _ _ _)
   | (with_reducible exact LeO.refl _)
   | (with_reducible exact LeO.none _)
   | (with_reducible refine LeO.ite ?_ ?_)
   | (with_reducible refine LeO.bind ?_ (fun _ => ?_))
   | exact spec_Named.mono _ _ _
   | exact LeO.none _
   | refine LeO.ite ?_ ?_
   | refine LeO.bind ?_ (fun _ => ?_)
set_option maxHeartbeats 8000000 in
set_option maxRecDepth 100000 in
theorem laws_inlineName.calls (k : Nat) (a0 : ByteArray) (r : ByteArray) (w : World) (h : laws_inlineName.f k a0 = some r) :
  Calls Try.prog 60 #[.string a0] w fun e w' => e = .returned (.string r) ∧ Below w.heap.size w w' := by
 have HB := Aside0.mk (Below.refl w.heap.size w)
 have H : ((laws_inlineNames.f).bind fun t132 => ((spec_Named.f k t132 a0).bind fun t135 => (if t135 = true then (some a0) else (if (t132.length : Int) = 0 then (none) else (if 0 ≤ ((a0.size : Int) % (t132.length : Int)) then (if ((a0.size : Int) % (t132.length : Int)) < (t132.length : Int) then (some (rdOf ByteArray.empty t132 ((a0.size : Int) % (t132.length : Int)))) else (none)) else (none)))))) = some r := h
 clear h
 replace H := Option.bind_eq_some_iff.mp H
 obtain ⟨t132, A20, H⟩ := H
 replace H : ((spec_Named.f k t132 a0).bind fun t135 => (if t135 = true then (some a0) else (if (t132.length : Int) = 0 then (none) else (if 0 ≤ ((a0.size : Int) % (t132.length : Int)) then (if ((a0.size : Int) % (t132.length : Int)) < (t132.length : Int) then (some (rdOf ByteArray.empty t132 ((a0.size : Int) % (t132.length : Int)))) else (none)) else (none))))) = some r := H
 have A2 := Aside0.mk A20
 clear A20
 replace H := Option.bind_eq_some_iff.mp H
 obtain ⟨t135, A30, H⟩ := H
 replace H : (if t135 = true then (some a0) else (if (t132.length : Int) = 0 then (none) else (if 0 ≤ ((a0.size : Int) % (t132.length : Int)) then (if ((a0.size : Int) % (t132.length : Int)) < (t132.length : Int) then (some (rdOf ByteArray.empty t132 ((a0.size : Int) % (t132.length : Int)))) else (none)) else (none)))) = some r := H
 have A3 := Aside0.mk A30
 clear A30
 by_cases c4 : t135 = true
 ·subst c4
  have H1 : (some a0) = some r := by rw [if_pos rfl] at H; exact H
  clear H
  have H := H1
  clear H1
  obtain rfl := Option.some.inj H
  go_enter Try.func60, Try.ntmps60
  go_wp2_with (first | ((with_reducible refine gate_callee (f := 93) rfl ?_); refine goesL_ (some 4) rfl rfl Try.func93 (by kernel_rfl) rfl #[] rfl (by (try simp only [List.map_toArray, List.map_cons, List.map_nil]); first | done | rfl | (simp only [List.length_drop, List.length_take]; rfl)) ?_; (with_reducible refine (laws_inlineNames.calls  t132 _ A2.out).mono ?_); rintro e w5 ⟨v133, rfl, ho0, hb⟩; refine ⟨_, rfl, ?_⟩; have n0_ := Aside0.mk (Kd.R_lower ho0 (below_size (by repeat (first | (with_reducible first | exact HB.out | apply below_alloc | apply pw_below_drewN | apply below_drew1) | exact HB.out)))); have n1_ := Aside0.mk (below_step (by repeat (first | (with_reducible first | exact HB.out | apply below_alloc | apply pw_below_drewN | apply below_drew1) | exact HB.out)) hb); clear HB; have HO134 := n0_; have HB := n1_; clear n0_ n1_; (try clear hb); (try clear hb2); (try clear hk); (try clear hi); (try clear ho0); obtain ⟨Ao6, co6, eo6⟩ := Kd.R_slice HO134.out; subst eo6) | ((with_reducible refine gate_callee (f := 37) rfl ?_); refine goesL_ (some 7) rfl rfl Try.func37 (by kernel_rfl) rfl #[.slice Ao6 t132.length co6, .string a0] rfl (by (try simp only [List.map_toArray, List.map_cons, List.map_nil]); first | done | rfl | (simp only [List.length_drop, List.length_take]; rfl)) ?_; (with_reducible refine (spec_Named.calls k _ _ t132 a0 true _ ?side1 ?side2 A3.out).mono ?_); (case side1 => repeat (first | exact (Kd.R_reads' HO134.out).2.2 | (with_reducible refine Kd.C_alloc ?_ _) | (with_reducible refine Kd.C_drewN ?_ _) | (with_reducible refine Kd.C_drew ?_))); (case side2 => exact (Kd.R_reads' HO134.out).2.1); rintro e w' ⟨rfl, ⟨nd, rfl⟩⟩; refine ⟨_, rfl, ?_⟩))
  go_ret
  exact ⟨by first | rfl | (simp [errW_none, errW_some] <;> rfl) | (simp [*, errW_none, errW_some] <;> rfl), by repeat (first | (with_reducible first | exact HB.out | apply below_alloc | apply pw_below_drewN | apply below_drew1) | exact HB.out)⟩
 ·replace c4 := Bool.eq_false_iff.mpr c4
  subst c4
  have H1 : (if (t132.length : Int) = 0 then (none) else (if 0 ≤ ((a0.size : Int) % (t132.length : Int)) then (if ((a0.size : Int) % (t132.length : Int)) < (t132.length : Int) then (some (rdOf ByteArray.empty t132 ((a0.size : Int) % (t132.length : Int)))) else (none)) else (none))) = some r := by rw [if_neg (show ¬ (false = true) by decide)] at H; exact H
  clear H
  have H := H1
  clear H1
  by_cases c7 : (t132.length : Int) = 0
  ·rw [if_pos c7] at H
   exact absurd H (by simp)
  ·rw [if_neg c7] at H
   have c7b0 : ((t132.length : Int) == 0) = false := beq_eq_false_iff_ne.mpr c7
   have c7b1 : ((t132.length : Int) != 0) = true := bne_iff_ne.mpr c7
   have c7b2 : ¬ (t132 = []) := fun h_ => c7 (by rw [h_]; rfl)
   obtain ⟨ji8, hji8⟩ : ∃ j_ : Int, ((a0.size : Int) % (t132.length : Int)) = j_ := ⟨_, rfl⟩
   replace H : (if 0 ≤ (ji8) then (if (ji8) < (t132.length : Int) then (some (rdOf ByteArray.empty t132 (ji8))) else (none)) else (none)) = some r := by first | (rw [hji8] at H; exact H) | (simp only [hji8] at H ⊢; exact H)
   (try rw [hji8] at A2)
   (try rw [hji8] at A3)
   by_cases c9 : 0 ≤ (ji8)
   ·rw [if_pos c9] at H
    have c9b0 : decide (0 ≤ (ji8)) = true := decide_eq_true c9
    clear c9
    by_cases c10 : (ji8) < (t132.length : Int)
    ·rw [if_pos c10] at H
     have c10b0 : decide ((ji8) < (t132.length : Int)) = true := decide_eq_true c10
     clear c10
     obtain rfl := Option.some.inj H
     go_enter Try.func60, Try.ntmps60
     go_wp2_with (first | ((with_reducible refine gate_callee (f := 93) rfl ?_); refine goesL_ (some 4) rfl rfl Try.func93 (by kernel_rfl) rfl #[] rfl (by (try simp only [List.map_toArray, List.map_cons, List.map_nil]); first | done | rfl | (simp only [List.length_drop, List.length_take]; rfl)) ?_; (with_reducible refine (laws_inlineNames.calls  t132 _ A2.out).mono ?_); rintro e w11 ⟨v133, rfl, ho0, hb⟩; refine ⟨_, rfl, ?_⟩; have n0_ := Aside0.mk (Kd.R_lower ho0 (below_size (by repeat (first | (with_reducible first | exact HB.out | apply below_alloc | apply pw_below_drewN | apply below_drew1) | exact HB.out)))); have n1_ := Aside0.mk (below_step (by repeat (first | (with_reducible first | exact HB.out | apply below_alloc | apply pw_below_drewN | apply below_drew1) | exact HB.out)) hb); clear HB; have HO134 := n0_; have HB := n1_; clear n0_ n1_; (try clear hb); (try clear hb2); (try clear hk); (try clear hi); (try clear ho0); obtain ⟨Ao12, co12, eo12⟩ := Kd.R_slice HO134.out; subst eo12) | ((with_reducible refine gate_callee (f := 37) rfl ?_); refine goesL_ (some 7) rfl rfl Try.func37 (by kernel_rfl) rfl #[.slice Ao12 t132.length co12, .string a0] rfl (by (try simp only [List.map_toArray, List.map_cons, List.map_nil]); first | done | rfl | (simp only [List.length_drop, List.length_take]; rfl)) ?_; (with_reducible refine (spec_Named.calls k _ _ t132 a0 false _ ?side1 ?side2 A3.out).mono ?_); (case side1 => repeat (first | exact (Kd.R_reads' HO134.out).2.2 | (with_reducible refine Kd.C_alloc ?_ _) | (with_reducible refine Kd.C_drewN ?_ _) | (with_reducible refine Kd.C_drew ?_))); (case side2 => exact (Kd.R_reads' HO134.out).2.1); rintro e w' ⟨rfl, ⟨nd, rfl⟩⟩; refine ⟨_, rfl, ?_⟩; have p136 : 0 ≤ ((ji8) : Int) := of_decide_eq_true (by first | (with_reducible assumption) | assumption); have q136 : (ji8) < (t132.length : Int) := of_decide_eq_true (by first | (with_reducible assumption) | assumption); obtain ⟨ad136, e136, hx136_0⟩ := Kd.at_string (Kd.R_reads' HO134.out).2.2 (ji8) p136 q136; cases e136; replace p136 := eq_true p136; replace q136 := eq_true q136))
     go_ret
     exact ⟨by first | rfl | (simp [errW_none, errW_some] <;> rfl) | (simp only [← hji8]; first | rfl | (simp [errW_none, errW_some] <;> rfl)) | (simp [*, errW_none, errW_some] <;> rfl), by repeat (first | (with_reducible first | exact HB.out | apply below_alloc | apply pw_below_drewN | apply below_drew1) | exact HB.out)⟩
    ·rw [if_neg c10] at H
     exact absurd H (by simp)
   ·rw [if_neg c9] at H
    exact absurd H (by simp)

-- NOT PRINTED: function 31 (laws_inlineTree)

-- NOT PRINTED: function 10 (laws_inlineCutTree)

-- NOT PRINTED: function 32 (impl_named)

-- NOT PRINTED: function 63 (impl_guarded)

-- NOT PRINTED: function 33 (impl_behind)

-- NOT PRINTED: function 11 (impl_Redundant)
end Go.Proofs.Ytmfjbljdbkmkgaa.PDom

/- A page's nodes as a table: parents, children, and what each node's block in memory holds; what the three changes of a tree make of it. Plain facts on tables, and on memory that holds one. -/
namespace Go.Proofs.Ytmfjbljdbkmkgaa.Dom
open Go.RowKit Go.Proofs.YtmfjbljdbkmkgaaW.PrintWords Go.Proofs.YtmfjbljdbkmkgaaW.PrintLast Go.Proofs.YtmfjbljdbkmkgaaW.PrintMore
set_option linter.unusedVariables false
set_option linter.unusedSimpArgs false

/-! ### Neighbours in a list -/
def nextIn : List Nat → Nat → Option Nat
 | [], _ => none
 | x :: l, b => if x = b then l.head? else nextIn l b
def prevIn (l : List Nat) (b : Nat) : Option Nat := nextIn l.reverse b
theorem nextIn_split {l1 l2 : List Nat} {b : Nat} (h : b ∉ l1) : nextIn (l1 ++ b :: l2) b = l2.head? := by
 induction l1 with
 | nil => simp [nextIn]
 | cons x l1 ih =>
  have hx : ¬ x = b := fun e => h (by simp [e])
  simp only [List.cons_append, nextIn, if_neg hx]
  exact ih fun hb => h (List.mem_cons_of_mem _ hb)
theorem prevIn_split {l1 l2 : List Nat} {b : Nat} (h : b ∉ l2) : prevIn (l1 ++ b :: l2) b = l1.getLast? := by
 unfold prevIn
 rw [List.reverse_append, List.reverse_cons, List.append_assoc, List.singleton_append, nextIn_split (by simpa using h), List.head?_reverse]
theorem nodup_split {l1 l2 : List Nat} {b : Nat} (h : (l1 ++ b :: l2).Nodup) : b ∉ l1 ∧ b ∉ l2 ∧ (l1 ++ l2).Nodup := by
 rw [List.nodup_append] at h
 obtain ⟨h1, h2, h3⟩ := h
 rw [List.nodup_cons] at h2
 refine ⟨fun hb => h3 b hb b (by simp) rfl, h2.1, ?_⟩
 rw [List.nodup_append]
 exact ⟨h1, h2.2, fun x hx y hy => h3 x hx y (List.mem_cons_of_mem _ hy)⟩

/-! ### A node's block -/
def ptr : Option Nat → Value
 | none => .pointer none
 | some b => .pointer (some ⟨b, 0, none⟩)
structure Rec where
 parent : Option Nat
 first : Option Nat
 last : Option Nat
 prev : Option Nat
 next : Option Nat
 ty : Int
 atom : Int
 data : ByteArray
 attr : Value
def Rec.cells (r : Rec) : Array Value := #[ptr r.parent, ptr r.first, ptr r.last, ptr r.prev, ptr r.next, .int .u32 r.ty, .int .u32 r.atom, .string r.data, .string ⟨#[]⟩, r.attr]
/-- The block b holds the node r. -/
def Has (w : World) (b : Nat) (r : Rec) : Prop := w.heap[b]? = some (.cells r.cells 81 (0, 0))
section
variable {w w1 : World} {b : Nat} {r : Rec}
theorem Has.lt (h : Has w b r) : b < w.heap.size := (Array.getElem?_eq_some_iff.1 h).1
theorem Has.cell (h : Has w b r) (i : Nat) : w.cell? ⟨b, i, none⟩ = r.cells[i]? := blk_cell h i
theorem Has.frozen (h : Has w b r) (i : Nat) : w.frozen? ⟨b, i, none⟩ = false := blk_frozen h i
theorem Has.cells10 (h : Has w b r) : w.cell? ⟨b, 0, none⟩ = some (ptr r.parent) ∧ w.cell? ⟨b, 1, none⟩ = some (ptr r.first) ∧ w.cell? ⟨b, 2, none⟩ = some (ptr r.last) ∧ w.cell? ⟨b, 3, none⟩ = some (ptr r.prev) ∧ w.cell? ⟨b, 4, none⟩ = some (ptr r.next) ∧
  w.cell? ⟨b, 5, none⟩ = some (.int .u32 r.ty) ∧ w.cell? ⟨b, 6, none⟩ = some (.int .u32 r.atom) ∧ w.cell? ⟨b, 7, none⟩ = some (.string r.data) ∧ w.cell? ⟨b, 8, none⟩ = some (.string ⟨#[]⟩) ∧ w.cell? ⟨b, 9, none⟩ = some r.attr :=
 ⟨h.cell 0, h.cell 1, h.cell 2, h.cell 3, h.cell 4, h.cell 5, h.cell 6, h.cell 7, h.cell 8, h.cell 9⟩
theorem Has.of_heap (h : Has w b r) (he : w1.heap[b]? = w.heap[b]?) : Has w1 b r := he.trans h
theorem Has.far (h : Has w b r) {p : Addr} (hp : b ≠ p.block) (u : Value) : Has (w.setCell p u) b r := h.of_heap (Below.heap_setCell w p u b hp)
theorem Has.put (h : Has w b r) (i : Nat) (u : Value) (r' : Rec) (hr : r'.cells = r.cells.setIfInBounds i u) : Has (w.setCell ⟨b, i, none⟩ u) b r' := by
 unfold Has
 rw [hr]
 exact blk_set h i u
end

/-! ### The table -/
structure Info where
 parent : Option Nat
 kids : List Nat
 ty : Int
 atom : Int
 data : ByteArray
 attrs : List (ByteArray × ByteArray)
/-- An attribute: no namespace, a key, a value. -/
def kA : Kd (ByteArray × ByteArray) := Kd.iso (Kd.pair Kd.string (Kd.pair Kd.string Kd.string)) (fun x => (⟨#[]⟩, x.1, x.2))
/-- The row of attributes. -/
def AttrAt (w : World) (v : Value) (l : List (ByteArray × ByteArray)) : Prop := kA.R 106 w 0 (fun _ => True) v l
theorem AttrAt.below {w w1 : World} {v : Value} {l : List (ByteArray × ByteArray)} (h : AttrAt w v l) (hb : Below w.heap.size w w1) : AttrAt w1 v l := Kd.R_below h hb
theorem AttrAt.set {w : World} {v : Value} {l : List (ByteArray × ByteArray)} (h : AttrAt w v l) {g : Nat} {r : Rec} (hg : Has w g r) (j : Nat) (u : Value) : AttrAt (w.setCell ⟨g, j, none⟩ u) v l :=
 Kd.R_set h hg (fun q hq => by
  have : q = 106 := by simpa [kA, Kd.iso, Kd.pair, Kd.string, Kd.scalar] using hq
  rw [this]
  decide) j u
abbrev Tab := Nat → Option Info
def kidsOf (D : Tab) (p : Nat) : List Nat := match D p with
 | some i => i.kids
 | none => []
/-- The children of a node's parent. -/
def sibs (D : Tab) (i : Info) : List Nat := match i.parent with
 | some p => kidsOf D p
 | none => []
def recOf (D : Tab) (b : Nat) (i : Info) (v : Value) : Rec := ⟨i.parent, i.kids.head?, i.kids.getLast?, prevIn (sibs D i) b, nextIn (sibs D i) b, i.ty, i.atom, i.data, v⟩
structure WF (D : Tab) : Prop where
 up : ∀ {b i p}, D b = some i → i.parent = some p → ∃ ip, D p = some ip ∧ b ∈ ip.kids
 down : ∀ {b i c}, D b = some i → c ∈ i.kids → ∃ ic, D c = some ic ∧ ic.parent = some b
 nodup : ∀ {b i}, D b = some i → i.kids.Nodup
structure Dom (w : World) (D : Tab) : Prop where
 wf : WF D
 has : ∀ {b i}, D b = some i → ∃ v, Has w b (recOf D b i v) ∧ AttrAt w v i.attrs
def put (D : Tab) (b : Nat) (i : Info) : Tab := fun x => if x = b then some i else D x
theorem put_same (D : Tab) (b : Nat) (i : Info) : put D b i b = some i := if_pos rfl
theorem put_other (D : Tab) {b x : Nat} (i : Info) (h : x ≠ b) : put D b i x = D x := if_neg h

theorem kidsOf_some {D : Tab} {p : Nat} {i : Info} (h : D p = some i) : kidsOf D p = i.kids := by unfold kidsOf; rw [h]
/-- A node that is nobody's child has no siblings. -/
theorem sibs_none {D : Tab} {i : Info} (h : i.parent = none) : sibs D i = [] := by unfold sibs; rw [h]
theorem sibs_some {D : Tab} {i : Info} {p : Nat} (h : i.parent = some p) : sibs D i = kidsOf D p := by unfold sibs; rw [h]

theorem kidsOf_put (D : Tab) (b : Nat) (i : Info) (p : Nat) : kidsOf (put D b i) p = if p = b then i.kids else kidsOf D p := by
 unfold kidsOf put
 by_cases h : p = b
 ·simp [h]
 ·simp [h]
theorem Dom.kid_ne {w : World} {D : Tab} (h : Dom w D) {n c : Nat} {i ic : Info} (hn : D n = some i) (hc : D c = some ic) (hroot : ic.parent = none) : c ∉ i.kids := fun hm => by
 obtain ⟨ic', h1, h2⟩ := h.wf.down hn hm
 rw [hc] at h1
 injection h1 with h1
 subst h1
 rw [hroot] at h2
 cases h2
theorem Dom.kid_parent {w : World} {D : Tab} (h : Dom w D) {n c : Nat} {i ic : Info} (hn : D n = some i) (hc : D c = some ic) (hm : c ∈ i.kids) : ic.parent = some n := by
 obtain ⟨ic', h1, h2⟩ := h.wf.down hn hm
 rw [hc] at h1
 injection h1 with h1
 subst h1
 exact h2
theorem Dom.kid_of {w : World} {D : Tab} (h : Dom w D) {n c : Nat} {i ic : Info} (hn : D n = some i) (hc : D c = some ic) (hp : ic.parent = some n) : c ∈ i.kids := by
 obtain ⟨i', h1, h2⟩ := h.wf.up hc hp
 rw [hn] at h1
 injection h1 with h1
 subst h1
 exact h2

/-! ### AppendChild -/
def appended (D : Tab) (n c : Nat) (i ic : Info) : Tab := put (put D n { i with kids := i.kids ++ [c] }) c { ic with parent := some n }
theorem Dom.append {w w' : World} {D : Tab} (h : Dom w D) {n c : Nat} {i ic : Info} (hn : D n = some i) (hc : D c = some ic) (hne : n ≠ c) (hroot : ic.parent = none) (hself : i.parent ≠ some n)
  (HA : ∀ v l, AttrAt w v l → AttrAt w' v l)
  (HN : ∀ v, Has w n (recOf D n i v) → Has w' n { recOf D n i v with first := (i.kids ++ [c]).head?, last := some c })
  (HC : ∀ v, Has w c (recOf D c ic v) → Has w' c { recOf D c ic v with parent := some n, prev := i.kids.getLast? })
  (HL : ∀ x ix v, i.kids.getLast? = some x → D x = some ix → Has w x (recOf D x ix v) → Has w' x { recOf D x ix v with next := some c })
  (HO : ∀ b, D b ≠ none → b ≠ n → b ≠ c → i.kids.getLast? ≠ some b → w'.heap[b]? = w.heap[b]?) : Dom w' (appended D n c i ic) := by
 have hcn : c ∉ i.kids := h.kid_ne hn hc hroot
 have hDn : appended D n c i ic n = some { i with kids := i.kids ++ [c] } := by unfold appended; rw [put_other _ _ hne, put_same]
 have hDc : appended D n c i ic c = some { ic with parent := some n } := put_same _ _ _
 have hDo : ∀ b, b ≠ n → b ≠ c → appended D n c i ic b = D b := fun b h1 h2 => by unfold appended; rw [put_other _ _ h2, put_other _ _ h1]
 have hk : ∀ p, kidsOf (appended D n c i ic) p = if p = n then i.kids ++ [c] else kidsOf D p := by
  intro p
  unfold appended
  rw [kidsOf_put, kidsOf_put]
  by_cases hp : p = c
  ·subst hp
   rw [if_pos rfl, if_neg (fun e => hne e.symm), kidsOf_some hc]
  ·rw [if_neg hp]
 refine ⟨⟨?_, ?_, ?_⟩, ?_⟩
 ·intro b i' p hb hp
  by_cases hbc : b = c
  ·subst hbc
   rw [hDc] at hb
   injection hb with hb
   subst hb
   injection hp with hp
   subst hp
   exact ⟨_, hDn, by simp⟩
  ·have key : ∃ i0, D b = some i0 ∧ i0.parent = some p := by
    by_cases hbn : b = n
    ·subst hbn
     rw [hDn] at hb
     injection hb with hb
     subst hb
     exact ⟨i, hn, hp⟩
    ·rw [hDo b hbn hbc] at hb
     exact ⟨i', hb, hp⟩
   obtain ⟨i0, h0, hp0⟩ := key
   obtain ⟨ip, hip, hm⟩ := h.wf.up h0 hp0
   by_cases hpn : p = n
   ·subst hpn
    rw [hn] at hip
    injection hip with hip
    subst hip
    exact ⟨_, hDn, List.mem_append_left _ hm⟩
   ·by_cases hpc : p = c
    ·subst hpc
     rw [hc] at hip
     injection hip with hip
     subst hip
     exact ⟨_, hDc, hm⟩
    ·exact ⟨ip, by rw [hDo p hpn hpc]; exact hip, hm⟩
 ·intro b i' x hb hx
  by_cases hbn : b = n
  ·subst hbn
   rw [hDn] at hb
   injection hb with hb
   subst hb
   rcases List.mem_append.1 hx with hx | hx
   ·obtain ⟨ix, hix, hpx⟩ := h.wf.down hn hx
    have hxc : x ≠ c := fun e => hcn (e ▸ hx)
    have hxn : x ≠ b := fun e => by
     subst e
     rw [hn] at hix
     injection hix with hix
     subst hix
     exact hself hpx
    exact ⟨ix, by rw [hDo x hxn hxc]; exact hix, hpx⟩
   ·obtain rfl : x = c := by simpa using hx
    exact ⟨_, hDc, rfl⟩
  ·have key : ∃ i0, D b = some i0 ∧ x ∈ i0.kids := by
    by_cases hbc : b = c
    ·subst hbc
     rw [hDc] at hb
     injection hb with hb
     subst hb
     exact ⟨ic, hc, hx⟩
    ·rw [hDo b hbn hbc] at hb
     exact ⟨i', hb, hx⟩
   obtain ⟨i0, h0, hx0⟩ := key
   obtain ⟨ix, hix, hpx⟩ := h.wf.down h0 hx0
   have hxc : x ≠ c := fun e => by
    subst e
    rw [hc] at hix
    injection hix with hix
    subst hix
    rw [hroot] at hpx
    cases hpx
   by_cases hxn : x = n
   ·subst hxn
    rw [hn] at hix
    injection hix with hix
    subst hix
    exact ⟨_, hDn, hpx⟩
   ·exact ⟨ix, by rw [hDo x hxn hxc]; exact hix, hpx⟩
 ·intro b i' hb
  by_cases hbn : b = n
  ·subst hbn
   rw [hDn] at hb
   injection hb with hb
   subst hb
   show (i.kids ++ [c]).Nodup
   rw [List.nodup_append]
   exact ⟨h.wf.nodup hn, by simp, fun x hx y hy e => by
    have hyc : y = c := by simpa using hy
    subst hyc
    subst e
    exact hcn hx⟩
  ·by_cases hbc : b = c
   ·subst hbc
    rw [hDc] at hb
    injection hb with hb
    subst hb
    show ic.kids.Nodup
    exact h.wf.nodup hc
   ·rw [hDo b hbn hbc] at hb
    exact h.wf.nodup hb
 ·intro b i' hb
  by_cases hbn : b = n
  ·subst hbn
   rw [hDn] at hb
   injection hb with hb
   subst hb
   have hs : sibs (appended D b c i ic) { i with kids := i.kids ++ [c] } = sibs D i := by
    unfold sibs
    cases hp : i.parent with
    | none => rfl
    | some p =>
     simp only [hp]
     rw [hk, if_neg (fun e => hself (by rw [hp, e]))]
   have hl : (i.kids ++ [c]).getLast? = some c := by simp
   obtain ⟨v, hv, ha⟩ := h.has hn
   have HN' := HN v hv
   refine ⟨v, ?_, HA v _ ha⟩
   unfold recOf at HN' ⊢
   rw [hs]
   simp only [hl]
   exact HN'
  ·by_cases hbc : b = c
   ·subst hbc
    rw [hDc] at hb
    injection hb with hb
    subst hb
    have hs : sibs (appended D n b i ic) { ic with parent := some n } = i.kids ++ b :: [] := by
     unfold sibs
     simp only []
     rw [hk, if_pos rfl]
    obtain ⟨v, hv, ha⟩ := h.has hc
    have HC' := HC v hv
    refine ⟨v, ?_, HA v _ ha⟩
    unfold recOf at HC' ⊢
    rw [hs, prevIn_split (by simp), nextIn_split hcn]
    rw [sibs_none hroot] at HC'
    exact HC'
   ·rw [hDo b hbn hbc] at hb
    by_cases hbl : i.kids.getLast? = some b
    ·obtain ⟨v, hv, ha⟩ := h.has hb
     have hH := HL b i' v hbl hb hv
     refine ⟨v, ?_, HA v _ ha⟩
     obtain ⟨l1, hl1⟩ : ∃ l1, i.kids = l1 ++ [b] := by
      rw [List.getLast?_eq_some_iff] at hbl
      exact hbl
     have hp : i'.parent = some n := h.kid_parent hn hb (by rw [hl1]; simp)
     have hnd := nodup_split (l1 := l1) (l2 := []) (b := b) (by rw [← hl1]; exact h.wf.nodup hn)
     unfold recOf at hH ⊢
     rw [sibs_some hp, kidsOf_some hn, hl1, prevIn_split (l2 := []) (by simp)] at hH
     rw [sibs_some hp, hk, if_pos rfl, hl1, List.append_assoc, List.singleton_append, prevIn_split (by simpa using hbc), nextIn_split hnd.1]
     exact hH
    ·have hsame := HO b (by rw [hb]; simp) hbn hbc hbl
     have hrec : ∀ v, recOf (appended D n c i ic) b i' v = recOf D b i' v := by
      intro v
      unfold recOf
      cases hp : i'.parent with
      | none => rw [sibs_none hp, sibs_none hp]
      | some p =>
       rw [sibs_some hp, sibs_some hp, hk]
       by_cases hpn : p = n
       ·subst hpn
        have hm : b ∈ i.kids := h.kid_of hn hb hp
        obtain ⟨l1, l2, hl⟩ := List.append_of_mem hm
        have hnd := nodup_split (l1 := l1) (l2 := l2) (b := b) (by rw [← hl]; exact h.wf.nodup hn)
        have hl2 : l2 ≠ [] := fun e => hbl (by rw [hl, e]; simp)
        rw [if_pos rfl, kidsOf_some hn, hl, List.append_assoc, List.cons_append, prevIn_split hnd.2.1, nextIn_split hnd.1, prevIn_split (by simp [hnd.2.1, hbc]), nextIn_split hnd.1]
        cases l2 with
        | nil => exact absurd rfl hl2
        | cons y l2 => rfl
       ·rw [if_neg hpn]
     obtain ⟨v, hv, ha⟩ := h.has hb
     exact ⟨v, by rw [hrec]; exact hv.of_heap hsame, HA v _ ha⟩

end Go.Proofs.Ytmfjbljdbkmkgaa.Dom

/- The walks of the changes of a tree: AppendChild. -/
namespace Go.Proofs.Ytmfjbljdbkmkgaa.Dom
open Go.RowKit Go.Proofs.YtmfjbljdbkmkgaaW.PrintWords Go.Proofs.YtmfjbljdbkmkgaaW.PrintLast Go.Proofs.YtmfjbljdbkmkgaaW.PrintMore
set_option linter.unusedVariables false
set_option linter.unusedSimpArgs false

/-- What is where it was, but for a table's blocks. -/
structure Only (D : Tab) (w w' : World) : Prop where
 os : w'.os = w.os
 tape : w'.tape = w.tape
 output : w'.output = w.output
 size : w.heap.size ≤ w'.heap.size
 block : ∀ k, k < w.heap.size → D k = none → w'.heap[k]? = w.heap[k]?
theorem Only.below {D : Tab} {w w' : World} (h : Only D w w') {B : Nat} (hB : B ≤ w.heap.size) (hD : ∀ k, k < B → D k = none) : Below B w w' :=
 ⟨h.os, h.tape, h.output, h.size, fun k hk => h.block k (by omega) (hD k hk)⟩
theorem Only.refl (D : Tab) (w : World) : Only D w w := ⟨rfl, rfl, rfl, Nat.le_refl _, fun _ _ _ => rfl⟩
theorem Only.trans {D D' : Tab} {w w' w'' : World} (h : Only D w w') (h' : Only D' w' w'') (hD : ∀ k, D k = none → k < w.heap.size → D' k = none) : Only D w w'' :=
 ⟨h'.os.trans h.os, h'.tape.trans h.tape, h'.output.trans h.output, Nat.le_trans h.size h'.size, fun k hk hn => (h'.block k (Nat.lt_of_lt_of_le hk h.size) (hD k hn hk)).trans (h.block k hk hn)⟩

theorem Only.set {D : Tab} {w w1 : World} (h : Only D w w1) {p : Addr} (hp : D p.block ≠ none) (u : Value) : Only D w (w1.setCell p u) := by
 have b := (Below.refl p.block w1).setCell (p := p) (Nat.le_refl _) u
 exact ⟨b.os.trans h.os, b.tape.trans h.tape, b.output.trans h.output, Nat.le_trans h.size b.size, fun k hk hn => (Below.heap_setCell w1 p u k (fun e => hp (by rw [← e]; exact hn))).trans (h.block k hk hn)⟩

theorem Has.put0 {w : World} {b : Nat} {r : Rec} (h : Has w b r) (p : Option Nat) : Has (w.setCell ⟨b, 0, none⟩ (ptr p)) b { r with parent := p } := h.put 0 (ptr p) { r with parent := p } rfl
theorem Has.put1 {w : World} {b : Nat} {r : Rec} (h : Has w b r) (p : Option Nat) : Has (w.setCell ⟨b, 1, none⟩ (ptr p)) b { r with first := p } := h.put 1 (ptr p) { r with first := p } rfl
theorem Has.put2 {w : World} {b : Nat} {r : Rec} (h : Has w b r) (p : Option Nat) : Has (w.setCell ⟨b, 2, none⟩ (ptr p)) b { r with last := p } := h.put 2 (ptr p) { r with last := p } rfl
theorem Has.put3 {w : World} {b : Nat} {r : Rec} (h : Has w b r) (p : Option Nat) : Has (w.setCell ⟨b, 3, none⟩ (ptr p)) b { r with prev := p } := h.put 3 (ptr p) { r with prev := p } rfl
theorem Has.put4 {w : World} {b : Nat} {r : Rec} (h : Has w b r) (p : Option Nat) : Has (w.setCell ⟨b, 4, none⟩ (ptr p)) b { r with next := p } := h.put 4 (ptr p) { r with next := p } rfl
/-- A store into a node's block. -/
def st (w : World) (b k : Nat) (p : Option Nat) : World := w.setCell ⟨b, k, none⟩ (ptr p)
theorem st_heap (w : World) (b k : Nat) (p : Option Nat) {x : Nat} (h : x ≠ b) : (st w b k p).heap[x]? = w.heap[x]? := Below.heap_setCell w ⟨b, k, none⟩ (ptr p) x h
theorem Has.st {w : World} {b : Nat} {r : Rec} (h : Has w b r) {x : Nat} (hx : b ≠ x) (k : Nat) (p : Option Nat) : Has (st w x k p) b r := h.of_heap (st_heap w x k p hx)
theorem AttrAt.st {w : World} {v : Value} {l : List (ByteArray × ByteArray)} (h : AttrAt w v l) {g : Nat} {r : Rec} (hg : Has w g r) (j : Nat) (p : Option Nat) : AttrAt (Dom.st w g j p) v l := h.set hg j (ptr p)
theorem Only.st {D : Tab} {w w1 : World} (h : Only D w w1) {b : Nat} (hb : D b ≠ none) (k : Nat) (p : Option Nat) : Only D w (Dom.st w1 b k p) := h.set (p := ⟨b, k, none⟩) hb (ptr p)

theorem append_none (w : World) (D : Tab) (n c : Nat) (i ic : Info) (h : Dom w D) (hn : D n = some i) (hc : D c = some ic) (hne : n ≠ c) (hroot : ic.parent = none) (hself : i.parent ≠ some n) (hl : i.kids.getLast? = none) :
  Dom (st (st (st (st w n 1 (some c)) n 2 (some c)) c 0 (some n)) c 3 none) (appended D n c i ic) ∧ Only D w (st (st (st (st w n 1 (some c)) n 2 (some c)) c 0 (some n)) c 3 none) := by
 have hnc : c ≠ n := fun e => hne e.symm
 have en : D n ≠ none := by rw [hn]; simp
 have ec : D c ≠ none := by rw [hc]; simp
 refine ⟨?_, ((((Only.refl D w).st en 1 _).st en 2 _).st ec 0 _).st ec 3 _⟩
 have hk : i.kids = [] := List.getLast?_eq_none_iff.1 hl
 obtain ⟨vn, hHn, _⟩ := h.has hn
 obtain ⟨vc, hHc, _⟩ := h.has hc
 have A1 : ∀ v, Has w n (recOf D n i v) → Has (st w n 1 (some c)) n { recOf D n i v with first := some c } := fun v hv => hv.put1 (some c)
 have A2 : ∀ v, Has w n (recOf D n i v) → Has (st (st w n 1 (some c)) n 2 (some c)) n { recOf D n i v with first := some c, last := some c } := fun v hv => (A1 v hv).put2 (some c)
 have C2 : ∀ v, Has w c (recOf D c ic v) → Has (st (st w n 1 (some c)) n 2 (some c)) c (recOf D c ic v) := fun v hv => (hv.st hnc 1 _).st hnc 2 _
 have C3 : ∀ v, Has w c (recOf D c ic v) → Has (st (st (st w n 1 (some c)) n 2 (some c)) c 0 (some n)) c { recOf D c ic v with parent := some n } := fun v hv => (C2 v hv).put0 (some n)
 refine h.append hn hc hne hroot hself ?_ ?_ ?_ ?_ ?_
 ·exact fun v l hA => (((hA.st hHn 1 _).st (A1 vn hHn) 2 _).st (C2 vc hHc) 0 _).st (C3 vc hHc) 3 _
 ·intro v hv
  have := ((A2 v hv).st hne 0 (some n)).st hne 3 none
  rw [hk]
  exact this
 ·intro v hv
  have := (C3 v hv).put3 none
  rw [hl]
  exact this
 ·intro x ix v hx
  rw [hl] at hx
  cases hx
 ·intro b _ hbn hbc _
  rw [st_heap _ _ _ _ hbc, st_heap _ _ _ _ hbc, st_heap _ _ _ _ hbn, st_heap _ _ _ _ hbn]

theorem append_some (w : World) (D : Tab) (n c x : Nat) (i ic ix : Info) (h : Dom w D) (hn : D n = some i) (hc : D c = some ic) (hix : D x = some ix) (hne : n ≠ c) (hroot : ic.parent = none) (hself : i.parent ≠ some n) (hl : i.kids.getLast? = some x) (hxn : x ≠ n) (hxc : x ≠ c) :
  Dom (st (st (st (st w x 4 (some c)) n 2 (some c)) c 0 (some n)) c 3 (some x)) (appended D n c i ic) ∧ Only D w (st (st (st (st w x 4 (some c)) n 2 (some c)) c 0 (some n)) c 3 (some x)) := by
 have hnc : c ≠ n := fun e => hne e.symm
 have hnx : n ≠ x := fun e => hxn e.symm
 have hcx : c ≠ x := fun e => hxc e.symm
 have en : D n ≠ none := by rw [hn]; simp
 have ec : D c ≠ none := by rw [hc]; simp
 have ex : D x ≠ none := by rw [hix]; simp
 refine ⟨?_, ((((Only.refl D w).st ex 4 _).st en 2 _).st ec 0 _).st ec 3 _⟩
 obtain ⟨vn, hHn, _⟩ := h.has hn
 obtain ⟨vc, hHc, _⟩ := h.has hc
 obtain ⟨vx, hHx, _⟩ := h.has hix
 have A1 : ∀ v, Has w n (recOf D n i v) → Has (st w x 4 (some c)) n (recOf D n i v) := fun v hv => hv.st hnx 4 _
 have A2 : ∀ v, Has w n (recOf D n i v) → Has (st (st w x 4 (some c)) n 2 (some c)) n { recOf D n i v with last := some c } := fun v hv => (A1 v hv).put2 (some c)
 have C2 : ∀ v, Has w c (recOf D c ic v) → Has (st (st w x 4 (some c)) n 2 (some c)) c (recOf D c ic v) := fun v hv => (hv.st hcx 4 _).st hnc 2 _
 have C3 : ∀ v, Has w c (recOf D c ic v) → Has (st (st (st w x 4 (some c)) n 2 (some c)) c 0 (some n)) c { recOf D c ic v with parent := some n } := fun v hv => (C2 v hv).put0 (some n)
 refine h.append hn hc hne hroot hself ?_ ?_ ?_ ?_ ?_
 ·exact fun v l hA => (((hA.st hHx 4 _).st (A1 vn hHn) 2 _).st (C2 vc hHc) 0 _).st (C3 vc hHc) 3 _
 ·intro v hv
  have := ((A2 v hv).st hne 0 (some n)).st hne 3 (some x)
  have hh : (i.kids ++ [c]).head? = i.kids.head? := by
   cases hk : i.kids with
   | nil => rw [hk] at hl; cases hl
   | cons y l => rfl
  rw [hh]
  exact this
 ·intro v hv
  have := (C3 v hv).put3 (some x)
  rw [hl]
  exact this
 ·intro x' ix' v hx hD hv
  have e : x = x' := Option.some.inj (hl.symm.trans hx)
  clear hx
  subst e
  exact (((hv.put4 (some c)).st hxn 2 (some c)).st hxc 0 (some n)).st hxc 3 (some x)
 ·intro b _ hbn hbc hbl
  have hbx : b ≠ x := fun e => hbl (by rw [hl, e])
  rw [st_heap _ _ _ _ hbc, st_heap _ _ _ _ hbc, st_heap _ _ _ _ hbn, st_heap _ _ _ _ hbx]

set_option maxHeartbeats 4000000 in
set_option maxRecDepth 100000 in
theorem append_calls (w : World) (D : Tab) (n c : Nat) (i ic : Info) (h : Dom w D) (hn : D n = some i) (hc : D c = some ic) (hne : n ≠ c) (hroot : ic.parent = none) (hself : i.parent ≠ some n) :
  Calls Try.prog 96 #[ptr (some n), ptr (some c)] w fun e w' => e = .returned (.tuple #[]) ∧ Dom w' (appended D n c i ic) ∧ Only D w w' := by
 obtain ⟨vn, hHn, _⟩ := h.has hn
 obtain ⟨vc, hHc, _⟩ := h.has hc
 have hpc : (recOf D c ic vc).parent = none := hroot
 have hprev : (recOf D c ic vc).prev = none := by show prevIn (sibs D ic) c = none; rw [sibs_none hroot]; rfl
 have hnext : (recOf D c ic vc).next = none := by show nextIn (sibs D ic) c = none; rw [sibs_none hroot]; rfl
 have c0 : w.cell? ⟨c, 0, none⟩ = some (.pointer none) := by rw [hHc.cells10.1, hpc]; rfl
 have c3 : w.cell? ⟨c, 3, none⟩ = some (.pointer none) := by rw [hHc.cells10.2.2.2.1, hprev]; rfl
 have c4 : w.cell? ⟨c, 4, none⟩ = some (.pointer none) := by rw [hHc.cells10.2.2.2.2.1, hnext]; rfl
 have hfc := hHc.frozen 0
 have hfc3 := hHc.frozen 3
 have hfn1 := hHn.frozen 1
 have hfn2 := hHn.frozen 2
 have hnc : ¬ c = n := fun e => hne e.symm
 have HN := Aside0.mk hHn
 cases hl : i.kids.getLast? with
 | none =>
  have R := Aside0.mk (append_none w D n c i ic h hn hc hne hroot hself hl)
  have n2 : w.cell? ⟨n, 2, none⟩ = some (.pointer none) := by rw [HN.out.cells10.2.2.1]; show some (ptr i.kids.getLast?) = _; rw [hl]; rfl
  have n1 : w.cell? ⟨n, 1, none⟩ = some (ptr i.kids.head?) := HN.out.cells10.2.1
  clear hHn hHc h hpc hprev hnext hn hc hroot hself hl
  unfold ptr
  go_enter Try.func96, Try.ntmps96
  go_wp2
  go_end0
  exact ⟨rfl, R.out⟩
 | some x =>
  have n2 : w.cell? ⟨n, 2, none⟩ = some (.pointer (some ⟨x, 0, none⟩)) := by rw [HN.out.cells10.2.2.1]; show some (ptr i.kids.getLast?) = _; rw [hl]; rfl
  have hxm : x ∈ i.kids := List.mem_of_getLast? hl
  obtain ⟨ix, hix, hpx⟩ := h.wf.down hn hxm
  have hxn : ¬ x = n := fun e => by
   subst e
   rw [hn] at hix
   injection hix with hix
   subst hix
   exact hself hpx
  have hxc : ¬ x = c := fun e => h.kid_ne hn hc hroot (e ▸ hxm)
  have R := Aside0.mk (append_some w D n c x i ic ix h hn hc hix hne hroot hself hl hxn hxc)
  obtain ⟨vx, hHx, _⟩ := h.has hix
  have x4 : w.cell? ⟨x, 4, none⟩ = some (ptr (nextIn (sibs D ix) x)) := hHx.cells10.2.2.2.2.1
  have hfx := hHx.frozen 4
  have hnx : ¬ n = x := fun e => hxn e.symm
  have hcx : ¬ c = x := fun e => hxc e.symm
  clear hHx hHn hHc h hpc hprev hnext hn hc hroot hself hl hix hpx hxm
  unfold ptr
  go_enter Try.func96, Try.ntmps96
  go_wp2
  go_end0
  exact ⟨rfl, R.out⟩
end Go.Proofs.Ytmfjbljdbkmkgaa.Dom

/- Tables side by side; a table that is a tree. Plain facts. -/
namespace Go.Proofs.Ytmfjbljdbkmkgaa.Dom
open Go.RowKit Go.Proofs.YtmfjbljdbkmkgaaW.PrintWords Go.Proofs.YtmfjbljdbkmkgaaW.PrintLast Go.Proofs.YtmfjbljdbkmkgaaW.PrintMore Go.Proofs.Ytmfjbljdbkmkgaa.PDom
set_option linter.unusedVariables false
set_option linter.unusedSimpArgs false

theorem Dom.below {w w' : World} {D : Tab} (h : Dom w D) (hb : Below w.heap.size w w') : Dom w' D :=
 ⟨h.wf, fun hd => by
  obtain ⟨v, h1, h2⟩ := h.has hd
  exact ⟨v, h1.of_heap (hb.block _ h1.lt), h2.below hb⟩⟩
theorem Dom.lt {w : World} {D : Tab} (h : Dom w D) {b : Nat} (hb : D b ≠ none) : b < w.heap.size := by
 cases hd : D b with
 | none => exact absurd hd hb
 | some i =>
  obtain ⟨v, h1, _⟩ := h.has hd
  exact h1.lt

/-- One node alone. -/
def none_ : Tab := fun _ => none
theorem Dom.one {w : World} {b : Nat} {ty atom : Int} {data : ByteArray} {v : Value} {attrs : List (ByteArray × ByteArray)} (h : Has w b ⟨none, none, none, none, none, ty, atom, data, v⟩) (ha : AttrAt w v attrs) :
  Dom w (put none_ b ⟨none, [], ty, atom, data, attrs⟩) := by
 have hs : ∀ {x i}, put none_ b ⟨none, [], ty, atom, data, attrs⟩ x = some i → x = b ∧ i = ⟨none, [], ty, atom, data, attrs⟩ := by
  intro x i hx
  by_cases hxb : x = b
  ·subst hxb
   rw [put_same] at hx
   exact ⟨rfl, (Option.some.inj hx).symm⟩
  ·rw [put_other _ _ hxb] at hx
   cases hx
 refine ⟨⟨?_, ?_, ?_⟩, ?_⟩
 ·intro x i p hx hp
  obtain ⟨_, rfl⟩ := hs hx
  cases hp
 ·intro x i c hx hc
  obtain ⟨_, rfl⟩ := hs hx
  cases hc
 ·intro x i hx
  obtain ⟨_, rfl⟩ := hs hx
  exact List.nodup_nil
 ·intro x i hx
  obtain ⟨rfl, rfl⟩ := hs hx
  exact ⟨v, h, ha⟩

/-- Two tables side by side. -/
def uni (D D' : Tab) : Tab := fun x => match D x with
 | some i => some i
 | none => D' x
theorem uni_left {D D' : Tab} {x : Nat} {i : Info} (h : D x = some i) : uni D D' x = some i := by unfold uni; rw [h]
theorem uni_right {D D' : Tab} {x : Nat} (h : D x = none) : uni D D' x = D' x := by unfold uni; rw [h]
theorem uni_some {D D' : Tab} {x : Nat} {i : Info} (h : uni D D' x = some i) : D x = some i ∨ (D x = none ∧ D' x = some i) := by
 cases hd : D x with
 | some j => rw [uni_left hd] at h; exact .inl h
 | none => rw [uni_right hd] at h; exact .inr ⟨rfl, h⟩
theorem Dom.union {w : World} {D D' : Tab} (h : Dom w D) (h' : Dom w D') (hd : ∀ x, D x ≠ none → D' x = none) : Dom w (uni D D') := by
 have hr : ∀ {x i}, D' x = some i → uni D D' x = some i := by
  intro x i hx
  have : D x = none := by
   cases hD : D x with
   | none => rfl
   | some j => have := hd x (by rw [hD]; simp); rw [hx] at this; cases this
  rw [uni_right this]
  exact hx
 refine ⟨⟨?_, ?_, ?_⟩, ?_⟩
 ·intro b i p hb hp
  rcases uni_some hb with hb | ⟨_, hb⟩
  ·obtain ⟨ip, h1, h2⟩ := h.wf.up hb hp
   exact ⟨ip, uni_left h1, h2⟩
  ·obtain ⟨ip, h1, h2⟩ := h'.wf.up hb hp
   exact ⟨ip, hr h1, h2⟩
 ·intro b i c hb hc
  rcases uni_some hb with hb | ⟨_, hb⟩
  ·obtain ⟨ip, h1, h2⟩ := h.wf.down hb hc
   exact ⟨ip, uni_left h1, h2⟩
  ·obtain ⟨ip, h1, h2⟩ := h'.wf.down hb hc
   exact ⟨ip, hr h1, h2⟩
 ·intro b i hb
  rcases uni_some hb with hb | ⟨_, hb⟩
  ·exact h.wf.nodup hb
  ·exact h'.wf.nodup hb
 ·intro b i hb
  rcases uni_some hb with hb | ⟨_, hb⟩
  ·obtain ⟨v, h1, h2⟩ := h.has hb
   refine ⟨v, ?_, h2⟩
   have hs : sibs (uni D D') i = sibs D i := by
    cases hp : i.parent with
    | none => rw [sibs_none hp, sibs_none hp]
    | some p =>
     obtain ⟨ip, h3, _⟩ := h.wf.up hb hp
     rw [sibs_some hp, sibs_some hp, kidsOf_some h3, kidsOf_some (uni_left h3)]
   unfold recOf at h1 ⊢
   rw [hs]
   exact h1
  ·obtain ⟨v, h1, h2⟩ := h'.has hb
   refine ⟨v, ?_, h2⟩
   have hs : sibs (uni D D') i = sibs D' i := by
    cases hp : i.parent with
    | none => rw [sibs_none hp, sibs_none hp]
    | some p =>
     obtain ⟨ip, h3, _⟩ := h'.wf.up hb hp
     rw [sibs_some hp, sibs_some hp, kidsOf_some h3, kidsOf_some (hr h3)]
   unfold recOf at h1 ⊢
   rw [hs]
   exact h1

/-! ### A tree -/
abbrev T := S25
def tyOf (k : Int) : Int := if k = 0 then 3 else if k = 1 then 1 else if k = 2 then 4 else 2
def flat (t : T) : Prop := t.f0 = 1 ∨ t.f0 = 2
instance (t : T) : Decidable (flat t) := by unfold flat; exact inferInstance
def dataOf (t : T) : ByteArray := if t.f0 = 0 then t.f1 else if flat t then t.f2 else ⟨#[]⟩
def attrsOf (t : T) : List (ByteArray × ByteArray) := if t.f0 = 0 then t.f3.map fun a => (a.f0, a.f1) else []
def atomOf (t : T) : Int := if t.f0 = 0 then (atom_ZzAtom.f t.f1).getD 0 else 0
def kidsT (t : T) : List T := if flat t then [] else t.f4
structure Match (i : Info) (t : T) : Prop where
 ty : i.ty = tyOf t.f0
 atom : i.atom = atomOf t
 data : i.data = dataOf t
 attrs : i.attrs = attrsOf t
inductive IsT (D : Tab) : Nat → T → Prop
 | mk (b : Nat) (t : T) (i : Info) (h : D b = some i) (hm : Match i t) (hl : i.kids.length = (kidsT t).length) (hk : ∀ j (h1 : j < i.kids.length) (h2 : j < (kidsT t).length), IsT D i.kids[j] (kidsT t)[j]) : IsT D b t
/-- What is in the one table is in the other one, but for who the parent is. -/
def Sub (D D2 : Tab) : Prop := ∀ b i, D b = some i → ∃ p, D2 b = some { i with parent := p }
theorem IsT.mono {D D2 : Tab} (hs : Sub D D2) {b : Nat} {t : T} (h : IsT D b t) : IsT D2 b t := by
 induction h with
 | mk b t i h hm hl hk ih =>
  obtain ⟨p, h2⟩ := hs b i h
  exact IsT.mk b t { i with parent := p } h2 ⟨hm.ty, hm.atom, hm.data, hm.attrs⟩ hl ih
/-- The part of a table that lies above a block. -/
def above (n : Nat) (D : Tab) : Tab := fun x => if n < x then D x else none
theorem above_sub (n : Nat) (D : Tab) : Sub (above n D) D := by
 intro b i h
 unfold above at h
 split at h
 ·exact ⟨i.parent, h⟩
 ·cases h

/-- One more child. -/
theorem grow {D D' : Tab} {n c : Nat} {i ic : Info} (hn : D n = some i) (hc : D' c = some ic) (hd : ∀ x, D x ≠ none → D' x = none) (hlt : ∀ x, D' x ≠ none → n < x) :
  Sub (above n D) (above n (appended (uni D D') n c i ic)) ∧ Sub D' (above n (appended (uni D D') n c i ic)) := by
 have hcn : n < c := hlt c (by rw [hc]; simp)
 constructor
 ·intro b ib hb
  unfold above at hb
  split at hb
  case isFalse => cases hb
  rename_i hnb
  have hbc : b ≠ c := fun e => by
   subst e
   have := hd b (by rw [hb]; simp)
   rw [hc] at this
   cases this
  refine ⟨ib.parent, ?_⟩
  unfold above
  rw [if_pos hnb]
  unfold appended
  rw [put_other _ _ hbc, put_other _ _ (by omega), uni_left hb]
 ·intro b ib hb
  have hnb := hlt b (by rw [hb]; simp)
  have hD : D b = none := by
   cases hD : D b with
   | none => rfl
   | some j => have := hd b (by rw [hD]; simp); rw [hb] at this; cases this
  unfold above
  rw [if_pos hnb]
  unfold appended
  by_cases hbc : b = c
  ·subst hbc
   rw [hc] at hb
   obtain rfl := Option.some.inj hb
   exact ⟨some n, put_same _ _ _⟩
  ·exact ⟨ib.parent, by rw [put_other _ _ hbc, put_other _ _ (by omega), uni_right hD, hb]⟩
end Go.Proofs.Ytmfjbljdbkmkgaa.Dom

/- What impl.made rests on: leaves, one more attribute. Plain facts and one law. -/
namespace Go.Proofs.Ytmfjbljdbkmkgaa.Dom
open Go.RowKit Go.Proofs.YtmfjbljdbkmkgaaW.PrintWords Go.Proofs.YtmfjbljdbkmkgaaW.PrintLast Go.Proofs.YtmfjbljdbkmkgaaW.PrintMore Go.Proofs.Ytmfjbljdbkmkgaa.PDom
set_option linter.unusedVariables false
set_option linter.unusedSimpArgs false

theorem kid_lt {t x : T} (h : x ∈ t.f4) : SizeOf.sizeOf x < SizeOf.sizeOf t := by
 have := List.sizeOf_lt_of_mem h
 cases t
 simp only [S25.mk.sizeOf_spec] at this ⊢
 omega
inductive Fit : T → Prop
 | mk (t : T) (ha : t.f3.length ≤ 4398046510976) (hk : t.f4.length ≤ 4398046510976) (h : ∀ y ∈ t.f4, Fit y) : Fit t

theorem atom_some (s : ByteArray) : atom_ZzAtom.f s = some ((atom_ZzAtom.f s).getD 0) := by
 unfold atom_ZzAtom.f
 repeat' split
 all_goals rfl

/-- One more attribute, as long as a row may come in. -/
theorem attr_step {P : Program} {ops : Array Oper} {o : Oper} {a : Act} {Q : Exit → Act → World → Prop} {K : Act → World → Prop} {E : Prop} {W : World} (hgd : o.guard = none) (s x : Operand) (t : TypeId) (z : Value)
  (ho : o.op = .call { callee := .builtin .append, args := #[s, x], argTypes := #[t, t] })
  (ht : P.underlying t = some (.slice 106)) (hinfo : (P.info? 106).map (fun i => (i.zero, i.size, i.bytes)) = some (some z, 3, 48)) (hz : z.cells.size = 3)
  (B : Nat) (hB : B ≤ W.heap.size) (v : Value) (l : List (ByteArray × ByteArray)) (k u : ByteArray) (bk : Nat) (hs : a.eval s = v) (hx : a.eval x = .slice (some ⟨bk, 0, none⟩) 1 1) (hnew : W.heap[bk]? = some (.cells #[.string ⟨#[]⟩, .string k, .string u] 106 (0, 0))) (HO : kA.R 106 W B (fun _ => True) v l) (hl : l.length ≤ 4398046510976)
  (h : ∀ v1 w1, kA.R 106 w1 B (fun _ => True) v1 (l ++ [(k, u)]) → W.grownBy w1 v.ownBlock → K (a.put o.dst v1) w1) :
  if Region.wanted o (yielded ops a.tmps) = true then Oper.wp P o a W K Q else E := by
 obtain ⟨i0, hi, hzz⟩ := Option.map_eq_some_iff.1 hinfo
 simp only [Prod.mk.injEq] at hzz
 obtain ⟨hz0, hz1, hz2⟩ := hzz
 rw [if_pos (show Region.wanted o (yielded ops a.tmps) = true by simp [Region.wanted, hgd])]
 obtain ⟨h0, inner, hown, hr⟩ := HO
 have hsz : kA.sz = 3 := rfl
 rw [hsz] at hown hr
 refine wp_append_own_wide _ s x t ho B 106 i0 z 3 48 ht hi hz0 hz1 hz2 hz (by omega) v l.length inner hs hown ⟨bk, 0, none⟩ 1 1 [.string ⟨#[]⟩, .string k, .string u] hx rfl
  (by simpa using World.news_of_block (cs := #[.string ⟨#[]⟩, .string k, .string u]) (t := 106) (fr := (0, 0)) hnew)
  (by intro y hy; rcases List.mem_cons.1 hy with rfl | hy; rfl; rcases List.mem_cons.1 hy with rfl | hy; rfl; rcases List.mem_cons.1 hy with rfl | hy; rfl; cases hy) (by simp only [maxLen]; omega) (by omega) hB ?_
 intro v1 w1 hown1 hg _
 refine h v1 w1 ⟨fun _ _ => trivial, inner ++ [.string ⟨#[]⟩, .string k, .string u], by rw [List.length_append, List.length_singleton]; exact hown1, ?_⟩ hg
 exact (hr.imp_ (fun _ _ hq => hq)).snoc ⟨[.string ⟨#[]⟩], [.string k, .string u], rfl, rfl, ⟨[.string k], [.string u], rfl, rfl, rfl⟩⟩ rfl
theorem kept {w8 w9 : World} {o : Obj} {r : Option Nat} (hg : (w8.alloc o).drew.grownBy w9 r) {g : Nat} {x : Obj} (h : w8.heap[g]? = some x) (hne : some g ≠ r) : w9.heap[g]? = some x := by
 have hlt := (Array.getElem?_eq_some_iff.1 h).1
 have h1 := hg.block g (by show g < (w8.heap.push o).size; rw [Array.size_push]; omega) hne
 exact h1.trans ((heap_alloc_old w8 o hlt).trans h)
theorem kept_below {w w8 w9 : World} {o : Obj} {B : Nat} {r : Option Nat} (hg : (w8.alloc o).drew.grownBy w9 r) (hb : Below B w (w8.alloc o)) (hB : B ≤ (w8.alloc o).drew.heap.size) (hr : ∀ k, r = some k → B ≤ k) : Below B w w9 :=
 (below_drew hb).grown hg hB hr
theorem attrR_set {w : World} {B : Nat} {v : Value} {l : List (ByteArray × ByteArray)} (h : kA.R 106 w B (fun _ => True) v l) {g : Nat} {r : Rec} (hg : Has w g r) (j : Nat) (u : Value) : kA.R 106 (w.setCell ⟨g, j, none⟩ u) B (fun _ => True) v l :=
 Kd.R_set h hg (fun q hq => by
  have : q = 106 := by simpa [kA, Kd.iso, Kd.pair, Kd.string, Kd.scalar] using hq
  rw [this]
  decide) j u
theorem Has.put9 {w : World} {b : Nat} {r : Rec} (h : Has w b r) (u : Value) : Has (w.setCell ⟨b, 9, none⟩ u) b { r with attr := u } := h.put 9 u { r with attr := u } rfl
/-- The end of a round: the node has one more attribute. -/
theorem attr_round {w w9 : World} {nb : Nat} {r : Rec} {box : Obj} {v1 : Value} {l : List (ByteArray × ByteArray)} (hnb : w.heap.size < nb) (hx : w9.heap[w.heap.size]? = some box) (hn : Has w9 nb r) (ho : kA.R 106 w9 w.heap.size (fun _ => True) v1 l) (hb : Below w.heap.size w w9) :
  (w9.setCell ⟨nb, 9, none⟩ v1).heap[w.heap.size]? = some box ∧ Has (w9.setCell ⟨nb, 9, none⟩ v1) nb { r with attr := v1 } ∧ kA.R 106 (w9.setCell ⟨nb, 9, none⟩ v1) w.heap.size (fun _ => True) v1 l ∧ Below w.heap.size w (w9.setCell ⟨nb, 9, none⟩ v1) :=
 ⟨(Below.heap_setCell w9 ⟨nb, 9, none⟩ v1 w.heap.size (by show w.heap.size ≠ nb; omega)).trans hx, hn.put9 v1, attrR_set ho hn 9 v1, hb.setCell (p := ⟨nb, 9, none⟩) (by show w.heap.size ≤ nb; omega) v1⟩
theorem wrap_same {x : Int} (h0 : -9223372036854775808 ≤ x) (h1 : x ≤ 9223372036854775807) : wrap64 x = x := by
 unfold wrap64
 omega
theorem wrap_succ (j : Nat) (h : j ≤ 4398046510976) : wrap64 ((j : Int) + 1) = ((j + 1 : Nat) : Int) := by
 rw [wrap_same (by omega) (by omega)]
 omega
theorem infoA : (Try.prog.info? 106).map (fun i => (i.zero, i.size, i.bytes)) = some (some (.agg #[.string ⟨#[]⟩, .string ⟨#[]⟩, .string ⟨#[]⟩]), 3, 48) := by kernel_rfl

structure Made (w w' : World) (b : Nat) (D : Tab) (t : T) : Prop where
 dom : Dom w' D
 tree : IsT D b t
 root : ∀ i, D b = some i → i.parent = none
 fresh : ∀ x, D x ≠ none → w.heap.size ≤ x
 below : Below w.heap.size w w'

theorem two_new (w : World) (o1 o2 : Obj) : ((w.alloc o1).alloc o2).heap[w.heap.size + 1]? = some o2 := by
 show ((w.heap.push o1).push o2)[w.heap.size + 1]? = some o2
 rw [Array.getElem?_push, Array.size_push, if_pos rfl]
theorem two_old (w : World) (o1 o2 : Obj) : ((w.alloc o1).alloc o2).heap[w.heap.size]? = some o1 := by
 show ((w.heap.push o1).push o2)[w.heap.size]? = some o1
 rw [Array.getElem?_push, Array.size_push, if_neg (by omega)]
 simp
theorem leaf (w : World) (o1 : Obj) (t : T) (ty : Int) (hf : flat t) (hty : ty = tyOf t.f0) :
  Made w ((w.alloc o1).alloc (.cells (Rec.cells ⟨none, none, none, none, none, ty, 0, t.f2, .slice none 0 0⟩) 81 (0, 0))) (w.heap.size + 1) (put none_ (w.heap.size + 1) ⟨none, [], ty, 0, t.f2, []⟩) t := by
 have h0 : ¬ t.f0 = 0 := fun e => by rcases hf with h | h <;> omega
 have hD : Dom ((w.alloc o1).alloc (.cells (Rec.cells ⟨none, none, none, none, none, ty, 0, t.f2, .slice none 0 0⟩) 81 (0, 0))) (put none_ (w.heap.size + 1) ⟨none, [], ty, 0, t.f2, []⟩) :=
  Dom.one (two_new w o1 _) (Kd.R_nil kA _ _ _ _)
 refine ⟨hD, ?_, ?_, ?_, below_alloc (below_alloc (Below.refl _ _) _) _⟩
 ·refine IsT.mk _ t _ (put_same _ _ _) ⟨hty, ?_, ?_, ?_⟩ ?_ ?_
  ·show (0 : Int) = atomOf t
   unfold atomOf
   rw [if_neg h0]
  ·show t.f2 = dataOf t
   unfold dataOf
   rw [if_neg h0, if_pos hf]
  ·show [] = attrsOf t
   unfold attrsOf
   rw [if_neg h0]
  ·show 0 = (kidsT t).length
   unfold kidsT
   rw [if_pos hf]
   rfl
  ·intro j h1
   exact absurd h1 (Nat.not_lt_zero _)
 ·intro i hi
  rw [put_same] at hi
  obtain rfl := Option.some.inj hi
  rfl
 ·intro x hx
  by_cases hxb : x = w.heap.size + 1
  ·omega
  ·rw [put_other _ _ hxb] at hx
   exact absurd rfl hx

end Go.Proofs.Ytmfjbljdbkmkgaa.Dom

/- What impl.made's loop over the children keeps. Plain facts on tables. -/
namespace Go.Proofs.Ytmfjbljdbkmkgaa.Dom
open Go.RowKit Go.Proofs.YtmfjbljdbkmkgaaW.PrintWords Go.Proofs.YtmfjbljdbkmkgaaW.PrintLast Go.Proofs.YtmfjbljdbkmkgaaW.PrintMore Go.Proofs.Ytmfjbljdbkmkgaa.PDom
set_option linter.unusedVariables false
set_option linter.unusedSimpArgs false

structure Kept (w wr : World) (nb : Nat) (D : Tab) (i : Info) (t : T) (box : Obj) (j : Nat) : Prop where
 dom : Dom wr D
 node : D nb = some i
 root : i.parent = none
 mt : Match i t
 len : i.kids.length = j
 kids : ∀ k (h1 : k < i.kids.length) (h2 : k < t.f4.length), IsT (above nb D) i.kids[k] t.f4[k]
 fresh : ∀ x, D x ≠ none → nb ≤ x
 box : wr.heap[w.heap.size]? = some box
 below : Below w.heap.size w wr

/-- Ahead of the first child. -/
theorem Kept.start {w wr : World} {nb : Nat} {t : T} {box : Obj} {ty atom : Int} {data : ByteArray} {v : Value} {attrs : List (ByteArray × ByteArray)} (hn : Has wr nb ⟨none, none, none, none, none, ty, atom, data, v⟩) (ha : AttrAt wr v attrs)
  (hm : Match ⟨none, [], ty, atom, data, attrs⟩ t) (hx : wr.heap[w.heap.size]? = some box) (hb : Below w.heap.size w wr) : Kept w wr nb (put none_ nb ⟨none, [], ty, atom, data, attrs⟩) ⟨none, [], ty, atom, data, attrs⟩ t box 0 :=
 ⟨Dom.one hn ha, put_same _ _ _, rfl, hm, rfl, fun k h1 => absurd h1 (Nat.not_lt_zero _), fun x hx => by
  by_cases h : x = nb
  ·omega
  ·rw [put_other _ _ h] at hx
   exact absurd rfl hx, hx, hb⟩

/-- The tables side by side, ahead of AppendChild. -/
theorem Kept.ready {w wr w1 w2 : World} {nb b : Nat} {D D' : Tab} {i : Info} {t x : T} {box : Obj} {j : Nat} (h : Kept w wr nb D i t box j) (h1 : Below wr.heap.size wr w1) (hm : Made w1 w2 b D' x) :
  ∃ ic, D' b = some ic ∧ Dom w2 (uni D D') ∧ uni D D' nb = some i ∧ uni D D' b = some ic ∧ nb ≠ b ∧ ic.parent = none ∧ i.parent ≠ some nb ∧ (∀ y, D y ≠ none → D' y = none) ∧ (∀ y, D' y ≠ none → nb < y) := by
 have hlt : ∀ y, D y ≠ none → y < wr.heap.size := fun y hy => h.dom.lt hy
 have hge : ∀ y, D' y ≠ none → wr.heap.size ≤ y := fun y hy => Nat.le_trans h1.size (hm.fresh y hy)
 have hd : ∀ y, D y ≠ none → D' y = none := by
  intro y hy
  cases hc : D' y with
  | none => rfl
  | some q =>
   have := hge y (by rw [hc]; simp)
   have := hlt y hy
   omega
 have hnb : nb < wr.heap.size := hlt nb (by rw [h.node]; simp)
 obtain ⟨ic, hic⟩ : ∃ ic, D' b = some ic := by
  obtain ⟨_, _, ic, hic, _, _, _⟩ := hm.tree
  exact ⟨ic, hic⟩
 have hb : wr.heap.size ≤ b := hge b (by rw [hic]; simp)
 have hDb : D b = none := by
  cases hc : D b with
  | none => rfl
  | some q =>
   have := hlt b (by rw [hc]; simp)
   omega
 refine ⟨ic, hic, (h.dom.below (h1.trans ?_)).union hm.dom hd, uni_left h.node, by rw [uni_right hDb]; exact hic, by omega, hm.root ic hic, by rw [h.root]; simp, hd, fun y hy => by have := hge y hy; omega⟩
 exact ⟨hm.below.os, hm.below.tape, hm.below.output, hm.below.size, fun k hk => hm.below.block k (Nat.lt_of_lt_of_le hk h1.size)⟩

/-- Behind AppendChild. -/
theorem Kept.step {w wr w1 w2 w3 : World} {nb b : Nat} {D D' : Tab} {i ic : Info} {t : T} {box : Obj} {j : Nat} (h : Kept w wr nb D i t box j) (hnb : w.heap.size < nb) (hj : j < t.f4.length) (h1 : Below wr.heap.size wr w1) (hm : Made w1 w2 b D' t.f4[j])
  (hic : D' b = some ic) (hd : ∀ y, D y ≠ none → D' y = none) (hlt : ∀ y, D' y ≠ none → nb < y) (hdom : Dom w3 (appended (uni D D') nb b i ic)) (ho : Only (uni D D') w2 w3) :
  Kept w w3 nb (appended (uni D D') nb b i ic) { i with kids := i.kids ++ [b] } t box (j + 1) := by
 have hbn : b ≠ nb := by have := hlt b (by rw [hic]; simp); omega
 obtain ⟨g1, g2⟩ := grow (n := nb) (c := b) h.node hic hd hlt
 have hlen : ∀ y, uni D D' y ≠ none → nb ≤ y := by
  intro y hy
  cases hD : D y with
  | some q => exact h.fresh y (by rw [hD]; simp)
  | none =>
   rw [uni_right hD] at hy
   exact Nat.le_of_lt (hlt y hy)
 have hB2 : Below w.heap.size w w2 := by
  have a1 : Below w.heap.size w w1 := below_step h.below h1
  exact below_step a1 hm.below
 have hB3 : Below w.heap.size w2 w3 := ho.below hB2.size (fun k hk => by
  cases hc : uni D D' k with
  | none => rfl
  | some q => have := hlen k (by rw [hc]; simp); omega)
 have hwr : w.heap.size < wr.heap.size := (Array.getElem?_eq_some_iff.1 h.box).1
 refine ⟨hdom, ?_, h.root, ⟨h.mt.ty, h.mt.atom, h.mt.data, h.mt.attrs⟩, ?_, ?_, ?_, ?_, hB2.trans hB3⟩
 ·unfold appended
  rw [put_other _ _ (Ne.symm hbn), put_same]
 ·show (i.kids ++ [b]).length = j + 1
  rw [List.length_append, List.length_singleton, h.len]
 ·intro k k1 k2
  by_cases hk : k < i.kids.length
  ·have e : (i.kids ++ [b])[k]'(by simpa using k1) = i.kids[k] := List.getElem_append_left hk
   show IsT _ ((i.kids ++ [b])[k]'(by simpa using k1)) _
   rw [e]
   exact (h.kids k hk k2).mono g1
  ·have hkj : k = j := by
    have : k < (i.kids ++ [b]).length := k1
    rw [List.length_append, List.length_singleton, h.len] at this
    have := h.len
    omega
   subst hkj
   have e : (i.kids ++ [b])[k]'(by simpa using k1) = b := by
    rw [List.getElem_append_right (by omega)]
    simp [h.len]
   show IsT _ ((i.kids ++ [b])[k]'(by simpa using k1)) _
   rw [e]
   exact hm.tree.mono g2
 ·intro y hy
  by_cases hyb : y = b
  ·subst hyb
   exact Nat.le_of_lt (hlt y (by rw [hic]; simp))
  ·by_cases hyn : y = nb
   ·omega
   ·unfold appended at hy
    rw [put_other _ _ hyb, put_other _ _ hyn] at hy
    exact hlen y hy
 ·have e1 : w1.heap[w.heap.size]? = some box := (h1.block _ hwr).trans h.box
  have e2 : w2.heap[w.heap.size]? = some box := (hm.below.block _ (Nat.lt_of_lt_of_le hwr h1.size)).trans e1
  have l2 : w.heap.size < w2.heap.size := (Array.getElem?_eq_some_iff.1 e2).1
  refine (ho.block _ l2 ?_).trans e2
  cases hc : uni D D' w.heap.size with
  | none => rfl
  | some q => have := hlen w.heap.size (by rw [hc]; simp); omega

/-- Behind the last child. -/
theorem Kept.done {w wr : World} {nb : Nat} {D : Tab} {i : Info} {t : T} {box : Obj} (h : Kept w wr nb D i t box t.f4.length) (hnb : w.heap.size < nb) (hf : ¬ flat t) : Made w wr nb D t := by
 have hk : kidsT t = t.f4 := if_neg hf
 refine ⟨h.dom, IsT.mk nb t i h.node h.mt (by rw [hk]; exact h.len) ?_, fun i' hi' => ?_, fun x hx => Nat.le_trans (Nat.le_of_lt hnb) (h.fresh x hx), h.below⟩
 ·intro k k1 k2
  have k3 : k < t.f4.length := by rw [hk] at k2; exact k2
  have e : (kidsT t)[k] = t.f4[k] := by simp only [hk]
  rw [e]
  exact (h.kids k k1 k3).mono (above_sub nb D)
 ·rw [h.node] at hi'
  obtain rfl := Option.some.inj hi'
  exact h.root
end Go.Proofs.Ytmfjbljdbkmkgaa.Dom

/- impl.made: a tree's nodes, as a table. -/
namespace Go.Proofs.Ytmfjbljdbkmkgaa.Dom
open Go.RowKit Go.Proofs.YtmfjbljdbkmkgaaW.PrintWords Go.Proofs.YtmfjbljdbkmkgaaW.PrintLast Go.Proofs.YtmfjbljdbkmkgaaW.PrintMore Go.Proofs.Ytmfjbljdbkmkgaa.PDom
set_option linter.unusedVariables false
set_option linter.unusedSimpArgs false

set_option maxHeartbeats 4000000 in
set_option maxRecDepth 100000 in
theorem made_calls : ∀ (n : Nat) (t : T), SizeOf.sizeOf t ≤ n → Fit t → ∀ (w : World) (A3 : Option Addr) (c3 : Nat) (A4 : Option Addr) (c4 : Nat), k53.C w A3 t.f3.length t.f3 → t.f3.length ≤ c3 → k25.C w A4 t.f4.length t.f4 → t.f4.length ≤ c4 →
  Calls Try.prog 65 #[.agg #[.int .i64 t.f0, .string t.f1, .string t.f2, .slice A3 t.f3.length c3, .slice A4 t.f4.length c4]] w fun e w' => ∃ b D, e = .returned (ptr (some b)) ∧ Made w w' b D t := by
 intro n
 induction n with
 | zero =>
  intro t h
  cases t
  simp at h
 | succ n ih =>
  intro t hsz hfit w A3 c3 A4 c4 h3 l3 h4 l4
  obtain ⟨f0, f1, f2, f3, f4⟩ := t
  simp only at h3 l3 h4 l4 ⊢
  have HSZ := Aside0.mk hsz
  have HFIT := Aside0.mk hfit
  have H3 := Aside0.mk h3
  have H4 := Aside0.mk h4
  have L3 := Aside0.mk l3
  have L4 := Aside0.mk l4
  have IH := Aside0.mk ih
  clear hsz hfit h3 h4 l3 l4 ih
  by_cases k1 : f0 = 1
  ·subst k1
   go_enter Try.func65, Try.ntmps65
   go_wp2
   go_ret
   exact ⟨_, _, rfl, leaf w _ ⟨1, f1, f2, f3, f4⟩ 1 (.inl rfl) rfl⟩
  ·by_cases k2 : f0 = 2
   ·subst k2
    go_enter Try.func65, Try.ntmps65
    go_wp2
    go_ret
    exact ⟨_, _, rfl, leaf w _ ⟨2, f1, f2, f3, f4⟩ 4 (.inr rfl) rfl⟩
   ·by_cases k0 : f0 = 0
    ·subst k0
     go_enter Try.func65, Try.ntmps65
     have ht := atom_some f1
     generalize (atom_ZzAtom.f f1).getD 0 = at_ at ht
     have HT := Aside0.mk ht
     clear ht
     go_wp2_with fail
     generalize hw1 : w.alloc (Obj.cells #[Value.int IntKind.i64 0, Value.string f1, Value.string f2, Value.slice A3 f3.length c3, Value.slice A4 f4.length c4] 25) = w1
     have hb1 : w1.cell? ⟨w.heap.size, 1, none⟩ = some (.string f1) := by rw [← hw1]; simp
     go_cut [3] (fun v3 wx => ∃ m : Nat, v3 = .pointer (some ⟨w1.heap.size, 0, none⟩) ∧ wx = (w1.drewN m).alloc (Obj.cells (Rec.cells ⟨none, none, none, none, none, 3, at_, f1, .slice none 0 0⟩) 81))
     case first =>
      go_region_with (go_at_call 95; refine (atom_ZzAtom.calls f1 _ _ HT.out).mono ?_; rintro e w' ⟨rfl, ⟨nd, rfl⟩⟩)
      all_goals (go_wp2_with fail; go_meet; exact ⟨_, rfl, rfl⟩)
     case rest =>
      obtain ⟨m, rfl, rfl⟩ := hcut
      have hs1 : w1.heap.size = w.heap.size + 1 := by rw [← hw1]; show (w.heap.push _).size = _; rw [Array.size_push]
      rw [hs1]
      have hbx : ((w1.drewN m).alloc (Obj.cells (Rec.cells ⟨none, none, none, none, none, 3, at_, f1, .slice none 0 0⟩) 81)).heap[w.heap.size]? = some (.cells #[Value.int IntKind.i64 0, Value.string f1, Value.string f2, Value.slice A3 f3.length c3, Value.slice A4 f4.length c4] 25 (0, 0)) := by
       rw [heap_alloc_old (w1.drewN m) _ (show w.heap.size < w1.heap.size by omega)]
       show w1.heap[w.heap.size]? = _
       rw [← hw1]
       exact heap_alloc_new w _
      have hnd : Has ((w1.drewN m).alloc (Obj.cells (Rec.cells ⟨none, none, none, none, none, 3, at_, f1, .slice none 0 0⟩) 81)) (w.heap.size + 1) ⟨none, none, none, none, none, 3, at_, f1, .slice none 0 0⟩ := by
       rw [← hs1]
       exact heap_alloc_new (w1.drewN m) _
      have hbl : Below w.heap.size w ((w1.drewN m).alloc (Obj.cells (Rec.cells ⟨none, none, none, none, none, 3, at_, f1, .slice none 0 0⟩) 81)) := by
       rw [← hw1]
       exact below_alloc (pw_below_drewN (below_alloc (Below.refl _ _) _) m) _
      generalize (w1.drewN m).alloc (Obj.cells (Rec.cells ⟨none, none, none, none, none, 3, at_, f1, .slice none 0 0⟩) 81) = W at *
      have x3 : W.cell? ⟨w.heap.size, 3, none⟩ = some (Value.slice A3 f3.length c3) := by rw [blk_cell hbx]; rfl
      have HBX := Aside0.mk hbx
      have HND := Aside0.mk hnd
      have HBL := Aside0.mk hbl
      clear hbx hnd hbl hs1 hb1 hw1
      go_wp2_with fail
      go_loopw [24] (fun i wr => ∃ (j : Nat) (v : Value), i = .int .i64 j ∧ j ≤ f3.length ∧ Aside0 (wr.heap[w.heap.size]? = some (.cells #[Value.int IntKind.i64 0, Value.string f1, Value.string f2, Value.slice A3 f3.length c3, Value.slice A4 f4.length c4] 25 (0, 0))) ∧ Aside0 (Has wr (w.heap.size + 1) ⟨none, none, none, none, none, 3, at_, f1, v⟩) ∧ Aside0 (kA.R 106 wr w.heap.size (fun _ => True) v ((f3.map fun a => (a.f0, a.f1)).take j)) ∧ Aside0 (Below w.heap.size w wr)) (fun i _ => f3.length - (intOf i).toNat)
      case atStart => exact ⟨0, _, rfl, Nat.zero_le _, HBX, HND, ⟨Kd.R_nil kA _ _ _ _⟩, HBL⟩
      case round =>
       obtain ⟨j, v, rfl, hj, HX, HN, HA, HB⟩ := hrel
       by_cases hlt : j < f3.length
       ·obtain ⟨ad, rfl, hx0, hx1⟩ := at_T53 (Kd.C_below H3.out HB.out) (j : Int) (by omega) (by omega)
        simp only [Int.toNat_natCast] at hx0 hx1
        have he : rd_T53 f3 (j : Int) = f3[j] := by simp [rd_T53, List.getD_eq_getElem?_getD, List.getElem?_eq_getElem hlt]
        have hsn : (f3.map fun a => (a.f0, a.f1)).take (j + 1) = (f3.map fun a => (a.f0, a.f1)).take j ++ [(f3[j].f0, f3[j].f1)] := by
         rw [List.take_succ_eq_append_getElem (by rw [List.length_map]; exact hlt), List.getElem_map]
        rw [he] at hx0 hx1
        generalize f3[j] = q at hx0 hx1 hsn
        obtain ⟨q0, q1⟩ := q
        simp only at hx0 hx1 hsn
        have HSN := Aside0.mk hsn
        clear he hsn
        go_wp2_with fail
        have hcp : (wr.alloc (Obj.cells #[Value.string q0, Value.string q1] 53)).heap[wr.heap.size]? = some (.cells #[Value.string q0, Value.string q1] 53 (0, 0)) := heap_alloc_new wr _
        have HB8 := Aside0.mk (below_alloc (Below.refl wr.heap.size wr) (Obj.cells #[Value.string q0, Value.string q1] 53))
        generalize wr.alloc (Obj.cells #[Value.string q0, Value.string q1] 53) = w8 at *
        have HN8 := Aside0.mk (HN.out.of_heap (HB8.out.block _ HN.out.lt))
        have n9' : w8.cell? ⟨w.heap.size + 1, 9, none⟩ = some v := HN8.out.cell 9
        have e0 : w8.cell? ⟨wr.heap.size, 0, none⟩ = some (.string q0) := by rw [blk_cell hcp]; rfl
        have e1 : w8.cell? ⟨wr.heap.size, 1, none⟩ = some (.string q1) := by rw [blk_cell hcp]; rfl
        have HA8 := Aside0.mk (Kd.R_below HA.out HB8.out)
        have f9' := HN8.out.frozen 9
        have hlj : ((f3.map fun a => (a.f0, a.f1)).take j).length ≤ 4398046510976 := by
         obtain ⟨_, ha, _, _⟩ := HFIT.out
         rw [List.length_take, List.length_map]
         simp only at ha
         omega
        have hnew : (w8.alloc (Obj.cells #[.string ⟨#[]⟩, .string q0, .string q1] 106)).heap[w8.heap.size]? = some (.cells #[.string ⟨#[]⟩, .string q0, .string q1] 106 (0, 0)) := heap_alloc_new w8 _
        have HNEW := Aside0.mk hnew
        have HA9 := Aside0.mk (Kd.R_below HA8.out (below_alloc (Below.refl w8.heap.size w8) (Obj.cells #[.string ⟨#[]⟩, .string q0, .string q1] 106)))
        clear hnew
        have hsz8 : w.heap.size ≤ (w8.alloc (Obj.cells #[.string ⟨#[]⟩, .string q0, .string q1] 106)).drew.heap.size := by
         show w.heap.size ≤ (w8.heap.push _).size
         rw [Array.size_push]
         have := HB.out.size
         have := HB8.out.size
         omega
        have HSZ8 := Aside0.mk hsz8
        have HX8 := Aside0.mk ((HB8.out.block _ (Array.getElem?_eq_some_iff.1 HX.out).1).trans HX.out)
        have HB88 := Aside0.mk (below_alloc (below_step HB.out HB8.out) (Obj.cells #[.string ⟨#[]⟩, .string q0, .string q1] 106))
        have HNE := Aside0.mk (Kd.R_ne HA8.out HN8.out (by decide))
        have HNE2 := Aside0.mk (Kd.R_ne HA8.out HX8.out (by decide))
        have HBS := Aside0.mk (Kd.R_base HA8.out)
        clear hsz8
        have HLEN := Aside0.mk (show ((f3.map fun a => (a.f0, a.f1)).take j ++ [(q0, q1)]).length = j + 1 by rw [List.length_append, List.length_singleton, List.length_take, List.length_map]; omega)
        have HWJ := Aside0.mk (wrap_succ j (by obtain ⟨_, ha, _, _⟩ := HFIT.out; simp only at ha; omega))
        have n9s : (w8.alloc (Obj.cells #[.string ⟨#[]⟩, .string q0, .string q1] 106)).cell? ⟨w.heap.size + 1, 9, none⟩ = some v := by
         have h := (heap_alloc_old w8 (Obj.cells #[.string ⟨#[]⟩, .string q0, .string q1] 106) HN8.out.lt).trans HN8.out
         exact Has.cell h 9
        go_region_law (refine attr_step rfl (.tmp 32) (.tmp 38) 79 (.agg #[.string ⟨#[]⟩, .string ⟨#[]⟩, .string ⟨#[]⟩]) rfl Try.underlying79 infoA rfl w.heap.size HSZ8.out v ((f3.map fun a => (a.f0, a.f1)).take j) q0 q1 w8.heap.size (by simp [Act.eval, Act.put]) (by simp [Act.eval, Act.put]) HNEW.out (by exact HA9.out) hlj ?_; intro v1 w9 ho hg; obtain ⟨A9, c9, hv9⟩ := Kd.R_slice ho; rw [HLEN.out] at hv9; subst hv9; have HN9 := Aside0.mk (kept hg HN8.out HNE.out); have HX9 := Aside0.mk (kept hg HX8.out HNE2.out); have HB9 := Aside0.mk (kept_below hg HB88.out HSZ8.out HBS.out); have HO9 := Aside0.mk (attr_round (Nat.lt_succ_self _) HX9.out HN9.out ho HB9.out); clear ho hg; have n9x : w9.cell? ⟨w.heap.size + 1, 9, none⟩ = some v := Has.cell HN9.out 9; have f9x := Has.frozen HN9.out 9)
        all_goals (simp only [Exit.inBlock, Exit.then]; go_wp2_with fail; go_roundw)
        all_goals first
         | exact ⟨j + 1, _, by rw [HWJ.out], by omega, ⟨HO9.out.1⟩, ⟨HO9.out.2.1⟩, ⟨by rw [HSN.out]; exact HO9.out.2.2.1⟩, ⟨HO9.out.2.2.2⟩⟩
         | (rw [HWJ.out]; simp [intOf]; omega)
         | trace_state
       ·have hje : j = f3.length := by omega
        subst hje
        have HK := Aside0.mk (Kept.start (t := ⟨0, f1, f2, f3, f4⟩) HN.out (Kd.R_lower HA.out (Nat.zero_le _)) ⟨rfl, (by show at_ = atomOf _; unfold atomOf; rw [if_pos rfl, HT.out]; rfl), rfl, (by show _ = attrsOf _; unfold attrsOf; rw [if_pos rfl, List.take_of_length_le (by rw [List.length_map]; exact Nat.le_refl _)])⟩ HX.out HB.out)
        have x4 : wr.cell? ⟨w.heap.size, 4, none⟩ = some (.slice A4 f4.length c4) := by rw [blk_cell HX.out]; rfl
        clear HX HN HA HB
        go_wp2_with fail
        go_loopw [58] (fun i wr => ∃ (j : Nat) (D : Tab) (i0 : Info), i = .int .i64 j ∧ j ≤ f4.length ∧ Aside0 (Kept w wr (w.heap.size + 1) D i0 ⟨0, f1, f2, f3, f4⟩ (.cells #[Value.int IntKind.i64 0, Value.string f1, Value.string f2, Value.slice A3 f3.length c3, Value.slice A4 f4.length c4] 25 (0, 0)) j)) (fun i _ => f4.length - (intOf i).toNat)
        case atStart => exact ⟨0, _, _, rfl, Nat.zero_le _, HK⟩
        case round =>
         obtain ⟨j, D, i0, rfl, hj, HK⟩ := hrel
         by_cases hlt : j < f4.length
         ·obtain ⟨ad, A5, c5, A6, c6, rfl, y0, y1, y2, y3, y4, m3, g3, m4, g4⟩ := at_T25 (Kd.C_below H4.out HK.out.below) (j : Int) (by omega) (by omega)
          have he : rd_T25 f4 (j : Int) = f4[j] := by simp [rd_T25, List.getD_eq_getElem?_getD, List.getElem?_eq_getElem hlt]
          rw [he] at y0 y1 y2 y3 y4 m3 g3 m4 g4
          simp only [Int.toNat_natCast] at y0 y1 y2 y3 y4
          have hq : f4[j] ∈ f4 := List.getElem_mem _
          have hfq : Fit f4[j] := by obtain ⟨_, _, _, hk⟩ := HFIT.out; exact hk _ hq
          have hsq : SizeOf.sizeOf f4[j] ≤ n := by have h1 := kid_lt (t := ⟨0, f1, f2, f3, f4⟩) hq; have h2 := HSZ.out; omega
          have hget : f4[j] = (⟨0, f1, f2, f3, f4⟩ : T).f4[j] := rfl
          generalize hqe : f4[j] = q at *
          have HQE := Aside0.mk hqe
          obtain ⟨q0, q1, q2, q3, q4⟩ := q
          simp only at y0 y1 y2 y3 y4 m3 g3 m4 g4
          have HFQ := Aside0.mk hfq
          have HSQ := Aside0.mk hsq
          have G3 := Aside0.mk g3
          have G4 := Aside0.mk g4
          have M3 := Aside0.mk m3
          have M4 := Aside0.mk m4
          have HWJ := Aside0.mk (wrap_succ j (by obtain ⟨_, _, ha, _⟩ := HFIT.out; simp only at ha; omega))
          clear he hq hfq hsq hqe m3 g3 m4 g4 hget
          go_wp2_with fail
          have HB1 := Aside0.mk (below_alloc (Below.refl wr.heap.size wr) (Obj.cells #[Value.int IntKind.i64 q0, Value.string q1, Value.string q2, Value.slice A5 q3.length c5, Value.slice A6 q4.length c6] 25))
          refine (IH.out ⟨q0, q1, q2, q3, q4⟩ HSQ.out HFQ.out _ A5 c5 A6 c6 (Kd.C_below G3.out HB1.out) M3.out (Kd.C_below G4.out HB1.out) M4.out).mono ?_
          rintro e w2 ⟨b, D', rfl, hm⟩
          have HM := Aside0.mk hm
          clear hm
          obtain ⟨ic, hic, hu, hun, hub, hne, hroot, hself, hd, hlt2⟩ := HK.out.ready HB1.out HM.out
          have RD := Aside0.mk (append_calls w2 (uni D D') (w.heap.size + 1) b i0 ic hu hun hub hne hroot hself)
          have RS := Aside0.mk (fun w3 => Kept.step (w3 := w3) HK.out (Nat.lt_succ_self _) hlt HB1.out (by rw [← HQE.out] at HM; exact HM.out) hic hd hlt2)
          clear hic hu hun hub hne hroot hself hd hlt2
          simp only [ptr] at RD
          go_wp2_with fail
          refine RD.out.mono ?_
          rintro e w3 ⟨rfl, hdom, ho⟩
          have HK3 := Aside0.mk (RS.out w3 hdom ho)
          clear hdom ho
          go_wp2_with fail
          go_roundw
          case rel => exact ⟨j + 1, _, _, by rw [HWJ.out], by omega, HK3⟩
          case measure => rw [HWJ.out]; simp [intOf]; omega
         ·have hje : j = f4.length := by omega
          subst hje
          go_wp2_with fail
          go_ret
          exact ⟨_, _, rfl, HK.out.done (Nat.lt_succ_self _) (by unfold flat; simp only; omega)⟩
    ·have b0 : (f0 == 0) = false := by simp [k0]
     have b1 : (f0 == 1) = false := by simp [k1]
     have b2 : (f0 == 2) = false := by simp [k2]
     have hbx := two_old w (Obj.cells #[Value.int IntKind.i64 f0, Value.string f1, Value.string f2, Value.slice A3 f3.length c3, Value.slice A4 f4.length c4] 25) (Obj.cells #[Value.pointer none, Value.pointer none, Value.pointer none, Value.pointer none, Value.pointer none, Value.int IntKind.u32 2, Value.int IntKind.u32 0, Value.string ⟨#[]⟩, Value.string ⟨#[]⟩, Value.slice none 0 0] 81)
     have hnd : Has ((w.alloc (Obj.cells #[Value.int IntKind.i64 f0, Value.string f1, Value.string f2, Value.slice A3 f3.length c3, Value.slice A4 f4.length c4] 25)).alloc (Obj.cells #[Value.pointer none, Value.pointer none, Value.pointer none, Value.pointer none, Value.pointer none, Value.int IntKind.u32 2, Value.int IntKind.u32 0, Value.string ⟨#[]⟩, Value.string ⟨#[]⟩, Value.slice none 0 0] 81)) (w.heap.size + 1) ⟨none, none, none, none, none, 2, 0, ⟨#[]⟩, .slice none 0 0⟩ := two_new w (Obj.cells #[Value.int IntKind.i64 f0, Value.string f1, Value.string f2, Value.slice A3 f3.length c3, Value.slice A4 f4.length c4] 25) (Obj.cells #[Value.pointer none, Value.pointer none, Value.pointer none, Value.pointer none, Value.pointer none, Value.int IntKind.u32 2, Value.int IntKind.u32 0, Value.string ⟨#[]⟩, Value.string ⟨#[]⟩, Value.slice none 0 0] 81)
     have hbl : Below w.heap.size w ((w.alloc (Obj.cells #[Value.int IntKind.i64 f0, Value.string f1, Value.string f2, Value.slice A3 f3.length c3, Value.slice A4 f4.length c4] 25)).alloc (Obj.cells #[Value.pointer none, Value.pointer none, Value.pointer none, Value.pointer none, Value.pointer none, Value.int IntKind.u32 2, Value.int IntKind.u32 0, Value.string ⟨#[]⟩, Value.string ⟨#[]⟩, Value.slice none 0 0] 81)) := below_alloc (below_alloc (Below.refl _ _) _) _
     have hfl : ¬ flat (⟨f0, f1, f2, f3, f4⟩ : T) := by unfold flat; simp only; omega
     have HK := Aside0.mk (Kept.start (t := ⟨f0, f1, f2, f3, f4⟩) hnd (Kd.R_nil kA _ _ _ _) ⟨(by show (2 : Int) = tyOf f0; unfold tyOf; rw [if_neg k0, if_neg k1, if_neg k2]), (by show (0 : Int) = atomOf _; unfold atomOf; rw [if_neg k0]), (by show _ = dataOf _; unfold dataOf; rw [if_neg k0, if_neg hfl]), (by show _ = attrsOf _; unfold attrsOf; rw [if_neg k0])⟩ hbx hbl)
     clear hbx hnd hbl hfl
     go_enter Try.func65, Try.ntmps65
     go_wp2_with fail
     go_loopw [58] (fun i wr => ∃ (j : Nat) (D : Tab) (i0 : Info), i = .int .i64 j ∧ j ≤ f4.length ∧ Aside0 (Kept w wr (w.heap.size + 1) D i0 ⟨f0, f1, f2, f3, f4⟩ (.cells #[Value.int IntKind.i64 f0, Value.string f1, Value.string f2, Value.slice A3 f3.length c3, Value.slice A4 f4.length c4] 25 (0, 0)) j)) (fun i _ => f4.length - (intOf i).toNat)
     case atStart => exact ⟨0, _, _, rfl, Nat.zero_le _, HK⟩
     case round =>
      obtain ⟨j, D, i0, rfl, hj, HK⟩ := hrel
      by_cases hlt : j < f4.length
      ·obtain ⟨ad, A5, c5, A6, c6, rfl, y0, y1, y2, y3, y4, m3, g3, m4, g4⟩ := at_T25 (Kd.C_below H4.out HK.out.below) (j : Int) (by omega) (by omega)
       have he : rd_T25 f4 (j : Int) = f4[j] := by simp [rd_T25, List.getD_eq_getElem?_getD, List.getElem?_eq_getElem hlt]
       rw [he] at y0 y1 y2 y3 y4 m3 g3 m4 g4
       simp only [Int.toNat_natCast] at y0 y1 y2 y3 y4
       have hq : f4[j] ∈ f4 := List.getElem_mem _
       have hfq : Fit f4[j] := by obtain ⟨_, _, _, hk⟩ := HFIT.out; exact hk _ hq
       have hsq : SizeOf.sizeOf f4[j] ≤ n := by have h1 := kid_lt (t := ⟨f0, f1, f2, f3, f4⟩) hq; have h2 := HSZ.out; omega
       have hget : f4[j] = (⟨f0, f1, f2, f3, f4⟩ : T).f4[j] := rfl
       generalize hqe : f4[j] = q at *
       have HQE := Aside0.mk hqe
       obtain ⟨q0, q1, q2, q3, q4⟩ := q
       simp only at y0 y1 y2 y3 y4 m3 g3 m4 g4
       have HFQ := Aside0.mk hfq
       have HSQ := Aside0.mk hsq
       have G3 := Aside0.mk g3
       have G4 := Aside0.mk g4
       have M3 := Aside0.mk m3
       have M4 := Aside0.mk m4
       have HWJ := Aside0.mk (wrap_succ j (by obtain ⟨_, _, ha, _⟩ := HFIT.out; simp only at ha; omega))
       clear he hq hfq hsq hqe m3 g3 m4 g4 hget
       go_wp2_with fail
       have HB1 := Aside0.mk (below_alloc (Below.refl wr.heap.size wr) (Obj.cells #[Value.int IntKind.i64 q0, Value.string q1, Value.string q2, Value.slice A5 q3.length c5, Value.slice A6 q4.length c6] 25))
       refine (IH.out ⟨q0, q1, q2, q3, q4⟩ HSQ.out HFQ.out _ A5 c5 A6 c6 (Kd.C_below G3.out HB1.out) M3.out (Kd.C_below G4.out HB1.out) M4.out).mono ?_
       rintro e w2 ⟨b, D', rfl, hm⟩
       have HM := Aside0.mk hm
       clear hm
       obtain ⟨ic, hic, hu, hun, hub, hne, hroot, hself, hd, hlt2⟩ := HK.out.ready HB1.out HM.out
       have RD := Aside0.mk (append_calls w2 (uni D D') (w.heap.size + 1) b i0 ic hu hun hub hne hroot hself)
       have RS := Aside0.mk (fun w3 => Kept.step (w3 := w3) HK.out (Nat.lt_succ_self _) hlt HB1.out (by rw [← HQE.out] at HM; exact HM.out) hic hd hlt2)
       clear hic hu hun hub hne hroot hself hd hlt2
       simp only [ptr] at RD
       go_wp2_with fail
       refine RD.out.mono ?_
       rintro e w3 ⟨rfl, hdom, ho⟩
       have HK3 := Aside0.mk (RS.out w3 hdom ho)
       clear hdom ho
       go_wp2_with fail
       go_roundw
       case rel => exact ⟨j + 1, _, _, by rw [HWJ.out], by omega, HK3⟩
       case measure => rw [HWJ.out]; simp [intOf]; omega
      ·have hje : j = f4.length := by omega
       subst hje
       go_wp2_with fail
       go_ret
       exact ⟨_, _, rfl, HK.out.done (Nat.lt_succ_self _) (by unfold flat; simp only; omega)⟩
end Go.Proofs.Ytmfjbljdbkmkgaa.Dom

/- dom.NodeName of a node of a table. -/
namespace Go.Proofs.Ytmfjbljdbkmkgaa.Dom
open Go.RowKit Go.Proofs.YtmfjbljdbkmkgaaW.PrintWords Go.Proofs.YtmfjbljdbkmkgaaW.PrintLast Go.Proofs.YtmfjbljdbkmkgaaW.PrintMore Go.Proofs.Ytmfjbljdbkmkgaa.PDom
set_option linter.unusedVariables false
set_option linter.unusedSimpArgs false

abbrev docName : ByteArray := ⟨#[35, 100, 111, 99, 117, 109, 101, 110, 116]⟩
abbrev textName : ByteArray := ⟨#[35, 116, 101, 120, 116]⟩
abbrev commentName : ByteArray := ⟨#[35, 99, 111, 109, 109, 101, 110, 116]⟩
abbrev errorName : ByteArray := ⟨#[35, 101, 114, 114, 111, 114]⟩
def nameOf (i : Info) : ByteArray := if i.ty = 0 then errorName else if i.ty = 1 then textName else if i.ty = 2 then docName else if i.ty = 4 then commentName else if i.ty = 5 then i.data else if i.ty = 3 then i.data else ⟨#[]⟩
theorem node_calls (w : World) (D : Tab) (b : Nat) (i : Info) (h : Dom w D) (hb : D b = some i) :
  Calls Try.prog 62 #[ptr (some b)] w fun e w' => e = .returned (.string (nameOf i)) ∧ w' = w := by
 obtain ⟨v, hH, _⟩ := h.has hb
 have c5 : w.cell? ⟨b, 5, none⟩ = some (.int .u32 i.ty) := hH.cell 5
 have c7 : w.cell? ⟨b, 7, none⟩ = some (.string i.data) := hH.cell 7
 unfold nameOf ptr
 clear hH h hb
 generalize i.data = d at *
 generalize i.ty = y at *
 by_cases h0 : y = 0
 ·subst h0
  go_enter Try.func62, Try.ntmps62
  go_wp2; go_ret; exact ⟨rfl, rfl⟩
 ·by_cases h1 : y = 1
  ·subst h1
   go_enter Try.func62, Try.ntmps62
   go_wp2; go_ret; exact ⟨rfl, rfl⟩
  ·by_cases h2 : y = 2
   ·subst h2
    go_enter Try.func62, Try.ntmps62
    go_wp2; go_ret; exact ⟨rfl, rfl⟩
   ·by_cases h4 : y = 4
    ·subst h4
     go_enter Try.func62, Try.ntmps62
     go_wp2; go_ret; exact ⟨rfl, rfl⟩
    ·by_cases h5 : y = 5
     ·subst h5
      go_enter Try.func62, Try.ntmps62
      go_wp2; go_ret; exact ⟨rfl, rfl⟩
     ·by_cases h3 : y = 3
      ·subst h3
       go_enter Try.func62, Try.ntmps62
       go_wp2; go_ret; exact ⟨rfl, rfl⟩
      ·have b0 : (y == 0) = false := by simp [h0]
       have b1 : (y == 1) = false := by simp [h1]
       have b2 : (y == 2) = false := by simp [h2]
       have b3 : (y == 3) = false := by simp [h3]
       have b4 : (y == 4) = false := by simp [h4]
       have b5 : (y == 5) = false := by simp [h5]
       rw [if_neg h0, if_neg h1, if_neg h2, if_neg h4, if_neg h5, if_neg h3]
       go_enter Try.func62, Try.ntmps62
       go_wp2; go_ret; exact ⟨rfl, rfl⟩
end Go.Proofs.Ytmfjbljdbkmkgaa.Dom

/- Trees of nodes, each with its block: what a table holds of one, its nodes in order, their places. Plain facts on tables. -/
namespace Go.Proofs.Ytmfjbljdbkmkgaa.Dom
open Go.RowKit Go.Proofs.YtmfjbljdbkmkgaaW.PrintWords Go.Proofs.YtmfjbljdbkmkgaaW.PrintLast Go.Proofs.YtmfjbljdbkmkgaaW.PrintMore Go.Proofs.Ytmfjbljdbkmkgaa.PDom
set_option linter.unusedVariables false
set_option linter.unusedSimpArgs false

inductive RT where
 | node (id : Nat) (ty atom : Int) (data : ByteArray) (attrs : List (ByteArray × ByteArray)) (kids : List RT) : RT
namespace RT
def id : RT → Nat | node i _ _ _ _ _ => i
def ty : RT → Int | node _ t _ _ _ _ => t
def atom : RT → Int | node _ _ a _ _ _ => a
def data : RT → ByteArray | node _ _ _ d _ _ => d
def attrs : RT → List (ByteArray × ByteArray) | node _ _ _ _ a _ => a
def kids : RT → List RT | node _ _ _ _ _ k => k
def info (p : Option Nat) : RT → Info | node _ t a d at_ ks => ⟨p, ks.map RT.id, t, a, d, at_⟩
theorem induct {P : RT → Prop} (h : ∀ i t a d at_ ks, (∀ k ∈ ks, P k) → P (node i t a d at_ ks)) : ∀ r, P r := by
 intro r
 refine RT.rec (motive_1 := P) (motive_2 := fun l => ∀ k ∈ l, P k) ?_ ?_ ?_ r
 ·intro i t a d at_ ks ih
  exact h i t a d at_ ks ih
 ·intro k hk
  cases hk
 ·intro x l hx hl k hk
  rcases List.mem_cons.1 hk with rfl | hk
  ·exact hx
  ·exact hl k hk
mutual
/-- The nodes of a tree, each ahead of those in it. -/
def pre : RT → List Nat
 | node i _ _ _ _ ks => i :: preL ks
def preL : List RT → List Nat
 | [] => []
 | k :: ks => pre k ++ preL ks
end
mutual
/-- The places of these. -/
def paths (p : List Int) : RT → List (List Int)
 | node _ _ _ _ _ ks => p :: pathsL p 0 ks
def pathsL (p : List Int) (j : Nat) : List RT → List (List Int)
 | [] => []
 | k :: ks => paths (p ++ [(j : Int)]) k ++ pathsL p (j + 1) ks
end
theorem preL_append (l m : List RT) : preL (l ++ m) = preL l ++ preL m := by
 induction l with
 | nil => rfl
 | cons k l ih => simp [preL, ih]
theorem mem_preL {x : Nat} {l : List RT} : x ∈ preL l ↔ ∃ k ∈ l, x ∈ pre k := by
 induction l with
 | nil => simp [preL]
 | cons k l ih => simp [preL, ih]
theorem id_mem (r : RT) : r.id ∈ r.pre := by cases r; simp [id, pre]
end RT

/-- The table holds the tree; its root's parent is told besides. -/
inductive Is (D : Tab) : Option Nat → RT → Prop
 | mk (p : Option Nat) (i : Nat) (t a : Int) (d : ByteArray) (at_ : List (ByteArray × ByteArray)) (ks : List RT) (h : D i = some ⟨p, ks.map RT.id, t, a, d, at_⟩) (hk : ∀ k ∈ ks, Is D (some i) k) : Is D p (.node i t a d at_ ks)
theorem Is.root {D : Tab} {p : Option Nat} {r : RT} (h : Is D p r) : D r.id = some (r.info p) := by
 cases h with
 | mk _ _ _ _ _ _ _ h _ => exact h
theorem Is.kid {D : Tab} {p : Option Nat} {r k : RT} (h : Is D p r) (hk : k ∈ r.kids) : Is D (some r.id) k := by
 cases h with
 | mk _ _ _ _ _ _ _ _ h => exact h k hk
/-- The tree as plain data. -/
inductive TellsT : T → RT → Prop
 | mk (t : T) (i : Nat) (a : Int) (ks : List RT) (ha : a = atomOf t) (hl : (kidsT t).length = ks.length) (hk : ∀ j (h1 : j < (kidsT t).length) (h2 : j < ks.length), TellsT (kidsT t)[j] ks[j]) : TellsT t (.node i (tyOf t.f0) a (dataOf t) (attrsOf t) ks)
theorem list_choose {α : Type} {n : Nat} {P : Nat → α → Prop} (h : ∀ j, j < n → ∃ a, P j a) : ∃ l : List α, l.length = n ∧ ∀ j (hj : j < l.length), P j l[j] := by
 induction n with
 | zero => exact ⟨[], rfl, fun j hj => absurd hj (Nat.not_lt_zero _)⟩
 | succ n ih =>
  obtain ⟨l, hl, hp⟩ := ih (fun j hj => h j (by omega))
  obtain ⟨a, ha⟩ := h n (by omega)
  refine ⟨l ++ [a], by simp [hl], fun j hj => ?_⟩
  by_cases hjn : j < l.length
  ·rw [List.getElem_append_left hjn]
   exact hp j hjn
  ·have : j = n := by simp at hj; omega
   subst this
   rw [List.getElem_append_right (by omega)]
   simpa [hl] using ha
theorem IsT.rt {D : Tab} (wf : WF D) {b : Nat} {t : T} (h : IsT D b t) : ∀ i, D b = some i → ∃ r : RT, r.id = b ∧ Is D i.parent r ∧ TellsT t r := by
 induction h with
 | mk b t i h hm hl hk ih =>
  intro i' hi'
  rw [h] at hi'
  obtain rfl := Option.some.inj hi'
  have key : ∀ j, j < i.kids.length → ∃ r : RT, ∃ (h1 : j < i.kids.length) (h2 : j < (kidsT t).length), r.id = i.kids[j] ∧ Is D (some b) r ∧ TellsT (kidsT t)[j] r := by
   intro j hj
   have h2 : j < (kidsT t).length := by omega
   obtain ⟨ic, hic, hp⟩ := wf.down h (List.getElem_mem hj)
   obtain ⟨r, h3, h4, h5⟩ := ih j hj h2 ic hic
   rw [hp] at h4
   exact ⟨r, hj, h2, h3, h4, h5⟩
  obtain ⟨ks, hks, hkp⟩ := list_choose key
  have hids : ks.map RT.id = i.kids := by
   apply List.ext_getElem (by simp [hks])
   intro j h1 h2
   obtain ⟨_, _, h3, _⟩ := hkp j (by simpa using h1)
   simpa using h3
  refine ⟨.node b i.ty i.atom i.data i.attrs ks, rfl, ?_, ?_⟩
  ·refine Is.mk _ _ _ _ _ _ _ ?_ ?_
   ·rw [h, hids]
   ·intro k hk'
    obtain ⟨j, hj, rfl⟩ := List.getElem_of_mem hk'
    obtain ⟨_, _, _, h4, _⟩ := hkp j hj
    exact h4
  ·rw [hm.ty, hm.data, hm.attrs]
   refine TellsT.mk t b i.atom ks hm.atom (by omega) ?_
   intro j h1 h2
   obtain ⟨_, _, _, _, h5⟩ := hkp j h2
   exact h5

/-! ### Places -/
end Go.Proofs.Ytmfjbljdbkmkgaa.Dom

/- impl.pathOf of a node of a table: the indices on the way from the root. -/
namespace Go.Proofs.Ytmfjbljdbkmkgaa.Dom
open Go.RowKit Go.Proofs.YtmfjbljdbkmkgaaW.PrintWords Go.Proofs.YtmfjbljdbkmkgaaW.PrintLast Go.Proofs.YtmfjbljdbkmkgaaW.PrintMore Go.Proofs.Ytmfjbljdbkmkgaa.PDom
set_option linter.unusedVariables false
set_option linter.unusedSimpArgs false

/-- The sibling ahead of the m-th child. -/
theorem prev_at {l : List Nat} (hnd : l.Nodup) {m : Nat} (h : m < l.length) : prevIn l l[m] = (l.take m).getLast? := by
 have e : l = l.take m ++ l[m] :: l.drop (m + 1) := by
  rw [← List.drop_eq_getElem_cons h, List.take_append_drop]
 have hnd2 : (l.take m ++ l[m] :: l.drop (m + 1)).Nodup := by rw [← e]; exact hnd
 have h2 := (nodup_split hnd2).2.1
 have h3 := prevIn_split (l1 := l.take m) (l2 := l.drop (m + 1)) (b := l[m]) h2
 rw [← e] at h3
 exact h3
theorem next_at {l : List Nat} (hnd : l.Nodup) {m : Nat} (h : m < l.length) : nextIn l l[m] = l[m + 1]? := by
 have e : l = l.take m ++ l[m] :: l.drop (m + 1) := by
  rw [← List.drop_eq_getElem_cons h, List.take_append_drop]
 have hnd2 : (l.take m ++ l[m] :: l.drop (m + 1)).Nodup := by rw [← e]; exact hnd
 have h3 := nextIn_split (l1 := l.take m) (l2 := l.drop (m + 1)) (b := l[m]) (nodup_split hnd2).1
 rw [← e] at h3
 rw [h3]
 simp [List.head?_drop]
/-- What a child's block tells of its place. -/
theorem kid_cells {w : World} {D : Tab} (h : Dom w D) {p : Nat} {ip : Info} (hp : D p = some ip) {m : Nat} (hm : m < ip.kids.length) :
  w.cell? ⟨ip.kids[m], 0, none⟩ = some (ptr (some p)) ∧ w.cell? ⟨ip.kids[m], 3, none⟩ = some (ptr (ip.kids.take m).getLast?) ∧ w.cell? ⟨ip.kids[m], 4, none⟩ = some (ptr ip.kids[m + 1]?) := by
 obtain ⟨ix, hx, hxp⟩ := h.wf.down hp (List.getElem_mem hm)
 obtain ⟨v, hv, _⟩ := h.has hx
 refine ⟨?_, ?_, ?_⟩
 ·rw [hv.cells10.1]
  show some (ptr ix.parent) = _
  rw [hxp]
 ·rw [hv.cells10.2.2.2.1]
  show some (ptr (prevIn (sibs D ix) ip.kids[m])) = _
  rw [sibs_some hxp, kidsOf_some hp, prev_at (h.wf.nodup hp) hm]
 ·rw [hv.cells10.2.2.2.2.1]
  show some (ptr (nextIn (sibs D ix) ip.kids[m])) = _
  rw [sibs_some hxp, kidsOf_some hp, next_at (h.wf.nodup hp) hm]

end Go.Proofs.Ytmfjbljdbkmkgaa.Dom

/- dom.AllNodes: the nodes of a tree, in order. -/
namespace Go.Proofs.Ytmfjbljdbkmkgaa.Dom
open Go.RowKit Go.Proofs.YtmfjbljdbkmkgaaW.PrintWords Go.Proofs.YtmfjbljdbkmkgaaW.PrintLast Go.Proofs.YtmfjbljdbkmkgaaW.PrintMore Go.Proofs.Ytmfjbljdbkmkgaa.PDom
set_option linter.unusedVariables false
set_option linter.unusedSimpArgs false

theorem ptr_some (x : Nat) : ptr (some x) = .pointer (some ⟨x, 0, none⟩) := rfl
theorem ptr_none : ptr none = .pointer none := rfl
/-- What a node's block tells of its first child; what a child's block tells of the next one. -/
theorem Is.first {w : World} {D : Tab} (h : Dom w D) {p : Option Nat} {r : RT} (hr : Is D p r) : w.cell? ⟨r.id, 1, none⟩ = some (ptr (r.kids[0]?.map RT.id)) := by
 obtain ⟨v, hv, _⟩ := h.has hr.root
 rw [hv.cells10.2.1]
 show some (ptr ((r.info p).kids.head?)) = _
 cases r with
 | node i t a d at_ ks =>
  show some (ptr ((ks.map RT.id).head?)) = some (ptr (ks[0]?.map RT.id))
  cases ks <;> rfl
theorem Is.next {w : World} {D : Tab} (h : Dom w D) {p : Option Nat} {r : RT} (hr : Is D p r) {j : Nat} (hj : j < r.kids.length) : w.cell? ⟨r.kids[j].id, 4, none⟩ = some (ptr (r.kids[j + 1]?.map RT.id)) := by
 have hi := hr.root
 have hk : (r.info p).kids = r.kids.map RT.id := by cases r; rfl
 have hl : j < (r.info p).kids.length := by rw [hk, List.length_map]; exact hj
 have h1 := (kid_cells h hi hl).2.2
 simpa only [hk, List.getElem_map, List.getElem?_map] using h1
end Go.Proofs.Ytmfjbljdbkmkgaa.Dom

/- dom's first children and siblings, of all nodes and of elements alone. Printed by the program gen_sib.py of this session. -/
namespace Go.Proofs.Ytmfjbljdbkmkgaa.Dom
open Go.RowKit Go.Proofs.YtmfjbljdbkmkgaaW.PrintWords Go.Proofs.YtmfjbljdbkmkgaaW.PrintLast Go.Proofs.YtmfjbljdbkmkgaaW.PrintMore Go.Proofs.Ytmfjbljdbkmkgaa.PDom
set_option linter.unusedVariables false
set_option linter.unusedSimpArgs false

def tyAt (D : Tab) (c : Nat) : Int := match D c with
 | some i => i.ty
 | none => 0
theorem ty_cell {w : World} {D : Tab} (h : Dom w D) {c : Nat} {i : Info} (hc : D c = some i) : w.cell? ⟨c, 5, none⟩ = some (.int .u32 (tyAt D c)) := by
 obtain ⟨v, hv, _⟩ := h.has hc
 have e : tyAt D c = i.ty := by unfold tyAt; rw [hc]
 rw [e]
 exact hv.cells10.2.2.2.2.2.1
end Go.Proofs.Ytmfjbljdbkmkgaa.Dom

/- dom.UNSTABLE_initGetNeighbor's function: the first child, or the next one beside, or the next one beside an ancestor. -/
namespace Go.Proofs.Ytmfjbljdbkmkgaa.Dom
open Go.RowKit Go.Proofs.YtmfjbljdbkmkgaaW.PrintWords Go.Proofs.YtmfjbljdbkmkgaaW.PrintLast Go.Proofs.YtmfjbljdbkmkgaaW.PrintMore Go.Proofs.Ytmfjbljdbkmkgaa.PDom
set_option linter.unusedVariables false
set_option linter.unusedSimpArgs false

def TellsB (w : World) (D : Tab) (f : Nat) (cs : Array Value) (g : Nat → Bool) : Prop := ∀ x, D x ≠ none → Calls Try.prog f (#[ptr (some x)] ++ cs) w fun e w' => e = .returned (.bool (g x)) ∧ w' = w
end Go.Proofs.Ytmfjbljdbkmkgaa.Dom

/- The neighbours of a tree's nodes follow its order. Plain facts on tables. -/
namespace Go.Proofs.Ytmfjbljdbkmkgaa.Dom
open Go.RowKit Go.Proofs.YtmfjbljdbkmkgaaW.PrintWords Go.Proofs.YtmfjbljdbkmkgaaW.PrintLast Go.Proofs.YtmfjbljdbkmkgaaW.PrintMore Go.Proofs.Ytmfjbljdbkmkgaa.PDom
set_option linter.unusedVariables false
set_option linter.unusedSimpArgs false

/-- What first and next tell of the nodes of the table. -/
structure Nav (D : Tab) (first next : Nat → Option Nat) (s : Nat → Bool) : Prop where
 first : ∀ p i t a d at_ ks, Is D p (.node i t a d at_ ks) → first i = (ks.map RT.id).find? s
 next : ∀ p i t a d at_ l1 k l2, Is D p (.node i t a d at_ (l1 ++ k :: l2)) → next k.id = (l2.map RT.id).find? s
section
variable {D : Tab} {first next : Nat → Option Nat} {s : Nat → Bool} {until_ : Nat → Bool}
end
end Go.Proofs.Ytmfjbljdbkmkgaa.Dom

/- impl.at: the node at a place. -/
namespace Go.Proofs.Ytmfjbljdbkmkgaa.Dom
open Go.RowKit Go.Proofs.YtmfjbljdbkmkgaaW.PrintWords Go.Proofs.YtmfjbljdbkmkgaaW.PrintLast Go.Proofs.YtmfjbljdbkmkgaaW.PrintMore Go.Proofs.Ytmfjbljdbkmkgaa.PDom
set_option linter.unusedVariables false
set_option linter.unusedSimpArgs false

/-- The node at a place. -/
def RT.at_ : RT → List Int → Option RT
 | r, [] => some r
 | r, k :: l => if 0 ≤ k then (r.kids[k.toNat]?).bind fun y => RT.at_ y l else none
theorem RT.preL_len (l : List RT) : l.length ≤ (RT.preL l).length ∧ ∀ k ∈ l, k.pre.length ≤ (RT.preL l).length := by
 induction l with
 | nil => exact ⟨Nat.le_refl _, fun k hk => by cases hk⟩
 | cons x l ih =>
  have hx : 0 < x.pre.length := by cases x; simp [RT.pre]
  simp only [RT.preL, List.length_append, List.length_cons]
  refine ⟨by omega, fun k hk => ?_⟩
  rcases List.mem_cons.1 hk with rfl | hk
  ·omega
  ·have := ih.2 k hk
   omega
theorem RT.kids_lt (r : RT) : r.kids.length < r.pre.length := by
 cases r with
 | node i t a d at_ ks =>
  have := (RT.preL_len ks).1
  simp only [RT.kids, RT.pre, List.length_cons]
  omega
theorem RT.kid_pre {r k : RT} (h : k ∈ r.kids) : k.pre.length < r.pre.length := by
 cases r with
 | node i t a d at_ ks =>
  have := (RT.preL_len ks).2 k h
  simp only [RT.pre, List.length_cons]
  omega
end Go.Proofs.Ytmfjbljdbkmkgaa.Dom

/- A table holds one tree at a node; no node of a tree is met twice. Plain facts. -/
namespace Go.Proofs.Ytmfjbljdbkmkgaa.Dom
open Go.RowKit Go.Proofs.YtmfjbljdbkmkgaaW.PrintWords Go.Proofs.YtmfjbljdbkmkgaaW.PrintLast Go.Proofs.YtmfjbljdbkmkgaaW.PrintMore Go.Proofs.Ytmfjbljdbkmkgaa.PDom
set_option linter.unusedVariables false
set_option linter.unusedSimpArgs false

theorem Is.inj {D : Tab} (r : RT) : ∀ {p q : Option Nat} {y : RT}, Is D p r → Is D q y → r.id = y.id → r = y := by
 induction r using RT.induct with
 | h i t a d at_ ks ih =>
  intro p q y hr hy e
  cases y with
  | node i2 t2 a2 d2 at2 ks2 =>
   have e : i = i2 := e
   subst e
   have h1 : D i = some ⟨p, ks.map RT.id, t, a, d, at_⟩ := hr.root
   have h2 : D i = some ⟨q, ks2.map RT.id, t2, a2, d2, at2⟩ := hy.root
   rw [h1] at h2
   injection h2 with h2
   injection h2 with _ h3 h4 h5 h6 h7
   subst h4 h5 h6 h7
   have hl : ks.length = ks2.length := by
    have := congrArg List.length h3
    simpa using this
   have : ks = ks2 := by
    apply List.ext_getElem hl
    intro j hj1 hj2
    refine ih _ (List.getElem_mem hj1) (hr.kid (List.getElem_mem hj1)) (hy.kid (List.getElem_mem hj2)) ?_
    have h8 : (ks.map RT.id)[j]'(by simpa using hj1) = (ks2.map RT.id)[j]'(by simpa using hj2) := by simp only [h3]
    simpa using h8
   rw [this]
theorem Is.sub {D : Tab} (r : RT) : ∀ {p : Option Nat} {x : Nat}, Is D p r → x ∈ r.pre → ∃ q y, Is D q y ∧ y.id = x ∧ y.pre.length ≤ r.pre.length ∧ (x = r.id ∨ ∃ z, q = some z ∧ z ∈ r.pre) := by
 induction r using RT.induct with
 | h i t a d at_ ks ih =>
  intro p x hr hx
  have hx2 : x = i ∨ x ∈ RT.preL ks := by simpa [RT.pre] using hx
  rcases hx2 with rfl | hx2
  ·exact ⟨p, _, hr, rfl, Nat.le_refl _, .inl rfl⟩
  ·obtain ⟨k, hk, hxk⟩ := RT.mem_preL.1 hx2
   obtain ⟨q, y, h1, h2, h3, h4⟩ := ih k hk (hr.kid hk) hxk
   have h5 : k.pre.length < (RT.node i t a d at_ ks).pre.length := RT.kid_pre (r := .node i t a d at_ ks) hk
   rcases h4 with h4 | ⟨z, rfl, hz⟩
   ·have hyk : y = k := (Is.inj k (hr.kid hk) h1 (by rw [h2, h4])).symm
    subst hyk
    exact ⟨some i, y, hr.kid hk, h2, by omega, .inr ⟨i, rfl, by simp [RT.pre]⟩⟩
   ·exact ⟨some z, y, h1, h2, by omega, .inr ⟨z, rfl, by simp only [RT.pre, List.mem_cons]; exact .inr (RT.mem_preL.2 ⟨k, hk, hz⟩)⟩⟩
/-- A node isn't met again below itself. -/
theorem Is.proper {D : Tab} {p : Option Nat} {r k : RT} {x : Nat} (h : Is D p r) (hk : k ∈ r.kids) (hx : x ∈ k.pre) : x ≠ r.id := by
 intro e
 obtain ⟨q, y, h1, h2, h3, _⟩ := Is.sub k (h.kid hk) hx
 have hy : r = y := Is.inj r h h1 (by rw [h2, e])
 have h4 := RT.kid_pre hk
 rw [hy] at h4
 omega
theorem Is.parent_of {D : Tab} {q : Option Nat} {y : RT} (h : Is D q y) {i : Info} (hi : D y.id = some i) : i.parent = q := by
 have := h.root
 rw [hi] at this
 obtain rfl := Option.some.inj this
 cases y
 rfl
/-- The children's trees have no node in common. -/
theorem Is.apart {D : Tab} {p : Option Nat} {r : RT} (wf : WF D) (h : Is D p r) : ∀ (n : Nat) {k1 k2 : RT} {x : Nat}, k1 ∈ r.kids → k2 ∈ r.kids → x ∈ k1.pre → x ∈ k2.pre → k1.pre.length ≤ n → k1.id = k2.id := by
 intro n
 -- the way up from x meets a child of r in each case
 have key : ∀ (m : Nat) (k1 : RT), k1 ∈ r.kids → ∀ (q : Option Nat) (y : RT), Is D q y → y.id ∈ k1.pre → ∀ (k2 : RT), k2 ∈ r.kids → y.id ∈ k2.pre → k1.pre.length - y.pre.length ≤ m → k1.id = k2.id := by
  intro m
  induction m with
  | zero =>
   intro k1 hk1 q y hy h1 k2 hk2 h2 hm
   obtain ⟨q1, y1, a1, a2, a3, a4⟩ := Is.sub k1 (h.kid hk1) h1
   have e1 : y1 = y := Is.inj y1 a1 hy a2
   subst e1
   rcases a4 with a4 | ⟨z, rfl, hz⟩
   ·obtain ⟨q2, y2, b1, b2, b3, b4⟩ := Is.sub k2 (h.kid hk2) h2
    rcases b4 with b4 | ⟨z, rfl, hz⟩
    ·rw [← a4, ← b4]
    ·have e2 : y2 = y1 := Is.inj y2 b1 hy b2
     subst e2
     have e3 : k1 = y2 := Is.inj k1 (h.kid hk1) hy (by rw [a4])
     subst e3
     have e4 := Is.parent_of b1 (h.kid hk1).root
     have e5 := Is.parent_of (h.kid hk1) (h.kid hk1).root
     rw [e4] at e5
     have e6 : z = r.id := Option.some.inj e5
     exact absurd e6 (h.proper hk2 hz)
   ·exfalso
    obtain ⟨q3, y3, c1, c2, c3, _⟩ := Is.sub k1 (h.kid hk1) hz
    have hyk : y1.id ∈ (y3.info q3).kids := by
     obtain ⟨ip, d1, d2⟩ := wf.up a1.root (show (y1.info (some z)).parent = some z by cases y1; rfl)
     have := c1.root
     rw [c2, d1] at this
     obtain rfl := Option.some.inj this
     exact d2
    have e7 : (y3.info q3).kids = y3.kids.map RT.id := by cases y3; rfl
    rw [e7] at hyk
    obtain ⟨y4, d3, d4⟩ := List.mem_map.1 hyk
    have e8 : y4 = y1 := Is.inj y4 (c1.kid d3) a1 d4
    subst e8
    have := RT.kid_pre d3
    omega
  | succ m ih =>
   intro k1 hk1 q y hy h1 k2 hk2 h2 hm
   obtain ⟨q1, y1, a1, a2, a3, a4⟩ := Is.sub k1 (h.kid hk1) h1
   have e1 : y1 = y := Is.inj y1 a1 hy a2
   subst e1
   obtain ⟨q2, y2, b1, b2, b3, b4⟩ := Is.sub k2 (h.kid hk2) h2
   have e2 : y2 = y1 := Is.inj y2 b1 hy b2
   subst e2
   have hq : q1 = q2 := (Is.parent_of a1 a1.root).symm.trans (Is.parent_of b1 a1.root)
   subst hq
   rcases a4 with a4 | ⟨z, rfl, hz⟩
   ·rcases b4 with b4 | ⟨z, rfl, hz⟩
    ·rw [← a4, ← b4]
    ·have e3 : k1 = y2 := Is.inj k1 (h.kid hk1) hy (by rw [a4])
     subst e3
     have e5 := Is.parent_of (h.kid hk1) (h.kid hk1).root
     rw [Is.parent_of a1 (h.kid hk1).root] at e5
     have e6 : z = r.id := Option.some.inj e5
     exact absurd e6 (h.proper hk2 hz)
   ·rcases b4 with b4 | ⟨z2, hz2, hz3⟩
    ·have e3 : k2 = y2 := Is.inj k2 (h.kid hk2) hy (by rw [b4])
     subst e3
     have e5 := Is.parent_of (h.kid hk2) (h.kid hk2).root
     rw [Is.parent_of a1 (h.kid hk2).root] at e5
     have e6 : z = r.id := Option.some.inj e5
     exact absurd e6 (h.proper hk1 hz)
    ·have e9 : z = z2 := Option.some.inj hz2
     subst e9
     obtain ⟨q3, y3, c1, c2, c3, _⟩ := Is.sub k1 (h.kid hk1) hz
     have hyk : y2.id ∈ (y3.info q3).kids := by
      obtain ⟨ip, d1, d2⟩ := wf.up a1.root (show (y2.info (some z)).parent = some z by cases y2; rfl)
      have := c1.root
      rw [c2, d1] at this
      obtain rfl := Option.some.inj this
      exact d2
     have e7 : (y3.info q3).kids = y3.kids.map RT.id := by cases y3; rfl
     rw [e7] at hyk
     obtain ⟨y4, d3, d4⟩ := List.mem_map.1 hyk
     have e8 : y4 = y2 := Is.inj y4 (c1.kid d3) a1 d4
     subst e8
     have hlt := RT.kid_pre d3
     exact ih k1 hk1 q3 y3 c1 (by rw [c2]; exact hz) k2 hk2 (by rw [c2]; exact hz3) (by omega)
 intro k1 k2 x hk1 hk2 h1 h2 _
 obtain ⟨q, y, a1, a2, _, _⟩ := Is.sub k1 (h.kid hk1) h1
 exact key k1.pre.length k1 hk1 q y a1 (by rw [a2]; exact h1) k2 hk2 (by rw [a2]; exact h2) (by omega)
theorem Is.nodup {D : Tab} (wf : WF D) (r : RT) : ∀ {p : Option Nat}, Is D p r → r.pre.Nodup := by
 induction r using RT.induct with
 | h i t a d at_ ks ih =>
  intro p hr
  have hkn : (ks.map RT.id).Nodup := wf.nodup hr.root
  show (i :: RT.preL ks).Nodup
  rw [List.nodup_cons]
  refine ⟨fun hi => ?_, ?_⟩
  ·obtain ⟨k, hk, hx⟩ := RT.mem_preL.1 hi
   exact hr.proper (r := .node i t a d at_ ks) hk hx rfl
  ·have key : ∀ (l l1 : List RT), ks = l1 ++ l → (RT.preL l).Nodup := by
    intro l
    induction l with
    | nil => exact fun _ _ => List.nodup_nil
    | cons k l ihl =>
     intro l1 e
     have hk : k ∈ ks := by rw [e]; simp
     have h1 := ihl (l1 ++ [k]) (by rw [e]; simp)
     have h2 := ih k hk (hr.kid (r := .node i t a d at_ ks) hk)
     simp only [RT.preL]
     rw [List.nodup_append]
     refine ⟨h2, h1, fun x hx y hy exy => ?_⟩
     subst exy
     obtain ⟨k2, hk2, hx2⟩ := RT.mem_preL.1 hy
     have hk2' : k2 ∈ ks := by rw [e]; simp [hk2]
     have e3 := Is.apart wf hr (r := .node i t a d at_ ks) k.pre.length hk hk2' hx hx2 (Nat.le_refl _)
     rw [e, List.map_append, List.map_cons, List.nodup_append] at hkn
     have h4 := (List.nodup_cons.1 hkn.2.1).1
     exact h4 (by rw [e3]; exact List.mem_map_of_mem hk2)
   exact key ks [] rfl
end Go.Proofs.Ytmfjbljdbkmkgaa.Dom

/- A node taken out of its parent, and a node put in: what a list of stores into nodes makes of a table. Plain facts. -/
namespace Go.Proofs.Ytmfjbljdbkmkgaa.Dom
open Go.RowKit Go.Proofs.YtmfjbljdbkmkgaaW.PrintWords Go.Proofs.YtmfjbljdbkmkgaaW.PrintLast Go.Proofs.YtmfjbljdbkmkgaaW.PrintMore
set_option linter.unusedVariables false
set_option linter.unusedSimpArgs false

/-! ### A list of stores -/
def updR (r : Rec) (k : Nat) (p : Option Nat) : Rec :=
 if k = 0 then { r with parent := p } else if k = 1 then { r with first := p } else if k = 2 then { r with last := p } else if k = 3 then { r with prev := p } else { r with next := p }
abbrev Stores := List (Nat × Nat × Option Nat)
def stAll (w : World) : Stores → World
 | [] => w
 | s :: l => stAll (st w s.1 s.2.1 s.2.2) l
def updAll (r : Rec) (b : Nat) : Stores → Rec
 | [] => r
 | s :: l => updAll (if s.1 = b then updR r s.2.1 s.2.2 else r) b l
theorem Has.upd {w : World} {b : Nat} {r : Rec} (h : Has w b r) (k : Nat) (hk : k < 5) (p : Option Nat) : Has (Dom.st w b k p) b (updR r k p) := by
 rcases k with _ | _ | _ | _ | _ | k
 ·exact h.put0 p
 ·exact h.put1 p
 ·exact h.put2 p
 ·exact h.put3 p
 ·exact h.put4 p
 ·omega
theorem Has.stored {b : Nat} (l : Stores) : ∀ {w : World} {r : Rec}, Has w b r → (∀ s ∈ l, s.2.1 < 5) → Has (stAll w l) b (updAll r b l) := by
 induction l with
 | nil => exact fun h _ => h
 | cons s l ih =>
  intro w r h hl
  obtain ⟨x, k, p⟩ := s
  show Has (stAll (Dom.st w x k p) l) b (updAll (if x = b then updR r k p else r) b l)
  refine ih ?_ (fun s hs => hl s (List.mem_cons_of_mem _ hs))
  by_cases hb : x = b
  ·subst hb
   rw [if_pos rfl]
   exact h.upd k (hl _ List.mem_cons_self) p
  ·rw [if_neg hb]
   exact h.st (fun e => hb e.symm) k p
theorem AttrAt.stored {v : Value} {a : List (ByteArray × ByteArray)} (l : Stores) : ∀ {w : World}, AttrAt w v a → (∀ s ∈ l, s.2.1 < 5 ∧ ∃ r, Has w s.1 r) → AttrAt (stAll w l) v a := by
 induction l with
 | nil => exact fun h _ => h
 | cons s l ih =>
  intro w h hl
  obtain ⟨x, k, p⟩ := s
  obtain ⟨hk, r, hr⟩ := hl _ List.mem_cons_self
  refine ih (h.st hr k p) (fun s hs => ?_)
  obtain ⟨hk2, r2, hr2⟩ := hl s (List.mem_cons_of_mem _ hs)
  refine ⟨hk2, ?_⟩
  by_cases hx : s.1 = x
  ·rw [hx] at hr2 ⊢
   exact ⟨_, hr2.upd k hk p⟩
  ·exact ⟨_, hr2.st hx k p⟩
theorem Only.stored {D : Tab} {w0 : World} (l : Stores) : ∀ {w : World}, Only D w0 w → (∀ s ∈ l, D s.1 ≠ none) → Only D w0 (stAll w l) := by
 induction l with
 | nil => exact fun h _ => h
 | cons s l ih =>
  intro w h hl
  exact ih (h.st (hl s List.mem_cons_self) _ _) (fun s hs => hl s (List.mem_cons_of_mem _ hs))
theorem Dom.stored {w : World} {D D' : Tab} (h : Dom w D) (l : Stores) (hl : ∀ s ∈ l, D s.1 ≠ none ∧ s.2.1 < 5) (wf : WF D')
  (hd : ∀ b i', D' b = some i' → ∃ i, D b = some i ∧ i'.attrs = i.attrs ∧ ∀ v, updAll (recOf D b i v) b l = recOf D' b i' v) : Dom (stAll w l) D' := by
 refine ⟨wf, fun {b i'} hb => ?_⟩
 obtain ⟨i, hi, ha, hr⟩ := hd b i' hb
 obtain ⟨v, hv, hA⟩ := h.has hi
 refine ⟨v, ?_, ?_⟩
 ·rw [← hr v]
  exact hv.stored l (fun s hs => (hl s hs).2)
 ·rw [ha]
  refine hA.stored l (fun s hs => ⟨(hl s hs).2, ?_⟩)
  cases hx : D s.1 with
  | none => exact absurd hx (hl s hs).1
  | some ix =>
   obtain ⟨vx, hvx, _⟩ := h.has hx
   exact ⟨_, hvx⟩

/-! ### Neighbours, where a list is in two parts -/
theorem next_l1 {m1 m2 r : List Nat} {b : Nat} (h : b ∉ m1) : nextIn ((m1 ++ b :: m2) ++ r) b = (m2 ++ r).head? := by
 rw [List.append_assoc, List.cons_append, nextIn_split h]
theorem prev_l1 {m1 m2 r : List Nat} {b : Nat} (h2 : b ∉ m2) (h3 : b ∉ r) : prevIn ((m1 ++ b :: m2) ++ r) b = m1.getLast? := by
 rw [List.append_assoc, List.cons_append, prevIn_split (by simp [h2, h3])]
theorem next_l2 {m1 m2 r : List Nat} {b : Nat} (h : b ∉ m1) (h2 : b ∉ r) : nextIn (r ++ (m1 ++ b :: m2)) b = m2.head? := by
 rw [← List.append_assoc, nextIn_split (by simp [h, h2])]
theorem prev_l2 {m1 m2 r : List Nat} {b : Nat} (h2 : b ∉ m2) : prevIn (r ++ (m1 ++ b :: m2)) b = (r ++ m1).getLast? := by
 rw [← List.append_assoc, prevIn_split h2]

theorem gl2 (c : Nat) (m : List Nat) (y : Nat) : (c :: (m ++ [y])).getLast? = some y := by rw [← List.cons_append, List.getLast?_append]; rfl
theorem gl3 (l : List Nat) (y : Nat) : (l ++ [y]).getLast? = some y := by simp
/-! ### What changes: the children of n, the parent of c -/
def relink (D : Tab) (n c : Nat) (i ic : Info) (K : List Nat) (pc : Option Nat) : Tab := put (put D n { i with kids := K }) c { ic with parent := pc }
section
variable {D : Tab} {n c : Nat} {i ic : Info} {K : List Nat} {pc : Option Nat}
theorem relink_n (hne : n ≠ c) : relink D n c i ic K pc n = some { i with kids := K } := by unfold relink; rw [put_other _ _ hne, put_same]
theorem relink_c : relink D n c i ic K pc c = some { ic with parent := pc } := put_same _ _ _
theorem relink_o {b : Nat} (h1 : b ≠ n) (h2 : b ≠ c) : relink D n c i ic K pc b = D b := by unfold relink; rw [put_other _ _ h2, put_other _ _ h1]
theorem relink_kids (hne : n ≠ c) (hc : D c = some ic) (p : Nat) : kidsOf (relink D n c i ic K pc) p = if p = n then K else kidsOf D p := by
 unfold relink
 rw [kidsOf_put, kidsOf_put]
 by_cases hp : p = c
 ·subst hp
  rw [if_pos rfl, if_neg (fun e => hne e.symm), kidsOf_some hc]
 ·rw [if_neg hp]
theorem relink_sibs (hne : n ≠ c) (hc : D c = some ic) {j : Info} (hj : j.parent ≠ some n) : sibs (relink D n c i ic K pc) j = sibs D j := by
 unfold sibs
 cases hp : j.parent with
 | none => rfl
 | some p =>
  simp only [hp]
  rw [relink_kids hne hc, if_neg (fun e => hj (by rw [hp, e]))]
end

/-! ### Taken out -/
def rmStores (n c : Nat) (l1 l2 : List Nat) : Stores :=
 (if l1 = [] then [(n, 1, l2.head?)] else []) ++ ((match l2.head? with | some y => [(y, 3, l1.getLast?)] | none => []) ++ ((if l2 = [] then [(n, 2, l1.getLast?)] else []) ++ ((match l1.getLast? with | some x => [(x, 4, l2.head?)] | none => []) ++ [(c, 0, none), (c, 3, none), (c, 4, none)])))
theorem updAll_append (r : Rec) (b : Nat) (l m : Stores) : updAll r b (l ++ m) = updAll (updAll r b l) b m := by
 induction l generalizing r with
 | nil => rfl
 | cons s l ih => exact ih _
theorem rm_upd (r : Rec) (b n c : Nat) (l1 l2 : List Nat) : updAll r b (rmStores n c l1 l2) =
  { r with
   parent := if c = b then none else r.parent
   first := if n = b ∧ l1 = [] then l2.head? else r.first
   last := if n = b ∧ l2 = [] then l1.getLast? else r.last
   prev := if c = b then none else if l2.head? = some b then l1.getLast? else r.prev
   next := if c = b then none else if l1.getLast? = some b then l2.head? else r.next } := by
 have h1 : ∀ r : Rec, updAll r b (if l1 = [] then [(n, 1, l2.head?)] else []) = { r with first := if n = b ∧ l1 = [] then l2.head? else r.first } := by
  intro r
  by_cases hl : l1 = []
  ·rw [if_pos hl]
   by_cases hn : n = b <;> simp [updAll, updR, hn, hl]
  ·rw [if_neg hl]
   simp [updAll, hl]
 have h2 : ∀ r : Rec, updAll r b (match l2.head? with | some y => [(y, 3, l1.getLast?)] | none => []) = { r with prev := if l2.head? = some b then l1.getLast? else r.prev } := by
  intro r
  cases l2.head? with
  | none => simp [updAll]
  | some y => by_cases hn : y = b <;> simp [updAll, updR, hn]
 have h3 : ∀ r : Rec, updAll r b (if l2 = [] then [(n, 2, l1.getLast?)] else []) = { r with last := if n = b ∧ l2 = [] then l1.getLast? else r.last } := by
  intro r
  by_cases hl : l2 = []
  ·rw [if_pos hl]
   by_cases hn : n = b <;> simp [updAll, updR, hn, hl]
  ·rw [if_neg hl]
   simp [updAll, hl]
 have h4 : ∀ r : Rec, updAll r b (match l1.getLast? with | some x => [(x, 4, l2.head?)] | none => []) = { r with next := if l1.getLast? = some b then l2.head? else r.next } := by
  intro r
  cases l1.getLast? with
  | none => simp [updAll]
  | some y => by_cases hn : y = b <;> simp [updAll, updR, hn]
 have h5 : ∀ r : Rec, updAll r b [(c, 0, none), (c, 3, none), (c, 4, none)] = { r with parent := if c = b then none else r.parent, prev := if c = b then none else r.prev, next := if c = b then none else r.next } := by
  intro r
  by_cases hn : c = b <;> simp [updAll, updR, hn]
 unfold rmStores
 rw [updAll_append, updAll_append, updAll_append, updAll_append, h1, h2, h3, h4, h5]
theorem Dom.no_loop {w : World} {D : Tab} (h : Dom w D) {n : Nat} {i : Info} (hn : D n = some i) (hself : i.parent ≠ some n) : n ∉ i.kids := fun hm => by
 have := h.kid_parent hn hn hm
 exact hself this
/-- RemoveChild, as stores. -/
theorem Dom.remove {w : World} {D : Tab} (h : Dom w D) {n c : Nat} {i ic : Info} {l1 l2 : List Nat} (hn : D n = some i) (hc : D c = some ic) (hK : i.kids = l1 ++ c :: l2) (hself : i.parent ≠ some n) :
  Dom (stAll w (rmStores n c l1 l2)) (relink D n c i ic (l1 ++ l2) none) ∧ Only D w (stAll w (rmStores n c l1 l2)) := by
 have hcm : c ∈ i.kids := by rw [hK]; simp
 have hpc : ic.parent = some n := h.kid_parent hn hc hcm
 have hne : n ≠ c := fun e => h.no_loop hn hself (by rw [e]; rw [← e] at hcm ⊢; exact hcm)
 have hnd0 := h.wf.nodup hn
 rw [hK] at hnd0
 obtain ⟨d1, d2, d3⟩ := nodup_split hnd0
 have in1 : ∀ x ∈ l1, x ∈ i.kids := fun x hx => by rw [hK]; simp [hx]
 have in2 : ∀ x ∈ l2, x ∈ i.kids := fun x hx => by rw [hK]; simp [hx]
 have kd : ∀ x ∈ i.kids, D x ≠ none := fun x hx => by
  obtain ⟨ix, h1, _⟩ := h.wf.down hn hx
  rw [h1]; simp
 have hl : ∀ s ∈ rmStores n c l1 l2, D s.1 ≠ none ∧ s.2.1 < 5 := by
  intro s hs
  unfold rmStores at hs
  rcases List.mem_append.1 hs with hs | hs
  ·split at hs
   ·obtain rfl := List.mem_singleton.1 hs
    exact ⟨by rw [hn]; simp, by simp⟩
   ·cases hs
  rcases List.mem_append.1 hs with hs | hs
  ·split at hs
   ·rename_i y hy
    obtain rfl := List.mem_singleton.1 hs
    exact ⟨kd _ (in2 _ (List.mem_of_mem_head? hy)), by simp⟩
   ·cases hs
  rcases List.mem_append.1 hs with hs | hs
  ·split at hs
   ·obtain rfl := List.mem_singleton.1 hs
    exact ⟨by rw [hn]; simp, by simp⟩
   ·cases hs
  rcases List.mem_append.1 hs with hs | hs
  ·split at hs
   ·rename_i y hy
    obtain rfl := List.mem_singleton.1 hs
    exact ⟨kd _ (in1 _ (List.mem_of_getLast? hy)), by simp⟩
   ·cases hs
  ·simp only [List.mem_cons, List.not_mem_nil, or_false] at hs
   rcases hs with rfl | rfl | rfl <;> exact ⟨by rw [hc]; simp, by simp⟩
 refine ⟨h.stored _ hl ?_ ?_, (Only.refl D w).stored _ (fun s hs => (hl s hs).1)⟩
 ·refine ⟨?_, ?_, ?_⟩
  ·intro b j p hb hp
   have hbc : b ≠ c := fun e => by
    subst e
    rw [relink_c] at hb
    obtain rfl := Option.some.inj hb
    cases hp
   have key : ∃ j0, D b = some j0 ∧ j0.parent = some p := by
    by_cases hbn : b = n
    ·subst hbn
     rw [relink_n hne] at hb
     obtain rfl := Option.some.inj hb
     exact ⟨i, hn, hp⟩
    ·rw [relink_o hbn hbc] at hb
     exact ⟨j, hb, hp⟩
   obtain ⟨j0, h0, hp0⟩ := key
   obtain ⟨ip, hip, hm⟩ := h.wf.up h0 hp0
   by_cases hpn : p = n
   ·subst hpn
    rw [hn] at hip
    obtain rfl := Option.some.inj hip
    rw [hK] at hm
    exact ⟨_, relink_n hne, by simp at hm ⊢; rcases hm with h1 | h1 | h1; exact .inl h1; exact absurd h1 hbc; exact .inr h1⟩
   ·by_cases hpc2 : p = c
    ·subst hpc2
     rw [hc] at hip
     obtain rfl := Option.some.inj hip
     exact ⟨_, relink_c, hm⟩
    ·exact ⟨ip, by rw [relink_o hpn hpc2]; exact hip, hm⟩
  ·intro b j x hb hx
   have key : ∃ j0, D b = some j0 ∧ x ∈ j0.kids ∧ (b = n → x ≠ c) := by
    by_cases hbn : b = n
    ·subst hbn
     rw [relink_n hne] at hb
     obtain rfl := Option.some.inj hb
     have hx' : x ∈ l1 ++ l2 := hx
     refine ⟨i, hn, by rw [hK]; simp at hx' ⊢; rcases hx' with h1 | h1; exact .inl h1; exact .inr (.inr h1), fun _ e => ?_⟩
     subst e
     rcases List.mem_append.1 hx' with h1 | h1
     ·exact d1 h1
     ·exact d2 h1
    ·by_cases hbc : b = c
     ·subst hbc
      rw [relink_c] at hb
      obtain rfl := Option.some.inj hb
      exact ⟨ic, hc, hx, fun e => absurd e hbn⟩
     ·rw [relink_o hbn hbc] at hb
      exact ⟨j, hb, hx, fun e => absurd e hbn⟩
   obtain ⟨j0, h0, hx0, hxc0⟩ := key
   obtain ⟨ix, hix, hpx⟩ := h.wf.down h0 hx0
   have hxc : x ≠ c := fun e => by
    subst e
    rw [hc] at hix
    obtain rfl := Option.some.inj hix
    rw [hpc] at hpx
    exact hxc0 (Option.some.inj hpx).symm rfl
   by_cases hxn : x = n
   ·subst hxn
    rw [hn] at hix
    obtain rfl := Option.some.inj hix
    exact ⟨_, relink_n hne, hpx⟩
   ·exact ⟨ix, by rw [relink_o hxn hxc]; exact hix, hpx⟩
  ·intro b j hb
   by_cases hbn : b = n
   ·subst hbn
    rw [relink_n hne] at hb
    obtain rfl := Option.some.inj hb
    exact d3
   ·by_cases hbc : b = c
    ·subst hbc
     rw [relink_c] at hb
     obtain rfl := Option.some.inj hb
     show ic.kids.Nodup
     exact h.wf.nodup hc
    ·rw [relink_o hbn hbc] at hb
     exact h.wf.nodup hb
 ·intro b j hb
  have hnl : n ∉ i.kids := h.no_loop hn hself
  by_cases hbn : b = n
  ·subst hbn
   rw [relink_n hne] at hb
   obtain rfl := Option.some.inj hb
   refine ⟨i, hn, rfl, fun v => ?_⟩
   rw [rm_upd]
   have e1 : l2.head? ≠ some b := fun e => hnl (in2 _ (List.mem_of_mem_head? e))
   have e2 : l1.getLast? ≠ some b := fun e => hnl (in1 _ (List.mem_of_getLast? e))
   have e3 : c ≠ b := fun e => hne e.symm
   unfold recOf
   rw [relink_sibs (j := { i with kids := l1 ++ l2 }) hne hc hself]
   simp only [if_neg e1, if_neg e2, if_neg e3, true_and, hK]
   congr 1
   ·cases l1 <;> simp
   ·rcases List.eq_nil_or_concat l2 with rfl | ⟨m, y, rfl⟩
    ·simp
    ·simp [gl2]
  ·by_cases hbc : b = c
   ·subst hbc
    rw [relink_c] at hb
    obtain rfl := Option.some.inj hb
    refine ⟨ic, hc, rfl, fun v => ?_⟩
    rw [rm_upd]
    have e3 : ¬ n = b := hne
    unfold recOf
    rw [sibs_none (i := { ic with parent := none }) rfl]
    simp only [if_true, e3, false_and, if_false]
    rfl
   ·rw [relink_o hbn hbc] at hb
    refine ⟨j, hb, rfl, fun v => ?_⟩
    rw [rm_upd]
    have e3 : ¬ n = b := fun e => hbn e.symm
    have e4 : ¬ c = b := fun e => hbc e.symm
    unfold recOf
    simp only [e3, e4, false_and, if_false]
    by_cases hp : j.parent = some n
    ·have hm : b ∈ i.kids := h.kid_of hn hb hp
     rw [sibs_some hp, sibs_some hp, relink_kids hne hc, if_pos rfl, kidsOf_some hn, hK]
     rw [hK] at hm
     rcases List.mem_append.1 hm with hm | hm
     ·obtain ⟨m1, m2, rfl⟩ := List.append_of_mem hm
      have hnd2 : ((m1 ++ b :: m2) ++ (c :: l2)).Nodup := by simpa using hnd0
      rw [List.nodup_append] at hnd2
      obtain ⟨x1, x2, x3⟩ := hnd2
      obtain ⟨y1, y2, _⟩ := nodup_split x1
      have y3 : b ∉ c :: l2 := fun hx => x3 b (by simp) b hx rfl
      have y4 : b ∉ l2 := fun hx => y3 (List.mem_cons_of_mem _ hx)
      have e5 : l2.head? ≠ some b := fun e => y4 (List.mem_of_mem_head? e)
      rw [next_l1 y1, next_l1 y1, prev_l1 y2 y3, prev_l1 y2 y4, if_neg e5]
      rcases List.eq_nil_or_concat m2 with rfl | ⟨m, y, rfl⟩
      ·simp
      ·have e6 : (m1 ++ b :: (m ++ [y])).getLast? ≠ some b := by
        intro e
        rw [show m1 ++ b :: (m ++ [y]) = (m1 ++ b :: m) ++ [y] by simp, gl3] at e
        obtain rfl := Option.some.inj e
        exact y2 (by simp)
       rw [if_neg (by simpa using e6)]
       cases m <;> simp
     ·have hm2 : b ∈ l2 := by
       rcases List.mem_cons.1 hm with h1 | h1
       ·exact absurd h1 hbc
       ·exact h1
      obtain ⟨m1, m2, rfl⟩ := List.append_of_mem hm2
      have hnd2 : (l1 ++ [c] ++ (m1 ++ b :: m2)).Nodup := by simpa using hnd0
      rw [List.nodup_append] at hnd2
      obtain ⟨x1, x2, x3⟩ := hnd2
      obtain ⟨y1, y2, _⟩ := nodup_split x2
      have y3 : b ∉ l1 ++ [c] := fun hx => x3 b hx b (by simp) rfl
      have y4 : b ∉ l1 := fun hx => y3 (by simp [hx])
      have e5 : l1.getLast? ≠ some b := fun e => y4 (List.mem_of_getLast? e)
      rw [if_neg e5, show l1 ++ c :: (m1 ++ b :: m2) = (l1 ++ [c]) ++ (m1 ++ b :: m2) by simp, next_l2 y1 y3, next_l2 y1 y4, prev_l2 y2, prev_l2 y2]
      cases m1 with
      | nil => simp
      | cons y m =>
       have e6 : ((y :: m) ++ b :: m2).head? ≠ some b := by
        intro e
        have : y = b := by simpa using e
        subst this
        exact y1 (by simp)
       rw [if_neg e6]
       rcases List.eq_nil_or_concat (y :: m) with h0 | ⟨m', y', h0⟩
       ·cases h0
       ·rw [h0]
        simp [gl2]
    ·have hbk : b ∉ i.kids := fun hm => hp (h.kid_parent hn hb hm)
     have e5 : l2.head? ≠ some b := fun e => hbk (in2 _ (List.mem_of_mem_head? e))
     have e6 : l1.getLast? ≠ some b := fun e => hbk (in1 _ (List.mem_of_getLast? e))
     rw [if_neg e5, if_neg e6, relink_sibs hne hc hp]
/-! ### Put in -/
end Go.Proofs.Ytmfjbljdbkmkgaa.Dom

/- Two nodes compared. -/
namespace Go.Proofs.Ytmfjbljdbkmkgaa.Dom
open Go.RowKit Go.Proofs.YtmfjbljdbkmkgaaW.PrintWords Go.Proofs.YtmfjbljdbkmkgaaW.PrintLast Go.Proofs.YtmfjbljdbkmkgaaW.PrintMore
set_option linter.unusedVariables false
set_option linter.unusedSimpArgs false

theorem infoN : (Try.prog.info? 81).map (fun i => i.size) = some 10 := by kernel_rfl
theorem eql_in {w : World} {x y : Nat} {r r' : Rec} (hx : Has w x r) (hy : Has w y r') (d : Nat) : (Op.equalIn (d + 1) 47 (.pointer (some ⟨x, 0, none⟩)) (.pointer (some ⟨y, 0, none⟩))).run Try.prog w = .ok (x == y) w := by
 obtain ⟨j, hj, hs⟩ := Option.map_eq_some_iff.1 infoN
 by_cases h : x = y
 ·subst h
  simp [Op.equalIn, run_underlying Try.underlying47, sizeOf, typeInfo, hj, run_sameAddr_same]
 ·have hne : (⟨x, 0, none⟩ : Addr) ≠ ⟨y, 0, none⟩ := fun e => h (congrArg Addr.block e)
  simp [Op.equalIn, run_underlying Try.underlying47, sizeOf, typeInfo, hj, hs, run_sameAddr_other w hne hx hy, h]
theorem eql_nodes {w : World} {x y : Nat} {r r' : Rec} (hx : Has w x r) (hy : Has w y r') : (binOp .eql 47 (.pointer (some ⟨x, 0, none⟩)) (.pointer (some ⟨y, 0, none⟩))).run Try.prog w = .ok (.bool (x == y)) w := by
 simp only [binOp]
 simp [Op.equal, Op.maxDepth, eql_in hx hy 9999]
theorem neq_nodes {w : World} {x y : Nat} {r r' : Rec} (hx : Has w x r) (hy : Has w y r') : (binOp .neq 47 (.pointer (some ⟨x, 0, none⟩)) (.pointer (some ⟨y, 0, none⟩))).run Try.prog w = .ok (.bool (x != y)) w := by
 simp only [binOp]
 simp [Op.equal, Op.maxDepth, eql_in hx hy 9999, bne]
end Go.Proofs.Ytmfjbljdbkmkgaa.Dom

/- (*html.Node).RemoveChild and InsertBefore: their contracts over a table. -/
namespace Go.Proofs.Ytmfjbljdbkmkgaa.Dom
open Go.RowKit Go.Proofs.YtmfjbljdbkmkgaaW.PrintWords Go.Proofs.YtmfjbljdbkmkgaaW.PrintLast Go.Proofs.YtmfjbljdbkmkgaaW.PrintMore
set_option linter.unusedVariables false
set_option linter.unusedSimpArgs false

theorem snoc_or (l : List Nat) : l = [] ∨ ∃ k x, l = k ++ [x] := by
 rcases List.eq_nil_or_concat l with h | ⟨k, x, h⟩
 ·exact .inl h
 ·exact .inr ⟨k, x, by rw [h]; simp⟩
theorem Dom.moved {w w' : World} {D : Tab} (h : Dom w D) (hb : Below w.heap.size w w') : Dom w' D :=
 ⟨h.wf, fun hd => by
  obtain ⟨v, h1, h2⟩ := h.has hd
  exact ⟨v, h1.of_heap (hb.block _ h1.lt), h2.below hb⟩⟩
theorem Only.drewN {D : Tab} {w w' : World} (h : Only D w w') (k : Nat) : Only D w (w'.drewN k) := ⟨h.os, h.tape, h.output, h.size, h.block⟩
theorem Dom.drewN {w : World} {D : Tab} (h : Dom w D) (k : Nat) : Dom (w.drewN k) D := h.moved (pw_below_drewN (Below.refl _ _) k)
set_option maxHeartbeats 4000000 in
set_option maxRecDepth 100000 in
theorem remove_calls (w : World) (D : Tab) (n c : Nat) (i ic : Info) (l1 l2 : List Nat) (h : Dom w D) (hn : D n = some i) (hc : D c = some ic) (hK : i.kids = l1 ++ c :: l2) (hself : i.parent ≠ some n) :
  Calls Try.prog 98 #[ptr (some n), ptr (some c)] w fun e w' => e = .returned (.tuple #[]) ∧ Dom w' (relink D n c i ic (l1 ++ l2) none) ∧ Only D w w' := by
 have R := Aside0.mk (h.remove hn hc hK hself)
 obtain ⟨vn, hHn, _⟩ := h.has hn
 obtain ⟨vc, hHc, _⟩ := h.has hc
 have hcm : c ∈ i.kids := by rw [hK]; simp
 have hpc : ic.parent = some n := h.kid_parent hn hc hcm
 have hne : n ≠ c := fun e => h.no_loop hn hself (by rw [e]; rw [← e] at hcm ⊢; exact hcm)
 have hnd0 := h.wf.nodup hn
 rw [hK] at hnd0
 obtain ⟨d1, d2, d3⟩ := nodup_split hnd0
 have c0 : w.cell? ⟨c, 0, none⟩ = some (.pointer (some ⟨n, 0, none⟩)) := by rw [hHc.cells10.1]; show some (ptr ic.parent) = _; rw [hpc]; rfl
 have c3 : w.cell? ⟨c, 3, none⟩ = some (ptr l1.getLast?) := by rw [hHc.cells10.2.2.2.1]; show some (ptr (prevIn (sibs D ic) c)) = _; rw [sibs_some hpc, kidsOf_some hn, hK, prevIn_split d2]
 have c4 : w.cell? ⟨c, 4, none⟩ = some (ptr l2.head?) := by rw [hHc.cells10.2.2.2.2.1]; show some (ptr (nextIn (sibs D ic) c)) = _; rw [sibs_some hpc, kidsOf_some hn, hK, nextIn_split d1]
 have n1 : w.cell? ⟨n, 1, none⟩ = some (ptr (l1 ++ c :: l2).head?) := by rw [hHn.cells10.2.1]; show some (ptr i.kids.head?) = _; rw [hK]
 have n2 : w.cell? ⟨n, 2, none⟩ = some (ptr (l1 ++ c :: l2).getLast?) := by rw [hHn.cells10.2.2.1]; show some (ptr i.kids.getLast?) = _; rw [hK]
 have hfc0 := hHc.frozen 0
 have hfc3 := hHc.frozen 3
 have hfc4 := hHc.frozen 4
 have hfn1 := hHn.frozen 1
 have hfn2 := hHn.frozen 2
 have hnc : ¬ c = n := fun e => hne e.symm
 have HN := Aside0.mk hHn
 have HC := Aside0.mk hHc
 have hq0 := neq_nodes hHn hHn
 have HD := Aside0.mk h
 have HDN := Aside0.mk hn
 have hnl : ¬ (n ∈ l1 ∨ n ∈ l2) := fun hx => h.no_loop hn hself (by rw [hK]; rcases hx with hx | hx <;> simp [hx])
 have d12 : ∀ q, q ∈ l1 → q ∈ l2 → False := fun q h1 h2 => by rw [List.nodup_append] at hnd0; exact hnd0.2.2 q h1 q (List.mem_cons_of_mem _ h2) rfl
 have HD := Aside0.mk h
 have HDN := Aside0.mk hn
 have hnl : ¬ (n ∈ l1 ∨ n ∈ l2) := fun hx => h.no_loop hn hself (by rw [hK]; rcases hx with hx | hx <;> simp [hx])
 have d12 : ∀ q, q ∈ l1 → q ∈ l2 → False := fun q h1 h2 => by rw [List.nodup_append] at hnd0; exact hnd0.2.2 q h1 q (List.mem_cons_of_mem _ h2) rfl
 have HD := Aside0.mk h
 have HDN := Aside0.mk hn
 have hnl : ¬ (n ∈ l1 ∨ n ∈ l2) := fun hx => h.no_loop hn hself (by rw [hK]; rcases hx with hx | hx <;> simp [hx])
 have d12 : ∀ q, q ∈ l1 → q ∈ l2 → False := fun q h1 h2 => by rw [List.nodup_append] at hnd0; exact hnd0.2.2 q h1 q (List.mem_cons_of_mem _ h2) rfl
 have HD := Aside0.mk h
 have HDN := Aside0.mk hn
 have hnl : ¬ (n ∈ l1 ∨ n ∈ l2) := fun hx => h.no_loop hn hself (by rw [hK]; rcases hx with hx | hx <;> simp [hx])
 have d12 : ∀ q, q ∈ l1 → q ∈ l2 → False := fun q h1 h2 => by rw [List.nodup_append] at hnd0; exact hnd0.2.2 q h1 q (List.mem_cons_of_mem _ h2) rfl
 clear hHn hHc h hn hc hpc hself hnd0 d3 hcm
 -- CASES
 have kd : ∀ q, q ∈ l1 ∨ q ∈ l2 → ∃ r, Has w q r := fun q hq => by
  obtain ⟨iq, h1, _⟩ := HD.out.wf.down HDN.out (by rw [hK]; rcases hq with hq | hq <;> simp [hq] : q ∈ i.kids)
  obtain ⟨v, hv, _⟩ := HD.out.has h1
  exact ⟨_, hv⟩
 unfold ptr
 rcases snoc_or l1 with rfl | ⟨k1, x, rfl⟩
 ·cases l2 with
  | nil =>
   have c3' : w.cell? ⟨c, 3, none⟩ = some (.pointer none) := by rw [c3]; simp [ptr]
   have c4' : w.cell? ⟨c, 4, none⟩ = some (.pointer none) := by rw [c4]; simp [ptr]
   have n1' : w.cell? ⟨n, 1, none⟩ = some (.pointer (some ⟨c, 0, none⟩)) := by rw [n1]; rfl
   have n2' : w.cell? ⟨n, 2, none⟩ = some (.pointer (some ⟨c, 0, none⟩)) := by rw [n2]; simp [ptr]
   have hq1 := eql_nodes HC.out HC.out
   have hq2 := eql_nodes (HC.out.far (p := ⟨n, 1, none⟩) hnc (.pointer none)) (HC.out.far (p := ⟨n, 1, none⟩) hnc (.pointer none))
   rw [show rmStores n c [] [] = [(n, 1, none), (n, 2, none), (c, 0, none), (c, 3, none), (c, 4, none)] by unfold rmStores; simp] at R
   clear c3 c4 n1 n2 kd
   clear d1 d2 d12 hnl hK
   go_enter Try.func98, Try.ntmps98
   go_wp2_with fail
   go_end0
   exact ⟨rfl, (R.out.1.drewN 0 : _), (R.out.2.drewN 0 : _)⟩
  | cons y k2 =>
   have c3' : w.cell? ⟨c, 3, none⟩ = some (.pointer none) := by rw [c3]; simp [ptr]
   have c4' : w.cell? ⟨c, 4, none⟩ = some (.pointer (some ⟨y, 0, none⟩)) := by rw [c4]; simp [ptr]
   have n1' : w.cell? ⟨n, 1, none⟩ = some (.pointer (some ⟨c, 0, none⟩)) := by rw [n1]; rfl
   obtain ⟨z, hz, hzm⟩ : ∃ z, (y :: k2).getLast? = some z ∧ z ∈ y :: k2 := by
    cases hg : (y :: k2).getLast? with
    | none => simp at hg
    | some z => exact ⟨z, rfl, List.mem_of_getLast? hg⟩
   have n2' : w.cell? ⟨n, 2, none⟩ = some (.pointer (some ⟨z, 0, none⟩)) := by rw [n2, List.getLast?_append, List.getLast?_cons_cons, hz]; rfl
   obtain ⟨rz, hHz⟩ := kd z (.inr hzm)
   have HZ := Aside0.mk hHz
   obtain ⟨ry, hHy⟩ := kd y (.inr (by simp))
   have HY := Aside0.mk hHy
   have hzc : (z == c) = false := beq_eq_false_iff_ne.2 (fun e => d2 (e ▸ hzm))
   have hyc : ¬ y = c := fun e => d2 (by rw [← e]; simp)
   have hcy : ¬ c = y := fun e => hyc e.symm
   have hyn : ¬ y = n := fun e => hnl (by rw [← e]; exact .inr (by simp))
   have hny : ¬ n = y := fun e => hyn e.symm
   have hfy := hHy.frozen 3
   have y3 := hHy.cells10.2.2.2.1
   have hq1 := eql_nodes HC.out HC.out
   have hz_n : z ≠ n := fun e => hnl (by rw [← e]; exact .inr hzm)
   have hHz2 : ∃ r, Has (((w.setCell ⟨n, 1, none⟩ (.pointer (some ⟨y, 0, none⟩)))).setCell ⟨y, 3, none⟩ (.pointer none)) z r := by
    by_cases e : z = y
    ·subst e
     exact ⟨_, ((HZ.out.far (p := ⟨n, 1, none⟩) hz_n (.pointer (some ⟨z, 0, none⟩)))).put3 none⟩
    ·exact ⟨_, ((HZ.out.far (p := ⟨n, 1, none⟩) hz_n (.pointer (some ⟨y, 0, none⟩)))).far (p := ⟨y, 3, none⟩) e _⟩
   obtain ⟨rz2, hHz2⟩ := hHz2
   have hq2 : (binOp .eql 47 (.pointer (some ⟨z, 0, none⟩)) (.pointer (some ⟨c, 0, none⟩))).run Try.prog ((((w.setCell ⟨n, 1, none⟩ (.pointer (some ⟨y, 0, none⟩)))).setCell ⟨y, 3, none⟩ (.pointer none)).drew) = .ok (.bool (z == c)) ((((w.setCell ⟨n, 1, none⟩ (.pointer (some ⟨y, 0, none⟩)))).setCell ⟨y, 3, none⟩ (.pointer none)).drew) := eql_nodes (hHz2.of_heap rfl) (((HC.out.far (p := ⟨n, 1, none⟩) hnc (.pointer (some ⟨y, 0, none⟩))).far (p := ⟨y, 3, none⟩) hcy (.pointer none)).of_heap rfl)
   rw [hzc] at hq2
   rw [show rmStores n c [] (y :: k2) = [(n, 1, some y), (y, 3, none), (c, 0, none), (c, 3, none), (c, 4, none)] by unfold rmStores; simp] at R
   clear c3 c4 n1 n2 kd
   clear hHz hHy hz hzm hzc hz_n hHz2
   clear d1 d2 d12 hnl hK
   go_enter Try.func98, Try.ntmps98
   go_wp2_with fail
   go_region
   go_wp2_with fail
   go_end0
   exact ⟨rfl, (R.out.1.drewN 1 : _), (R.out.2.drewN 1 : _)⟩
 ·cases l2 with
  | nil =>
   have c3' : w.cell? ⟨c, 3, none⟩ = some (.pointer (some ⟨x, 0, none⟩)) := by rw [c3]; simp [ptr]
   have c4' : w.cell? ⟨c, 4, none⟩ = some (.pointer none) := by rw [c4]; simp [ptr]
   obtain ⟨x0, hx0, hx0m⟩ : ∃ x0, (k1 ++ [x]).head? = some x0 ∧ x0 ∈ k1 ++ [x] := by cases k1 with | nil => exact ⟨x, rfl, by simp⟩ | cons a k1 => exact ⟨a, rfl, by simp⟩
   have n1' : w.cell? ⟨n, 1, none⟩ = some (.pointer (some ⟨x0, 0, none⟩)) := by rw [n1, List.head?_append, hx0]; rfl
   obtain ⟨rx0, hHx0⟩ := kd x0 (.inl hx0m)
   have HX0 := Aside0.mk hHx0
   obtain ⟨rx, hHx⟩ := kd x (.inl (by simp))
   have HX := Aside0.mk hHx
   have hx0c : (x0 == c) = false := beq_eq_false_iff_ne.2 (fun e => d1 (e ▸ hx0m))
   have hxc : ¬ x = c := fun e => d1 (by rw [← e]; simp)
   have hcx : ¬ c = x := fun e => hxc e.symm
   have hxn : ¬ x = n := fun e => hnl (by rw [← e]; exact .inl (by simp))
   have hnx : ¬ n = x := fun e => hxn e.symm
   have hfx := hHx.frozen 4
   have x4 := hHx.cells10.2.2.2.2.1
   have n2' : w.cell? ⟨n, 2, none⟩ = some (.pointer (some ⟨c, 0, none⟩)) := by rw [n2]; simp [ptr]
   have hq1 := eql_nodes HX0.out HC.out
   have hq2 := eql_nodes HC.out HC.out
   rw [hx0c] at hq1
   rw [show rmStores n c (k1 ++ [x]) [] = [(n, 2, some x), (x, 4, none), (c, 0, none), (c, 3, none), (c, 4, none)] by unfold rmStores; simp] at R
   clear c3 c4 n1 n2 kd
   clear hHx0 hHx hx0 hx0m hx0c
   clear d1 d2 d12 hnl hK
   go_enter Try.func98, Try.ntmps98
   go_wp2_with fail
   go_region
   go_wp2_with fail
   go_end0
   exact ⟨rfl, (R.out.1.drewN 1 : _), (R.out.2.drewN 1 : _)⟩
  | cons y k2 =>
   have c3' : w.cell? ⟨c, 3, none⟩ = some (.pointer (some ⟨x, 0, none⟩)) := by rw [c3]; simp [ptr]
   have c4' : w.cell? ⟨c, 4, none⟩ = some (.pointer (some ⟨y, 0, none⟩)) := by rw [c4]; simp [ptr]
   obtain ⟨x0, hx0, hx0m⟩ : ∃ x0, (k1 ++ [x]).head? = some x0 ∧ x0 ∈ k1 ++ [x] := by cases k1 with | nil => exact ⟨x, rfl, by simp⟩ | cons a k1 => exact ⟨a, rfl, by simp⟩
   have n1' : w.cell? ⟨n, 1, none⟩ = some (.pointer (some ⟨x0, 0, none⟩)) := by rw [n1, List.head?_append, hx0]; rfl
   obtain ⟨rx0, hHx0⟩ := kd x0 (.inl hx0m)
   have HX0 := Aside0.mk hHx0
   obtain ⟨rx, hHx⟩ := kd x (.inl (by simp))
   have HX := Aside0.mk hHx
   have hx0c : (x0 == c) = false := beq_eq_false_iff_ne.2 (fun e => d1 (e ▸ hx0m))
   have hxc : ¬ x = c := fun e => d1 (by rw [← e]; simp)
   have hcx : ¬ c = x := fun e => hxc e.symm
   have hxn : ¬ x = n := fun e => hnl (by rw [← e]; exact .inl (by simp))
   have hnx : ¬ n = x := fun e => hxn e.symm
   have hfx := hHx.frozen 4
   have x4 := hHx.cells10.2.2.2.2.1
   obtain ⟨z, hz, hzm⟩ : ∃ z, (y :: k2).getLast? = some z ∧ z ∈ y :: k2 := by
    cases hg : (y :: k2).getLast? with
    | none => simp at hg
    | some z => exact ⟨z, rfl, List.mem_of_getLast? hg⟩
   have n2' : w.cell? ⟨n, 2, none⟩ = some (.pointer (some ⟨z, 0, none⟩)) := by rw [n2, List.getLast?_append, List.getLast?_cons_cons, hz]; rfl
   obtain ⟨rz, hHz⟩ := kd z (.inr hzm)
   have HZ := Aside0.mk hHz
   obtain ⟨ry, hHy⟩ := kd y (.inr (by simp))
   have HY := Aside0.mk hHy
   have hzc : (z == c) = false := beq_eq_false_iff_ne.2 (fun e => d2 (e ▸ hzm))
   have hyc : ¬ y = c := fun e => d2 (by rw [← e]; simp)
   have hcy : ¬ c = y := fun e => hyc e.symm
   have hyn : ¬ y = n := fun e => hnl (by rw [← e]; exact .inr (by simp))
   have hny : ¬ n = y := fun e => hyn e.symm
   have hfy := hHy.frozen 3
   have y3 := hHy.cells10.2.2.2.1
   have hxy : ¬ x = y := fun e => d12 x (by simp) (by simp [e])
   have hyx : ¬ y = x := fun e => hxy e.symm
   have hq1 := eql_nodes HX0.out HC.out
   have hz_n : z ≠ n := fun e => hnl (by rw [← e]; exact .inr hzm)
   have hHz2 : ∃ r, Has ((w).setCell ⟨y, 3, none⟩ (.pointer (some ⟨x, 0, none⟩))) z r := by
    by_cases e : z = y
    ·subst e
     exact ⟨_, (HZ.out).put3 (some x)⟩
    ·exact ⟨_, (HZ.out).far (p := ⟨y, 3, none⟩) e _⟩
   obtain ⟨rz2, hHz2⟩ := hHz2
   have hq2 : (binOp .eql 47 (.pointer (some ⟨z, 0, none⟩)) (.pointer (some ⟨c, 0, none⟩))).run Try.prog (((w).setCell ⟨y, 3, none⟩ (.pointer (some ⟨x, 0, none⟩))).drew) = .ok (.bool (z == c)) (((w).setCell ⟨y, 3, none⟩ (.pointer (some ⟨x, 0, none⟩))).drew) := eql_nodes (hHz2.of_heap rfl) ((HC.out.far (p := ⟨y, 3, none⟩) hcy (.pointer (some ⟨x, 0, none⟩))).of_heap rfl)
   rw [hzc] at hq2
   rw [hx0c] at hq1
   rw [show rmStores n c (k1 ++ [x]) (y :: k2) = [(y, 3, some x), (x, 4, some y), (c, 0, none), (c, 3, none), (c, 4, none)] by unfold rmStores; simp] at R
   clear c3 c4 n1 n2 kd
   clear hHx0 hHx hx0 hx0m hx0c
   clear hHz hHy hz hzm hzc hz_n hHz2
   clear d1 d2 d12 hnl hK
   go_enter Try.func98, Try.ntmps98
   go_wp2_with fail
   go_region
   go_wp2_with fail
   go_region
   go_wp2_with fail
   go_end0
   exact ⟨rfl, (R.out.1.drewN 2 : _), (R.out.2.drewN 2 : _)⟩
end Go.Proofs.Ytmfjbljdbkmkgaa.Dom
