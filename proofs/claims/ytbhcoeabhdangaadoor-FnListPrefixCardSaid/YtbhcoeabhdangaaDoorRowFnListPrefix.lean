/- The row of the law FnListPrefix, out of its walk. No further conditions. -/
import Derived.Test.YtbhcoeabhdangaaDoorRows
import Derived.Test.YtbhcoeabhdangaaDoorTie
import Derived.Test.YtbhcoeabhdangaaDoorCards
import Derived.Test.YtbhcoeabhdangaaDoorListL
import Derived.WalkKit
import Derived.ProofKit
import Derived.OpenShut
import Derived.ShutString
import Derived.ChangeOld
import Derived.Below
import Derived.SizedLaws
import Derived.Handed
import Derived.LaidLaws
import Derived.Deep.DeepLaidRun
import Derived.SevenTiedAt
import Derived.Stop.Joined
import Derived.Lib.LaidU8
namespace Go.Proofs.YtbhcoeabhdangaaDoor.fnListPrefix
open Go.ChangeShapes Go.WideShapes Go.ChangeAt Go.RowKit
open Go.ChangeMaps (open_string shut_string)
open Go.Proofs.YtbhcoeabhdangaaDoor.PInl
set_option linter.unusedVariables false
theorem own : ownKnob Tryd.prog.godebug = none := by kernel_rfl
/-- A world in which the listed variables hold what the program lays. -/
noncomputable def laidWorld (os : Os) : World :=
  let N := (World.settled Tryd.prog os).heap.size
  let w0 := World.holding Tryd.prog os ⟨#[.cells #[Value.string ⟨#[118, 97, 108, 117, 101, 32, 111, 117, 116, 32, 111, 102, 32, 114, 97, 110, 103, 101]⟩] 149, .cells #[Value.string ⟨#[105, 110, 118, 97, 108, 105, 100, 32, 115, 121, 110, 116, 97, 120]⟩] 149], #[], []⟩
  let put (h : Array Obj) (g : Nat) (cs : Array Value) : Array Obj := h.modify g fun
    | .cells _ t frozen => .cells cs t frozen
    | o => o
  { w0 with heap := put (put (put (put (put (w0.heap) 7 #[Value.int .u8 0, Value.int .u8 1, Value.int .u8 28, Value.int .u8 2, Value.int .u8 29, Value.int .u8 14, Value.int .u8 24, Value.int .u8 3, Value.int .u8 30, Value.int .u8 22, Value.int .u8 20, Value.int .u8 15, Value.int .u8 25, Value.int .u8 17, Value.int .u8 4, Value.int .u8 8, Value.int .u8 31, Value.int .u8 27, Value.int .u8 13, Value.int .u8 23, Value.int .u8 21, Value.int .u8 19, Value.int .u8 16, Value.int .u8 7, Value.int .u8 26, Value.int .u8 12, Value.int .u8 18, Value.int .u8 6, Value.int .u8 11, Value.int .u8 5, Value.int .u8 10, Value.int .u8 9]) 8 #[Value.int .u8 0, Value.int .u8 1, Value.int .u8 56, Value.int .u8 2, Value.int .u8 57, Value.int .u8 49, Value.int .u8 28, Value.int .u8 3, Value.int .u8 61, Value.int .u8 58, Value.int .u8 42, Value.int .u8 50, Value.int .u8 38, Value.int .u8 29, Value.int .u8 17, Value.int .u8 4, Value.int .u8 62, Value.int .u8 47, Value.int .u8 59, Value.int .u8 36, Value.int .u8 45, Value.int .u8 43, Value.int .u8 51, Value.int .u8 22, Value.int .u8 53, Value.int .u8 39, Value.int .u8 33, Value.int .u8 30, Value.int .u8 24, Value.int .u8 18, Value.int .u8 12, Value.int .u8 5, Value.int .u8 63, Value.int .u8 55, Value.int .u8 48, Value.int .u8 27, Value.int .u8 60, Value.int .u8 41, Value.int .u8 37, Value.int .u8 16, Value.int .u8 46, Value.int .u8 35, Value.int .u8 44, Value.int .u8 21, Value.int .u8 52, Value.int .u8 32, Value.int .u8 23, Value.int .u8 11, Value.int .u8 54, Value.int .u8 26, Value.int .u8 40, Value.int .u8 15, Value.int .u8 34, Value.int .u8 20, Value.int .u8 31, Value.int .u8 10, Value.int .u8 25, Value.int .u8 14, Value.int .u8 19, Value.int .u8 9, Value.int .u8 13, Value.int .u8 8, Value.int .u8 7, Value.int .u8 6]) 6 #[Value.int .u64 1, Value.int .u64 10, Value.int .u64 100, Value.int .u64 1000, Value.int .u64 10000, Value.int .u64 100000, Value.int .u64 1000000, Value.int .u64 10000000, Value.int .u64 100000000, Value.int .u64 1000000000, Value.int .u64 10000000000, Value.int .u64 100000000000, Value.int .u64 1000000000000, Value.int .u64 10000000000000, Value.int .u64 100000000000000, Value.int .u64 1000000000000000, Value.int .u64 10000000000000000, Value.int .u64 100000000000000000, Value.int .u64 1000000000000000000, Value.int .u64 10000000000000000000]) 5 #[Value.iface 147 (Value.pointer (some ⟨N + 0, 0, none⟩))]) 4 #[Value.iface 147 (Value.pointer (some ⟨N + 1, 0, none⟩))] }
set_option maxRecDepth 100000 in
theorem laid_met (os : Os) (args : Array Value) : laidMet Tryd.prog Rows.fnListPrefixRow.laid ((laidWorld os).forCall (fun _ _ => 0) ⟨#[], args, []⟩).memory :=
  laidMet_of_run3 10 (by kernel_rfl) (by kernel_rfl) (by kernel_rfl)
set_option maxRecDepth 100000 in
theorem wit (os : Os) {H : Type} (enc : TypeId × Value → H) : ∃ (w : World) (tape : Tape) (i : Input), w.os = os ∧ (w.forCall tape i).Shaped Tryd.checked.prog ∧ i.vars = [] ∧ Input.okWide Tryd.checked.prog (w.forCall tape i) .any w.heap.size 8 i ∧
      ((Rows.fnListPrefixSpec.pre enc Tryd.checked.prog Tryd.f8 Rows.fnListPrefixRow.domain false (w.forCall tape i).memory i.args ∧ laidMet Tryd.prog Rows.fnListPrefixRow.laid (w.forCall tape i).memory) ∧ sizedMet enc Tryd.checked.prog Tryd.f8 (OpenSpec.ofChange Rows.fnListPrefixSpec) false (w.forCall tape i).memory i.args) ∧ ({} : Assume).holds Tryd.checked.prog (lone (Frame.enter Tryd.checked.prog 8 i.args .normal) [] (w.forCall tape i)) :=
  have hok : Input.okWideB Tryd.checked.prog ((laidWorld os).forCall (fun _ _ => 0) ⟨#[], #[.bool false, .string ByteArray.empty, .string ByteArray.empty, .int .i64 0, .int .i64 0], []⟩) 8 ⟨#[], #[.bool false, .string ByteArray.empty, .string ByteArray.empty, .int .i64 0, .int .i64 0], []⟩ = true := by kernel_rfl
  ⟨laidWorld os, fun _ _ => 0, ⟨#[], #[.bool false, .string ByteArray.empty, .string ByteArray.empty, .int .i64 0, .int .i64 0], []⟩, rfl, World.shaped_of_RefB (by kernel_rfl) (by kernel_rfl), (Input.okWide_of_okWideB (base := 0) hok).1, (Input.okWide_of_okWideB hok).2, ⟨⟨ChangeSpec.pre_of_preB (fuel := 8) (by kernel_rfl), laid_met os _⟩, sizedMet_of_sizedB (fuel := 8) (by kernel_rfl)⟩, by
    simp only [Assume.holds]
    exact ⟨by simp, by simp, (fun h => by cases h), by simp, by simp⟩⟩
set_option maxRecDepth 100000 in
theorem lifted (os : Os) (started : os.Started) (H : Type) (enc : TypeId × Value → H) :
    ReturnsInHanded {} Tryd.checked os 8 .any (fun w args => (Rows.fnListPrefixSpec.pre enc Tryd.prog Tryd.f8 Rows.fnListPrefixRow.domain false w args ∧ laidMet Tryd.prog Rows.fnListPrefixRow.laid w) ∧ sizedMet enc Tryd.prog Tryd.f8 (OpenSpec.ofChange Rows.fnListPrefixSpec) false w args) (Rows.fnListPrefixSpec.post enc Tryd.prog Tryd.f8 false true false false) := by
  refine returnsInHanded_of_change_and (C := Tryd.checked) (X := fun w _ => laidMet Tryd.prog Rows.fnListPrefixRow.laid w) (fun _ _ _ hh h => h.of_heap hh) own started (by kernel_rfl) Tryd.func8 (wit os enc) ?_
  intro W base args ds gs before hval0 hW hcnd hsz0 hL _
  have hsz : (DataW.weightsEach Tryd.prog (Tryd.f8.params.toList ++ Rows.fnListPrefixSpec.plain.varTypes Tryd.prog) (ds ++ gs)).all (· ≤ reachBytes) = true := hsz0
  have hval : ∀ (j : Nat) t v, Tryd.f8.params[j]? = some t → args[j]? = some v → Value.okWide Tryd.prog W .any base t v := hval0
  have hW' := hW
  obtain ⟨p, q, hA0, hV, rfl, hfz, hnd⟩ := hW
  have hA : DataW.TrodAll enc Tryd.prog W 0 (fun _ => true) true Tryd.f8.params.toList args.toList ds p := hA0
  rw [Tryd.params8] at hA hval hsz
  obtain ⟨v0, vs0, d0, ds0, p0, q0, hargs, rfl, rfl, h0, r0⟩ := trodAll_cons hA
  obtain ⟨v1, vs1, d1, ds1, p1, q1, rfl, rfl, rfl, h1, r1⟩ := trodAll_cons r0
  obtain ⟨v2, vs2, d2, ds2, p2, q2, rfl, rfl, rfl, h2, r2⟩ := trodAll_cons r1
  obtain ⟨v3, vs3, d3, ds3, p3, q3, rfl, rfl, rfl, h3, r3⟩ := trodAll_cons r2
  obtain ⟨v4, vs4, d4, ds4, p4, q4, rfl, rfl, rfl, h4, r4⟩ := trodAll_cons r3
  obtain ⟨rfl, rfl, rfl⟩ := trodAll_nil r4
  obtain rfl : args = #[v0, v1, v2, v3, v4] := by cases args; simp_all
  obtain ⟨rfl, rfl⟩ := trodVars_none hV
  obtain ⟨a0, rfl, rfl, rfl⟩ := open_bool Tryd.underlying4 (hval 0 4 v0 rfl rfl) h0
  obtain ⟨a1, rfl, rfl, rfl, y1⟩ := open_string Tryd.underlying9 (hval 1 9 v1 rfl rfl) h1
  have w1 : a1.size ≤ 140737488351232 := by
    have z := sized_string hsz (j := 1) (t := 9) rfl rfl
    rw [Array.length_toList] at z
    exact z
  obtain ⟨a2, rfl, rfl, rfl, y2⟩ := open_string Tryd.underlying9 (hval 2 9 v2 rfl rfl) h2
  have w2 : a2.size ≤ 140737488351232 := by
    have z := sized_string hsz (j := 2) (t := 9) rfl rfl
    rw [Array.length_toList] at z
    exact z
  obtain ⟨a3, rfl, rfl, rfl, w3⟩ := open_int Tryd.underlying3 (hval 3 3 v3 rfl rfl) h3
  obtain ⟨a4, rfl, rfl, rfl, w4⟩ := open_int Tryd.underlying3 (hval 4 3 v4 rfl rfl) h4
  clear hA0 hval0 hsz0
  refine (PInl.list_walk a0 a1 a2 a3 a4 W w1 w2 w3 w4 hL).mono fun e W' ⟨he, bel⟩ => ?_
  subst he
  exact ⟨_, rfl, _, _, _, [], _, [], hW', trodAll_mk1 (shut_bool Tryd.underlying4 _), (trodAll_cons_mk (shut_bool Tryd.underlying4 _) (trodAll_cons_mk (shut_string Tryd.underlying9 y1) (trodAll_cons_mk (shut_string Tryd.underlying9 y2) (trodAll_cons_mk (shut_int Tryd.underlying3 w3) (trodAll_cons_mk (shut_int Tryd.underlying3 w4) trodAll_mk0))))), rfl, bel.frame _, fun h => by cases h⟩
theorem over : Rows.fnListPrefixRow.holds Tryd.pinned (OpenSpec.ofChange Rows.fnListPrefixSpec) :=
  OpenClaim.holds_of_wide 8 Tryd.f8 rfl rfl rfl rfl rfl rfl rfl ⟨rfl, rfl, rfl, rfl, rfl⟩ rfl rfl rfl rfl rfl (by kernel_rfl) Tryd.func8 (by kernel_rfl)
    (of_decide_eq_true (by kernel_rfl)) (by unfold Func.isWrapper; first | (rw [if_pos (by decide +kernel)]; kernel_rfl) | (rw [if_neg (by decide +kernel)]; exact ⟨rfl, rfl⟩))
    (fun os started H enc _ => lifted os started H enc)
theorem proved : Rows.FnListPrefixCardSaid :=
  Claim7.holds_tied_plain_at .later [] [.data, .data, .data, .sentinel, .sentinel] true (true, "8021a08bc622b5061dfeb148f833f39d98219c5cd9a883f6ac262cae8001a81a") true
    over (fun _ h => by cases h) (by kernel_rfl) (fun _ h => by cases h) fnListPrefix_row_tie rfl ⟨rfl, rfl⟩ (by kernel_rfl) rfl
    (fun f fn hf hfn => by
      obtain rfl : f = 8 := Option.some.inj ((show Tryd.prog.funcNamed "pub-ligature/laws.FnListPrefix" = some 8 by kernel_rfl).symm.trans hf) |>.symm
      obtain rfl : fn = Tryd.f8 := (Option.some.inj (Tryd.func8.symm.trans hfn)).symm
      exact ⟨by kernel_rfl, fun j t ht => by
        rw [Tryd.params8] at ht
        have hm : t ∈ [4, 9, 9, 3, 3] := by
          have := Array.mem_of_getElem? ht
          simpa using this
        simp only [List.mem_cons, List.mem_nil_iff, or_false] at hm
        rcases hm with rfl | rfl | rfl | rfl | rfl
        · exact (show Tryd.prog.wantsStandIn 4 = false by kernel_rfl)
        · exact (show Tryd.prog.wantsStandIn 9 = false by kernel_rfl)
        · exact (show Tryd.prog.wantsStandIn 9 = false by kernel_rfl)
        · exact (show Tryd.prog.wantsStandIn 3 = false by kernel_rfl)
        · exact (show Tryd.prog.wantsStandIn 3 = false by kernel_rfl)⟩)
    (by kernel_rfl)
#print axioms proved
end Go.Proofs.YtbhcoeabhdangaaDoor.fnListPrefix
namespace Go.Proofs.YtbhcoeabhdangaaDoor
/-- The card, under a short name, for the claim. -/
theorem fnListPrefix_holds : Rows.FnListPrefixCardSaid := fnListPrefix.proved
end Go.Proofs.YtbhcoeabhdangaaDoor
