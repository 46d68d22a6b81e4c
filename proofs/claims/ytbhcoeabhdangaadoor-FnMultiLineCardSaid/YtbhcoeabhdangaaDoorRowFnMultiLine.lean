/- The row of the law FnMultiLine, out of its walk. No further conditions. -/
import Derived.Test.YtbhcoeabhdangaaDoorRows
import Derived.Test.YtbhcoeabhdangaaDoorTie
import Derived.Test.YtbhcoeabhdangaaDoorCards
import Derived.Test.YtbhcoeabhdangaaDoorPureMulti
import Derived.WalkKit
import Derived.ProofKit
import Derived.OpenShut
import Derived.ShutString
import Derived.ChangeOld
import Derived.Below
import Derived.SizedLaws
import Derived.Handed
import Derived.LaidLaws
import Derived.Deep.DeepLaidRun
import Derived.SevenTiedAt
import Derived.Stop.Joined
import Derived.Lib.LaidU8
namespace Go.Proofs.YtbhcoeabhdangaaDoor.fnMultiLine
open Go.ChangeShapes Go.WideShapes Go.ChangeAt Go.RowKit
open Go.ChangeMaps (open_string shut_string)
open Go.Proofs.YtbhcoeabhdangaaDoor.PInl
set_option linter.unusedVariables false
theorem own : ownKnob Tryd.prog.godebug = none := by kernel_rfl
/-- A world in which the listed variables hold what the program lays. -/
noncomputable def laidWorld (os : Os) : World :=
  let N := (World.settled Tryd.prog os).heap.size
  let w0 := World.holding Tryd.prog os ⟨#[.cells #[Value.int .u16 9, Value.int .u16 13, Value.int .u16 1, Value.int .u16 32, Value.int .u16 133, Value.int .u16 101, Value.int .u16 160, Value.int .u16 5760, Value.int .u16 5600, Value.int .u16 8192, Value.int .u16 8202, Value.int .u16 1, Value.int .u16 8232, Value.int .u16 8233, Value.int .u16 1, Value.int .u16 8239, Value.int .u16 8287, Value.int .u16 48, Value.int .u16 12288, Value.int .u16 12288, Value.int .u16 1] 98, .cells #[Value.slice (some ⟨N + 0, 0, none⟩) 7 7, Value.slice none 0 0, Value.int .i64 2] 95], #[], []⟩
  let put (h : Array Obj) (g : Nat) (cs : Array Value) : Array Obj := h.modify g fun
    | .cells _ t frozen => .cells cs t frozen
    | o => o
  { w0 with heap := put (put (put (w0.heap) 2 #[Value.int .u8 128, Value.int .u8 191, Value.int .u8 160, Value.int .u8 191, Value.int .u8 128, Value.int .u8 159, Value.int .u8 144, Value.int .u8 191, Value.int .u8 128, Value.int .u8 143, Value.int .u8 0, Value.int .u8 0, Value.int .u8 0, Value.int .u8 0, Value.int .u8 0, Value.int .u8 0, Value.int .u8 0, Value.int .u8 0, Value.int .u8 0, Value.int .u8 0, Value.int .u8 0, Value.int .u8 0, Value.int .u8 0, Value.int .u8 0, Value.int .u8 0, Value.int .u8 0, Value.int .u8 0, Value.int .u8 0, Value.int .u8 0, Value.int .u8 0, Value.int .u8 0, Value.int .u8 0]) 0 #[Value.pointer (some ⟨N + 1, 0, none⟩)]) 1 (Lib.firstTab.map fun z => Value.int .u8 z).toArray }
set_option maxRecDepth 100000 in
theorem laid_met (os : Os) (args : Array Value) : laidMet Tryd.prog Rows.fnMultiLineRow.laid ((laidWorld os).forCall (fun _ _ => 0) ⟨#[], args, []⟩).memory :=
  laidMet_of_run3 10 (by kernel_rfl) (by kernel_rfl) (by kernel_rfl)
set_option maxRecDepth 100000 in
theorem wit (os : Os) {H : Type} (enc : TypeId × Value → H) : ∃ (w : World) (tape : Tape) (i : Input), w.os = os ∧ (w.forCall tape i).Shaped Tryd.checked.prog ∧ i.vars = [] ∧ Input.okWide Tryd.checked.prog (w.forCall tape i) .any w.heap.size 6 i ∧
      ((Rows.fnMultiLineSpec.pre enc Tryd.checked.prog Tryd.f6 Rows.fnMultiLineRow.domain false (w.forCall tape i).memory i.args ∧ laidMet Tryd.prog Rows.fnMultiLineRow.laid (w.forCall tape i).memory) ∧ sizedMet enc Tryd.checked.prog Tryd.f6 (OpenSpec.ofChange Rows.fnMultiLineSpec) false (w.forCall tape i).memory i.args) ∧ ({} : Assume).holds Tryd.checked.prog (lone (Frame.enter Tryd.checked.prog 6 i.args .normal) [] (w.forCall tape i)) :=
  have hok : Input.okWideB Tryd.checked.prog ((laidWorld os).forCall (fun _ _ => 0) ⟨#[], #[.string ByteArray.empty], []⟩) 6 ⟨#[], #[.string ByteArray.empty], []⟩ = true := by kernel_rfl
  ⟨laidWorld os, fun _ _ => 0, ⟨#[], #[.string ByteArray.empty], []⟩, rfl, World.shaped_of_RefB (by kernel_rfl) (by kernel_rfl), (Input.okWide_of_okWideB (base := 0) hok).1, (Input.okWide_of_okWideB hok).2, ⟨⟨ChangeSpec.pre_of_preB (fuel := 8) (by kernel_rfl), laid_met os _⟩, sizedMet_of_sizedB (fuel := 8) (by kernel_rfl)⟩, by
    simp only [Assume.holds]
    exact ⟨by simp, by simp, (fun h => by cases h), by simp, by simp⟩⟩
set_option maxRecDepth 100000 in
theorem lifted (os : Os) (started : os.Started) (H : Type) (enc : TypeId × Value → H) :
    ReturnsInHanded {} Tryd.checked os 6 .any (fun w args => (Rows.fnMultiLineSpec.pre enc Tryd.prog Tryd.f6 Rows.fnMultiLineRow.domain false w args ∧ laidMet Tryd.prog Rows.fnMultiLineRow.laid w) ∧ sizedMet enc Tryd.prog Tryd.f6 (OpenSpec.ofChange Rows.fnMultiLineSpec) false w args) (Rows.fnMultiLineSpec.post enc Tryd.prog Tryd.f6 false true false false) := by
  refine returnsInHanded_of_change_and (C := Tryd.checked) (X := fun w _ => laidMet Tryd.prog Rows.fnMultiLineRow.laid w) (fun _ _ _ hh h => h.of_heap hh) own started (by kernel_rfl) Tryd.func6 (wit os enc) ?_
  intro W base args ds gs before hval0 hW hcnd hsz0 hL _
  have hsz : (DataW.weightsEach Tryd.prog (Tryd.f6.params.toList ++ Rows.fnMultiLineSpec.plain.varTypes Tryd.prog) (ds ++ gs)).all (· ≤ reachBytes) = true := hsz0
  have hval : ∀ (j : Nat) t v, Tryd.f6.params[j]? = some t → args[j]? = some v → Value.okWide Tryd.prog W .any base t v := hval0
  have hW' := hW
  obtain ⟨p, q, hA0, hV, rfl, hfz, hnd⟩ := hW
  have hA : DataW.TrodAll enc Tryd.prog W 0 (fun _ => true) true Tryd.f6.params.toList args.toList ds p := hA0
  rw [Tryd.params6] at hA hval hsz
  obtain ⟨v0, vs0, d0, ds0, p0, q0, hargs, rfl, rfl, h0, r0⟩ := trodAll_cons hA
  obtain ⟨rfl, rfl, rfl⟩ := trodAll_nil r0
  obtain rfl : args = #[v0] := by cases args; simp_all
  obtain ⟨rfl, rfl⟩ := trodVars_none hV
  obtain ⟨a0, rfl, rfl, rfl, y0⟩ := open_string Tryd.underlying9 (hval 0 9 v0 rfl rfl) h0
  have w0 : a0.size ≤ 140737488351232 := by
    have z := sized_string hsz (j := 0) (t := 9) rfl rfl
    rw [Array.length_toList] at z
    exact z
  clear hA0 hval0 hsz0
  refine (PInl.multi_walk a0 W w0).mono fun e W' ⟨he, bel⟩ => ?_
  subst he
  exact ⟨_, rfl, _, _, _, [], _, [], hW', trodAll_mk1 (shut_bool Tryd.underlying4 _), (trodAll_cons_mk (shut_string Tryd.underlying9 y0) trodAll_mk0), rfl, bel.frame _, fun h => by cases h⟩
theorem over : Rows.fnMultiLineRow.holds Tryd.pinned (OpenSpec.ofChange Rows.fnMultiLineSpec) :=
  OpenClaim.holds_of_wide 6 Tryd.f6 rfl rfl rfl rfl rfl rfl rfl ⟨rfl, rfl, rfl, rfl, rfl⟩ rfl rfl rfl rfl rfl (by kernel_rfl) Tryd.func6 (by kernel_rfl)
    (of_decide_eq_true (by kernel_rfl)) (by unfold Func.isWrapper; first | (rw [if_pos (by decide +kernel)]; kernel_rfl) | (rw [if_neg (by decide +kernel)]; exact ⟨rfl, rfl⟩))
    (fun os started H enc _ => lifted os started H enc)
theorem proved : Rows.FnMultiLineCardSaid :=
  Claim7.holds_tied_plain_at .later [] [.data, .listed, .pinned] true (true, "8021a08bc622b5061dfeb148f833f39d98219c5cd9a883f6ac262cae8001a81a") true
    over (fun _ h => by cases h) (by kernel_rfl) (fun _ h => by cases h) fnMultiLine_row_tie rfl ⟨rfl, rfl⟩ (by kernel_rfl) rfl
    (fun f fn hf hfn => by
      obtain rfl : f = 6 := Option.some.inj ((show Tryd.prog.funcNamed "pub-ligature/laws.FnMultiLine" = some 6 by kernel_rfl).symm.trans hf) |>.symm
      obtain rfl : fn = Tryd.f6 := (Option.some.inj (Tryd.func6.symm.trans hfn)).symm
      exact ⟨by kernel_rfl, fun j t ht => by
        rw [Tryd.params6] at ht
        have hm : t ∈ [9] := by
          have := Array.mem_of_getElem? ht
          simpa using this
        simp only [List.mem_cons, List.mem_nil_iff, or_false] at hm
        rcases hm with rfl
        · exact (show Tryd.prog.wantsStandIn 9 = false by kernel_rfl)⟩)
    (by kernel_rfl)
#print axioms proved
end Go.Proofs.YtbhcoeabhdangaaDoor.fnMultiLine
namespace Go.Proofs.YtbhcoeabhdangaaDoor
/-- The card, under a short name, for the claim. -/
theorem fnMultiLine_holds : Rows.FnMultiLineCardSaid := fnMultiLine.proved
end Go.Proofs.YtbhcoeabhdangaaDoor
