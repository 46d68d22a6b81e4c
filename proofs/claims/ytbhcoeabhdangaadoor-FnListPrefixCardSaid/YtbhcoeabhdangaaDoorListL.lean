/- The law FnListPrefix, walked by hand. -/
import Derived.Test.YtbhcoeabhdangaaDoorListP
import Derived.Test.YtbhcoeabhdangaaDoorRows
import Derived.Stop.LaidErr
import Derived.LaidSub
import Derived.Lib.LaidTab
namespace Go.Proofs.YtbhcoeabhdangaaDoor.PInl
open Go.Proofs.YtbhcoeabhdangaaDoor.Txt Go.RowKit Go.Proofs.YtbhcoeabhdangaaDoorW.PrintWords Go.Proofs.YtbhcoeabhdangaaDoorW.PrintLast Go.Proofs.YtbhcoeabhdangaaDoorW.PrintMore
set_option linter.unusedVariables false
set_option linter.unusedSimpArgs false

theorem row_err (u : TypeId) (h : Tryd.prog.typeName? 3 u = some "*errors.errorString") : u = 147 :=
  typeName_ptr_named (nm := "errors.errorString") (by kernel_rfl) (by kernel_rfl) (by decide) u h
set_option maxRecDepth 100000 in
theorem sv_of (w : World) (h : laidMet Tryd.prog Rows.fnListPrefixRow.laid w) : SV w := by
  have h3 := h.tail.tail
  have t : Lib.TabIs Tryd.prog w "internal/strconv.uint64pow10" .u64 Lib.pow10Tab := Lib.tabIs_of_head (g := 6) (t := 141) (e := 130) (n := 20) (by kernel_rfl) (by kernel_rfl) (by kernel_rfl) (by kernel_rfl) (by kernel_rfl) (by kernel_rfl) h3
  have h5 := h3.tail.tail
  obtain ⟨a, s, hv, _⟩ := laid_sentinel (g := 4) (ti := 73) (te := 149) (ts := 9) h5 (by kernel_rfl) (by kernel_rfl) Tryd.underlying73 row_err Tryd.underlying147 Tryd.underlying149 rfl rfl Tryd.underlying9 (by kernel_rfl) (by kernel_rfl)
  have h0 := World.var?_cell (show Tryd.prog.globalNamed "strconv.ErrSyntax" = some 4 by kernel_rfl) hv 0
  exact ⟨⟨_, by simpa using h0, .inr ⟨_, _, rfl⟩⟩, t⟩
set_option maxRecDepth 100000 in
set_option maxHeartbeats 4000000 in
theorem list_walk (a0 : Bool) (a1 a2 : ByteArray) (a3 a4 : Int) (w : World) (w1 : a1.size ≤ 140737488351232) (w2 : a2.size ≤ 140737488351232) (w3 : (Lit.int .i64 a3).wf = true) (w4 : (Lit.int .i64 a4).wf = true) (hL : laidMet Tryd.prog Rows.fnListPrefixRow.laid w) :
    Calls Tryd.prog 8 #[.bool a0, .string a1, .string a2, .int .i64 a3, .int .i64 a4] w fun e w' => e = .returned (.bool true) ∧ Below w.heap.size w w' := by
  have hv := sv_of w hL
  clear hL w1 w2 w3 w4
  by_cases g0 : 2147483647 < a1.size
  · have f0a : decide (2147483647 < (a1.size : Int)) = true := decide_eq_true (by omega)
    have f0b : decide (2147483647 < a1.size) = true := decide_eq_true (by omega)
    clear hv
    go_enter Tryd.func8, Tryd.ntmps8
    go_wp2
    go_ret
    exact ⟨rfl, Below.refl _ _⟩
  have f0a : decide (2147483647 < (a1.size : Int)) = false := decide_eq_false (by omega)
  have f0b : decide (2147483647 < a1.size) = false := decide_eq_false (by omega)
  have f0c : ¬ (2147483647 < (a1.size : Int)) := by omega
  have f0d : ¬ 2147483647 < a1.size := by omega
  by_cases g1 : 2147483647 < a2.size
  · have f1a : decide (2147483647 < (a2.size : Int)) = true := decide_eq_true (by omega)
    have f1b : decide (2147483647 < a2.size) = true := decide_eq_true (by omega)
    clear hv
    go_enter Tryd.func8, Tryd.ntmps8
    go_wp2
    go_ret
    exact ⟨rfl, Below.refl _ _⟩
  have f1a : decide (2147483647 < (a2.size : Int)) = false := decide_eq_false (by omega)
  have f1b : decide (2147483647 < a2.size) = false := decide_eq_false (by omega)
  have f1c : ¬ (2147483647 < (a2.size : Int)) := by omega
  have f1d : ¬ 2147483647 < a2.size := by omega
  by_cases g2 : 12 < a1.size
  · have f2a : decide (12 < (a1.size : Int)) = true := decide_eq_true (by omega)
    have f2b : decide (12 < a1.size) = true := decide_eq_true (by omega)
    clear hv
    go_enter Tryd.func8, Tryd.ntmps8
    go_wp2
    go_ret
    exact ⟨rfl, Below.refl _ _⟩
  have f2a : decide (12 < (a1.size : Int)) = false := decide_eq_false (by omega)
  have f2b : decide (12 < a1.size) = false := decide_eq_false (by omega)
  have f2c : ¬ (12 < (a1.size : Int)) := by omega
  have f2d : ¬ 12 < a1.size := by omega
  by_cases g3 : 1024 < a2.size
  · have f3a : decide (1024 < (a2.size : Int)) = true := decide_eq_true (by omega)
    have f3b : decide (1024 < a2.size) = true := decide_eq_true (by omega)
    clear hv
    go_enter Tryd.func8, Tryd.ntmps8
    go_wp2
    go_ret
    exact ⟨rfl, Below.refl _ _⟩
  have f3a : decide (1024 < (a2.size : Int)) = false := decide_eq_false (by omega)
  have f3b : decide (1024 < a2.size) = false := decide_eq_false (by omega)
  have f3c : ¬ (1024 < (a2.size : Int)) := by omega
  have f3d : ¬ 1024 < a2.size := by omega
  by_cases g4 : a4 < 0
  · have f4a : decide (a4 < 0) = true := decide_eq_true (by omega)
    clear hv
    go_enter Tryd.func8, Tryd.ntmps8
    go_wp2
    go_ret
    exact ⟨rfl, Below.refl _ _⟩
  have f4a : decide (a4 < 0) = false := decide_eq_false (by omega)
  have f4c : ¬ (a4 < 0) := by omega
  by_cases g5 : a3 ≤ a4
  · have f5a : decide (a3 ≤ a4) = true := decide_eq_true (by omega)
    clear hv
    go_enter Tryd.func8, Tryd.ntmps8
    go_wp2
    go_ret
    exact ⟨rfl, Below.refl _ _⟩
  have f5a : decide (a3 ≤ a4) = false := decide_eq_false (by omega)
  have f5c : ¬ (a3 ≤ a4) := by omega
  by_cases g6 : 1048576 < a3
  · have f6a : decide (1048576 < a3) = true := decide_eq_true (by omega)
    clear hv
    go_enter Tryd.func8, Tryd.ntmps8
    go_wp2
    go_ret
    exact ⟨rfl, Below.refl _ _⟩
  have f6a : decide (1048576 < a3) = false := decide_eq_false (by omega)
  have f6c : ¬ (1048576 < a3) := by omega
  have hS := start_ev a1 (by omega)
  obtain ⟨k, hk⟩ := hS.rounds
  have CS := Aside0.mk (spec_Start.calls k a1 (stOf a1) w hk)
  have hbd := st_bound a1 (by omega)
  by_cases hneg : stOf a1 < 0
  · have n1 : decide (stOf a1 < 0) = true := decide_eq_true hneg
    clear hk hS hbd hv
    generalize stOf a1 = st at *
    go_enter Tryd.func8, Tryd.ntmps8
    go_wp2_with (go_at_call 21; go_must (refine CS.out.mono ?_; rintro e w1 ⟨rfl, hd⟩; have HB := Aside0.mk hd.below; clear hd))
    go_ret
    exact ⟨rfl, HB.out⟩
  · have n1 : decide (stOf a1 < 0) = false := decide_eq_false hneg
    have hP := prefix_ev a0 a1 a2 (by omega) (by omega) a3 a4 (by omega) hbd (by omega) (by omega) (by omega)
    obtain ⟨k2, hk2⟩ := hP.rounds
    have CP := Aside0.mk (fun wx => spec_Prefix.calls k2 a0 a1 a2 a3 a4 _ wx hk2)
    have CI := Aside0.mk (fun (wx : World) (hb : Below w.heap.size w wx) => ilist_calls a0 a1 a2 (by omega) (by omega) a3 a4 (by omega) hbd (by omega) (by omega) (by omega) wx (hv.below hb))
    clear hk hS hbd hv hP hk2
    generalize preT a0 a1 a2 a3 a4 = T at *
    generalize stOf a1 = st at *
    go_enter Tryd.func8, Tryd.ntmps8
    go_wp2_with (first
      | (go_at_call 21; go_must (refine CS.out.mono ?_; rintro e w1 ⟨rfl, hd⟩; have HB := Aside0.mk hd.below; clear hd))
      | (go_at_call 22; go_must (refine (CI.out _ HB.out).mono ?_; rintro e w2 ⟨rfl, hb⟩; have HB2 := Aside0.mk (below_step HB.out hb); clear hb))
      | (go_at_call 23; go_must (refine (CP.out _).mono ?_; rintro e w3 ⟨rfl, hb⟩; have HB3 := Aside0.mk (below_step HB2.out hb); clear hb)))
    go_ret
    first
      | exact ⟨rfl, HB3.out⟩
      | exact ⟨by rw [toList_beq_self], HB3.out⟩
      | exact ⟨by simp, HB3.out⟩
end Go.Proofs.YtbhcoeabhdangaaDoor.PInl
