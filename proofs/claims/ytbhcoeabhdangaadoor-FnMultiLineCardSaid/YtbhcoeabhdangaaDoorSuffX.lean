/- bytes.Equal, bytes.HasSuffix, at rows that are read. -/
import Derived.Test.YtbhcoeabhdangaaDoorLeftX
namespace Go.Proofs.YtbhcoeabhdangaaDoor.PInl
open Go.Proofs.YtbhcoeabhdangaaDoor.Txt Go.RowKit Go.Proofs.YtbhcoeabhdangaaDoorW.PrintWords Go.Proofs.YtbhcoeabhdangaaDoorW.PrintLast Go.Proofs.YtbhcoeabhdangaaDoorW.PrintMore
set_option linter.unusedVariables false
set_option linter.unusedSimpArgs false

theorem equal_calls (A B : Option Addr) (n c d e : Nat) (m s : List Int) (w : World) (hr : ReadsInt w .u8 A n m) (hs : ReadsInt w .u8 B d s) :
    Calls Tryd.prog 61 #[.slice A n c, .slice B d e] w fun e w' => e = .returned (.bool ((strOfNums m).toList == (strOfNums s).toList)) ∧ w' = w := by
  have h1 : (convert 40 9 (.slice A n c)).run Tryd.prog w = .ok (.string (strOfNums m)) w := string_of_reads Tryd.underlying40 Tryd.underlying5 Tryd.underlying9 hr
  have h2 : (convert 40 9 (.slice B d e)).run Tryd.prog w = .ok (.string (strOfNums s)) w := string_of_reads Tryd.underlying40 Tryd.underlying5 Tryd.underlying9 hs
  clear hr hs
  generalize strOfNums m = x at *
  generalize strOfNums s = y at *
  go_enter Tryd.func61, Tryd.ntmps61
  go_wp2
  go_ret
  exact ⟨rfl, rfl⟩
/-- Whether a text ends in two blanks. -/
def hsuf (m : List Int) : Bool := decide (2 ≤ m.length) && ((strOfNums (m.drop (m.length - 2))).toList == (strOfNums [32, 32]).toList)
set_option maxRecDepth 100000 in
theorem suffix_calls (A B : Option Addr) (c e : Nat) (m : List Int) (hc : m.length ≤ c) (hn : m.length ≤ 2147483647) (w : World) (hr : ReadsInt w .u8 A m.length m) (hs : ReadsInt w .u8 B 2 [32, 32]) :
    Calls Tryd.prog 45 #[.slice A m.length c, .slice B 2 e] w fun e w' => e = .returned (.bool (hsuf m)) ∧ w' = w := by
  obtain ⟨i0, hi0, _, hsz0, _⟩ := info_parts (show (Tryd.prog.info? 5).map (fun i => (i.zero, i.size, i.bytes)) = some (some (.int .u8 0), 1, 1) by kernel_rfl)
  unfold hsuf
  by_cases h2 : 2 ≤ m.length
  · obtain ⟨A', hcut, hA', hC'⟩ := print_drop_of (P := Tryd.prog) (Value.int .u8) (0 : Int) 40 5 .i64 Tryd.underlying40 hi0 hsz0 A c m ((m.length - 2 : Nat) : Int) (by omega) (by omega) hc
    rw [Int.toNat_natCast] at hcut hA' hC'
    have hdl : (m.drop (m.length - 2)).length = 2 := by rw [List.length_drop]; omega
    have HE := Aside0.mk (equal_calls A' B (m.drop (m.length - 2)).length (c - (m.length - 2)) 2 e (m.drop (m.length - 2)) [32, 32] w (hA' w hr) hs)
    rw [hdl] at hcut HE
    have hsub : wrap64 ((m.length - 2 : Nat) : Int) = ((m.length - 2 : Nat) : Int) := wrap_id (by omega) (by omega)
    have hsub2 : ((m.length : Int) - 2) = ((m.length - 2 : Nat) : Int) := by omega
    have hge : ((m.length : Int) ≥ 2) := by omega
    rw [decide_eq_true h2, Bool.true_and]
    generalize ((strOfNums (m.drop (m.length - 2))).toList == (strOfNums [32, 32]).toList) = b at HE ⊢
    generalize m.length - 2 = j at *
    generalize hml : m.length = n at *
    clear hr hs hA' hC' hdl hc hn h2 hml hi0
    go_enter Tryd.func45, Tryd.ntmps45
    go_wp2_with (go_at_call 61; go_must (refine HE.out.mono ?_; rintro e w1 ⟨rfl, rfl⟩))
    go_ret
    exact ⟨rfl, rfl⟩
  · have hge : ¬ ((m.length : Int) ≥ 2) := by omega
    rw [decide_eq_false h2, Bool.false_and]
    generalize m.length = n at *
    clear hr hs hc hi0
    go_enter Tryd.func45, Tryd.ntmps45
    go_wp2
    go_ret
    exact ⟨rfl, rfl⟩
/-- The row of a constant text's two blanks, marked as text. -/
def boxed2 (W : World) : World := (W.alloc (.cells #[.int .u8 32, .int .u8 32] 5)).freeze ⟨W.heap.size, 2, none⟩ 1
theorem boxed2_heap (W : World) : (boxed2 W).heap[W.heap.size]? = some (.cells #[.int .u8 32, .int .u8 32] 5 (2, 3)) := by
  simp [boxed2, World.freeze, World.alloc, -World.alloc_eq]
  rw [Array.getElem_modify_self]
  simp
theorem boxed2_below (W : World) : Below W.heap.size W (boxed2 W) := by
  refine ⟨rfl, rfl, rfl, by simp [boxed2, World.freeze, World.alloc, -World.alloc_eq], fun i hi => ?_⟩
  have h1 : W.heap.size ≠ i := by omega
  simp [boxed2, World.freeze, World.alloc, -World.alloc_eq, Array.getElem?_modify, Array.getElem?_push, h1, Ne.symm h1]
theorem boxed2_reads (W : World) : ReadsInt (boxed2 W) .u8 (some ⟨W.heap.size, 0, none⟩) 2 [32, 32] := by
  refine ⟨rfl, by omega, fun _ => ⟨_, rfl, fun j hj => ?_⟩⟩
  rw [add_plain]
  have h : j = 0 ∨ j = 1 := by omega
  rcases h with rfl | rfl <;> simp [World.cell?, boxed2_heap]
theorem run_convert_mark {P : Program} (t e : TypeId) (ht : P.underlying t = some (.slice e)) (he : P.underlying e = some (.int .u8)) (g n c : Nat) (cs : Array Value) (W : World) (hg : W.heap[g]? = some (.cells cs e (0, 0))) :
    (convert t t (.slice (some ⟨g, 0, none⟩) n c)).run P W = .ok (.slice (some ⟨g, 0, none⟩) n c) (W.freeze ⟨g, cs.size, none⟩ 1) := by
  simp [convert, run_underlying ht, run_underlying he, markStringish, World.shape?, hg, Result.andThen]
theorem mark_two (W : World) : (convert 40 40 (.slice (some ⟨W.heap.size, 0, none⟩) 2 2)).run Tryd.prog (W.alloc (.cells #[.int .u8 32, .int .u8 32] 5)) = .ok (.slice (some ⟨W.heap.size, 0, none⟩) 2 2) (boxed2 W) :=
  run_convert_mark 40 5 Tryd.underlying40 Tryd.underlying5 W.heap.size 2 2 #[.int .u8 32, .int .u8 32] _ (heap_alloc_new W _)
end Go.Proofs.YtbhcoeabhdangaaDoor.PInl
