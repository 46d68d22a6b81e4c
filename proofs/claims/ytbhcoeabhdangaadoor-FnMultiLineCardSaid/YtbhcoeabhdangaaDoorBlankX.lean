/- replaceAnyWhitespaceWithSpace: white space to one blank a run. -/
import Derived.Test.YtbhcoeabhdangaaDoorBlankL
import Derived.Test.YtbhcoeabhdangaaDoorWMore
import Derived.Test.YtbhcoeabhdangaaDoorProg
import Derived.Deep.DeepMust
import Derived.Tactics2
import Derived.Lib.SliceRun
namespace Go.Proofs.YtbhcoeabhdangaaDoor.Blank
open Go.RowKit Go.Proofs.YtbhcoeabhdangaaDoorW.PrintWords Go.Proofs.YtbhcoeabhdangaaDoorW.PrintLast Go.Proofs.YtbhcoeabhdangaaDoorW.PrintMore
set_option linter.unusedVariables false
set_option linter.unusedSimpArgs false

theorem infoU8 : (Tryd.prog.info? 5).map (fun i => (i.zero, i.size, i.bytes)) = some (some (.int .u8 0), 1, 1) := by kernel_rfl
theorem own_slice {w : World} {base e size n : Nat} {v : Value} {xs : List Value} (h : w.ownsRow base e size v n xs) : ∃ A c, v = .slice A n c := by
  rcases h.2 with ⟨rfl, hn⟩ | ⟨g, cap, cur, rfl, _⟩
  · exact ⟨none, 0, by rw [hn]⟩
  · exact ⟨_, _, rfl⟩
structure Bx (w0 : World) (gs gr : Nat) (s : ByteArray) (wr : World) (v : Value) (R : List Int) : Prop where
  src : wr.heap[gs]? = some (.cells #[.string s] 9 (0, 0))
  box : wr.heap[gr]? = some (.cells #[v] 40 (0, 0))
  own : wr.ownsRow w0.heap.size 5 1 v R.length (nums .u8 R)
  below : Below w0.heap.size w0 wr
theorem Bx.apart {w0 : World} {gs gr : Nat} {s : ByteArray} {wr : World} {v : Value} {R : List Int} (h : Bx w0 gs gr s wr v R) {k : Nat} (hk : v.ownBlock = some k) : k ≠ gs ∧ k ≠ gr := by
  obtain ⟨cells, hc⟩ := own_typed h.own k hk
  refine ⟨fun e => ?_, fun e => ?_⟩
  · rw [e, h.src] at hc
    cases hc
  · rw [e, h.box] at hc
    cases hc
theorem Bx.drewN {w0 : World} {gs gr : Nat} {s : ByteArray} {wr : World} {v : Value} {R : List Int} (h : Bx w0 gs gr s wr v R) (n : Nat) : Bx w0 gs gr s (wr.drewN n) v R :=
  ⟨h.src, h.box, h.own, pw_below_drewN h.below n⟩
/-- An append to the row, and the store of what it is now. -/
theorem Bx.grow {w0 : World} {gs gr : Nat} {s : ByteArray} {wr w1 : World} {v v1 : Value} {R R1 : List Int} (h : Bx w0 gs gr s wr v R) (hne : gs ≠ gr) (hgr : w0.heap.size ≤ gr) (ho : w1.ownsRow w0.heap.size 5 1 v1 R1.length (nums .u8 R1)) (hb : Below w0.heap.size w0 w1) (hg : wr.grownBy w1 v.ownBlock) :
    Bx w0 gs gr s (w1.setCell ⟨gr, 0, none⟩ v1) v1 R1 := by
  have e1 : w1.heap[gs]? = some (.cells #[.string s] 9 (0, 0)) := (hg.block gs (blk_lt h.src) (fun e => (h.apart e.symm).1 rfl)).trans h.src
  have e2 : w1.heap[gr]? = some (.cells #[v] 40 (0, 0)) := (hg.block gr (blk_lt h.box) (fun e => (h.apart e.symm).2 rfl)).trans h.box
  refine ⟨blk_far e1 hne _, blk_set e2 0 _, own_move ho (fun k hk => ?_), Below.setCell hb hgr _⟩
  obtain ⟨cells, hc⟩ := own_typed ho k hk
  exact Below.heap_setCell w1 _ _ k (fun e => by
    obtain rfl : k = gr := e
    rw [e2] at hc
    cases hc)
theorem Bx.boxed {w0 : World} {gs gr : Nat} {s : ByteArray} {wr w1 : World} {v : Value} {R : List Int} (h : Bx w0 gs gr s wr v R) (hg : wr.grownBy w1 v.ownBlock) :
    w1.cell? ⟨gr, 0, none⟩ = some v ∧ w1.frozen? ⟨gr, 0, none⟩ = false ∧ w1.cell? ⟨gs, 0, none⟩ = some (.string s) := by
  have e1 : w1.heap[gs]? = some (.cells #[.string s] 9 (0, 0)) := (hg.block gs (blk_lt h.src) (fun e => (h.apart e.symm).1 rfl)).trans h.src
  have e2 : w1.heap[gr]? = some (.cells #[v] 40 (0, 0)) := (hg.block gr (blk_lt h.box) (fun e => (h.apart e.symm).2 rfl)).trans h.box
  exact ⟨blk_cell e2 0, blk_frozen e2 0, blk_cell e1 0⟩
theorem Bx.cells {w0 : World} {gs gr : Nat} {s : ByteArray} {wr : World} {v : Value} {R : List Int} (h : Bx w0 gs gr s wr v R) :
    wr.cell? ⟨gr, 0, none⟩ = some v ∧ wr.frozen? ⟨gr, 0, none⟩ = false ∧ wr.cell? ⟨gs, 0, none⟩ = some (.string s) :=
  ⟨blk_cell h.box 0, blk_frozen h.box 0, blk_cell h.src 0⟩
theorem make_some (w0 wr : World) (gs gr g : Nat) (s : ByteArray) (n c : Nat) (R : List Int) (h : Bx w0 gs gr s wr (.slice (some ⟨g, 0, none⟩) n c) R) :
    Calls Tryd.prog 76 #[.pointer (some ⟨gr, 0, none⟩), .pointer (some ⟨gs, 0, none⟩)] wr fun e w' => e = .returned (.tuple #[]) ∧ w' = wr := by
  have hcb : wr.cell? ⟨gr, 0, none⟩ = some (.slice (some ⟨g, 0, none⟩) n c) := blk_cell h.box 0
  have hnil := fun (w : World) => Lib.run_eql_slice_nil (P := Tryd.prog) w 40 5 (some ⟨g, 0, none⟩) n c 0 0 Tryd.underlying40
  clear h
  go_enter Tryd.func76, Tryd.ntmps76
  go_wp2_with fail
  go_end0
  exact ⟨rfl, rfl⟩
theorem make_none (w0 wr : World) (gs gr : Nat) (s : ByteArray) (hs : s.size ≤ 2147483647) (hne : gs ≠ gr) (hgr : w0.heap.size ≤ gr) (h : Bx w0 gs gr s wr (.slice none 0 0) []) :
    Calls Tryd.prog 76 #[.pointer (some ⟨gr, 0, none⟩), .pointer (some ⟨gs, 0, none⟩)] wr fun e w' => e = .returned (.tuple #[]) ∧ ∃ g c, Bx w0 gs gr s w' (.slice (some ⟨g, 0, none⟩) 0 c) [] := by
  obtain ⟨w1, hmk, ho1, hg1⟩ := run_make_own (P := Tryd.prog) wr w0.heap.size 40 5 (Tryd.prog.info? 5).get! (.int .u8 0) 1 Tryd.underlying40 (by kernel_rfl) (by kernel_rfl) (by kernel_rfl) .i64 .i64 s.size (by rw [show ((Tryd.prog.info? 5).get!).bytes = 1 from by kernel_rfl]; omega) (by simp only [maxLen]; omega) h.below.size
  have hcb : wr.cell? ⟨gr, 0, none⟩ = some (.slice none 0 0) := blk_cell h.box 0
  have hcs : wr.cell? ⟨gs, 0, none⟩ = some (.string s) := blk_cell h.src 0
  have hnil := fun (w : World) => Lib.run_eql_slice_nil (P := Tryd.prog) w 40 5 none 0 0 0 0 Tryd.underlying40
  have HG := Aside0.mk (h.grow (R1 := []) hne hgr ho1 (Below.grown h.below hg1 h.below.size (fun _ h => by cases h)) (by simpa [Value.ownBlock] using hg1))
  have hb1 : w1.heap[gr]? = some (.cells #[.slice none 0 0] 40 (0, 0)) := (hg1.block gr (blk_lt h.box) (by simp)).trans h.box
  have hcb1 : w1.cell? ⟨gr, 0, none⟩ = some (.slice none 0 0) := blk_cell hb1 0
  have hfb1 := blk_frozen hb1 0
  clear h ho1 hg1 hb1
  go_enter Tryd.func76, Tryd.ntmps76
  go_wp2_with fail
  go_end0
  exact ⟨rfl, _, _, HG.out⟩
theorem make_calls (w0 wr : World) (gs gr : Nat) (s : ByteArray) (v : Value) (R : List Int) (hs : s.size ≤ 2147483647) (hne : gs ≠ gr) (hgr : w0.heap.size ≤ gr) (h : Bx w0 gs gr s wr v R) :
    Calls Tryd.prog 76 #[.pointer (some ⟨gr, 0, none⟩), .pointer (some ⟨gs, 0, none⟩)] wr fun e w' => e = .returned (.tuple #[]) ∧ ∃ g c, Bx w0 gs gr s w' (.slice (some ⟨g, 0, none⟩) R.length c) R := by
  rcases h.own.2 with ⟨rfl, hn⟩ | ⟨g, cap, cur, rfl, _⟩
  · obtain rfl : R = [] := List.eq_nil_of_length_eq_zero hn
    exact make_none w0 wr gs gr s hs hne hgr h
  · refine (make_some w0 wr gs gr g s _ _ R h).mono ?_
    rintro e w' ⟨rfl, rfl⟩
    exact ⟨rfl, g, cap, h⟩
end Go.Proofs.YtbhcoeabhdangaaDoor.Blank
