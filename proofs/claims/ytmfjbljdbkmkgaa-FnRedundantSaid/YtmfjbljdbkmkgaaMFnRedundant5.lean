/- A part of the proof of FnRedundant: BlankL, BlankX, BlankS, BlankY, QuotX, Lives, one behind the other. -/
import Derived.Test.YtmfjbljdbkmkgaaMFnRedundant1
import Derived.Test.YtmfjbljdbkmkgaaProg
import Derived.Deep.DeepMust
import Derived.Tactics2
import Derived.Lib.SliceRun
import Derived.Deep.DeepCutAuto
import Derived.StillTailTactics
import Derived.Test.YtmfjbljdbkmkgaaMFnRedundant2
import Derived.Test.YtmfjbljdbkmkgaaMFnRedundant4
/- White space to one blank a run, as plain data. -/
namespace Go.Proofs.Ytmfjbljdbkmkgaa.Blank
set_option linter.unusedVariables false
set_option linter.unusedSimpArgs false

def ws (c : Int) : Bool := decide (c = 32) || decide (c = 13) || decide (c = 10) || decide (c = 9)
/-- Runs of white space are one blank; b: whether white space stands right ahead. -/
def norm : Bool → List Int → List Int
  | _, [] => []
  | b, c :: l => if ws c = true then (if b = true then norm true l else 32 :: norm true l) else c :: norm false l
def endW : Bool → List Int → Bool
  | b, [] => b
  | _, c :: l => endW (ws c) l
theorem norm_append (l m : List Int) : ∀ b, norm b (l ++ m) = norm b l ++ norm (endW b l) m := by
  induction l with
  | nil => intro b; rfl
  | cons c l ih =>
    intro b
    rw [List.cons_append]
    simp only [norm, endW]
    cases hw : ws c with
    | true =>
      simp only [if_true]
      rw [ih true]
      cases b with
      | true => simp
      | false => simp
    | false => simp [ih false]
theorem endW_append (l m : List Int) : ∀ b, endW b (l ++ m) = endW (endW b l) m := by
  induction l with
  | nil => intro b; rfl
  | cons c l ih => intro b; exact ih _
theorem norm_ws (l : List Int) (h : ∀ c ∈ l, ws c = true) : norm true l = [] := by
  induction l with
  | nil => rfl
  | cons c l ih =>
    simp only [norm]
    rw [if_pos (h c List.mem_cons_self), if_pos trivial]
    exact ih (fun x hx => h x (List.mem_cons_of_mem _ hx))
theorem norm_run (l : List Int) (h : ∀ c ∈ l, ws c = true) (hne : l ≠ []) : norm false l = [32] := by
  cases l with
  | nil => exact absurd rfl hne
  | cons c l =>
    simp only [norm]
    rw [if_pos (h c List.mem_cons_self), if_neg (by simp), norm_ws l (fun x hx => h x (List.mem_cons_of_mem _ hx))]
theorem endW_run (l : List Int) (h : ∀ c ∈ l, ws c = true) (hne : l ≠ []) : ∀ b, endW b l = true := by
  induction l with
  | nil => exact absurd rfl hne
  | cons c l ih =>
    intro b
    show endW (ws c) l = true
    rw [h c List.mem_cons_self]
    cases l with
    | nil => rfl
    | cons d l => exact ih (fun x hx => h x (List.mem_cons_of_mem _ hx)) (by simp) true
open Go.Proofs.YtmfjbljdbkmkgaaW.PrintWords in
theorem bt_nth (s : ByteArray) (j : Nat) (h : j < s.size) : (bytesOf s)[j]? = some (bt s (j : Int)) := by
  have h2 : j < s.data.toList.length := by rw [Array.length_toList]; exact h
  unfold bytesOf
  rw [List.getElem?_map, List.getElem?_eq_getElem h2, ← bt_at s (j : Int) (by simpa using h)]
  simp
  rfl
end Go.Proofs.Ytmfjbljdbkmkgaa.Blank

/- replaceAnyWhitespaceWithSpace: white space to one blank a run. -/
namespace Go.Proofs.Ytmfjbljdbkmkgaa.Blank
open Go.RowKit Go.Proofs.YtmfjbljdbkmkgaaW.PrintWords Go.Proofs.YtmfjbljdbkmkgaaW.PrintLast Go.Proofs.YtmfjbljdbkmkgaaW.PrintMore
set_option linter.unusedVariables false
set_option linter.unusedSimpArgs false

theorem infoU8 : (Try.prog.info? 5).map (fun i => (i.zero, i.size, i.bytes)) = some (some (.int .u8 0), 1, 1) := by kernel_rfl
theorem own_slice {w : World} {base e size n : Nat} {v : Value} {xs : List Value} (h : w.ownsRow base e size v n xs) : ∃ A c, v = .slice A n c := by
  rcases h.2 with ⟨rfl, hn⟩ | ⟨g, cap, cur, rfl, _⟩
  · exact ⟨none, 0, by rw [hn]⟩
  · exact ⟨_, _, rfl⟩
structure Bx (w0 : World) (gs gr : Nat) (s : ByteArray) (wr : World) (v : Value) (R : List Int) : Prop where
  src : wr.heap[gs]? = some (.cells #[.string s] 9 (0, 0))
  box : wr.heap[gr]? = some (.cells #[v] 58 (0, 0))
  own : wr.ownsRow w0.heap.size 5 1 v R.length (nums .u8 R)
  below : Below w0.heap.size w0 wr
theorem Bx.apart {w0 : World} {gs gr : Nat} {s : ByteArray} {wr : World} {v : Value} {R : List Int} (h : Bx w0 gs gr s wr v R) {k : Nat} (hk : v.ownBlock = some k) : k ≠ gs ∧ k ≠ gr := by
  obtain ⟨cells, hc⟩ := own_typed h.own k hk
  refine ⟨fun e => ?_, fun e => ?_⟩
  · rw [e, h.src] at hc
    cases hc
  · rw [e, h.box] at hc
    cases hc
theorem Bx.drewN {w0 : World} {gs gr : Nat} {s : ByteArray} {wr : World} {v : Value} {R : List Int} (h : Bx w0 gs gr s wr v R) (n : Nat) : Bx w0 gs gr s (wr.drewN n) v R :=
  ⟨h.src, h.box, h.own, pw_below_drewN h.below n⟩
/-- An append to the row, and the store of what it is now. -/
theorem Bx.grow {w0 : World} {gs gr : Nat} {s : ByteArray} {wr w1 : World} {v v1 : Value} {R R1 : List Int} (h : Bx w0 gs gr s wr v R) (hne : gs ≠ gr) (hgr : w0.heap.size ≤ gr) (ho : w1.ownsRow w0.heap.size 5 1 v1 R1.length (nums .u8 R1)) (hb : Below w0.heap.size w0 w1) (hg : wr.grownBy w1 v.ownBlock) :
    Bx w0 gs gr s (w1.setCell ⟨gr, 0, none⟩ v1) v1 R1 := by
  have e1 : w1.heap[gs]? = some (.cells #[.string s] 9 (0, 0)) := (hg.block gs (blk_lt h.src) (fun e => (h.apart e.symm).1 rfl)).trans h.src
  have e2 : w1.heap[gr]? = some (.cells #[v] 58 (0, 0)) := (hg.block gr (blk_lt h.box) (fun e => (h.apart e.symm).2 rfl)).trans h.box
  refine ⟨blk_far e1 hne _, blk_set e2 0 _, own_move ho (fun k hk => ?_), Below.setCell hb hgr _⟩
  obtain ⟨cells, hc⟩ := own_typed ho k hk
  exact Below.heap_setCell w1 _ _ k (fun e => by
    obtain rfl : k = gr := e
    rw [e2] at hc
    cases hc)
theorem Bx.boxed {w0 : World} {gs gr : Nat} {s : ByteArray} {wr w1 : World} {v : Value} {R : List Int} (h : Bx w0 gs gr s wr v R) (hg : wr.grownBy w1 v.ownBlock) :
    w1.cell? ⟨gr, 0, none⟩ = some v ∧ w1.frozen? ⟨gr, 0, none⟩ = false ∧ w1.cell? ⟨gs, 0, none⟩ = some (.string s) := by
  have e1 : w1.heap[gs]? = some (.cells #[.string s] 9 (0, 0)) := (hg.block gs (blk_lt h.src) (fun e => (h.apart e.symm).1 rfl)).trans h.src
  have e2 : w1.heap[gr]? = some (.cells #[v] 58 (0, 0)) := (hg.block gr (blk_lt h.box) (fun e => (h.apart e.symm).2 rfl)).trans h.box
  exact ⟨blk_cell e2 0, blk_frozen e2 0, blk_cell e1 0⟩
theorem Bx.cells {w0 : World} {gs gr : Nat} {s : ByteArray} {wr : World} {v : Value} {R : List Int} (h : Bx w0 gs gr s wr v R) :
    wr.cell? ⟨gr, 0, none⟩ = some v ∧ wr.frozen? ⟨gr, 0, none⟩ = false ∧ wr.cell? ⟨gs, 0, none⟩ = some (.string s) :=
  ⟨blk_cell h.box 0, blk_frozen h.box 0, blk_cell h.src 0⟩
theorem make_some (w0 wr : World) (gs gr g : Nat) (s : ByteArray) (n c : Nat) (R : List Int) (h : Bx w0 gs gr s wr (.slice (some ⟨g, 0, none⟩) n c) R) :
    Calls Try.prog 115 #[.pointer (some ⟨gr, 0, none⟩), .pointer (some ⟨gs, 0, none⟩)] wr fun e w' => e = .returned (.tuple #[]) ∧ w' = wr := by
  have hcb : wr.cell? ⟨gr, 0, none⟩ = some (.slice (some ⟨g, 0, none⟩) n c) := blk_cell h.box 0
  have hnil := fun (w : World) => Lib.run_eql_slice_nil (P := Try.prog) w 58 5 (some ⟨g, 0, none⟩) n c 0 0 Try.underlying58
  clear h
  go_enter Try.func115, Try.ntmps115
  go_wp2_with fail
  go_end0
  exact ⟨rfl, rfl⟩
theorem make_none (w0 wr : World) (gs gr : Nat) (s : ByteArray) (hs : s.size ≤ 2147483647) (hne : gs ≠ gr) (hgr : w0.heap.size ≤ gr) (h : Bx w0 gs gr s wr (.slice none 0 0) []) :
    Calls Try.prog 115 #[.pointer (some ⟨gr, 0, none⟩), .pointer (some ⟨gs, 0, none⟩)] wr fun e w' => e = .returned (.tuple #[]) ∧ ∃ g c, Bx w0 gs gr s w' (.slice (some ⟨g, 0, none⟩) 0 c) [] := by
  obtain ⟨w1, hmk, ho1, hg1⟩ := run_make_own (P := Try.prog) wr w0.heap.size 58 5 (Try.prog.info? 5).get! (.int .u8 0) 1 Try.underlying58 (by kernel_rfl) (by kernel_rfl) (by kernel_rfl) .i64 .i64 s.size (by rw [show ((Try.prog.info? 5).get!).bytes = 1 from by kernel_rfl]; omega) (by simp only [maxLen]; omega) h.below.size
  have hcb : wr.cell? ⟨gr, 0, none⟩ = some (.slice none 0 0) := blk_cell h.box 0
  have hcs : wr.cell? ⟨gs, 0, none⟩ = some (.string s) := blk_cell h.src 0
  have hnil := fun (w : World) => Lib.run_eql_slice_nil (P := Try.prog) w 58 5 none 0 0 0 0 Try.underlying58
  have HG := Aside0.mk (h.grow (R1 := []) hne hgr ho1 (Below.grown h.below hg1 h.below.size (fun _ h => by cases h)) (by simpa [Value.ownBlock] using hg1))
  have hb1 : w1.heap[gr]? = some (.cells #[.slice none 0 0] 58 (0, 0)) := (hg1.block gr (blk_lt h.box) (by simp)).trans h.box
  have hcb1 : w1.cell? ⟨gr, 0, none⟩ = some (.slice none 0 0) := blk_cell hb1 0
  have hfb1 := blk_frozen hb1 0
  clear h ho1 hg1 hb1
  go_enter Try.func115, Try.ntmps115
  go_wp2_with fail
  go_end0
  exact ⟨rfl, _, _, HG.out⟩
theorem make_calls (w0 wr : World) (gs gr : Nat) (s : ByteArray) (v : Value) (R : List Int) (hs : s.size ≤ 2147483647) (hne : gs ≠ gr) (hgr : w0.heap.size ≤ gr) (h : Bx w0 gs gr s wr v R) :
    Calls Try.prog 115 #[.pointer (some ⟨gr, 0, none⟩), .pointer (some ⟨gs, 0, none⟩)] wr fun e w' => e = .returned (.tuple #[]) ∧ ∃ g c, Bx w0 gs gr s w' (.slice (some ⟨g, 0, none⟩) R.length c) R := by
  rcases h.own.2 with ⟨rfl, hn⟩ | ⟨g, cap, cur, rfl, _⟩
  · obtain rfl : R = [] := List.eq_nil_of_length_eq_zero hn
    exact make_none w0 wr gs gr s hs hne hgr h
  · refine (make_some w0 wr gs gr g s _ _ R h).mono ?_
    rintro e w' ⟨rfl, rfl⟩
    exact ⟨rfl, g, cap, h⟩
end Go.Proofs.Ytmfjbljdbkmkgaa.Blank

/- The states of replaceAnyWhitespaceWithSpace's loop, as plain data. -/
namespace Go.Proofs.Ytmfjbljdbkmkgaa.Blank
set_option linter.unusedVariables false
set_option linter.unusedSimpArgs false

def seg (l : List Int) (a b : Nat) : List Int := (l.take b).drop a
theorem seg_succ {l : List Int} {a b : Nat} (h : a ≤ b) (hb : b < l.length) : seg l a (b + 1) = seg l a b ++ [l[b]] := by
  unfold seg
  rw [List.take_succ_eq_append_getElem hb, List.drop_append_of_le_length (by rw [List.length_take]; omega)]
theorem seg_self (l : List Int) (a : Nat) : seg l a a = [] := by
  unfold seg
  rw [List.drop_eq_nil_of_le (by rw [List.length_take]; omega)]
theorem seg_split {l : List Int} {a b : Nat} (h : a ≤ b) : l.take b = l.take a ++ seg l a b := by
  unfold seg
  rw [show l.take a = (l.take b).take a from by rw [List.take_take, Nat.min_eq_left h], List.take_append_drop]
structure St (l : List Int) (sn : Nat) (sm : Option Nat) (i : Nat) (R : List Int) : Prop where
  sni : sn ≤ i
  none_ : sm = none → R ++ seg l sn i = norm false (l.take i) ∧ endW false (l.take i) = false
  some_ : ∀ m, sm = some m → sn ≤ m ∧ m < i ∧ R ++ seg l sn m = norm false (l.take m) ∧ endW false (l.take m) = false ∧ ∀ c ∈ seg l m i, ws c = true
theorem St.start (l : List Int) : St l 0 none 0 [] := ⟨Nat.le_refl _, fun _ => ⟨by simp [seg, norm], by simp [endW]⟩, fun m h => by cases h⟩
theorem St.first {l : List Int} {sn i : Nat} {R : List Int} (h : St l sn none i R) (hi : i < l.length) (hw : ws l[i] = true) : St l sn (some i) (i + 1) R := by
  obtain ⟨h1, h2⟩ := h.none_ rfl
  refine ⟨by have := h.sni; omega, fun e => (by cases e), fun m e => ?_⟩
  obtain rfl := Option.some.inj e
  refine ⟨h.sni, by omega, h1, h2, fun c hc => ?_⟩
  rw [seg_succ (Nat.le_refl _) hi, seg_self, List.nil_append] at hc
  rw [List.mem_singleton.1 hc]
  exact hw
theorem St.more {l : List Int} {sn m i : Nat} {R : List Int} (h : St l sn (some m) i R) (hi : i < l.length) (hw : ws l[i] = true) : St l sn (some m) (i + 1) R := by
  obtain ⟨h1, h2, h3, h4, h5⟩ := h.some_ m rfl
  refine ⟨by have := h.sni; omega, fun e => (by cases e), fun m' e => ?_⟩
  obtain rfl := Option.some.inj e
  refine ⟨h1, by omega, h3, h4, fun c hc => ?_⟩
  rw [seg_succ (by omega) hi] at hc
  rcases List.mem_append.1 hc with hc | hc
  · exact h5 c hc
  · rw [List.mem_singleton.1 hc]
    exact hw
theorem norm_one {c : Int} (hc : ws c = false) (b : Bool) : norm b [c] = [c] ∧ endW b [c] = false := by
  constructor
  · simp [norm, hc]
  · simpa [endW] using hc
theorem St.plain {l : List Int} {sn i : Nat} {R : List Int} (h : St l sn none i R) (hi : i < l.length) (hw : ws l[i] = false) : St l sn none (i + 1) R := by
  obtain ⟨h1, h2⟩ := h.none_ rfl
  refine ⟨by have := h.sni; omega, fun _ => ?_, fun m e => by cases e⟩
  rw [seg_succ h.sni hi, ← List.append_assoc, h1, List.take_succ_eq_append_getElem hi, norm_append, endW_append, (norm_one hw _).1, (norm_one hw _).2]
  exact ⟨rfl, rfl⟩
/-- What stands ahead of place i, where white space stands from m on. -/
theorem St.norm_at {l : List Int} {sn m i : Nat} {R : List Int} (h : St l sn (some m) i R) (hi : i ≤ l.length) : norm false (l.take i) = R ++ seg l sn m ++ [32] ∧ endW false (l.take i) = true := by
  obtain ⟨h1, h2, h3, h4, h5⟩ := h.some_ m rfl
  have hne : seg l m i ≠ [] := by
    unfold seg
    intro e
    have := congrArg List.length e
    simp at this
    omega
  rw [seg_split (l := l) (Nat.le_of_lt h2), norm_append, endW_append, h4, norm_run _ h5 hne, endW_run _ h5 hne, h3]
  exact ⟨rfl, rfl⟩
theorem St.same {l : List Int} {sn m i : Nat} {R : List Int} (h : St l sn (some m) i R) (hi : i < l.length) (hw : ws l[i] = false) (hm : i = m + 1) (hb : l[m]? = some 32) : St l sn none (i + 1) R := by
  obtain ⟨e1, e2⟩ := h.norm_at (Nat.le_of_lt hi)
  obtain ⟨h1, h2, h3, h4, h5⟩ := h.some_ m rfl
  refine ⟨by have := h.sni; omega, fun _ => ?_, fun m e => by cases e⟩
  subst hm
  have hml : m < l.length := by omega
  have hb' : l[m] = 32 := by rw [List.getElem?_eq_getElem hml] at hb; exact Option.some.inj hb
  rw [seg_succ h.sni hi, seg_succ h1 hml, hb', List.take_succ_eq_append_getElem hi, norm_append, endW_append, e1, (norm_one hw _).1, (norm_one hw _).2]
  exact ⟨by simp, rfl⟩
theorem St.turn {l : List Int} {sn m i : Nat} {R : List Int} (h : St l sn (some m) i R) (hi : i < l.length) (hw : ws l[i] = false) : St l i none (i + 1) (R ++ seg l sn m ++ [32]) := by
  obtain ⟨e1, e2⟩ := h.norm_at (Nat.le_of_lt hi)
  refine ⟨by omega, fun _ => ?_, fun m e => by cases e⟩
  rw [seg_succ (Nat.le_refl _) hi, seg_self, List.nil_append, List.take_succ_eq_append_getElem hi, norm_append, endW_append, e1, (norm_one hw _).1, (norm_one hw _).2]
  exact ⟨rfl, rfl⟩
theorem St.firstG {l : List Int} {sn i : Nat} {R : List Int} {c : Int} (h : St l sn none i R) (hg : l[i]? = some c) (hw : ws c = true) : St l sn (some i) (i + 1) R := by
  obtain ⟨hi, rfl⟩ := List.getElem?_eq_some_iff.1 hg
  exact h.first hi hw
theorem St.moreG {l : List Int} {sn m i : Nat} {R : List Int} {c : Int} (h : St l sn (some m) i R) (hg : l[i]? = some c) (hw : ws c = true) : St l sn (some m) (i + 1) R := by
  obtain ⟨hi, rfl⟩ := List.getElem?_eq_some_iff.1 hg
  exact h.more hi hw
theorem St.plainG {l : List Int} {sn i : Nat} {R : List Int} {c : Int} (h : St l sn none i R) (hg : l[i]? = some c) (hw : ws c = false) : St l sn none (i + 1) R := by
  obtain ⟨hi, rfl⟩ := List.getElem?_eq_some_iff.1 hg
  exact h.plain hi hw
theorem St.sameG {l : List Int} {sn m i : Nat} {R : List Int} {c : Int} (h : St l sn (some m) i R) (hg : l[i]? = some c) (hw : ws c = false) (hm : i = m + 1) (hb : l[m]? = some 32) : St l sn none (i + 1) R := by
  obtain ⟨hi, rfl⟩ := List.getElem?_eq_some_iff.1 hg
  exact h.same hi hw hm hb
theorem St.turnG {l : List Int} {sn m i : Nat} {R : List Int} {c : Int} (h : St l sn (some m) i R) (hg : l[i]? = some c) (hw : ws c = false) : St l i none (i + 1) (R ++ seg l sn m ++ [32]) := by
  obtain ⟨hi, rfl⟩ := List.getElem?_eq_some_iff.1 hg
  exact h.turn hi hw
open Go.RowKit Go.Proofs.YtmfjbljdbkmkgaaW.PrintWords Go.Proofs.YtmfjbljdbkmkgaaW.PrintLast in
theorem wrap_n {i n : Nat} (hn : n ≤ 2147483647) (hi : i < n) : wrap64 ((i : Int) + 1) = ((i + 1 : Nat) : Int) := by
  unfold wrap64
  omega
theorem norm_len (l : List Int) : ∀ b, (norm b l).length ≤ l.length := by
  induction l with
  | nil => intro b; exact Nat.le_refl _
  | cons c l ih =>
    intro b
    have h1 := ih true
    have h2 := ih false
    simp only [norm]
    split
    · split
      · rw [List.length_cons]; omega
      · rw [List.length_cons, List.length_cons]; omega
    · rw [List.length_cons, List.length_cons]; omega
theorem St.len_some {l : List Int} {sn m i : Nat} {R : List Int} (h : St l sn (some m) i R) : R.length + (seg l sn m).length ≤ l.length := by
  obtain ⟨h1, h2, h3, h4, h5⟩ := h.some_ m rfl
  have h6 := congrArg List.length h3
  rw [List.length_append] at h6
  rw [h6]
  refine Nat.le_trans (norm_len _ _) ?_
  rw [List.length_take]
  exact Nat.min_le_right _ _
theorem St.len_none {l : List Int} {sn i : Nat} {R : List Int} (h : St l sn none i R) : R.length + (seg l sn i).length ≤ l.length := by
  obtain ⟨h3, h4⟩ := h.none_ rfl
  have h6 := congrArg List.length h3
  rw [List.length_append] at h6
  rw [h6]
  refine Nat.le_trans (norm_len _ _) ?_
  rw [List.length_take]
  exact Nat.min_le_right _ _
theorem St.end_b {l : List Int} {sn : Nat} {R : List Int} (h : St l sn none l.length R) : norm false l = R ++ seg l sn l.length := by
  have := (h.none_ rfl).1
  rw [List.take_length] at this
  exact this.symm
theorem St.end_a {l : List Int} (h : St l 0 none l.length []) : norm false l = l := by
  rw [h.end_b]
  simp [seg]
theorem St.end_d {l : List Int} {sn m : Nat} {R : List Int} (h : St l sn (some m) l.length R) : norm false l = R ++ seg l sn m ++ [32] := by
  have := (h.norm_at (Nat.le_refl _)).1
  rw [List.take_length] at this
  exact this
theorem St.end_c {l : List Int} {m : Nat} (h : St l 0 (some m) l.length []) (hm : l.length = m + 1) (hb : l[m]? = some 32) : norm false l = l := by
  rw [h.end_d]
  obtain ⟨hi, hb⟩ := List.getElem?_eq_some_iff.1 hb
  conv => rhs; rw [← List.take_length (l := l), hm, List.take_succ_eq_append_getElem hi, hb]
  simp [seg]
theorem norm_pos {l : List Int} (h : 0 < l.length) : 0 < (norm false l).length := by
  cases l with
  | nil => cases h
  | cons c l =>
    simp only [norm]
    split
    · rw [if_neg (by simp)]
      exact Nat.succ_pos _
    · exact Nat.succ_pos _
end Go.Proofs.Ytmfjbljdbkmkgaa.Blank

/- replaceAnyWhitespaceWithSpace: the walk. -/
namespace Go.Proofs.Ytmfjbljdbkmkgaa.Blank
open Go.RowKit Go.Proofs.YtmfjbljdbkmkgaaW.PrintWords Go.Proofs.YtmfjbljdbkmkgaaW.PrintLast Go.Proofs.YtmfjbljdbkmkgaaW.PrintMore
set_option linter.unusedVariables false
set_option linter.unusedSimpArgs false

def smV : Option Nat → Int
  | none => -1
  | some m => (m : Int)
/-- The row is there exactly behind a first turn. -/
def Rows1 (sn : Nat) (v : Value) (R : List Int) : Prop := (sn = 0 ∧ v = .slice none 0 0 ∧ R = []) ∨ (0 < sn ∧ ∃ g c, v = .slice (some ⟨g, 0, none⟩) R.length c)
theorem start_bx (w : World) (s : ByteArray) : Bx w w.heap.size (w.heap.size + 1) s ((w.alloc (.cells #[.string s] 9)).alloc (.cells #[.slice none 0 0] 58)) (.slice none 0 0) [] := by
  refine ⟨blk_alloc (blk_new w _) _, ?_, ⟨rfl, .inl ⟨rfl, rfl⟩⟩, below_alloc (below_alloc (Below.refl _ _) _) _⟩
  have := blk_new (w.alloc (.cells #[.string s] 9)) (.cells #[.slice none 0 0] 58)
  rw [show (w.alloc (.cells #[.string s] 9)).heap.size = w.heap.size + 1 from Array.size_push _] at this
  exact this
theorem ret_str {a b : ByteArray} (h : a = b) : Ending.returned (.string a) = Ending.returned (.string b) := by rw [h]
theorem slice_part (a0 : ByteArray) (sn m : Nat) (y : Int) (hy : y = (m : Int)) (h1 : sn ≤ m) (h2 : m ≤ a0.size) :
    ∃ q, bytesOf q = seg (bytesOf a0) sn m ∧ q.size = (seg (bytesOf a0) sn m).length ∧ ∀ W, (Instr.slice 9 (.string a0) (some (.int .i64 (sn : Int))) (some (.int .i64 y)) none).run Try.prog W = .ok (.string q) W := by
  subst hy
  have e : bytesOf (a0.extract sn m) = seg (bytesOf a0) sn m := by rw [Txt.bytes_extract]; rfl
  refine ⟨a0.extract sn m, e, by rw [← e, bytesOf_length], fun W => ?_⟩
  rw [run_slice_string W 9 a0 .i64 .i64 (sn : Int) (m : Int) Try.underlying9 (by omega) (by omega) (by omega)]
  rfl
theorem slice_tail (a0 : ByteArray) (sn : Nat) (h1 : sn ≤ a0.size) :
    ∃ q, bytesOf q = seg (bytesOf a0) sn (bytesOf a0).length ∧ q.size = (seg (bytesOf a0) sn (bytesOf a0).length).length ∧ ∀ W, (Instr.slice 9 (.string a0) (some (.int .i64 (sn : Int))) none none).run Try.prog W = .ok (.string q) W := by
  have e : bytesOf (a0.extract sn a0.size) = seg (bytesOf a0) sn (bytesOf a0).length := by rw [Txt.bytes_extract, bytesOf_length]; rfl
  refine ⟨a0.extract sn a0.size, e, by rw [← e, bytesOf_length], fun W => ?_⟩
  rw [run_slice_string_l W 9 a0 Try.underlying9 .i64 (sn : Int) (by omega) (by omega)]
  rfl
set_option maxHeartbeats 4000000 in
set_option maxRecDepth 100000 in
theorem blank_calls (a0 : ByteArray) (w : World) (hs : a0.size ≤ 2147483647) (hne : a0.size ≠ 0) :
    Calls Try.prog 81 #[.string a0] w fun e w' => e = .returned (.string (strOfNums (norm false (bytesOf a0)))) ∧ Below w.heap.size w w' := by
  have hmf : ∀ (fn : Fn) (first cap : Array Value) (w : World), (Instr.makeFunc fn first cap).run Try.prog w = .ok (.func fn first cap) w := fun _ _ _ _ => rfl
  have hl64 : a0.size ≤ 9223372036854775807 := by omega
  have hnl : ¬ a0.toList = [] := fun h => hne (by
    rw [ByteArray.toList_eq] at h
    show a0.data.size = 0
    rw [← Array.length_toList, h]
    rfl)
  have n0 : decide (a0.toList = []) = false := decide_eq_false hnl
  have n1 : (a0.toList == []) = false := beq_eq_false_iff_ne.2 hnl
  have HS := Aside0.mk hs
  have HNE := Aside0.mk hne
  clear hs hne
  go_enter Try.func81, Try.ntmps81
  go_wp2_with fail
  go_loopw [5, 6, 7] (fun v5 v6 v7 wr => ∃ (sn i : Nat) (sm : Option Nat) (v : Value) (R : List Int), v5 = .int .i64 (sn : Int) ∧ v6 = .int .i64 (smV sm) ∧ v7 = .int .i64 (i : Int) ∧ i ≤ a0.size ∧ Aside0 (Bx w w.heap.size (w.heap.size + 1) a0 wr v R) ∧ Aside0 (Rows1 sn v R) ∧ Aside0 (St (bytesOf a0) sn sm i R)) (fun _ _ i _ => a0.size - (intOf i).toNat)
  case atStart =>
    refine ⟨0, 0, none, .slice none 0 0, [], rfl, rfl, rfl, Nat.zero_le _, ⟨?_⟩, ⟨.inl ⟨rfl, rfl, rfl⟩⟩, ⟨St.start _⟩⟩
    exact start_bx w a0
  case round =>
    obtain ⟨sn, i, sm, v, R, rfl, rfl, rfl, hi, HX, HV, HT⟩ := hrel
    have hcs : wr.cell? ⟨w.heap.size, 0, none⟩ = some (.string a0) := blk_cell HX.out.src 0
    by_cases hlt : i < a0.size
    · obtain ⟨x, hxi⟩ : ∃ x : Int, x = (i : Int) := ⟨_, rfl⟩
      have hx8 := bt_at a0 x
      rw [← hxi]
      have p8 : (0 ≤ x) = True := eq_true (by omega)
      have q8 : (x < (a0.size : Int)) = True := eq_true (by omega)
      have HXI := Aside0.mk hxi
      have HLT := Aside0.mk hlt
      have HI := Aside0.mk hi
      clear hxi hlt hi
      go_upto_region 10 with fail
      go_cut [8] (fun v8 wc => v8 = .bool (ws (bt a0 x)) ∧ wc = wr)
      case first =>
        by_cases h32 : bt a0 x = 32
        · have c32 := decide_eq_true h32
          have H32 := Aside0.mk h32
          have d32 : (bt a0 x == 32) = true := beq_iff_eq.2 h32
          clear h32
          go_wp2
          go_meet
          case rel => exact ⟨by simp [ws, H32.out], rfl⟩
        · have c32 := decide_eq_false h32
          have H32 := Aside0.mk h32
          have d32 : (bt a0 x == 32) = false := beq_eq_false_iff_ne.2 h32
          by_cases h13 : bt a0 x = 13
          · have c13 := decide_eq_true h13
            have H13 := Aside0.mk h13
            have d13 : (bt a0 x == 13) = true := beq_iff_eq.2 h13
            clear h32 h13
            go_wp2
            go_meet
            case rel => exact ⟨by simp [ws, H32.out, H13.out], rfl⟩
          · have c13 := decide_eq_false h13
            have H13 := Aside0.mk h13
            have d13 : (bt a0 x == 13) = false := beq_eq_false_iff_ne.2 h13
            by_cases h10 : bt a0 x = 10
            · have c10 := decide_eq_true h10
              have H10 := Aside0.mk h10
              have d10 : (bt a0 x == 10) = true := beq_iff_eq.2 h10
              clear h32 h13 h10
              go_wp2
              go_meet
              case rel => exact ⟨by simp [ws, H32.out, H13.out, H10.out], rfl⟩
            · have c10 := decide_eq_false h10
              have H10 := Aside0.mk h10
              have d10 : (bt a0 x == 10) = false := beq_eq_false_iff_ne.2 h10
              by_cases h9 : bt a0 x = 9
              · have c9 := decide_eq_true h9
                have H9 := Aside0.mk h9
                have d9 : (bt a0 x == 9) = true := beq_iff_eq.2 h9
                clear h32 h13 h10 h9
                go_wp2
                go_meet
                case rel => exact ⟨by simp [ws, H32.out, H13.out, H10.out, H9.out], rfl⟩
              · have c9 := decide_eq_false h9
                have H9 := Aside0.mk h9
                have d9 : (bt a0 x == 9) = false := beq_eq_false_iff_ne.2 h9
                clear h32 h13 h10 h9
                go_wp2
                go_meet
                case rel => exact ⟨by simp [ws, H32.out, H13.out, H10.out, H9.out], rfl⟩
      case rest =>
        obtain ⟨rfl, rfl⟩ := hcut
        have hget : (bytesOf a0)[i]? = some (bt a0 x) := by rw [HXI.out]; exact bt_nth a0 i HLT.out
        have HG := Aside0.mk hget
        clear hget
        cases hws : ws (bt a0 x) with
        | true =>
          have HWS := Aside0.mk hws
          clear hws
          cases sm with
          | none =>
            simp only [smV]
            go_wp2
            go_roundw
            case rel => exact ⟨sn, i + 1, some i, v, R, rfl, by rw [HXI.out]; rfl, by rw [HXI.out, wrap_n HS.out HLT.out], HLT.out, HX, HV, ⟨HT.out.firstG HG.out HWS.out⟩⟩
            case measure => rw [HXI.out, wrap_n HS.out HLT.out]; have := HLT.out; simp [intOf]; omega
          | some m =>
            simp only [smV]
            have e1 : ((m : Int) == -1) = false := beq_eq_false_iff_ne.2 (by omega)
            have e2 : decide ((m : Int) = -1) = false := decide_eq_false (by omega)
            go_wp2
            go_roundw
            case rel => exact ⟨sn, i + 1, some m, v, R, rfl, rfl, by rw [HXI.out, wrap_n HS.out HLT.out], HLT.out, HX, HV, ⟨HT.out.moreG HG.out HWS.out⟩⟩
            case measure => rw [HXI.out, wrap_n HS.out HLT.out]; have := HLT.out; simp [intOf]; omega
        | false =>
          have HWS := Aside0.mk hws
          clear hws
          cases sm with
          | none =>
            simp only [smV]
            go_wp2
            go_roundw
            case rel => exact ⟨sn, i + 1, none, v, R, rfl, rfl, by rw [HXI.out, wrap_n HS.out HLT.out], HLT.out, HX, HV, ⟨HT.out.plainG HG.out HWS.out⟩⟩
            case measure => rw [HXI.out, wrap_n HS.out HLT.out]; have := HLT.out; simp [intOf]; omega
          | some m =>
            simp only [smV]
            have e1 : ((m : Int) == -1) = false := beq_eq_false_iff_ne.2 (by omega)
            have e2 : decide ((m : Int) = -1) = false := decide_eq_false (by omega)
            have HMI := Aside0.mk (HT.out.some_ m rfl).2.1
            have HSM := Aside0.mk (HT.out.some_ m rfl).1
            obtain ⟨y, hym⟩ : ∃ y : Int, y = (m : Int) := ⟨_, rfl⟩
            rw [← hym] at e1 e2 ⊢
            have e3 : (y != -1) = true := by rw [bne, e1]; rfl
            have hy8 := bt_at a0 y
            have py : (0 ≤ y) = True := eq_true (by omega)
            have qy : (y < (a0.size : Int)) = True := eq_true (by have := HMI.out; have := HLT.out; omega)
            have HGM := Aside0.mk (show (bytesOf a0)[m]? = some (bt a0 y) by rw [hym]; exact bt_nth a0 m (by have := HMI.out; have := HLT.out; omega))
            have HYM := Aside0.mk hym
            clear hym
            by_cases hone : i = m + 1
            · have hsub : wrap64 (x - y) = 1 := by rw [HXI.out, HYM.out, hone]; unfold wrap64; omega
              have HONE := Aside0.mk hone
              clear hone
              by_cases hb : bt a0 y = 32
              · have c32 := decide_eq_true hb
                have d32 : (bt a0 y == 32) = true := beq_iff_eq.2 hb
                rw [hb] at HGM
                clear hb
                go_wp2_with fail
                go_roundw
                case rel => exact ⟨sn, i + 1, none, v, R, rfl, rfl, by rw [HXI.out, wrap_n HS.out HLT.out], HLT.out, HX, HV, ⟨HT.out.sameG HG.out HWS.out HONE.out HGM.out⟩⟩
                case measure => rw [HXI.out, wrap_n HS.out HLT.out]; have := HLT.out; simp [intOf]; omega
              · have c32 := decide_eq_false hb
                have d32 : (bt a0 y == 32) = false := beq_eq_false_iff_ne.2 hb
                clear hb
                obtain ⟨q, hqb, hqs, hsl⟩ := slice_part a0 sn m y HYM.out HSM.out (by have := HMI.out; have := HLT.out; omega)
                have HQB := Aside0.mk hqb
                have HQS := Aside0.mk hqs
                clear hqb hqs
                go_wp2_with (go_at_call 115; go_must (refine (make_calls w wc w.heap.size (w.heap.size + 1) a0 v R HS.out (by omega) (by omega) HX.out).mono ?_; rintro e w1 ⟨rfl, g1, c1, hb1⟩; have HB1 := Aside0.mk (hb1.drewN 1); obtain ⟨hr1, hf1, hs1⟩ := hb1.cells; clear hb1))
                go_still_tail 5, (by kernel_rfl)
                change wpList _ _ _ _ _ (w1.drewN 1)
                clear hsl hcs hr1 hf1 hs1
                generalize w1.drewN 1 = w2 at HB1 ⊢
                clear w1
                go_wp2_with (at_builtin; go_must (refine print_append_str (w0 := w) w.heap.size rfl (.tmp 68) (.tmp 72) 58 9 5 rfl Try.underlying58 Try.underlying9 infoU8 (.slice (some ⟨g1, 0, none⟩) R.length c1) R q rfl rfl HB1.out.own HB1.out.below HB1.out.below.size (by rw [HQS.out]; have := HT.out.len_some; have := bytesOf_length a0; have := HS.out; omega) ?_))
                intro v1 w3 ho hb hg
                have ho1 : w3.ownsRow w.heap.size 5 1 v1 (R ++ seg (bytesOf a0) sn m).length (nums .u8 (R ++ seg (bytesOf a0) sn m)) := by simpa only [HQB.out, List.length_append, List.nil_append, List.length_nil, Nat.zero_add] using ho
                obtain ⟨L1, hL1⟩ : ∃ L1, L1 = (R ++ seg (bytesOf a0) sn m).length := ⟨_, rfl⟩
                obtain ⟨A1, k1, hv1⟩ := own_slice ho1
                rw [← hL1] at hv1
                subst hv1
                clear hL1
                have HB3 := Aside0.mk (HB1.out.grow (by omega) (by omega) ho1 hb hg)
                obtain ⟨hr3, hf3, hs3⟩ := HB1.out.boxed hg
                clear ho ho1 hb hg
                go_upto_region 19 with fail
                clear hr3 hf3 hs3
                obtain ⟨hr3, hf3, hs3⟩ := HB3.out.cells
                generalize w3.setCell ⟨w.heap.size + 1, 0, none⟩ (.slice A1 L1 k1) = w4 at HB3 hr3 hf3 hs3 ⊢
                clear w3
                go_wp2_with (at_builtin; go_must (refine print_append_num (w0 := w) w.heap.size rfl (.tmp 74) (.tmp 75) 58 5 .u8 1 rfl Try.underlying58 infoU8 (by decide) (.slice A1 L1 k1) (R ++ seg (bytesOf a0) sn m) 32 rfl rfl HB3.out.own HB3.out.below HB3.out.below.size (by rw [List.length_append]; have := HT.out.len_some; have := bytesOf_length a0; have := HS.out; omega) ?_))
                intro v2 w5 ho hb hg _
                have ho1 : w5.ownsRow w.heap.size 5 1 v2 (R ++ seg (bytesOf a0) sn m ++ [32]).length (nums .u8 (R ++ seg (bytesOf a0) sn m ++ [32])) := by simpa only [List.length_append, List.append_assoc, List.length_cons, List.length_nil, Nat.add_assoc, Nat.zero_add, List.nil_append] using ho
                obtain ⟨L2, hL2⟩ : ∃ L2, L2 = (R ++ seg (bytesOf a0) sn m ++ [32]).length := ⟨_, rfl⟩
                obtain ⟨g3, c3, hv2, _, _⟩ := ho1.form (by rw [List.length_append]; exact Nat.succ_pos _)
                rw [← hL2] at hv2
                subst hv2
                have HL2 := Aside0.mk hL2
                clear hL2
                have HB5 := Aside0.mk (HB3.out.grow (by omega) (by omega) ho1 hb hg)
                obtain ⟨hr5, hf5, hs5⟩ := HB3.out.boxed hg
                clear ho ho1 hb hg hr3 hf3 hs3
                go_wp2_with fail
                go_roundw
                case rel => exact ⟨i, i + 1, none, _, R ++ seg (bytesOf a0) sn m ++ [32], by rw [HXI.out], rfl, by rw [HXI.out, wrap_n HS.out HLT.out], HLT.out, HB5, ⟨.inr ⟨by have := HMI.out; omega, g3, c3, by rw [HL2.out]⟩⟩, ⟨HT.out.turnG HG.out HWS.out⟩⟩
                case measure => rw [HXI.out, wrap_n HS.out HLT.out]; have := HLT.out; simp [intOf]; omega
            · have hsub : (wrap64 (x - y) == 1) = false := beq_eq_false_iff_ne.2 (by rw [HXI.out, HYM.out]; have := HMI.out; have := HLT.out; have := HS.out; unfold wrap64; omega)
              have hsub2 : decide (wrap64 (x - y) = 1) = false := decide_eq_false (beq_eq_false_iff_ne.1 hsub)
              clear hone
              obtain ⟨q, hqb, hqs, hsl⟩ := slice_part a0 sn m y HYM.out HSM.out (by have := HMI.out; have := HLT.out; omega)
              have HQB := Aside0.mk hqb
              have HQS := Aside0.mk hqs
              clear hqb hqs
              go_wp2_with (go_at_call 115; go_must (refine (make_calls w wc w.heap.size (w.heap.size + 1) a0 v R HS.out (by omega) (by omega) HX.out).mono ?_; rintro e w1 ⟨rfl, g1, c1, hb1⟩; have HB1 := Aside0.mk (hb1.drewN 1); obtain ⟨hr1, hf1, hs1⟩ := hb1.cells; clear hb1))
              go_still_tail 5, (by kernel_rfl)
              change wpList _ _ _ _ _ (w1.drewN 1)
              clear hsl hcs hr1 hf1 hs1
              generalize w1.drewN 1 = w2 at HB1 ⊢
              clear w1
              go_wp2_with (at_builtin; go_must (refine print_append_str (w0 := w) w.heap.size rfl (.tmp 68) (.tmp 72) 58 9 5 rfl Try.underlying58 Try.underlying9 infoU8 (.slice (some ⟨g1, 0, none⟩) R.length c1) R q rfl rfl HB1.out.own HB1.out.below HB1.out.below.size (by rw [HQS.out]; have := HT.out.len_some; have := bytesOf_length a0; have := HS.out; omega) ?_))
              intro v1 w3 ho hb hg
              have ho1 : w3.ownsRow w.heap.size 5 1 v1 (R ++ seg (bytesOf a0) sn m).length (nums .u8 (R ++ seg (bytesOf a0) sn m)) := by simpa only [HQB.out, List.length_append, List.nil_append, List.length_nil, Nat.zero_add] using ho
              obtain ⟨L1, hL1⟩ : ∃ L1, L1 = (R ++ seg (bytesOf a0) sn m).length := ⟨_, rfl⟩
              obtain ⟨A1, k1, hv1⟩ := own_slice ho1
              rw [← hL1] at hv1
              subst hv1
              clear hL1
              have HB3 := Aside0.mk (HB1.out.grow (by omega) (by omega) ho1 hb hg)
              obtain ⟨hr3, hf3, hs3⟩ := HB1.out.boxed hg
              clear ho ho1 hb hg
              go_upto_region 19 with fail
              clear hr3 hf3 hs3
              obtain ⟨hr3, hf3, hs3⟩ := HB3.out.cells
              generalize w3.setCell ⟨w.heap.size + 1, 0, none⟩ (.slice A1 L1 k1) = w4 at HB3 hr3 hf3 hs3 ⊢
              clear w3
              go_wp2_with (at_builtin; go_must (refine print_append_num (w0 := w) w.heap.size rfl (.tmp 74) (.tmp 75) 58 5 .u8 1 rfl Try.underlying58 infoU8 (by decide) (.slice A1 L1 k1) (R ++ seg (bytesOf a0) sn m) 32 rfl rfl HB3.out.own HB3.out.below HB3.out.below.size (by rw [List.length_append]; have := HT.out.len_some; have := bytesOf_length a0; have := HS.out; omega) ?_))
              intro v2 w5 ho hb hg _
              have ho1 : w5.ownsRow w.heap.size 5 1 v2 (R ++ seg (bytesOf a0) sn m ++ [32]).length (nums .u8 (R ++ seg (bytesOf a0) sn m ++ [32])) := by simpa only [List.length_append, List.append_assoc, List.length_cons, List.length_nil, Nat.add_assoc, Nat.zero_add, List.nil_append] using ho
              obtain ⟨L2, hL2⟩ : ∃ L2, L2 = (R ++ seg (bytesOf a0) sn m ++ [32]).length := ⟨_, rfl⟩
              obtain ⟨g3, c3, hv2, _, _⟩ := ho1.form (by rw [List.length_append]; exact Nat.succ_pos _)
              rw [← hL2] at hv2
              subst hv2
              have HL2 := Aside0.mk hL2
              clear hL2
              have HB5 := Aside0.mk (HB3.out.grow (by omega) (by omega) ho1 hb hg)
              obtain ⟨hr5, hf5, hs5⟩ := HB3.out.boxed hg
              clear ho ho1 hb hg hr3 hf3 hs3
              go_wp2_with fail
              go_roundw
              case rel => exact ⟨i, i + 1, none, _, R ++ seg (bytesOf a0) sn m ++ [32], by rw [HXI.out], rfl, by rw [HXI.out, wrap_n HS.out HLT.out], HLT.out, HB5, ⟨.inr ⟨by have := HMI.out; omega, g3, c3, by rw [HL2.out]⟩⟩, ⟨HT.out.turnG HG.out HWS.out⟩⟩
              case measure => rw [HXI.out, wrap_n HS.out HLT.out]; have := HLT.out; simp [intOf]; omega
    · have hie : i = a0.size := by omega
      subst hie
      rw [← bytesOf_length a0] at HT
      have HSN := Aside0.mk (show sn ≤ a0.size by have := HT.out.sni; rw [bytesOf_length] at this; exact this)
      clear hlt hi
      cases sm with
      | none =>
        simp only [smV]
        rcases HV.out with ⟨rfl, rfl, rfl⟩ | ⟨h0, g, c, rfl⟩
        · have hnil := fun (w : World) => Lib.run_eql_slice_nil (P := Try.prog) w 58 5 none 0 0 0 0 Try.underlying58
          have hcr : wr.cell? ⟨w.heap.size + 1, 0, none⟩ = some (.slice none 0 0) := blk_cell HX.out.box 0
          go_wp2_with fail
          go_ret
          exact ⟨ret_str (by rw [HT.out.end_a, Txt.str_bytes]), HX.out.below⟩
        · have s1 : ((sn : Int) == 0) = false := beq_eq_false_iff_ne.2 (by omega)
          have s2 : decide ((sn : Int) = 0) = false := decide_eq_false (by omega)
          generalize hv : Value.slice (some ⟨g, 0, none⟩) R.length c = v at HX
          clear hv h0
          obtain ⟨q, hqb, hqs, hsl⟩ := slice_tail a0 sn HSN.out
          have HQB := Aside0.mk hqb
          have HQS := Aside0.mk hqs
          clear hqb hqs
          go_wp2_with (go_at_call 115; go_must (refine (make_calls w wr w.heap.size (w.heap.size + 1) a0 v R HS.out (by omega) (by omega) HX.out).mono ?_; rintro e w1 ⟨rfl, g1, c1, hb1⟩; have HB1 := Aside0.mk (hb1.drewN 1); obtain ⟨hr1, hf1, hs1⟩ := hb1.cells; clear hb1))
          go_still_tail 4, (by kernel_rfl)
          change wpList _ _ _ _ _ (w1.drewN 1)
          clear hsl hcs hr1 hf1 hs1
          generalize w1.drewN 1 = w2 at HB1 ⊢
          clear w1
          go_wp2_with (at_builtin; go_must (refine print_append_str (w0 := w) w.heap.size rfl (.tmp 88) (.tmp 91) 58 9 5 rfl Try.underlying58 Try.underlying9 infoU8 (.slice (some ⟨g1, 0, none⟩) R.length c1) R q rfl rfl HB1.out.own HB1.out.below HB1.out.below.size (by rw [HQS.out]; have := HT.out.len_none; have := bytesOf_length a0; have := HS.out; omega) ?_))
          intro v1 w3 ho hb hg
          have ho1 : w3.ownsRow w.heap.size 5 1 v1 (R ++ seg (bytesOf a0) sn (bytesOf a0).length).length (nums .u8 (R ++ seg (bytesOf a0) sn (bytesOf a0).length)) := by simpa only [HQB.out, List.length_append, List.nil_append, List.length_nil, Nat.zero_add] using ho
          obtain ⟨L2, hL2⟩ : ∃ L2, L2 = (R ++ seg (bytesOf a0) sn (bytesOf a0).length).length := ⟨_, rfl⟩
          obtain ⟨g3, c3, hv2, _, _⟩ := ho1.form (by rw [← HT.out.end_b]; exact norm_pos (by rw [bytesOf_length]; have := HNE.out; omega))
          rw [← hL2] at hv2
          subst hv2
          clear hL2
          have HB5 := Aside0.mk (HB1.out.grow (by omega) (by omega) ho1 hb hg)
          obtain ⟨hr5, hf5, hs5⟩ := HB1.out.boxed hg
          clear ho ho1 hb hg
          have hnil := fun (w : World) => Lib.run_eql_slice_nil (P := Try.prog) w 58 5 (some ⟨g3, 0, none⟩) L2 c3 0 0 Try.underlying58
          go_upto_region 30 with fail
          clear hr5 hf5 hs5
          obtain ⟨hr5, hf5, hs5⟩ := HB5.out.cells
          have hown := own_string (P := Try.prog) Try.underlying58 Try.underlying5 Try.underlying9 HB5.out.own
          generalize w3.setCell ⟨w.heap.size + 1, 0, none⟩ (.slice (some ⟨g3, 0, none⟩) L2 c3) = w6 at HB5 hr5 hf5 hs5 hown ⊢
          go_wp2_with fail
          go_ret
          exact ⟨ret_str (by rw [HT.out.end_b]), HB5.out.below⟩
      | some m =>
        simp only [smV]
        have e1 : ((m : Int) == -1) = false := beq_eq_false_iff_ne.2 (by omega)
        have HMI := Aside0.mk (HT.out.some_ m rfl).2.1
        have HSM := Aside0.mk (HT.out.some_ m rfl).1
        obtain ⟨y, hym⟩ : ∃ y : Int, y = (m : Int) := ⟨_, rfl⟩
        rw [← hym] at e1 ⊢
        have e2 : decide (y = -1) = false := decide_eq_false (beq_eq_false_iff_ne.1 e1)
        have e3 : (y != -1) = true := by rw [bne, e1]; rfl
        have hy8 := bt_at a0 y
        have py : (0 ≤ y) = True := eq_true (by omega)
        have qy : (y < (a0.size : Int)) = True := eq_true (by have := HMI.out; have := bytesOf_length a0; omega)
        have HGM := Aside0.mk (show (bytesOf a0)[m]? = some (bt a0 y) by rw [hym]; exact bt_nth a0 m (by have := HMI.out; have := bytesOf_length a0; omega))
        have HYM := Aside0.mk hym
        clear hym
        rcases HV.out with ⟨h0, rfl, rfl⟩ | ⟨h0, g, c, rfl⟩
        · have HS0 := Aside0.mk h0
          clear h0
          have hnil := fun (w : World) => Lib.run_eql_slice_nil (P := Try.prog) w 58 5 none 0 0 0 0 Try.underlying58
          have hcr : wr.cell? ⟨w.heap.size + 1, 0, none⟩ = some (.slice none 0 0) := blk_cell HX.out.box 0
          by_cases hone : a0.size = m + 1
          · have hsub : wrap64 ((a0.size : Int) - y) = 1 := by rw [HYM.out, hone]; unfold wrap64; omega
            have HONE := Aside0.mk hone
            clear hone
            by_cases hb : bt a0 y = 32
            · have c32 := decide_eq_true hb
              have d32 : (bt a0 y == 32) = true := beq_iff_eq.2 hb
              rw [hb] at HGM
              clear hb
              go_wp2_with fail
              go_ret
              exact ⟨ret_str (by rw [(show St (bytesOf a0) 0 (some m) (bytesOf a0).length [] by have := HT.out; rw [HS0.out] at this; exact this).end_c (by rw [bytesOf_length]; exact HONE.out) HGM.out, Txt.str_bytes]), HX.out.below⟩
            · have c32 := decide_eq_false hb
              have d32 : (bt a0 y == 32) = false := beq_eq_false_iff_ne.2 hb
              clear hb
              obtain ⟨q, hqb, hqs, hsl⟩ := slice_part a0 sn m y HYM.out HSM.out (by have := HMI.out; have := bytesOf_length a0; omega)
              have HQB := Aside0.mk hqb
              have HQS := Aside0.mk hqs
              clear hqb hqs
              go_wp2_with (go_at_call 115; go_must (refine (make_calls w wr w.heap.size (w.heap.size + 1) a0 (.slice none 0 0) [] HS.out (by omega) (by omega) HX.out).mono ?_; rintro e w1 ⟨rfl, g1, c1, hb1⟩; have HB1 := Aside0.mk (hb1.drewN 1); obtain ⟨hr1, hf1, hs1⟩ := hb1.cells; clear hb1))
              go_still_tail 5, (by kernel_rfl)
              change wpList _ _ _ _ _ (w1.drewN 1)
              clear hnil hcr hsl hcs hr1 hf1 hs1
              generalize w1.drewN 1 = w2 at HB1 ⊢
              clear w1
              go_wp2_with (at_builtin; go_must (refine print_append_str (w0 := w) w.heap.size rfl (.tmp 110) (.tmp 114) 58 9 5 rfl Try.underlying58 Try.underlying9 infoU8 (.slice (some ⟨g1, 0, none⟩) 0 c1) [] q rfl rfl HB1.out.own HB1.out.below HB1.out.below.size (by rw [HQS.out]; have := HT.out.len_some; have := bytesOf_length a0; have := HS.out; omega) ?_))
              intro v1 w3 ho hb hg
              have ho1 : w3.ownsRow w.heap.size 5 1 v1 ([] ++ seg (bytesOf a0) sn m).length (nums .u8 ([] ++ seg (bytesOf a0) sn m)) := by simpa only [HQB.out, List.length_append, List.nil_append, List.length_nil, Nat.zero_add] using ho
              obtain ⟨L1, hL1⟩ : ∃ L1, L1 = ([] ++ seg (bytesOf a0) sn m).length := ⟨_, rfl⟩
              obtain ⟨A1, k1, hv1⟩ := own_slice ho1
              rw [← hL1] at hv1
              subst hv1
              clear hL1
              have HB3 := Aside0.mk (HB1.out.grow (by omega) (by omega) ho1 hb hg)
              obtain ⟨hr3, hf3, hs3⟩ := HB1.out.boxed hg
              clear ho ho1 hb hg
              go_upto_region 29 with fail
              clear hr3 hf3 hs3
              obtain ⟨hr3, hf3, hs3⟩ := HB3.out.cells
              generalize w3.setCell ⟨w.heap.size + 1, 0, none⟩ (.slice A1 L1 k1) = w4 at HB3 hr3 hf3 hs3 ⊢
              clear w3
              go_wp2_with (at_builtin; go_must (refine print_append_num (w0 := w) w.heap.size rfl (.tmp 116) (.tmp 117) 58 5 .u8 1 rfl Try.underlying58 infoU8 (by decide) (.slice A1 L1 k1) ([] ++ seg (bytesOf a0) sn m) 32 rfl rfl HB3.out.own HB3.out.below HB3.out.below.size (by rw [List.length_append]; have := HT.out.len_some; have := bytesOf_length a0; have := HS.out; omega) ?_))
              intro v2 w5 ho hb hg _
              have ho1 : w5.ownsRow w.heap.size 5 1 v2 ([] ++ seg (bytesOf a0) sn m ++ [32]).length (nums .u8 ([] ++ seg (bytesOf a0) sn m ++ [32])) := by simpa only [List.length_append, List.append_assoc, List.length_cons, List.length_nil, Nat.add_assoc, Nat.zero_add, List.nil_append] using ho
              obtain ⟨L2, hL2⟩ : ∃ L2, L2 = ([] ++ seg (bytesOf a0) sn m ++ [32]).length := ⟨_, rfl⟩
              obtain ⟨g3, c3, hv2, _, _⟩ := ho1.form (by rw [List.length_append]; exact Nat.succ_pos _)
              rw [← hL2] at hv2
              subst hv2
              have HL2 := Aside0.mk hL2
              clear hL2
              have HB5 := Aside0.mk (HB3.out.grow (by omega) (by omega) ho1 hb hg)
              obtain ⟨hr5, hf5, hs5⟩ := HB3.out.boxed hg
              clear ho ho1 hb hg hr3 hf3 hs3
              have hnil := fun (w : World) => Lib.run_eql_slice_nil (P := Try.prog) w 58 5 (some ⟨g3, 0, none⟩) L2 c3 0 0 Try.underlying58
              go_upto_region 30 with fail
              clear hr5 hf5 hs5
              obtain ⟨hr5, hf5, hs5⟩ := HB5.out.cells
              have hown := own_string (P := Try.prog) Try.underlying58 Try.underlying5 Try.underlying9 HB5.out.own
              generalize w5.setCell ⟨w.heap.size + 1, 0, none⟩ (.slice (some ⟨g3, 0, none⟩) L2 c3) = w6 at HB5 hr5 hf5 hs5 hown ⊢
              go_wp2_with fail
              go_ret
              exact ⟨ret_str (by rw [HT.out.end_d]; try simp only [List.append_assoc, List.nil_append]), HB5.out.below⟩
          · have hsub : (wrap64 ((a0.size : Int) - y) == 1) = false := beq_eq_false_iff_ne.2 (by rw [HYM.out]; have := HMI.out; have := bytesOf_length a0; have := HS.out; unfold wrap64; omega)
            have hsub2 : decide (wrap64 ((a0.size : Int) - y) = 1) = false := decide_eq_false (beq_eq_false_iff_ne.1 hsub)
            clear hone
            obtain ⟨q, hqb, hqs, hsl⟩ := slice_part a0 sn m y HYM.out HSM.out (by have := HMI.out; have := bytesOf_length a0; omega)
            have HQB := Aside0.mk hqb
            have HQS := Aside0.mk hqs
            clear hqb hqs
            go_wp2_with (go_at_call 115; go_must (refine (make_calls w wr w.heap.size (w.heap.size + 1) a0 (.slice none 0 0) [] HS.out (by omega) (by omega) HX.out).mono ?_; rintro e w1 ⟨rfl, g1, c1, hb1⟩; have HB1 := Aside0.mk (hb1.drewN 1); obtain ⟨hr1, hf1, hs1⟩ := hb1.cells; clear hb1))
            go_still_tail 5, (by kernel_rfl)
            change wpList _ _ _ _ _ (w1.drewN 1)
            clear hnil hcr hsl hcs hr1 hf1 hs1
            generalize w1.drewN 1 = w2 at HB1 ⊢
            clear w1
            go_wp2_with (at_builtin; go_must (refine print_append_str (w0 := w) w.heap.size rfl (.tmp 110) (.tmp 114) 58 9 5 rfl Try.underlying58 Try.underlying9 infoU8 (.slice (some ⟨g1, 0, none⟩) 0 c1) [] q rfl rfl HB1.out.own HB1.out.below HB1.out.below.size (by rw [HQS.out]; have := HT.out.len_some; have := bytesOf_length a0; have := HS.out; omega) ?_))
            intro v1 w3 ho hb hg
            have ho1 : w3.ownsRow w.heap.size 5 1 v1 ([] ++ seg (bytesOf a0) sn m).length (nums .u8 ([] ++ seg (bytesOf a0) sn m)) := by simpa only [HQB.out, List.length_append, List.nil_append, List.length_nil, Nat.zero_add] using ho
            obtain ⟨L1, hL1⟩ : ∃ L1, L1 = ([] ++ seg (bytesOf a0) sn m).length := ⟨_, rfl⟩
            obtain ⟨A1, k1, hv1⟩ := own_slice ho1
            rw [← hL1] at hv1
            subst hv1
            clear hL1
            have HB3 := Aside0.mk (HB1.out.grow (by omega) (by omega) ho1 hb hg)
            obtain ⟨hr3, hf3, hs3⟩ := HB1.out.boxed hg
            clear ho ho1 hb hg
            go_upto_region 29 with fail
            clear hr3 hf3 hs3
            obtain ⟨hr3, hf3, hs3⟩ := HB3.out.cells
            generalize w3.setCell ⟨w.heap.size + 1, 0, none⟩ (.slice A1 L1 k1) = w4 at HB3 hr3 hf3 hs3 ⊢
            clear w3
            go_wp2_with (at_builtin; go_must (refine print_append_num (w0 := w) w.heap.size rfl (.tmp 116) (.tmp 117) 58 5 .u8 1 rfl Try.underlying58 infoU8 (by decide) (.slice A1 L1 k1) ([] ++ seg (bytesOf a0) sn m) 32 rfl rfl HB3.out.own HB3.out.below HB3.out.below.size (by rw [List.length_append]; have := HT.out.len_some; have := bytesOf_length a0; have := HS.out; omega) ?_))
            intro v2 w5 ho hb hg _
            have ho1 : w5.ownsRow w.heap.size 5 1 v2 ([] ++ seg (bytesOf a0) sn m ++ [32]).length (nums .u8 ([] ++ seg (bytesOf a0) sn m ++ [32])) := by simpa only [List.length_append, List.append_assoc, List.length_cons, List.length_nil, Nat.add_assoc, Nat.zero_add, List.nil_append] using ho
            obtain ⟨L2, hL2⟩ : ∃ L2, L2 = ([] ++ seg (bytesOf a0) sn m ++ [32]).length := ⟨_, rfl⟩
            obtain ⟨g3, c3, hv2, _, _⟩ := ho1.form (by rw [List.length_append]; exact Nat.succ_pos _)
            rw [← hL2] at hv2
            subst hv2
            have HL2 := Aside0.mk hL2
            clear hL2
            have HB5 := Aside0.mk (HB3.out.grow (by omega) (by omega) ho1 hb hg)
            obtain ⟨hr5, hf5, hs5⟩ := HB3.out.boxed hg
            clear ho ho1 hb hg hr3 hf3 hs3
            have hnil := fun (w : World) => Lib.run_eql_slice_nil (P := Try.prog) w 58 5 (some ⟨g3, 0, none⟩) L2 c3 0 0 Try.underlying58
            go_upto_region 30 with fail
            clear hr5 hf5 hs5
            obtain ⟨hr5, hf5, hs5⟩ := HB5.out.cells
            have hown := own_string (P := Try.prog) Try.underlying58 Try.underlying5 Try.underlying9 HB5.out.own
            generalize w5.setCell ⟨w.heap.size + 1, 0, none⟩ (.slice (some ⟨g3, 0, none⟩) L2 c3) = w6 at HB5 hr5 hf5 hs5 hown ⊢
            go_wp2_with fail
            go_ret
            exact ⟨ret_str (by rw [HT.out.end_d]; try simp only [List.append_assoc, List.nil_append]), HB5.out.below⟩
        · have hnil := fun (w : World) => Lib.run_eql_slice_nil (P := Try.prog) w 58 5 (some ⟨g, 0, none⟩) R.length c 0 0 Try.underlying58
          have hcr : wr.cell? ⟨w.heap.size + 1, 0, none⟩ = some (.slice (some ⟨g, 0, none⟩) R.length c) := blk_cell HX.out.box 0
          obtain ⟨q, hqb, hqs, hsl⟩ := slice_part a0 sn m y HYM.out HSM.out (by have := HMI.out; have := bytesOf_length a0; omega)
          have HQB := Aside0.mk hqb
          have HQS := Aside0.mk hqs
          clear hqb hqs
          go_wp2_with (go_at_call 115; go_must (refine (make_calls w wr w.heap.size (w.heap.size + 1) a0 (.slice (some ⟨g, 0, none⟩) R.length c) R HS.out (by omega) (by omega) HX.out).mono ?_; rintro e w1 ⟨rfl, g1, c1, hb1⟩; have HB1 := Aside0.mk (hb1.drewN 1); obtain ⟨hr1, hf1, hs1⟩ := hb1.cells; clear hb1))
          go_still_tail 5, (by kernel_rfl)
          change wpList _ _ _ _ _ (w1.drewN 1)
          clear hnil hcr hsl hcs hr1 hf1 hs1
          generalize w1.drewN 1 = w2 at HB1 ⊢
          clear w1
          go_wp2_with (at_builtin; go_must (refine print_append_str (w0 := w) w.heap.size rfl (.tmp 110) (.tmp 114) 58 9 5 rfl Try.underlying58 Try.underlying9 infoU8 (.slice (some ⟨g1, 0, none⟩) R.length c1) R q rfl rfl HB1.out.own HB1.out.below HB1.out.below.size (by rw [HQS.out]; have := HT.out.len_some; have := bytesOf_length a0; have := HS.out; omega) ?_))
          intro v1 w3 ho hb hg
          have ho1 : w3.ownsRow w.heap.size 5 1 v1 (R ++ seg (bytesOf a0) sn m).length (nums .u8 (R ++ seg (bytesOf a0) sn m)) := by simpa only [HQB.out, List.length_append, List.nil_append, List.length_nil, Nat.zero_add] using ho
          obtain ⟨L1, hL1⟩ : ∃ L1, L1 = (R ++ seg (bytesOf a0) sn m).length := ⟨_, rfl⟩
          obtain ⟨A1, k1, hv1⟩ := own_slice ho1
          rw [← hL1] at hv1
          subst hv1
          clear hL1
          have HB3 := Aside0.mk (HB1.out.grow (by omega) (by omega) ho1 hb hg)
          obtain ⟨hr3, hf3, hs3⟩ := HB1.out.boxed hg
          clear ho ho1 hb hg
          go_upto_region 29 with fail
          clear hr3 hf3 hs3
          obtain ⟨hr3, hf3, hs3⟩ := HB3.out.cells
          generalize w3.setCell ⟨w.heap.size + 1, 0, none⟩ (.slice A1 L1 k1) = w4 at HB3 hr3 hf3 hs3 ⊢
          clear w3
          go_wp2_with (at_builtin; go_must (refine print_append_num (w0 := w) w.heap.size rfl (.tmp 116) (.tmp 117) 58 5 .u8 1 rfl Try.underlying58 infoU8 (by decide) (.slice A1 L1 k1) (R ++ seg (bytesOf a0) sn m) 32 rfl rfl HB3.out.own HB3.out.below HB3.out.below.size (by rw [List.length_append]; have := HT.out.len_some; have := bytesOf_length a0; have := HS.out; omega) ?_))
          intro v2 w5 ho hb hg _
          have ho1 : w5.ownsRow w.heap.size 5 1 v2 (R ++ seg (bytesOf a0) sn m ++ [32]).length (nums .u8 (R ++ seg (bytesOf a0) sn m ++ [32])) := by simpa only [List.length_append, List.append_assoc, List.length_cons, List.length_nil, Nat.add_assoc, Nat.zero_add, List.nil_append] using ho
          obtain ⟨L2, hL2⟩ : ∃ L2, L2 = (R ++ seg (bytesOf a0) sn m ++ [32]).length := ⟨_, rfl⟩
          obtain ⟨g3, c3, hv2, _, _⟩ := ho1.form (by rw [List.length_append]; exact Nat.succ_pos _)
          rw [← hL2] at hv2
          subst hv2
          have HL2 := Aside0.mk hL2
          clear hL2
          have HB5 := Aside0.mk (HB3.out.grow (by omega) (by omega) ho1 hb hg)
          obtain ⟨hr5, hf5, hs5⟩ := HB3.out.boxed hg
          clear ho ho1 hb hg hr3 hf3 hs3
          have hnil := fun (w : World) => Lib.run_eql_slice_nil (P := Try.prog) w 58 5 (some ⟨g3, 0, none⟩) L2 c3 0 0 Try.underlying58
          go_upto_region 30 with fail
          clear hr5 hf5 hs5
          obtain ⟨hr5, hf5, hs5⟩ := HB5.out.cells
          have hown := own_string (P := Try.prog) Try.underlying58 Try.underlying5 Try.underlying9 HB5.out.own
          generalize w5.setCell ⟨w.heap.size + 1, 0, none⟩ (.slice (some ⟨g3, 0, none⟩) L2 c3) = w6 at HB5 hr5 hf5 hs5 hown ⊢
          go_wp2_with fail
          go_ret
          exact ⟨ret_str (by rw [HT.out.end_d]; try simp only [List.append_assoc, List.nil_append]), HB5.out.below⟩
end Go.Proofs.Ytmfjbljdbkmkgaa.Blank

/- What impl.Quoted returns: the text within quotes. For texts of less than 2^31 bytes. -/
namespace Go.Proofs.Ytmfjbljdbkmkgaa.PDom
open Go.Proofs.Ytmfjbljdbkmkgaa.Keep Go.RowKit Go.Proofs.YtmfjbljdbkmkgaaW.PrintWords Go.Proofs.YtmfjbljdbkmkgaaW.PrintLast Go.Proofs.YtmfjbljdbkmkgaaW.PrintMore
set_option linter.unusedVariables false
set_option linter.unusedSimpArgs false

theorem run_convert_same {P : Program} (t e : TypeId) (ht : P.underlying t = some (.slice e)) (he : P.underlying e = some (.int .u8)) (g n c : Nat) (cs : Array Value) (W : World) (hg : W.heap[g]? = some (.cells cs e (0, 0))) :
    (convert t t (.slice (some ⟨g, 0, none⟩) n c)).run P W = .ok (.slice (some ⟨g, 0, none⟩) n c) (W.freeze ⟨g, cs.size, none⟩ 1) := by
  simp [convert, run_underlying ht, run_underlying he, markStringish, World.shape?, hg, Result.andThen]

/-- A text between two signs that are one byte each. -/
theorem around_any (w : World) (ad : Addr) (q : Int) (A0 : Option Addr) (n0 c0 : Nat) (l0 : List Int) (h0 : 0 < n0) (hb : n0 ≤ 4294967296) (hr : ReadsInt w .u8 A0 n0 l0) (hx : ReadsInt w .u8 (some ad) 1 [q]) :
    Calls Try.prog 102 #[.slice A0 n0 c0, .slice (some ad) 1 1] w fun e w' => ∃ v : Value, e = .returned v ∧ w'.ownsRow w.heap.size 5 1 v (l0.length + 2) (nums .u8 (q :: l0 ++ [q])) ∧ Below w.heap.size w w' := by
  have HR := Aside0.mk hr
  have HX := Aside0.mk hx
  have hl := Aside0.mk hr.1
  clear hr hx
  go_enter Try.func102, Try.ntmps102
  go_wp2_with (at_builtin; refine append_new rfl (.tmp 5) (.tmp 6) 58 5 .u8 1 rfl Try.underlying58 info5 (by decide) (some ad) A0 1 n0 c0 1 [q] l0 rfl rfl HX.out HR.out (by omega) h0 (by omega) (by omega) ?_)
  intro v1 w1 ho hg
  have hB := Below.grown (Below.refl w.heap.size w) hg (Nat.le_refl _) (fun _ h => by cases h)
  have hl2 : (1 + n0) = ([q] ++ l0).length := by have := hl.out; simp; omega
  rw [hl2] at ho
  have HO := Aside0.mk ho
  have HB := Aside0.mk hB
  have HX1 := Aside0.mk (HX.out.below hB)
  clear ho hg hB hl2
  go_wp2_with (at_builtin; refine append_row_keep (w0 := w) w.heap.size rfl (.tmp 8) (.tmp 9) 58 5 .u8 1 rfl Try.underlying58 info5 (by decide) v1 ([q] ++ l0) [q] (some ad) 1 1 rfl rfl HO.out HX1.out HB.out HB.out.size (by have := hl.out; simp; omega) ?_)
  intro v2 w2 ho2 _ hB2 _ _
  go_wp2
  go_ret
  exact ⟨_, rfl, ho2, hB2⟩

/-- The row of a constant text's one byte, marked as text. -/
def boxed (W : World) (q : Int) : World := (W.alloc (.cells #[.int .u8 q] 5)).freeze ⟨W.heap.size, 1, none⟩ 1
theorem boxed_heap (W : World) (q : Int) : (boxed W q).heap[W.heap.size]? = some (.cells #[.int .u8 q] 5 (1, 2)) := by
  simp [boxed, World.freeze, World.alloc, -World.alloc_eq]
  rw [Array.getElem_modify_self]
  simp
theorem boxed_below (W : World) (q : Int) : Below W.heap.size W (boxed W q) := by
  refine ⟨rfl, rfl, rfl, by simp [boxed, World.freeze, World.alloc, -World.alloc_eq], fun i hi => ?_⟩
  have h1 : W.heap.size ≠ i := by omega
  simp [boxed, World.freeze, World.alloc, -World.alloc_eq, Array.getElem?_modify, Array.getElem?_push, h1, Ne.symm h1]
theorem boxed_reads (W : World) (q : Int) : ReadsInt (boxed W q) .u8 (some ⟨W.heap.size, 0, none⟩) 1 [q] := by
  refine ⟨rfl, by omega, fun _ => ⟨_, rfl, fun j hj => ?_⟩⟩
  obtain rfl : j = 0 := by omega
  rw [add_plain]
  simp [World.cell?, boxed_heap]
theorem mark_one (q : Int) (W : World) : (convert 58 58 (.slice (some ⟨W.heap.size, 0, none⟩) 1 1)).run Try.prog (W.alloc (.cells #[.int .u8 q] 5)) = .ok (.slice (some ⟨W.heap.size, 0, none⟩) 1 1) (boxed W q) :=
  run_convert_same 58 5 Try.underlying58 Try.underlying5 W.heap.size 1 1 #[.int .u8 q] _ (heap_alloc_new W _)

theorem quoted_none (w : World) (A0 : Option Addr) (n0 c0 : Nat) (l0 : List Int) (k : Nat) (h0 : 0 < n0) (hb : n0 ≤ 4294967296) (hr : ReadsInt w .u8 A0 n0 l0) (hc : n0 ≤ c0) (b2 : Bool)
    (h1 : textutils_zzHas.f k l0 34 = some false) (h2 : textutils_zzHas.f k l0 39 = some b2) :
    Calls Try.prog 71 #[.slice A0 n0 c0] w fun e w' => ∃ v : Value, e = .returned v ∧ w'.ownsRow w.heap.size 5 1 v (l0.length + 2) (nums .u8 (34 :: l0 ++ [34])) ∧ Below w.heap.size w w' := by
  have hn := hr.1
  subst hn
  have HR := Aside0.mk hr
  have HC := Aside0.mk hc
  have H1 := Aside0.mk h1
  have H2 := Aside0.mk h2
  have h0' : ((l0.length : Int) == 0) = false := beq_eq_false_iff_ne.mpr (by omega)
  have kc : ∀ nd, (convert 58 58 (.slice (some ⟨w.heap.size, 0, none⟩) 1 1)).run Try.prog ((w.drewN nd).alloc (.cells #[.int .u8 34] 5)) = .ok (.slice (some ⟨w.heap.size, 0, none⟩) 1 1) (boxed (w.drewN nd) 34) := fun nd => mark_one 34 (w.drewN nd)
  clear hr hc h1 h2
  go_enter Try.func71, Try.ntmps71
  go_wp2_with fail
  refine (textutils_zzHas.calls k _ _ l0 34 false _ (Kd.C_of_reads (d := (0 : Int)) HR.out) HC.out H1.out).mono ?_
  rintro e w' ⟨rfl, ⟨nd, rfl⟩⟩
  go_wp2_with fail
  refine (textutils_zzHas.calls k _ _ l0 39 b2 _ (Kd.C_of_reads (d := (0 : Int)) (HR.out.drewN _)) HC.out H2.out).mono ?_
  rintro e w' ⟨rfl, ⟨nd2, rfl⟩⟩
  go_wp2_with fail
  have hB : Below w.heap.size w (boxed (w.drewN (nd + nd2)) 34) := below_step (pw_below_drewN (Below.refl _ _) _) (boxed_below (w.drewN (nd + nd2)) 34)
  refine (around_any _ ⟨w.heap.size, 0, none⟩ 34 _ _ _ l0 h0 hb (HR.out.below hB) (boxed_reads (w.drewN (nd + nd2)) 34)).mono ?_
  rintro e w' ⟨v, rfl, ho, hB2⟩
  go_wp2
  go_ret
  exact ⟨_, rfl, own_less ho hB.size, below_step hB hB2⟩

theorem quoted_single (w : World) (A0 : Option Addr) (n0 c0 : Nat) (l0 : List Int) (k : Nat) (h0 : 0 < n0) (hb : n0 ≤ 4294967296) (hr : ReadsInt w .u8 A0 n0 l0) (hc : n0 ≤ c0)
    (h1 : textutils_zzHas.f k l0 34 = some true) (h2 : textutils_zzHas.f k l0 39 = some false) :
    Calls Try.prog 71 #[.slice A0 n0 c0] w fun e w' => ∃ v : Value, e = .returned v ∧ w'.ownsRow w.heap.size 5 1 v (l0.length + 2) (nums .u8 (39 :: l0 ++ [39])) ∧ Below w.heap.size w w' := by
  have hn := hr.1
  subst hn
  have HR := Aside0.mk hr
  have HC := Aside0.mk hc
  have H1 := Aside0.mk h1
  have H2 := Aside0.mk h2
  have h0' : ((l0.length : Int) == 0) = false := beq_eq_false_iff_ne.mpr (by omega)
  have kc : ∀ nd, (convert 58 58 (.slice (some ⟨w.heap.size, 0, none⟩) 1 1)).run Try.prog ((w.drewN nd).alloc (.cells #[.int .u8 39] 5)) = .ok (.slice (some ⟨w.heap.size, 0, none⟩) 1 1) (boxed (w.drewN nd) 39) := fun nd => mark_one 39 (w.drewN nd)
  clear hr hc h1 h2
  go_enter Try.func71, Try.ntmps71
  go_wp2_with fail
  refine (textutils_zzHas.calls k _ _ l0 34 true _ (Kd.C_of_reads (d := (0 : Int)) HR.out) HC.out H1.out).mono ?_
  rintro e w' ⟨rfl, ⟨nd, rfl⟩⟩
  go_wp2_with fail
  refine (textutils_zzHas.calls k _ _ l0 39 false _ (Kd.C_of_reads (d := (0 : Int)) (HR.out.drewN _)) HC.out H2.out).mono ?_
  rintro e w' ⟨rfl, ⟨nd2, rfl⟩⟩
  go_wp2_with fail
  have hB : Below w.heap.size w (boxed (w.drewN (nd + nd2)) 39) := below_step (pw_below_drewN (Below.refl _ _) _) (boxed_below (w.drewN (nd + nd2)) 39)
  refine (around_any _ ⟨w.heap.size, 0, none⟩ 39 _ _ _ l0 h0 hb (HR.out.below hB) (boxed_reads (w.drewN (nd + nd2)) 39)).mono ?_
  rintro e w' ⟨v, rfl, ho, hB2⟩
  go_wp2
  go_ret
  exact ⟨_, rfl, own_less ho hB.size, below_step hB hB2⟩

theorem quoted_both (w : World) (A0 : Option Addr) (n0 c0 : Nat) (l0 : List Int) (k : Nat) (h0 : 0 < n0) (hb : n0 ≤ 4294967296) (hr : ReadsInt w .u8 A0 n0 l0) (hc : n0 ≤ c0) (t : List Int) (ht0 : 0 < t.length) (htb : t.length ≤ 4294967296)
    (h1 : textutils_zzHas.f k l0 34 = some true) (h2 : textutils_zzHas.f k l0 39 = some true) (h3 : textutils_zzReplaceAll.f k l0 (⟨#[34]⟩ : ByteArray) (⟨#[92, 34]⟩ : ByteArray) = some t) :
    Calls Try.prog 71 #[.slice A0 n0 c0] w fun e w' => ∃ v : Value, e = .returned v ∧ w'.ownsRow w.heap.size 5 1 v (t.length + 2) (nums .u8 (34 :: t ++ [34])) ∧ Below w.heap.size w w' := by
  have hn := hr.1
  subst hn
  have HR := Aside0.mk hr
  have HC := Aside0.mk hc
  have H1 := Aside0.mk h1
  have H2 := Aside0.mk h2
  have H3 := Aside0.mk h3
  have h0' : ((l0.length : Int) == 0) = false := beq_eq_false_iff_ne.mpr (by omega)
  clear hr hc h1 h2 h3
  go_enter Try.func71, Try.ntmps71
  go_wp2_with fail
  refine (textutils_zzHas.calls k _ _ l0 34 true _ (Kd.C_of_reads (d := (0 : Int)) HR.out) HC.out H1.out).mono ?_
  rintro e w' ⟨rfl, ⟨nd, rfl⟩⟩
  go_wp2_with fail
  refine (textutils_zzHas.calls k _ _ l0 39 true _ (Kd.C_of_reads (d := (0 : Int)) (HR.out.drewN _)) HC.out H2.out).mono ?_
  rintro e w' ⟨rfl, ⟨nd2, rfl⟩⟩
  go_wp2_with fail
  refine (textutils_zzReplaceAll.calls k _ _ l0 _ _ t _ (Kd.C_of_reads (d := (0 : Int)) (HR.out.drewN _)) HC.out H3.out).mono ?_
  rintro e w1 ⟨v, rfl, ho, hB1⟩
  obtain ⟨A1, c1, rfl, hr1⟩ := own_reads (Kd.own_of_R ho)
  have HB1 := Aside0.mk (below_step (pw_below_drewN (Below.refl w.heap.size w) _) hB1)
  have HR1 := Aside0.mk hr1
  clear ho hB1 hr1
  have kc : (convert 58 58 (.slice (some ⟨w1.heap.size, 0, none⟩) 1 1)).run Try.prog (w1.alloc (.cells #[.int .u8 34] 5)) = .ok (.slice (some ⟨w1.heap.size, 0, none⟩) 1 1) (boxed w1 34) := mark_one 34 w1
  go_wp2_with fail
  refine (around_any _ ⟨w1.heap.size, 0, none⟩ 34 _ _ _ t ht0 htb (HR1.out.below (boxed_below w1 34)) (boxed_reads w1 34)).mono ?_
  rintro e w' ⟨v, rfl, ho, hB2⟩
  go_wp2
  go_ret
  have hB := below_step HB1.out (boxed_below w1 34)
  exact ⟨_, rfl, own_less ho hB.size, below_step hB hB2⟩

theorem quoted_nil (w : World) (A0 : Option Addr) (c0 : Nat) :
    Calls Try.prog 71 #[.slice A0 0 c0] w fun e w' => e = .returned (.slice none 0 0) ∧ w' = w := by
  go_enter Try.func71, Try.ntmps71
  go_wp2
  go_ret
  exact ⟨rfl, rfl⟩

/-- The text within quotes. -/
def impl_Quoted.f (k : Nat) (a0 : ByteArray) : Option ByteArray :=
  if a0.size ≤ 2147483647 then (if a0.size = 0 then some ⟨#[]⟩ else
    (textutils_zzHas.f k (bytesOf a0) 34).bind fun b1 => (textutils_zzHas.f k (bytesOf a0) 39).bind fun b2 =>
      if b1 = true then (if b2 = true then (textutils_zzReplaceAll.f k (bytesOf a0) (⟨#[34]⟩ : ByteArray) (⟨#[92, 34]⟩ : ByteArray)).bind fun t => (if 0 < t.length then (if t.length ≤ 4294967296 then some (strOfNums (34 :: t ++ [34])) else none) else none)
        else some (strOfNums (39 :: bytesOf a0 ++ [39]))) else some (strOfNums (34 :: bytesOf a0 ++ [34]))) else none
theorem impl_Quoted.mono : ∀ a0 k, LeO (impl_Quoted.f k a0) (impl_Quoted.f (k + 1) a0) := by
  intro a0 k
  unfold impl_Quoted.f
  repeat' first
      | (with_reducible exact textutils_zzHas.mono _ _ _)
      | (with_reducible exact textutils_zzReplaceAll.mono _ _ _ _)
      | (with_reducible exact LeO.refl _)
      | (with_reducible exact LeO.none _)
      | (with_reducible refine LeO.ite ?_ ?_)
      | (with_reducible refine LeO.bind ?_ (fun _ => ?_))
theorem impl_Quoted.calls (k : Nat) (a0 : ByteArray) (r : ByteArray) (w : World) (h : impl_Quoted.f k a0 = some r) :
    Calls Try.prog 39 #[.string a0] w fun e w' => e = .returned (.string r) ∧ Below w.heap.size w w' := by
  unfold impl_Quoted.f at h
  have kb := fun W => print_bytes (P := Try.prog) 9 58 5 Try.underlying9 Try.underlying58 Try.underlying5 a0 W
  split at h
  case isFalse => cases h
  rename_i hs
  have hB0 := bytes_below (Below.refl w.heap.size w) (Nat.le_refl _) 5 a0
  have HB0 := Aside0.mk hB0
  have HRd := Aside0.mk (bytes_reads w 5 a0 (by omega))
  have hkn := run_convert_bytes_nil (P := Try.prog)
  clear hB0
  split at h
  · rename_i hz
    obtain rfl := Option.some.inj h
    have hz' : a0 = ⟨#[]⟩ := by
      cases a0 with | mk d => congr; exact Array.eq_empty_of_size_eq_zero hz
    subst hz'
    go_enter Try.func39, Try.ntmps39
    go_wp2_with fail
    refine (quoted_nil _ _ _).mono ?_
    rintro e w' ⟨rfl, rfl⟩
    have kn := run_convert_bytes_nil (Lib.bytesWorld w 5 ⟨#[]⟩) 58 5 Try.underlying58 Try.underlying5 0 0 9 Try.underlying9
    go_wp2
    go_ret
    exact ⟨rfl, HB0.out⟩
  · rename_i hz
    obtain ⟨b1, e1, h⟩ := Option.bind_eq_some_iff.1 h
    obtain ⟨b2, e2, h⟩ := Option.bind_eq_some_iff.1 h
    have E1 := Aside0.mk e1
    have E2 := Aside0.mk e2
    clear e1 e2
    have key : ∃ l : List Int, r = strOfNums l ∧ Calls Try.prog 71 #[.slice (some ⟨w.heap.size, 0, none⟩) a0.size (grownCap w a0.size 0 5)] (Lib.bytesWorld w 5 a0) fun e w' => ∃ v : Value, e = .returned v ∧ w'.ownsRow (Lib.bytesWorld w 5 a0).heap.size 5 1 v l.length (nums .u8 l) ∧ Below (Lib.bytesWorld w 5 a0).heap.size (Lib.bytesWorld w 5 a0) w' := by
      cases b1 with
      | true =>
        cases b2 with
        | true =>
          simp only [if_true] at h
          obtain ⟨t, e3, h⟩ := Option.bind_eq_some_iff.1 h
          split at h
          case isFalse => cases h
          rename_i ht0
          split at h
          case isFalse => cases h
          rename_i htb
          refine ⟨_, (Option.some.inj h).symm, (quoted_both _ _ _ _ (bytesOf a0) k (by omega) (by omega) HRd.out (grownCap_ge _ _ _ _) t ht0 htb E1.out E2.out e3).mono ?_⟩
          rintro e w' ⟨v, rfl, ho, hB⟩
          exact ⟨v, rfl, by simpa using ho, hB⟩
        | false =>
          simp only [if_true] at h
          refine ⟨_, (Option.some.inj h).symm, (quoted_single _ _ _ _ (bytesOf a0) k (by omega) (by omega) HRd.out (grownCap_ge _ _ _ _) E1.out E2.out).mono ?_⟩
          rintro e w' ⟨v, rfl, ho, hB⟩
          exact ⟨v, rfl, by simpa using ho, hB⟩
      | false =>
        refine ⟨_, (Option.some.inj h).symm, (quoted_none _ _ _ _ (bytesOf a0) k (by omega) (by omega) HRd.out (grownCap_ge _ _ _ _) b2 E1.out E2.out).mono ?_⟩
        rintro e w' ⟨v, rfl, ho, hB⟩
        exact ⟨v, rfl, by simpa using ho, hB⟩
    obtain ⟨l, rfl, hcall⟩ := key
    have HCall := Aside0.mk hcall
    clear hcall h hkn
    go_enter Try.func39, Try.ntmps39
    go_wp2_with fail
    refine (HCall.out).mono ?_
    rintro e w' ⟨v0, rfl, ho, hB⟩
    have hown := own_string (P := Try.prog) Try.underlying58 Try.underlying5 Try.underlying9 ho
    go_wp2
    go_ret
    exact ⟨rfl, below_step HB0.out hB⟩

end Go.Proofs.Ytmfjbljdbkmkgaa.PDom

/- impl.Blanks, and laws.inlineLives: it is true. -/
namespace Go.Proofs.Ytmfjbljdbkmkgaa.PDom
open Go.Proofs.Ytmfjbljdbkmkgaa.Keep Go.RowKit Go.Proofs.YtmfjbljdbkmkgaaW.PrintWords Go.Proofs.YtmfjbljdbkmkgaaW.PrintLast Go.Proofs.YtmfjbljdbkmkgaaW.PrintMore
set_option linter.unusedVariables false
set_option linter.unusedSimpArgs false

theorem zzblanks_calls (a0 : ByteArray) (w : World) (hs : a0.size ≤ 2147483647) (hne : a0.size ≠ 0) :
    Calls Try.prog 70 #[.string a0] w fun e w' => e = .returned (.string (strOfNums (Blank.norm false (bytesOf a0)))) ∧ Below w.heap.size w w' := by
  go_enter Try.func70, Try.ntmps70
  go_wp2_with (go_at_call 81; go_must (refine (Blank.blank_calls a0 w hs hne).mono ?_; rintro e w1 ⟨rfl, hB⟩; have HB := Aside0.mk hB; clear hB))
  go_ret
  exact ⟨rfl, HB.out⟩
theorem blanks_calls (a0 : ByteArray) (w : World) (hs : a0.size ≤ 2147483647) (hne : a0.size ≠ 0) :
    Calls Try.prog 38 #[.string a0] w fun e w' => e = .returned (.string (strOfNums (Blank.norm false (bytesOf a0)))) ∧ Below w.heap.size w w' := by
  go_enter Try.func38, Try.ntmps38
  go_wp2_with (go_at_call 70; go_must (refine (zzblanks_calls a0 w hs hne).mono ?_; rintro e w1 ⟨rfl, hB⟩; have HB := Aside0.mk hB; clear hB))
  go_ret
  exact ⟨rfl, HB.out⟩
theorem quoted_a : impl_Quoted.f 5 ⟨#[97]⟩ = some ⟨#[34, 97, 34]⟩ := by kernel_rfl
theorem norm_ab : strOfNums (Blank.norm false (bytesOf ⟨#[97, 32, 32, 98]⟩)) = ⟨#[97, 32, 98]⟩ := by kernel_rfl
def laws_inlineLives.f (_ : Nat) : Option Bool := some true
theorem laws_inlineLives.mono : ∀ k, LeO (laws_inlineLives.f k) (laws_inlineLives.f (k + 1)) := fun _ => LeO.refl _
theorem laws_inlineLives.calls (k : Nat) (r : Bool) (w : World) (h : laws_inlineLives.f k = some r) :
    Calls Try.prog 15 #[] w fun e w' => e = .returned (.bool r) ∧ Below w.heap.size w w' := by
  obtain rfl := Option.some.inj h
  have HQ := Aside0.mk quoted_a
  have HNA := Aside0.mk norm_ab
  clear h
  go_enter Try.func15, Try.ntmps15
  go_wp2_with (first
    | (go_at_call 38; go_must (refine (blanks_calls _ w (by decide) (by decide)).mono ?_; rw [HNA.out]; rintro e w1 ⟨rfl, hB⟩; have HB := Aside0.mk hB; clear hB))
    | (go_at_call 39; go_must (refine (impl_Quoted.calls 5 _ _ _ HQ.out).mono ?_; rintro e w2 ⟨rfl, hB2⟩; have HB2 := Aside0.mk (below_step HB.out hB2); clear hB2)))
  go_ret
  exact ⟨rfl, HB2.out⟩
end Go.Proofs.Ytmfjbljdbkmkgaa.PDom
