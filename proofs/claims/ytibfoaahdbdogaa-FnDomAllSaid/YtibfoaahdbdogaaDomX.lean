/- The walks of the changes of a tree: AppendChild. -/
import Derived.Test.YtibfoaahdbdogaaDom
namespace Go.Proofs.Ytibfoaahdbdogaa.Dom
open Go.RowKit Go.Proofs.YtibfoaahdbdogaaW.PrintWords Go.Proofs.YtibfoaahdbdogaaW.PrintLast Go.Proofs.YtibfoaahdbdogaaW.PrintMore
set_option linter.unusedVariables false
set_option linter.unusedSimpArgs false

/-- What is where it was, but for a table's blocks. -/
structure Only (D : Tab) (w w' : World) : Prop where
  os : w'.os = w.os
  tape : w'.tape = w.tape
  output : w'.output = w.output
  size : w.heap.size ≤ w'.heap.size
  block : ∀ k, k < w.heap.size → D k = none → w'.heap[k]? = w.heap[k]?
theorem Only.below {D : Tab} {w w' : World} (h : Only D w w') {B : Nat} (hB : B ≤ w.heap.size) (hD : ∀ k, k < B → D k = none) : Below B w w' :=
  ⟨h.os, h.tape, h.output, h.size, fun k hk => h.block k (by omega) (hD k hk)⟩
theorem Only.refl (D : Tab) (w : World) : Only D w w := ⟨rfl, rfl, rfl, Nat.le_refl _, fun _ _ _ => rfl⟩
theorem Only.trans {D D' : Tab} {w w' w'' : World} (h : Only D w w') (h' : Only D' w' w'') (hD : ∀ k, D k = none → k < w.heap.size → D' k = none) : Only D w w'' :=
  ⟨h'.os.trans h.os, h'.tape.trans h.tape, h'.output.trans h.output, Nat.le_trans h.size h'.size, fun k hk hn => (h'.block k (Nat.lt_of_lt_of_le hk h.size) (hD k hn hk)).trans (h.block k hk hn)⟩

theorem Only.set {D : Tab} {w w1 : World} (h : Only D w w1) {p : Addr} (hp : D p.block ≠ none) (u : Value) : Only D w (w1.setCell p u) := by
  have b := (Below.refl p.block w1).setCell (p := p) (Nat.le_refl _) u
  exact ⟨b.os.trans h.os, b.tape.trans h.tape, b.output.trans h.output, Nat.le_trans h.size b.size, fun k hk hn => (Below.heap_setCell w1 p u k (fun e => hp (by rw [← e]; exact hn))).trans (h.block k hk hn)⟩

theorem Has.put0 {w : World} {b : Nat} {r : Rec} (h : Has w b r) (p : Option Nat) : Has (w.setCell ⟨b, 0, none⟩ (ptr p)) b { r with parent := p } := h.put 0 (ptr p) { r with parent := p } rfl
theorem Has.put1 {w : World} {b : Nat} {r : Rec} (h : Has w b r) (p : Option Nat) : Has (w.setCell ⟨b, 1, none⟩ (ptr p)) b { r with first := p } := h.put 1 (ptr p) { r with first := p } rfl
theorem Has.put2 {w : World} {b : Nat} {r : Rec} (h : Has w b r) (p : Option Nat) : Has (w.setCell ⟨b, 2, none⟩ (ptr p)) b { r with last := p } := h.put 2 (ptr p) { r with last := p } rfl
theorem Has.put3 {w : World} {b : Nat} {r : Rec} (h : Has w b r) (p : Option Nat) : Has (w.setCell ⟨b, 3, none⟩ (ptr p)) b { r with prev := p } := h.put 3 (ptr p) { r with prev := p } rfl
theorem Has.put4 {w : World} {b : Nat} {r : Rec} (h : Has w b r) (p : Option Nat) : Has (w.setCell ⟨b, 4, none⟩ (ptr p)) b { r with next := p } := h.put 4 (ptr p) { r with next := p } rfl
/-- A store into a node's block. -/
def st (w : World) (b k : Nat) (p : Option Nat) : World := w.setCell ⟨b, k, none⟩ (ptr p)
theorem st_heap (w : World) (b k : Nat) (p : Option Nat) {x : Nat} (h : x ≠ b) : (st w b k p).heap[x]? = w.heap[x]? := Below.heap_setCell w ⟨b, k, none⟩ (ptr p) x h
theorem Has.st {w : World} {b : Nat} {r : Rec} (h : Has w b r) {x : Nat} (hx : b ≠ x) (k : Nat) (p : Option Nat) : Has (st w x k p) b r := h.of_heap (st_heap w x k p hx)
theorem AttrAt.st {w : World} {v : Value} {l : List (ByteArray × ByteArray)} (h : AttrAt w v l) {g : Nat} {r : Rec} (hg : Has w g r) (j : Nat) (p : Option Nat) : AttrAt (Dom.st w g j p) v l := h.set hg j (ptr p)
theorem Only.st {D : Tab} {w w1 : World} (h : Only D w w1) {b : Nat} (hb : D b ≠ none) (k : Nat) (p : Option Nat) : Only D w (Dom.st w1 b k p) := h.set (p := ⟨b, k, none⟩) hb (ptr p)

theorem append_none (w : World) (D : Tab) (n c : Nat) (i ic : Info) (h : Dom w D) (hn : D n = some i) (hc : D c = some ic) (hne : n ≠ c) (hroot : ic.parent = none) (hself : i.parent ≠ some n) (hl : i.kids.getLast? = none) :
    Dom (st (st (st (st w n 1 (some c)) n 2 (some c)) c 0 (some n)) c 3 none) (appended D n c i ic) ∧ Only D w (st (st (st (st w n 1 (some c)) n 2 (some c)) c 0 (some n)) c 3 none) := by
  have hnc : c ≠ n := fun e => hne e.symm
  have en : D n ≠ none := by rw [hn]; simp
  have ec : D c ≠ none := by rw [hc]; simp
  refine ⟨?_, ((((Only.refl D w).st en 1 _).st en 2 _).st ec 0 _).st ec 3 _⟩
  have hk : i.kids = [] := List.getLast?_eq_none_iff.1 hl
  obtain ⟨vn, hHn, _⟩ := h.has hn
  obtain ⟨vc, hHc, _⟩ := h.has hc
  have A1 : ∀ v, Has w n (recOf D n i v) → Has (st w n 1 (some c)) n { recOf D n i v with first := some c } := fun v hv => hv.put1 (some c)
  have A2 : ∀ v, Has w n (recOf D n i v) → Has (st (st w n 1 (some c)) n 2 (some c)) n { recOf D n i v with first := some c, last := some c } := fun v hv => (A1 v hv).put2 (some c)
  have C2 : ∀ v, Has w c (recOf D c ic v) → Has (st (st w n 1 (some c)) n 2 (some c)) c (recOf D c ic v) := fun v hv => (hv.st hnc 1 _).st hnc 2 _
  have C3 : ∀ v, Has w c (recOf D c ic v) → Has (st (st (st w n 1 (some c)) n 2 (some c)) c 0 (some n)) c { recOf D c ic v with parent := some n } := fun v hv => (C2 v hv).put0 (some n)
  refine h.append hn hc hne hroot hself ?_ ?_ ?_ ?_ ?_
  · exact fun v l hA => (((hA.st hHn 1 _).st (A1 vn hHn) 2 _).st (C2 vc hHc) 0 _).st (C3 vc hHc) 3 _
  · intro v hv
    have := ((A2 v hv).st hne 0 (some n)).st hne 3 none
    rw [hk]
    exact this
  · intro v hv
    have := (C3 v hv).put3 none
    rw [hl]
    exact this
  · intro x ix v hx
    rw [hl] at hx
    cases hx
  · intro b _ hbn hbc _
    rw [st_heap _ _ _ _ hbc, st_heap _ _ _ _ hbc, st_heap _ _ _ _ hbn, st_heap _ _ _ _ hbn]

theorem append_some (w : World) (D : Tab) (n c x : Nat) (i ic ix : Info) (h : Dom w D) (hn : D n = some i) (hc : D c = some ic) (hix : D x = some ix) (hne : n ≠ c) (hroot : ic.parent = none) (hself : i.parent ≠ some n) (hl : i.kids.getLast? = some x) (hxn : x ≠ n) (hxc : x ≠ c) :
    Dom (st (st (st (st w x 4 (some c)) n 2 (some c)) c 0 (some n)) c 3 (some x)) (appended D n c i ic) ∧ Only D w (st (st (st (st w x 4 (some c)) n 2 (some c)) c 0 (some n)) c 3 (some x)) := by
  have hnc : c ≠ n := fun e => hne e.symm
  have hnx : n ≠ x := fun e => hxn e.symm
  have hcx : c ≠ x := fun e => hxc e.symm
  have en : D n ≠ none := by rw [hn]; simp
  have ec : D c ≠ none := by rw [hc]; simp
  have ex : D x ≠ none := by rw [hix]; simp
  refine ⟨?_, ((((Only.refl D w).st ex 4 _).st en 2 _).st ec 0 _).st ec 3 _⟩
  obtain ⟨vn, hHn, _⟩ := h.has hn
  obtain ⟨vc, hHc, _⟩ := h.has hc
  obtain ⟨vx, hHx, _⟩ := h.has hix
  have A1 : ∀ v, Has w n (recOf D n i v) → Has (st w x 4 (some c)) n (recOf D n i v) := fun v hv => hv.st hnx 4 _
  have A2 : ∀ v, Has w n (recOf D n i v) → Has (st (st w x 4 (some c)) n 2 (some c)) n { recOf D n i v with last := some c } := fun v hv => (A1 v hv).put2 (some c)
  have C2 : ∀ v, Has w c (recOf D c ic v) → Has (st (st w x 4 (some c)) n 2 (some c)) c (recOf D c ic v) := fun v hv => (hv.st hcx 4 _).st hnc 2 _
  have C3 : ∀ v, Has w c (recOf D c ic v) → Has (st (st (st w x 4 (some c)) n 2 (some c)) c 0 (some n)) c { recOf D c ic v with parent := some n } := fun v hv => (C2 v hv).put0 (some n)
  refine h.append hn hc hne hroot hself ?_ ?_ ?_ ?_ ?_
  · exact fun v l hA => (((hA.st hHx 4 _).st (A1 vn hHn) 2 _).st (C2 vc hHc) 0 _).st (C3 vc hHc) 3 _
  · intro v hv
    have := ((A2 v hv).st hne 0 (some n)).st hne 3 (some x)
    have hh : (i.kids ++ [c]).head? = i.kids.head? := by
      cases hk : i.kids with
      | nil => rw [hk] at hl; cases hl
      | cons y l => rfl
    rw [hh]
    exact this
  · intro v hv
    have := (C3 v hv).put3 (some x)
    rw [hl]
    exact this
  · intro x' ix' v hx hD hv
    have e : x = x' := Option.some.inj (hl.symm.trans hx)
    clear hx
    subst e
    exact (((hv.put4 (some c)).st hxn 2 (some c)).st hxc 0 (some n)).st hxc 3 (some x)
  · intro b _ hbn hbc hbl
    have hbx : b ≠ x := fun e => hbl (by rw [hl, e])
    rw [st_heap _ _ _ _ hbc, st_heap _ _ _ _ hbc, st_heap _ _ _ _ hbn, st_heap _ _ _ _ hbx]

set_option maxHeartbeats 4000000 in
set_option maxRecDepth 100000 in
theorem append_calls (w : World) (D : Tab) (n c : Nat) (i ic : Info) (h : Dom w D) (hn : D n = some i) (hc : D c = some ic) (hne : n ≠ c) (hroot : ic.parent = none) (hself : i.parent ≠ some n) :
    Calls Try.prog 58 #[ptr (some n), ptr (some c)] w fun e w' => e = .returned (.tuple #[]) ∧ Dom w' (appended D n c i ic) ∧ Only D w w' := by
  obtain ⟨vn, hHn, _⟩ := h.has hn
  obtain ⟨vc, hHc, _⟩ := h.has hc
  have hpc : (recOf D c ic vc).parent = none := hroot
  have hprev : (recOf D c ic vc).prev = none := by show prevIn (sibs D ic) c = none; rw [sibs_none hroot]; rfl
  have hnext : (recOf D c ic vc).next = none := by show nextIn (sibs D ic) c = none; rw [sibs_none hroot]; rfl
  have c0 : w.cell? ⟨c, 0, none⟩ = some (.pointer none) := by rw [hHc.cells10.1, hpc]; rfl
  have c3 : w.cell? ⟨c, 3, none⟩ = some (.pointer none) := by rw [hHc.cells10.2.2.2.1, hprev]; rfl
  have c4 : w.cell? ⟨c, 4, none⟩ = some (.pointer none) := by rw [hHc.cells10.2.2.2.2.1, hnext]; rfl
  have hfc := hHc.frozen 0
  have hfc3 := hHc.frozen 3
  have hfn1 := hHn.frozen 1
  have hfn2 := hHn.frozen 2
  have hnc : ¬ c = n := fun e => hne e.symm
  have HN := Aside0.mk hHn
  cases hl : i.kids.getLast? with
  | none =>
    have R := Aside0.mk (append_none w D n c i ic h hn hc hne hroot hself hl)
    have n2 : w.cell? ⟨n, 2, none⟩ = some (.pointer none) := by rw [HN.out.cells10.2.2.1]; show some (ptr i.kids.getLast?) = _; rw [hl]; rfl
    have n1 : w.cell? ⟨n, 1, none⟩ = some (ptr i.kids.head?) := HN.out.cells10.2.1
    clear hHn hHc h hpc hprev hnext hn hc hroot hself hl
    unfold ptr
    go_enter Try.func58, Try.ntmps58
    go_wp2
    go_end0
    exact ⟨rfl, R.out⟩
  | some x =>
    have n2 : w.cell? ⟨n, 2, none⟩ = some (.pointer (some ⟨x, 0, none⟩)) := by rw [HN.out.cells10.2.2.1]; show some (ptr i.kids.getLast?) = _; rw [hl]; rfl
    have hxm : x ∈ i.kids := List.mem_of_getLast? hl
    obtain ⟨ix, hix, hpx⟩ := h.wf.down hn hxm
    have hxn : ¬ x = n := fun e => by
      subst e
      rw [hn] at hix
      injection hix with hix
      subst hix
      exact hself hpx
    have hxc : ¬ x = c := fun e => h.kid_ne hn hc hroot (e ▸ hxm)
    have R := Aside0.mk (append_some w D n c x i ic ix h hn hc hix hne hroot hself hl hxn hxc)
    obtain ⟨vx, hHx, _⟩ := h.has hix
    have x4 : w.cell? ⟨x, 4, none⟩ = some (ptr (nextIn (sibs D ix) x)) := hHx.cells10.2.2.2.2.1
    have hfx := hHx.frozen 4
    have hnx : ¬ n = x := fun e => hxn e.symm
    have hcx : ¬ c = x := fun e => hxc e.symm
    clear hHx hHn hHc h hpc hprev hnext hn hc hroot hself hl hix hpx hxm
    unfold ptr
    go_enter Try.func58, Try.ntmps58
    go_wp2
    go_end0
    exact ⟨rfl, R.out⟩
end Go.Proofs.Ytibfoaahdbdogaa.Dom
