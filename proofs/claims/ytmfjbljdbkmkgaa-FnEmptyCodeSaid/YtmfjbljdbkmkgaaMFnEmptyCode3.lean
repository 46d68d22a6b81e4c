/- A part of the proof of FnEmptyCode: Surg, PtrEq, SurgX, ToldX, Mapa, SurgI, Sur2, Repl, Steps, WrapX, UnwX, NameX, DomTot, NormT, AllN, SibN, Guard, Chg, Tell, RedP, FindX, NamedX, Beh, RedX, SibM, ReplX, TreeT, Put, CutP, CutX, CutY, CutZ, EDomx1, one behind the other. -/
import Derived.Test.YtmfjbljdbkmkgaaMFnEmptyCode2
import Derived.LaidEqlPtr
import Derived.RegionTactic
import Derived.BigRegion
import Derived.StillTailTactics
import Derived.Deep.DeepMust
import Derived.Tactics2
import Derived.Deep.RegionLaw
import Derived.Deep.DeepCutAuto
import Derived.Test.YtmfjbljdbkmkgaaMFnEmptyCode1
import Derived.Test.YtmfjbljdbkmkgaaProg
import Derived.Tactics
import Derived.Defers
import Derived.Recover
import Derived.Laws.Pointers
import Derived.Laws.EntriesVeiled
/- A node taken out of its parent, and a node put in: what a list of stores into nodes makes of a table. Plain facts. -/
namespace Go.Proofs.Ytmfjbljdbkmkgaa.Dom
open Go.RowKit Go.Proofs.YtmfjbljdbkmkgaaW.PrintWords Go.Proofs.YtmfjbljdbkmkgaaW.PrintLast Go.Proofs.YtmfjbljdbkmkgaaW.PrintMore
set_option linter.unusedVariables false
set_option linter.unusedSimpArgs false

/-! ### A list of stores -/
def updR (r : Rec) (k : Nat) (p : Option Nat) : Rec :=
  if k = 0 then { r with parent := p } else if k = 1 then { r with first := p } else if k = 2 then { r with last := p } else if k = 3 then { r with prev := p } else { r with next := p }
abbrev Stores := List (Nat × Nat × Option Nat)
def stAll (w : World) : Stores → World
  | [] => w
  | s :: l => stAll (st w s.1 s.2.1 s.2.2) l
def updAll (r : Rec) (b : Nat) : Stores → Rec
  | [] => r
  | s :: l => updAll (if s.1 = b then updR r s.2.1 s.2.2 else r) b l
theorem Has.upd {w : World} {b : Nat} {r : Rec} (h : Has w b r) (k : Nat) (hk : k < 5) (p : Option Nat) : Has (Dom.st w b k p) b (updR r k p) := by
  rcases k with _ | _ | _ | _ | _ | k
  · exact h.put0 p
  · exact h.put1 p
  · exact h.put2 p
  · exact h.put3 p
  · exact h.put4 p
  · omega
theorem Has.stored {b : Nat} (l : Stores) : ∀ {w : World} {r : Rec}, Has w b r → (∀ s ∈ l, s.2.1 < 5) → Has (stAll w l) b (updAll r b l) := by
  induction l with
  | nil => exact fun h _ => h
  | cons s l ih =>
    intro w r h hl
    obtain ⟨x, k, p⟩ := s
    show Has (stAll (Dom.st w x k p) l) b (updAll (if x = b then updR r k p else r) b l)
    refine ih ?_ (fun s hs => hl s (List.mem_cons_of_mem _ hs))
    by_cases hb : x = b
    · subst hb
      rw [if_pos rfl]
      exact h.upd k (hl _ List.mem_cons_self) p
    · rw [if_neg hb]
      exact h.st (fun e => hb e.symm) k p
theorem AttrAt.stored {v : Value} {a : List (ByteArray × ByteArray)} (l : Stores) : ∀ {w : World}, AttrAt w v a → (∀ s ∈ l, s.2.1 < 5 ∧ ∃ r, Has w s.1 r) → AttrAt (stAll w l) v a := by
  induction l with
  | nil => exact fun h _ => h
  | cons s l ih =>
    intro w h hl
    obtain ⟨x, k, p⟩ := s
    obtain ⟨hk, r, hr⟩ := hl _ List.mem_cons_self
    refine ih (h.st hr k p) (fun s hs => ?_)
    obtain ⟨hk2, r2, hr2⟩ := hl s (List.mem_cons_of_mem _ hs)
    refine ⟨hk2, ?_⟩
    by_cases hx : s.1 = x
    · rw [hx] at hr2 ⊢
      exact ⟨_, hr2.upd k hk p⟩
    · exact ⟨_, hr2.st hx k p⟩
theorem Only.stored {D : Tab} {w0 : World} (l : Stores) : ∀ {w : World}, Only D w0 w → (∀ s ∈ l, D s.1 ≠ none) → Only D w0 (stAll w l) := by
  induction l with
  | nil => exact fun h _ => h
  | cons s l ih =>
    intro w h hl
    exact ih (h.st (hl s List.mem_cons_self) _ _) (fun s hs => hl s (List.mem_cons_of_mem _ hs))
theorem Dom.stored {w : World} {D D' : Tab} (h : Dom w D) (l : Stores) (hl : ∀ s ∈ l, D s.1 ≠ none ∧ s.2.1 < 5) (wf : WF D')
    (hd : ∀ b i', D' b = some i' → ∃ i, D b = some i ∧ i'.attrs = i.attrs ∧ ∀ v, updAll (recOf D b i v) b l = recOf D' b i' v) : Dom (stAll w l) D' := by
  refine ⟨wf, fun {b i'} hb => ?_⟩
  obtain ⟨i, hi, ha, hr⟩ := hd b i' hb
  obtain ⟨v, hv, hA⟩ := h.has hi
  refine ⟨v, ?_, ?_⟩
  · rw [← hr v]
    exact hv.stored l (fun s hs => (hl s hs).2)
  · rw [ha]
    refine hA.stored l (fun s hs => ⟨(hl s hs).2, ?_⟩)
    cases hx : D s.1 with
    | none => exact absurd hx (hl s hs).1
    | some ix =>
      obtain ⟨vx, hvx, _⟩ := h.has hx
      exact ⟨_, hvx⟩

/-! ### Neighbours, where a list is in two parts -/
theorem next_l1 {m1 m2 r : List Nat} {b : Nat} (h : b ∉ m1) : nextIn ((m1 ++ b :: m2) ++ r) b = (m2 ++ r).head? := by
  rw [List.append_assoc, List.cons_append, nextIn_split h]
theorem prev_l1 {m1 m2 r : List Nat} {b : Nat} (h2 : b ∉ m2) (h3 : b ∉ r) : prevIn ((m1 ++ b :: m2) ++ r) b = m1.getLast? := by
  rw [List.append_assoc, List.cons_append, prevIn_split (by simp [h2, h3])]
theorem next_l2 {m1 m2 r : List Nat} {b : Nat} (h : b ∉ m1) (h2 : b ∉ r) : nextIn (r ++ (m1 ++ b :: m2)) b = m2.head? := by
  rw [← List.append_assoc, nextIn_split (by simp [h, h2])]
theorem prev_l2 {m1 m2 r : List Nat} {b : Nat} (h2 : b ∉ m2) : prevIn (r ++ (m1 ++ b :: m2)) b = (r ++ m1).getLast? := by
  rw [← List.append_assoc, prevIn_split h2]

theorem gl2 (c : Nat) (m : List Nat) (y : Nat) : (c :: (m ++ [y])).getLast? = some y := by rw [← List.cons_append, List.getLast?_append]; rfl
theorem gl3 (l : List Nat) (y : Nat) : (l ++ [y]).getLast? = some y := by simp
/-! ### What changes: the children of n, the parent of c -/
def relink (D : Tab) (n c : Nat) (i ic : Info) (K : List Nat) (pc : Option Nat) : Tab := put (put D n { i with kids := K }) c { ic with parent := pc }
section
variable {D : Tab} {n c : Nat} {i ic : Info} {K : List Nat} {pc : Option Nat}
theorem relink_n (hne : n ≠ c) : relink D n c i ic K pc n = some { i with kids := K } := by unfold relink; rw [put_other _ _ hne, put_same]
theorem relink_c : relink D n c i ic K pc c = some { ic with parent := pc } := put_same _ _ _
theorem relink_o {b : Nat} (h1 : b ≠ n) (h2 : b ≠ c) : relink D n c i ic K pc b = D b := by unfold relink; rw [put_other _ _ h2, put_other _ _ h1]
theorem relink_kids (hne : n ≠ c) (hc : D c = some ic) (p : Nat) : kidsOf (relink D n c i ic K pc) p = if p = n then K else kidsOf D p := by
  unfold relink
  rw [kidsOf_put, kidsOf_put]
  by_cases hp : p = c
  · subst hp
    rw [if_pos rfl, if_neg (fun e => hne e.symm), kidsOf_some hc]
  · rw [if_neg hp]
theorem relink_sibs (hne : n ≠ c) (hc : D c = some ic) {j : Info} (hj : j.parent ≠ some n) : sibs (relink D n c i ic K pc) j = sibs D j := by
  unfold sibs
  cases hp : j.parent with
  | none => rfl
  | some p =>
    simp only [hp]
    rw [relink_kids hne hc, if_neg (fun e => hj (by rw [hp, e]))]
end

/-! ### Taken out -/
def rmStores (n c : Nat) (l1 l2 : List Nat) : Stores :=
  (if l1 = [] then [(n, 1, l2.head?)] else []) ++ ((match l2.head? with | some y => [(y, 3, l1.getLast?)] | none => []) ++ ((if l2 = [] then [(n, 2, l1.getLast?)] else []) ++ ((match l1.getLast? with | some x => [(x, 4, l2.head?)] | none => []) ++ [(c, 0, none), (c, 3, none), (c, 4, none)])))
theorem updAll_append (r : Rec) (b : Nat) (l m : Stores) : updAll r b (l ++ m) = updAll (updAll r b l) b m := by
  induction l generalizing r with
  | nil => rfl
  | cons s l ih => exact ih _
theorem rm_upd (r : Rec) (b n c : Nat) (l1 l2 : List Nat) : updAll r b (rmStores n c l1 l2) =
    { r with
      parent := if c = b then none else r.parent
      first := if n = b ∧ l1 = [] then l2.head? else r.first
      last := if n = b ∧ l2 = [] then l1.getLast? else r.last
      prev := if c = b then none else if l2.head? = some b then l1.getLast? else r.prev
      next := if c = b then none else if l1.getLast? = some b then l2.head? else r.next } := by
  have h1 : ∀ r : Rec, updAll r b (if l1 = [] then [(n, 1, l2.head?)] else []) = { r with first := if n = b ∧ l1 = [] then l2.head? else r.first } := by
    intro r
    by_cases hl : l1 = []
    · rw [if_pos hl]
      by_cases hn : n = b <;> simp [updAll, updR, hn, hl]
    · rw [if_neg hl]
      simp [updAll, hl]
  have h2 : ∀ r : Rec, updAll r b (match l2.head? with | some y => [(y, 3, l1.getLast?)] | none => []) = { r with prev := if l2.head? = some b then l1.getLast? else r.prev } := by
    intro r
    cases l2.head? with
    | none => simp [updAll]
    | some y => by_cases hn : y = b <;> simp [updAll, updR, hn]
  have h3 : ∀ r : Rec, updAll r b (if l2 = [] then [(n, 2, l1.getLast?)] else []) = { r with last := if n = b ∧ l2 = [] then l1.getLast? else r.last } := by
    intro r
    by_cases hl : l2 = []
    · rw [if_pos hl]
      by_cases hn : n = b <;> simp [updAll, updR, hn, hl]
    · rw [if_neg hl]
      simp [updAll, hl]
  have h4 : ∀ r : Rec, updAll r b (match l1.getLast? with | some x => [(x, 4, l2.head?)] | none => []) = { r with next := if l1.getLast? = some b then l2.head? else r.next } := by
    intro r
    cases l1.getLast? with
    | none => simp [updAll]
    | some y => by_cases hn : y = b <;> simp [updAll, updR, hn]
  have h5 : ∀ r : Rec, updAll r b [(c, 0, none), (c, 3, none), (c, 4, none)] = { r with parent := if c = b then none else r.parent, prev := if c = b then none else r.prev, next := if c = b then none else r.next } := by
    intro r
    by_cases hn : c = b <;> simp [updAll, updR, hn]
  unfold rmStores
  rw [updAll_append, updAll_append, updAll_append, updAll_append, h1, h2, h3, h4, h5]
theorem Dom.no_loop {w : World} {D : Tab} (h : Dom w D) {n : Nat} {i : Info} (hn : D n = some i) (hself : i.parent ≠ some n) : n ∉ i.kids := fun hm => by
  have := h.kid_parent hn hn hm
  exact hself this
/-- RemoveChild, as stores. -/
theorem Dom.remove {w : World} {D : Tab} (h : Dom w D) {n c : Nat} {i ic : Info} {l1 l2 : List Nat} (hn : D n = some i) (hc : D c = some ic) (hK : i.kids = l1 ++ c :: l2) (hself : i.parent ≠ some n) :
    Dom (stAll w (rmStores n c l1 l2)) (relink D n c i ic (l1 ++ l2) none) ∧ Only D w (stAll w (rmStores n c l1 l2)) := by
  have hcm : c ∈ i.kids := by rw [hK]; simp
  have hpc : ic.parent = some n := h.kid_parent hn hc hcm
  have hne : n ≠ c := fun e => h.no_loop hn hself (by rw [e]; rw [← e] at hcm ⊢; exact hcm)
  have hnd0 := h.wf.nodup hn
  rw [hK] at hnd0
  obtain ⟨d1, d2, d3⟩ := nodup_split hnd0
  have in1 : ∀ x ∈ l1, x ∈ i.kids := fun x hx => by rw [hK]; simp [hx]
  have in2 : ∀ x ∈ l2, x ∈ i.kids := fun x hx => by rw [hK]; simp [hx]
  have kd : ∀ x ∈ i.kids, D x ≠ none := fun x hx => by
    obtain ⟨ix, h1, _⟩ := h.wf.down hn hx
    rw [h1]; simp
  have hl : ∀ s ∈ rmStores n c l1 l2, D s.1 ≠ none ∧ s.2.1 < 5 := by
    intro s hs
    unfold rmStores at hs
    rcases List.mem_append.1 hs with hs | hs
    · split at hs
      · obtain rfl := List.mem_singleton.1 hs
        exact ⟨by rw [hn]; simp, by simp⟩
      · cases hs
    rcases List.mem_append.1 hs with hs | hs
    · split at hs
      · rename_i y hy
        obtain rfl := List.mem_singleton.1 hs
        exact ⟨kd _ (in2 _ (List.mem_of_mem_head? hy)), by simp⟩
      · cases hs
    rcases List.mem_append.1 hs with hs | hs
    · split at hs
      · obtain rfl := List.mem_singleton.1 hs
        exact ⟨by rw [hn]; simp, by simp⟩
      · cases hs
    rcases List.mem_append.1 hs with hs | hs
    · split at hs
      · rename_i y hy
        obtain rfl := List.mem_singleton.1 hs
        exact ⟨kd _ (in1 _ (List.mem_of_getLast? hy)), by simp⟩
      · cases hs
    · simp only [List.mem_cons, List.not_mem_nil, or_false] at hs
      rcases hs with rfl | rfl | rfl <;> exact ⟨by rw [hc]; simp, by simp⟩
  refine ⟨h.stored _ hl ?_ ?_, (Only.refl D w).stored _ (fun s hs => (hl s hs).1)⟩
  · refine ⟨?_, ?_, ?_⟩
    · intro b j p hb hp
      have hbc : b ≠ c := fun e => by
        subst e
        rw [relink_c] at hb
        obtain rfl := Option.some.inj hb
        cases hp
      have key : ∃ j0, D b = some j0 ∧ j0.parent = some p := by
        by_cases hbn : b = n
        · subst hbn
          rw [relink_n hne] at hb
          obtain rfl := Option.some.inj hb
          exact ⟨i, hn, hp⟩
        · rw [relink_o hbn hbc] at hb
          exact ⟨j, hb, hp⟩
      obtain ⟨j0, h0, hp0⟩ := key
      obtain ⟨ip, hip, hm⟩ := h.wf.up h0 hp0
      by_cases hpn : p = n
      · subst hpn
        rw [hn] at hip
        obtain rfl := Option.some.inj hip
        rw [hK] at hm
        exact ⟨_, relink_n hne, by simp at hm ⊢; rcases hm with h1 | h1 | h1; exact .inl h1; exact absurd h1 hbc; exact .inr h1⟩
      · by_cases hpc2 : p = c
        · subst hpc2
          rw [hc] at hip
          obtain rfl := Option.some.inj hip
          exact ⟨_, relink_c, hm⟩
        · exact ⟨ip, by rw [relink_o hpn hpc2]; exact hip, hm⟩
    · intro b j x hb hx
      have key : ∃ j0, D b = some j0 ∧ x ∈ j0.kids ∧ (b = n → x ≠ c) := by
        by_cases hbn : b = n
        · subst hbn
          rw [relink_n hne] at hb
          obtain rfl := Option.some.inj hb
          have hx' : x ∈ l1 ++ l2 := hx
          refine ⟨i, hn, by rw [hK]; simp at hx' ⊢; rcases hx' with h1 | h1; exact .inl h1; exact .inr (.inr h1), fun _ e => ?_⟩
          subst e
          rcases List.mem_append.1 hx' with h1 | h1
          · exact d1 h1
          · exact d2 h1
        · by_cases hbc : b = c
          · subst hbc
            rw [relink_c] at hb
            obtain rfl := Option.some.inj hb
            exact ⟨ic, hc, hx, fun e => absurd e hbn⟩
          · rw [relink_o hbn hbc] at hb
            exact ⟨j, hb, hx, fun e => absurd e hbn⟩
      obtain ⟨j0, h0, hx0, hxc0⟩ := key
      obtain ⟨ix, hix, hpx⟩ := h.wf.down h0 hx0
      have hxc : x ≠ c := fun e => by
        subst e
        rw [hc] at hix
        obtain rfl := Option.some.inj hix
        rw [hpc] at hpx
        exact hxc0 (Option.some.inj hpx).symm rfl
      by_cases hxn : x = n
      · subst hxn
        rw [hn] at hix
        obtain rfl := Option.some.inj hix
        exact ⟨_, relink_n hne, hpx⟩
      · exact ⟨ix, by rw [relink_o hxn hxc]; exact hix, hpx⟩
    · intro b j hb
      by_cases hbn : b = n
      · subst hbn
        rw [relink_n hne] at hb
        obtain rfl := Option.some.inj hb
        exact d3
      · by_cases hbc : b = c
        · subst hbc
          rw [relink_c] at hb
          obtain rfl := Option.some.inj hb
          show ic.kids.Nodup
          exact h.wf.nodup hc
        · rw [relink_o hbn hbc] at hb
          exact h.wf.nodup hb
  · intro b j hb
    have hnl : n ∉ i.kids := h.no_loop hn hself
    by_cases hbn : b = n
    · subst hbn
      rw [relink_n hne] at hb
      obtain rfl := Option.some.inj hb
      refine ⟨i, hn, rfl, fun v => ?_⟩
      rw [rm_upd]
      have e1 : l2.head? ≠ some b := fun e => hnl (in2 _ (List.mem_of_mem_head? e))
      have e2 : l1.getLast? ≠ some b := fun e => hnl (in1 _ (List.mem_of_getLast? e))
      have e3 : c ≠ b := fun e => hne e.symm
      unfold recOf
      rw [relink_sibs (j := { i with kids := l1 ++ l2 }) hne hc hself]
      simp only [if_neg e1, if_neg e2, if_neg e3, true_and, hK]
      congr 1
      · cases l1 <;> simp
      · rcases List.eq_nil_or_concat l2 with rfl | ⟨m, y, rfl⟩
        · simp
        · simp [gl2]
    · by_cases hbc : b = c
      · subst hbc
        rw [relink_c] at hb
        obtain rfl := Option.some.inj hb
        refine ⟨ic, hc, rfl, fun v => ?_⟩
        rw [rm_upd]
        have e3 : ¬ n = b := hne
        unfold recOf
        rw [sibs_none (i := { ic with parent := none }) rfl]
        simp only [if_true, e3, false_and, if_false]
        rfl
      · rw [relink_o hbn hbc] at hb
        refine ⟨j, hb, rfl, fun v => ?_⟩
        rw [rm_upd]
        have e3 : ¬ n = b := fun e => hbn e.symm
        have e4 : ¬ c = b := fun e => hbc e.symm
        unfold recOf
        simp only [e3, e4, false_and, if_false]
        by_cases hp : j.parent = some n
        · have hm : b ∈ i.kids := h.kid_of hn hb hp
          rw [sibs_some hp, sibs_some hp, relink_kids hne hc, if_pos rfl, kidsOf_some hn, hK]
          rw [hK] at hm
          rcases List.mem_append.1 hm with hm | hm
          · obtain ⟨m1, m2, rfl⟩ := List.append_of_mem hm
            have hnd2 : ((m1 ++ b :: m2) ++ (c :: l2)).Nodup := by simpa using hnd0
            rw [List.nodup_append] at hnd2
            obtain ⟨x1, x2, x3⟩ := hnd2
            obtain ⟨y1, y2, _⟩ := nodup_split x1
            have y3 : b ∉ c :: l2 := fun hx => x3 b (by simp) b hx rfl
            have y4 : b ∉ l2 := fun hx => y3 (List.mem_cons_of_mem _ hx)
            have e5 : l2.head? ≠ some b := fun e => y4 (List.mem_of_mem_head? e)
            rw [next_l1 y1, next_l1 y1, prev_l1 y2 y3, prev_l1 y2 y4, if_neg e5]
            rcases List.eq_nil_or_concat m2 with rfl | ⟨m, y, rfl⟩
            · simp
            · have e6 : (m1 ++ b :: (m ++ [y])).getLast? ≠ some b := by
                intro e
                rw [show m1 ++ b :: (m ++ [y]) = (m1 ++ b :: m) ++ [y] by simp, gl3] at e
                obtain rfl := Option.some.inj e
                exact y2 (by simp)
              rw [if_neg (by simpa using e6)]
              cases m <;> simp
          · have hm2 : b ∈ l2 := by
              rcases List.mem_cons.1 hm with h1 | h1
              · exact absurd h1 hbc
              · exact h1
            obtain ⟨m1, m2, rfl⟩ := List.append_of_mem hm2
            have hnd2 : (l1 ++ [c] ++ (m1 ++ b :: m2)).Nodup := by simpa using hnd0
            rw [List.nodup_append] at hnd2
            obtain ⟨x1, x2, x3⟩ := hnd2
            obtain ⟨y1, y2, _⟩ := nodup_split x2
            have y3 : b ∉ l1 ++ [c] := fun hx => x3 b hx b (by simp) rfl
            have y4 : b ∉ l1 := fun hx => y3 (by simp [hx])
            have e5 : l1.getLast? ≠ some b := fun e => y4 (List.mem_of_getLast? e)
            rw [if_neg e5, show l1 ++ c :: (m1 ++ b :: m2) = (l1 ++ [c]) ++ (m1 ++ b :: m2) by simp, next_l2 y1 y3, next_l2 y1 y4, prev_l2 y2, prev_l2 y2]
            cases m1 with
            | nil => simp
            | cons y m =>
              have e6 : ((y :: m) ++ b :: m2).head? ≠ some b := by
                intro e
                have : y = b := by simpa using e
                subst this
                exact y1 (by simp)
              rw [if_neg e6]
              rcases List.eq_nil_or_concat (y :: m) with h0 | ⟨m', y', h0⟩
              · cases h0
              · rw [h0]
                simp [gl2]
        · have hbk : b ∉ i.kids := fun hm => hp (h.kid_parent hn hb hm)
          have e5 : l2.head? ≠ some b := fun e => hbk (in2 _ (List.mem_of_mem_head? e))
          have e6 : l1.getLast? ≠ some b := fun e => hbk (in1 _ (List.mem_of_getLast? e))
          rw [if_neg e5, if_neg e6, relink_sibs hne hc hp]
/-! ### Put in -/
end Go.Proofs.Ytmfjbljdbkmkgaa.Dom

/- Two nodes compared. -/
namespace Go.Proofs.Ytmfjbljdbkmkgaa.Dom
open Go.RowKit Go.Proofs.YtmfjbljdbkmkgaaW.PrintWords Go.Proofs.YtmfjbljdbkmkgaaW.PrintLast Go.Proofs.YtmfjbljdbkmkgaaW.PrintMore
set_option linter.unusedVariables false
set_option linter.unusedSimpArgs false

theorem infoN : (Try.prog.info? 81).map (fun i => i.size) = some 10 := by kernel_rfl
theorem eql_in {w : World} {x y : Nat} {r r' : Rec} (hx : Has w x r) (hy : Has w y r') (d : Nat) : (Op.equalIn (d + 1) 47 (.pointer (some ⟨x, 0, none⟩)) (.pointer (some ⟨y, 0, none⟩))).run Try.prog w = .ok (x == y) w := by
  obtain ⟨j, hj, hs⟩ := Option.map_eq_some_iff.1 infoN
  by_cases h : x = y
  · subst h
    simp [Op.equalIn, run_underlying Try.underlying47, sizeOf, typeInfo, hj, run_sameAddr_same]
  · have hne : (⟨x, 0, none⟩ : Addr) ≠ ⟨y, 0, none⟩ := fun e => h (congrArg Addr.block e)
    simp [Op.equalIn, run_underlying Try.underlying47, sizeOf, typeInfo, hj, hs, run_sameAddr_other w hne hx hy, h]
theorem eql_nodes {w : World} {x y : Nat} {r r' : Rec} (hx : Has w x r) (hy : Has w y r') : (binOp .eql 47 (.pointer (some ⟨x, 0, none⟩)) (.pointer (some ⟨y, 0, none⟩))).run Try.prog w = .ok (.bool (x == y)) w := by
  simp only [binOp]
  simp [Op.equal, Op.maxDepth, eql_in hx hy 9999]
theorem neq_nodes {w : World} {x y : Nat} {r r' : Rec} (hx : Has w x r) (hy : Has w y r') : (binOp .neq 47 (.pointer (some ⟨x, 0, none⟩)) (.pointer (some ⟨y, 0, none⟩))).run Try.prog w = .ok (.bool (x != y)) w := by
  simp only [binOp]
  simp [Op.equal, Op.maxDepth, eql_in hx hy 9999, bne]
end Go.Proofs.Ytmfjbljdbkmkgaa.Dom

/- (*html.Node).RemoveChild and InsertBefore: their contracts over a table. -/
namespace Go.Proofs.Ytmfjbljdbkmkgaa.Dom
open Go.RowKit Go.Proofs.YtmfjbljdbkmkgaaW.PrintWords Go.Proofs.YtmfjbljdbkmkgaaW.PrintLast Go.Proofs.YtmfjbljdbkmkgaaW.PrintMore
set_option linter.unusedVariables false
set_option linter.unusedSimpArgs false

theorem snoc_or (l : List Nat) : l = [] ∨ ∃ k x, l = k ++ [x] := by
  rcases List.eq_nil_or_concat l with h | ⟨k, x, h⟩
  · exact .inl h
  · exact .inr ⟨k, x, by rw [h]; simp⟩
theorem Dom.moved {w w' : World} {D : Tab} (h : Dom w D) (hb : Below w.heap.size w w') : Dom w' D :=
  ⟨h.wf, fun hd => by
    obtain ⟨v, h1, h2⟩ := h.has hd
    exact ⟨v, h1.of_heap (hb.block _ h1.lt), h2.below hb⟩⟩
theorem Only.drewN {D : Tab} {w w' : World} (h : Only D w w') (k : Nat) : Only D w (w'.drewN k) := ⟨h.os, h.tape, h.output, h.size, h.block⟩
theorem Dom.drewN {w : World} {D : Tab} (h : Dom w D) (k : Nat) : Dom (w.drewN k) D := h.moved (pw_below_drewN (Below.refl _ _) k)
set_option maxHeartbeats 4000000 in
set_option maxRecDepth 100000 in
theorem remove_calls (w : World) (D : Tab) (n c : Nat) (i ic : Info) (l1 l2 : List Nat) (h : Dom w D) (hn : D n = some i) (hc : D c = some ic) (hK : i.kids = l1 ++ c :: l2) (hself : i.parent ≠ some n) :
    Calls Try.prog 98 #[ptr (some n), ptr (some c)] w fun e w' => e = .returned (.tuple #[]) ∧ Dom w' (relink D n c i ic (l1 ++ l2) none) ∧ Only D w w' := by
  have R := Aside0.mk (h.remove hn hc hK hself)
  obtain ⟨vn, hHn, _⟩ := h.has hn
  obtain ⟨vc, hHc, _⟩ := h.has hc
  have hcm : c ∈ i.kids := by rw [hK]; simp
  have hpc : ic.parent = some n := h.kid_parent hn hc hcm
  have hne : n ≠ c := fun e => h.no_loop hn hself (by rw [e]; rw [← e] at hcm ⊢; exact hcm)
  have hnd0 := h.wf.nodup hn
  rw [hK] at hnd0
  obtain ⟨d1, d2, d3⟩ := nodup_split hnd0
  have c0 : w.cell? ⟨c, 0, none⟩ = some (.pointer (some ⟨n, 0, none⟩)) := by rw [hHc.cells10.1]; show some (ptr ic.parent) = _; rw [hpc]; rfl
  have c3 : w.cell? ⟨c, 3, none⟩ = some (ptr l1.getLast?) := by rw [hHc.cells10.2.2.2.1]; show some (ptr (prevIn (sibs D ic) c)) = _; rw [sibs_some hpc, kidsOf_some hn, hK, prevIn_split d2]
  have c4 : w.cell? ⟨c, 4, none⟩ = some (ptr l2.head?) := by rw [hHc.cells10.2.2.2.2.1]; show some (ptr (nextIn (sibs D ic) c)) = _; rw [sibs_some hpc, kidsOf_some hn, hK, nextIn_split d1]
  have n1 : w.cell? ⟨n, 1, none⟩ = some (ptr (l1 ++ c :: l2).head?) := by rw [hHn.cells10.2.1]; show some (ptr i.kids.head?) = _; rw [hK]
  have n2 : w.cell? ⟨n, 2, none⟩ = some (ptr (l1 ++ c :: l2).getLast?) := by rw [hHn.cells10.2.2.1]; show some (ptr i.kids.getLast?) = _; rw [hK]
  have hfc0 := hHc.frozen 0
  have hfc3 := hHc.frozen 3
  have hfc4 := hHc.frozen 4
  have hfn1 := hHn.frozen 1
  have hfn2 := hHn.frozen 2
  have hnc : ¬ c = n := fun e => hne e.symm
  have HN := Aside0.mk hHn
  have HC := Aside0.mk hHc
  have hq0 := neq_nodes hHn hHn
  have HD := Aside0.mk h
  have HDN := Aside0.mk hn
  have hnl : ¬ (n ∈ l1 ∨ n ∈ l2) := fun hx => h.no_loop hn hself (by rw [hK]; rcases hx with hx | hx <;> simp [hx])
  have d12 : ∀ q, q ∈ l1 → q ∈ l2 → False := fun q h1 h2 => by rw [List.nodup_append] at hnd0; exact hnd0.2.2 q h1 q (List.mem_cons_of_mem _ h2) rfl
  have HD := Aside0.mk h
  have HDN := Aside0.mk hn
  have hnl : ¬ (n ∈ l1 ∨ n ∈ l2) := fun hx => h.no_loop hn hself (by rw [hK]; rcases hx with hx | hx <;> simp [hx])
  have d12 : ∀ q, q ∈ l1 → q ∈ l2 → False := fun q h1 h2 => by rw [List.nodup_append] at hnd0; exact hnd0.2.2 q h1 q (List.mem_cons_of_mem _ h2) rfl
  have HD := Aside0.mk h
  have HDN := Aside0.mk hn
  have hnl : ¬ (n ∈ l1 ∨ n ∈ l2) := fun hx => h.no_loop hn hself (by rw [hK]; rcases hx with hx | hx <;> simp [hx])
  have d12 : ∀ q, q ∈ l1 → q ∈ l2 → False := fun q h1 h2 => by rw [List.nodup_append] at hnd0; exact hnd0.2.2 q h1 q (List.mem_cons_of_mem _ h2) rfl
  have HD := Aside0.mk h
  have HDN := Aside0.mk hn
  have hnl : ¬ (n ∈ l1 ∨ n ∈ l2) := fun hx => h.no_loop hn hself (by rw [hK]; rcases hx with hx | hx <;> simp [hx])
  have d12 : ∀ q, q ∈ l1 → q ∈ l2 → False := fun q h1 h2 => by rw [List.nodup_append] at hnd0; exact hnd0.2.2 q h1 q (List.mem_cons_of_mem _ h2) rfl
  clear hHn hHc h hn hc hpc hself hnd0 d3 hcm
  -- CASES
  have kd : ∀ q, q ∈ l1 ∨ q ∈ l2 → ∃ r, Has w q r := fun q hq => by
    obtain ⟨iq, h1, _⟩ := HD.out.wf.down HDN.out (by rw [hK]; rcases hq with hq | hq <;> simp [hq] : q ∈ i.kids)
    obtain ⟨v, hv, _⟩ := HD.out.has h1
    exact ⟨_, hv⟩
  unfold ptr
  rcases snoc_or l1 with rfl | ⟨k1, x, rfl⟩
  · cases l2 with
    | nil =>
      have c3' : w.cell? ⟨c, 3, none⟩ = some (.pointer none) := by rw [c3]; simp [ptr]
      have c4' : w.cell? ⟨c, 4, none⟩ = some (.pointer none) := by rw [c4]; simp [ptr]
      have n1' : w.cell? ⟨n, 1, none⟩ = some (.pointer (some ⟨c, 0, none⟩)) := by rw [n1]; rfl
      have n2' : w.cell? ⟨n, 2, none⟩ = some (.pointer (some ⟨c, 0, none⟩)) := by rw [n2]; simp [ptr]
      have hq1 := eql_nodes HC.out HC.out
      have hq2 := eql_nodes (HC.out.far (p := ⟨n, 1, none⟩) hnc (.pointer none)) (HC.out.far (p := ⟨n, 1, none⟩) hnc (.pointer none))
      rw [show rmStores n c [] [] = [(n, 1, none), (n, 2, none), (c, 0, none), (c, 3, none), (c, 4, none)] by unfold rmStores; simp] at R
      clear c3 c4 n1 n2 kd
      clear d1 d2 d12 hnl hK
      go_enter Try.func98, Try.ntmps98
      go_wp2_with fail
      go_end0
      exact ⟨rfl, (R.out.1.drewN 0 : _), (R.out.2.drewN 0 : _)⟩
    | cons y k2 =>
      have c3' : w.cell? ⟨c, 3, none⟩ = some (.pointer none) := by rw [c3]; simp [ptr]
      have c4' : w.cell? ⟨c, 4, none⟩ = some (.pointer (some ⟨y, 0, none⟩)) := by rw [c4]; simp [ptr]
      have n1' : w.cell? ⟨n, 1, none⟩ = some (.pointer (some ⟨c, 0, none⟩)) := by rw [n1]; rfl
      obtain ⟨z, hz, hzm⟩ : ∃ z, (y :: k2).getLast? = some z ∧ z ∈ y :: k2 := by
        cases hg : (y :: k2).getLast? with
        | none => simp at hg
        | some z => exact ⟨z, rfl, List.mem_of_getLast? hg⟩
      have n2' : w.cell? ⟨n, 2, none⟩ = some (.pointer (some ⟨z, 0, none⟩)) := by rw [n2, List.getLast?_append, List.getLast?_cons_cons, hz]; rfl
      obtain ⟨rz, hHz⟩ := kd z (.inr hzm)
      have HZ := Aside0.mk hHz
      obtain ⟨ry, hHy⟩ := kd y (.inr (by simp))
      have HY := Aside0.mk hHy
      have hzc : (z == c) = false := beq_eq_false_iff_ne.2 (fun e => d2 (e ▸ hzm))
      have hyc : ¬ y = c := fun e => d2 (by rw [← e]; simp)
      have hcy : ¬ c = y := fun e => hyc e.symm
      have hyn : ¬ y = n := fun e => hnl (by rw [← e]; exact .inr (by simp))
      have hny : ¬ n = y := fun e => hyn e.symm
      have hfy := hHy.frozen 3
      have y3 := hHy.cells10.2.2.2.1
      have hq1 := eql_nodes HC.out HC.out
      have hz_n : z ≠ n := fun e => hnl (by rw [← e]; exact .inr hzm)
      have hHz2 : ∃ r, Has (((w.setCell ⟨n, 1, none⟩ (.pointer (some ⟨y, 0, none⟩)))).setCell ⟨y, 3, none⟩ (.pointer none)) z r := by
        by_cases e : z = y
        · subst e
          exact ⟨_, ((HZ.out.far (p := ⟨n, 1, none⟩) hz_n (.pointer (some ⟨z, 0, none⟩)))).put3 none⟩
        · exact ⟨_, ((HZ.out.far (p := ⟨n, 1, none⟩) hz_n (.pointer (some ⟨y, 0, none⟩)))).far (p := ⟨y, 3, none⟩) e _⟩
      obtain ⟨rz2, hHz2⟩ := hHz2
      have hq2 : (binOp .eql 47 (.pointer (some ⟨z, 0, none⟩)) (.pointer (some ⟨c, 0, none⟩))).run Try.prog ((((w.setCell ⟨n, 1, none⟩ (.pointer (some ⟨y, 0, none⟩)))).setCell ⟨y, 3, none⟩ (.pointer none)).drew) = .ok (.bool (z == c)) ((((w.setCell ⟨n, 1, none⟩ (.pointer (some ⟨y, 0, none⟩)))).setCell ⟨y, 3, none⟩ (.pointer none)).drew) := eql_nodes (hHz2.of_heap rfl) (((HC.out.far (p := ⟨n, 1, none⟩) hnc (.pointer (some ⟨y, 0, none⟩))).far (p := ⟨y, 3, none⟩) hcy (.pointer none)).of_heap rfl)
      rw [hzc] at hq2
      rw [show rmStores n c [] (y :: k2) = [(n, 1, some y), (y, 3, none), (c, 0, none), (c, 3, none), (c, 4, none)] by unfold rmStores; simp] at R
      clear c3 c4 n1 n2 kd
      clear hHz hHy hz hzm hzc hz_n hHz2
      clear d1 d2 d12 hnl hK
      go_enter Try.func98, Try.ntmps98
      go_wp2_with fail
      go_region
      go_wp2_with fail
      go_end0
      exact ⟨rfl, (R.out.1.drewN 1 : _), (R.out.2.drewN 1 : _)⟩
  · cases l2 with
    | nil =>
      have c3' : w.cell? ⟨c, 3, none⟩ = some (.pointer (some ⟨x, 0, none⟩)) := by rw [c3]; simp [ptr]
      have c4' : w.cell? ⟨c, 4, none⟩ = some (.pointer none) := by rw [c4]; simp [ptr]
      obtain ⟨x0, hx0, hx0m⟩ : ∃ x0, (k1 ++ [x]).head? = some x0 ∧ x0 ∈ k1 ++ [x] := by cases k1 with | nil => exact ⟨x, rfl, by simp⟩ | cons a k1 => exact ⟨a, rfl, by simp⟩
      have n1' : w.cell? ⟨n, 1, none⟩ = some (.pointer (some ⟨x0, 0, none⟩)) := by rw [n1, List.head?_append, hx0]; rfl
      obtain ⟨rx0, hHx0⟩ := kd x0 (.inl hx0m)
      have HX0 := Aside0.mk hHx0
      obtain ⟨rx, hHx⟩ := kd x (.inl (by simp))
      have HX := Aside0.mk hHx
      have hx0c : (x0 == c) = false := beq_eq_false_iff_ne.2 (fun e => d1 (e ▸ hx0m))
      have hxc : ¬ x = c := fun e => d1 (by rw [← e]; simp)
      have hcx : ¬ c = x := fun e => hxc e.symm
      have hxn : ¬ x = n := fun e => hnl (by rw [← e]; exact .inl (by simp))
      have hnx : ¬ n = x := fun e => hxn e.symm
      have hfx := hHx.frozen 4
      have x4 := hHx.cells10.2.2.2.2.1
      have n2' : w.cell? ⟨n, 2, none⟩ = some (.pointer (some ⟨c, 0, none⟩)) := by rw [n2]; simp [ptr]
      have hq1 := eql_nodes HX0.out HC.out
      have hq2 := eql_nodes HC.out HC.out
      rw [hx0c] at hq1
      rw [show rmStores n c (k1 ++ [x]) [] = [(n, 2, some x), (x, 4, none), (c, 0, none), (c, 3, none), (c, 4, none)] by unfold rmStores; simp] at R
      clear c3 c4 n1 n2 kd
      clear hHx0 hHx hx0 hx0m hx0c
      clear d1 d2 d12 hnl hK
      go_enter Try.func98, Try.ntmps98
      go_wp2_with fail
      go_region
      go_wp2_with fail
      go_end0
      exact ⟨rfl, (R.out.1.drewN 1 : _), (R.out.2.drewN 1 : _)⟩
    | cons y k2 =>
      have c3' : w.cell? ⟨c, 3, none⟩ = some (.pointer (some ⟨x, 0, none⟩)) := by rw [c3]; simp [ptr]
      have c4' : w.cell? ⟨c, 4, none⟩ = some (.pointer (some ⟨y, 0, none⟩)) := by rw [c4]; simp [ptr]
      obtain ⟨x0, hx0, hx0m⟩ : ∃ x0, (k1 ++ [x]).head? = some x0 ∧ x0 ∈ k1 ++ [x] := by cases k1 with | nil => exact ⟨x, rfl, by simp⟩ | cons a k1 => exact ⟨a, rfl, by simp⟩
      have n1' : w.cell? ⟨n, 1, none⟩ = some (.pointer (some ⟨x0, 0, none⟩)) := by rw [n1, List.head?_append, hx0]; rfl
      obtain ⟨rx0, hHx0⟩ := kd x0 (.inl hx0m)
      have HX0 := Aside0.mk hHx0
      obtain ⟨rx, hHx⟩ := kd x (.inl (by simp))
      have HX := Aside0.mk hHx
      have hx0c : (x0 == c) = false := beq_eq_false_iff_ne.2 (fun e => d1 (e ▸ hx0m))
      have hxc : ¬ x = c := fun e => d1 (by rw [← e]; simp)
      have hcx : ¬ c = x := fun e => hxc e.symm
      have hxn : ¬ x = n := fun e => hnl (by rw [← e]; exact .inl (by simp))
      have hnx : ¬ n = x := fun e => hxn e.symm
      have hfx := hHx.frozen 4
      have x4 := hHx.cells10.2.2.2.2.1
      obtain ⟨z, hz, hzm⟩ : ∃ z, (y :: k2).getLast? = some z ∧ z ∈ y :: k2 := by
        cases hg : (y :: k2).getLast? with
        | none => simp at hg
        | some z => exact ⟨z, rfl, List.mem_of_getLast? hg⟩
      have n2' : w.cell? ⟨n, 2, none⟩ = some (.pointer (some ⟨z, 0, none⟩)) := by rw [n2, List.getLast?_append, List.getLast?_cons_cons, hz]; rfl
      obtain ⟨rz, hHz⟩ := kd z (.inr hzm)
      have HZ := Aside0.mk hHz
      obtain ⟨ry, hHy⟩ := kd y (.inr (by simp))
      have HY := Aside0.mk hHy
      have hzc : (z == c) = false := beq_eq_false_iff_ne.2 (fun e => d2 (e ▸ hzm))
      have hyc : ¬ y = c := fun e => d2 (by rw [← e]; simp)
      have hcy : ¬ c = y := fun e => hyc e.symm
      have hyn : ¬ y = n := fun e => hnl (by rw [← e]; exact .inr (by simp))
      have hny : ¬ n = y := fun e => hyn e.symm
      have hfy := hHy.frozen 3
      have y3 := hHy.cells10.2.2.2.1
      have hxy : ¬ x = y := fun e => d12 x (by simp) (by simp [e])
      have hyx : ¬ y = x := fun e => hxy e.symm
      have hq1 := eql_nodes HX0.out HC.out
      have hz_n : z ≠ n := fun e => hnl (by rw [← e]; exact .inr hzm)
      have hHz2 : ∃ r, Has ((w).setCell ⟨y, 3, none⟩ (.pointer (some ⟨x, 0, none⟩))) z r := by
        by_cases e : z = y
        · subst e
          exact ⟨_, (HZ.out).put3 (some x)⟩
        · exact ⟨_, (HZ.out).far (p := ⟨y, 3, none⟩) e _⟩
      obtain ⟨rz2, hHz2⟩ := hHz2
      have hq2 : (binOp .eql 47 (.pointer (some ⟨z, 0, none⟩)) (.pointer (some ⟨c, 0, none⟩))).run Try.prog (((w).setCell ⟨y, 3, none⟩ (.pointer (some ⟨x, 0, none⟩))).drew) = .ok (.bool (z == c)) (((w).setCell ⟨y, 3, none⟩ (.pointer (some ⟨x, 0, none⟩))).drew) := eql_nodes (hHz2.of_heap rfl) ((HC.out.far (p := ⟨y, 3, none⟩) hcy (.pointer (some ⟨x, 0, none⟩))).of_heap rfl)
      rw [hzc] at hq2
      rw [hx0c] at hq1
      rw [show rmStores n c (k1 ++ [x]) (y :: k2) = [(y, 3, some x), (x, 4, some y), (c, 0, none), (c, 3, none), (c, 4, none)] by unfold rmStores; simp] at R
      clear c3 c4 n1 n2 kd
      clear hHx0 hHx hx0 hx0m hx0c
      clear hHz hHy hz hzm hzc hz_n hHz2
      clear d1 d2 d12 hnl hK
      go_enter Try.func98, Try.ntmps98
      go_wp2_with fail
      go_region
      go_wp2_with fail
      go_region
      go_wp2_with fail
      go_end0
      exact ⟨rfl, (R.out.1.drewN 2 : _), (R.out.2.drewN 2 : _)⟩
end Go.Proofs.Ytmfjbljdbkmkgaa.Dom

/- impl.told: a tree of nodes, as plain data. -/
namespace Go.Proofs.Ytmfjbljdbkmkgaa.Dom
open Go.RowKit Go.Proofs.YtmfjbljdbkmkgaaW.PrintWords Go.Proofs.YtmfjbljdbkmkgaaW.PrintLast Go.Proofs.YtmfjbljdbkmkgaaW.PrintMore Go.Proofs.Ytmfjbljdbkmkgaa.PDom
set_option linter.unusedVariables false
set_option linter.unusedSimpArgs false

abbrev At := S53
mutual
/-- The tree as plain data. -/
def RT.toT : RT → T
  | .node _ ty _ d at_ ks => if ty = 3 then ⟨0, d, ⟨#[]⟩, at_.map (fun a => (⟨a.1, a.2⟩ : At)), RT.toTL ks⟩ else if ty = 1 then ⟨1, ⟨#[]⟩, d, [], []⟩ else if ty = 4 then ⟨2, ⟨#[]⟩, d, [], []⟩ else ⟨3, ⟨#[]⟩, ⟨#[]⟩, [], RT.toTL ks⟩
def RT.toTL : List RT → List T
  | [] => []
  | k :: ks => k.toT :: RT.toTL ks
end
theorem RT.toTL_map (l : List RT) : RT.toTL l = l.map RT.toT := by
  induction l with
  | nil => rfl
  | cons k l ih => rw [RT.toTL, ih, List.map_cons]
/-- How many attributes and children a node has. -/
inductive RFit : RT → Prop
  | mk (i : Nat) (ty a : Int) (d : ByteArray) (at_ : List (ByteArray × ByteArray)) (ks : List RT) (h3 : at_.length ≤ 4398046510976) (h4 : ks.length ≤ 1000000000000) (hk : ∀ k ∈ ks, RFit k) : RFit (.node i ty a d at_ ks)
theorem at_A {w : World} {A : Option Addr} {n : Nat} {xs : List (ByteArray × ByteArray)} (h : Kd.C kA w A n xs) (i : Int) (h0 : 0 ≤ i) (h1 : i < n) : ∃ ad, A = some ad ∧ w.cell? (ad.add (i.toNat * 3)) = some (.string ⟨#[]⟩) ∧ w.cell? ⟨(ad.add (i.toNat * 3)).block, (ad.add (i.toNat * 3)).off + 1, none⟩ = some (.string (xs.getD i.toNat (⟨#[]⟩, ⟨#[]⟩)).1) ∧ w.cell? ⟨(ad.add (i.toNat * 3)).block, (ad.add (i.toNat * 3)).off + 2, none⟩ = some (.string (xs.getD i.toNat (⟨#[]⟩, ⟨#[]⟩)).2) := by
  obtain ⟨ad, c, e, _, hK, hc0⟩ := Kd.C_get h (⟨#[]⟩, ⟨#[]⟩) i h0 h1
  have hc : ∀ j u, c[j]? = some u → w.cell? (ad.add (i.toNat * 3 + j)) = some u := hc0
  obtain ⟨_, _, rfl, rfl, ⟨_, _, rfl, rfl, rfl⟩⟩ := hK
  exact ⟨ad, e, hc 0 _ rfl, by rw [← add_field _ _ 1 (by omega)]; exact hc 1 _ rfl, by rw [← add_field _ _ 2 (by omega)]; exact hc 2 _ rfl⟩
/-- The state of the tree that is being told: its box, its rows. -/
structure TB (w wr : World) (f0 : Int) (f1 f2 : ByteArray) (v3 v4 : Value) (l3 : List At) (l4 : List T) : Prop where
  box : wr.heap[w.heap.size + 1]? = some (.cells #[.int .i64 f0, .string f1, .string f2, v3, v4] 25 (0, 0))
  res : ∃ a0 a1 a2 a3 a4 : Value, wr.heap[w.heap.size]? = some (.cells #[a0, a1, a2, a3, a4] 25 (0, 0))
  n3 : Kd.N k53 53 wr w.heap.size (fun k => w.heap.size + 2 ≤ k ∧ some k ≠ v4.ownBlock) v3 l3
  n4 : Kd.N k25 25 wr w.heap.size (fun k => w.heap.size + 2 ≤ k ∧ some k ≠ v3.ownBlock) v4 l4
  below : Below w.heap.size w wr
theorem TB.start (w : World) (f0 : Int) (f1 f2 : ByteArray) {wr : World} (hb : wr.heap[w.heap.size + 1]? = some (.cells #[.int .i64 f0, .string f1, .string f2, .slice none 0 0, .slice none 0 0] 25 (0, 0)))
    (hr : ∃ a0 a1 a2 a3 a4 : Value, wr.heap[w.heap.size]? = some (.cells #[a0, a1, a2, a3, a4] 25 (0, 0))) (hw : Below w.heap.size w wr) : TB w wr f0 f1 f2 (.slice none 0 0) (.slice none 0 0) [] [] :=
  ⟨hb, hr, Kd.N_nil _ _ _ _ _, Kd.N_nil _ _ _ _ _, hw⟩
section
variable {w wr w1 w2 w3 : World} {f0 : Int} {f1 f2 : ByteArray} {v3 v4 v1 : Value} {l3 : List At} {l4 : List T}
theorem TB.moved (h : TB w wr f0 f1 f2 v3 v4 l3 l4) (hb : Below wr.heap.size wr w1) : TB w w1 f0 f1 f2 v3 v4 l3 l4 :=
  ⟨(hb.block _ (blk_lt h.box)).trans h.box, by obtain ⟨a0, a1, a2, a3, a4, hr⟩ := h.res; exact ⟨a0, a1, a2, a3, a4, (hb.block _ (blk_lt hr)).trans hr⟩, Kd.N_below h.n3 hb, Kd.N_below h.n4 hb, below_step h.below hb⟩
theorem TB.size (h : TB w wr f0 f1 f2 v3 v4 l3 l4) : w.heap.size + 2 ≤ wr.heap.size := blk_lt h.box
theorem TB.cells (h : TB w wr f0 f1 f2 v3 v4 l3 l4) : wr.cell? ⟨w.heap.size + 1, 0, none⟩ = some (.int .i64 f0) ∧ wr.cell? ⟨w.heap.size + 1, 1, none⟩ = some (.string f1) ∧ wr.cell? ⟨w.heap.size + 1, 2, none⟩ = some (.string f2) ∧ wr.cell? ⟨w.heap.size + 1, 3, none⟩ = some v3 ∧ wr.cell? ⟨w.heap.size + 1, 4, none⟩ = some v4 :=
  ⟨blk_cell h.box 0, blk_cell h.box 1, blk_cell h.box 2, blk_cell h.box 3, blk_cell h.box 4⟩
/-- A block that is kept through an append to an own row. -/
theorem grown_kept {r : Option Nat} (hg : w2.grownBy w3 r) {b : Nat} {x : Obj} (hb : w2.heap[b]? = some x) (hr : some b ≠ r) : w3.heap[b]? = some x :=
  (hg.block b (Array.getElem?_eq_some_iff.1 hb).1 hr).trans hb
/-- One more attribute. -/
theorem TB.attr (h : TB w wr f0 f1 f2 v3 (.slice none 0 0) l3 []) (hb : Below wr.heap.size wr w2) {p : At} (ho : Kd.N k53 53 w3 w.heap.size (fun k => w.heap.size + 2 ≤ k) v1 (l3 ++ [p])) (hb3 : Below w.heap.size w w3) (hg : w2.grownBy w3 v3.ownBlock) :
    w3.cell? ⟨w.heap.size + 1, 3, none⟩ = some v3 ∧ w3.frozen? ⟨w.heap.size + 1, 3, none⟩ = false ∧ TB w (w3.setCell ⟨w.heap.size + 1, 3, none⟩ v1) f0 f1 f2 v1 (.slice none 0 0) (l3 ++ [p]) [] := by
  have h2 := h.moved hb
  have n1 : some (w.heap.size + 1) ≠ v3.ownBlock := fun e => by have := (h2.n3.1 _ e.symm).1; omega
  have n0 : some w.heap.size ≠ v3.ownBlock := fun e => by have := (h2.n3.1 _ e.symm).1; omega
  have b3 := grown_kept hg h2.box n1
  obtain ⟨a0, a1, a2, a3, a4, hr⟩ := h2.res
  have r3 := grown_kept hg hr n0
  refine ⟨blk_cell b3 3, blk_frozen b3 3, blk_set b3 3 _, ⟨a0, a1, a2, a3, a4, (Below.heap_setCell w3 _ _ _ (by show w.heap.size ≠ w.heap.size + 1; omega)).trans r3⟩, ?_, Kd.N_nil _ _ _ _ _, ?_⟩
  · refine Kd.N_mono (Kd.N_far ho (fun k hk => ?_) _) (fun k hk => ⟨hk, by simp [Value.ownBlock]⟩)
    show k ≠ w.heap.size + 1
    omega
  · exact Below.setCell hb3 (by show w.heap.size ≤ w.heap.size + 1; omega) _
/-- One more child. -/
theorem TB.kid (h : TB w wr f0 f1 f2 v3 v4 l3 l4) (hb : Below wr.heap.size wr w2) {p : T} (ho : Kd.N k25 25 w3 w.heap.size (fun k => w.heap.size + 2 ≤ k ∧ some k ≠ v3.ownBlock) v1 (l4 ++ [p])) (hb3 : Below w.heap.size w w3) (hg : w2.grownBy w3 v4.ownBlock)
    (hat : v1.ownBlock = v4.ownBlock ∨ ∃ b, v1.ownBlock = some b ∧ w2.heap.size ≤ b) :
    w3.cell? ⟨w.heap.size + 1, 4, none⟩ = some v4 ∧ w3.frozen? ⟨w.heap.size + 1, 4, none⟩ = false ∧ TB w (w3.setCell ⟨w.heap.size + 1, 4, none⟩ v1) f0 f1 f2 v3 v1 l3 (l4 ++ [p]) := by
  have h2 := h.moved hb
  have n1 : some (w.heap.size + 1) ≠ v4.ownBlock := fun e => by have := (h2.n4.1 _ e.symm).1; omega
  have n0 : some w.heap.size ≠ v4.ownBlock := fun e => by have := (h2.n4.1 _ e.symm).1; omega
  have b3 := grown_kept hg h2.box n1
  obtain ⟨a0, a1, a2, a3, a4, hr⟩ := h2.res
  have r3 := grown_kept hg hr n0
  refine ⟨blk_cell b3 4, blk_frozen b3 4, blk_set b3 4 _, ⟨a0, a1, a2, a3, a4, (Below.heap_setCell w3 _ _ _ (by show w.heap.size ≠ w.heap.size + 1; omega)).trans r3⟩, ?_, ?_, ?_⟩
  · refine Kd.N_far (Kd.N_after h2.n3 hg hat) (fun k hk => ?_) _
    show k ≠ w.heap.size + 1
    omega
  · refine Kd.N_far ho (fun k hk => ?_) _
    show k ≠ w.heap.size + 1
    omega
  · exact Below.setCell hb3 (by show w.heap.size ≤ w.heap.size + 1; omega) _
theorem kids_step {P : Program} {ops : Array Oper} {o : Oper} {a : Act} {Q : Exit → Act → World → Prop} {K : Act → World → Prop} {E : Prop} {w0 W : World} (hgd : o.guard = none) (base : Nat) (s x : Operand) (t : TypeId) (z : Value)
    (ho : o.op = .call { callee := .builtin .append, args := #[s, x], argTypes := #[t, t] })
    (ht : P.underlying t = some (.slice 25)) (hinfo : (P.info? 25).map (fun i => (i.zero, i.size, i.bytes)) = some (some z, 5, 88)) (hz : z.cells.size = 5)
    (v : Value) (xs : List T) (p : T) (cs : List Value) (ok okp : Nat → Prop) (hs : a.eval s = v) (hx : a.eval x = .slice (some ⟨W.heap.size, 0, none⟩) 1 1) (hp : Kd.FK k25 W okp p cs) (hokp : ∀ k, okp k → ok k ∧ some k ≠ v.ownBlock) (hfresh : ∀ k, W.heap.size ≤ k → ok k)
    (HO : Kd.N k25 25 W base ok v xs) (HB : Below base w0 W) (hbase : base ≤ W.heap.size) (hl : (xs.length + 1) * 88 ≤ 140737488355328)
    (h : ∀ v1 w1, Kd.N k25 25 w1 base ok v1 (xs ++ [p]) → Below base w0 w1 → W.grownBy w1 v.ownBlock → (v1.ownBlock = v.ownBlock ∨ ∃ b, v1.ownBlock = some b ∧ W.heap.size ≤ b) → K (a.put o.dst v1) w1) :
    if Region.wanted o (yielded ops a.tmps) = true then Oper.wp P o a (W.alloc (.cells cs.toArray 25)) K Q else E := by
  have hw : Region.wanted o (yielded ops a.tmps) = true := by simp [Region.wanted, hgd]
  have := Kd.N_append_step (P := P) (ops := ops) (o := o) (a := a) (Q := Q) (Kc := K) k25 base hw s x t 25 z 88 ho ht hinfo hz (by decide) (by decide) v xs p cs ok okp hs hx hp hokp hfresh HO HB hbase hl h
  rw [if_pos hw] at this ⊢
  exact this
end
theorem infoNd : (Try.prog.info? 25).map (fun i => (i.zero, i.size, i.bytes)) = some (some (.agg #[.int .i64 0, .string ⟨#[]⟩, .string ⟨#[]⟩, .slice none 0 0, .slice none 0 0]), 5, 88) := by kernel_rfl
theorem infoAt : (Try.prog.info? 53).map (fun i => (i.zero, i.size, i.bytes)) = some (some (.agg #[.string ⟨#[]⟩, .string ⟨#[]⟩]), 2, 32) := by kernel_rfl
/-- A row of attributes leads to nothing. -/
theorem attr_R {w : World} {base : Nat} {ok : Nat → Prop} {v : Value} {l : List At} (h : Kd.N k53 53 w base ok v l) : Kd.R k53 53 w base ok v l := by
  obtain ⟨h0, rows, hlen, ⟨h1, inner, ho, hr⟩, hf⟩ := h
  refine ⟨h0, inner, by rw [← hlen]; exact ho, by rw [hr.1, hlen]; rfl, fun j p hj => ?_⟩
  have hlt : j < rows.length := by rw [hlen]; exact (List.getElem?_eq_some_iff.1 hj).1
  have e1 := List.getElem?_eq_getElem hlt
  have hc := (hr.2 j _ e1).1
  have hk := Kd.FK_now (hf j p _ hj e1)
  rw [← hc] at hk
  exact hk
/-- What impl.told returns. -/
def Told (w w' : World) (t : T) (e : Ending) : Prop := ∃ A3 c3 A4 c4, e = .returned (.agg #[.int .i64 t.f0, .string t.f1, .string t.f2, .slice A3 t.f3.length c3, .slice A4 t.f4.length c4]) ∧ t.f3.length ≤ c3 ∧ Kd.F k53 w' (fun k => w.heap.size ≤ k) A3 t.f3.length t.f3 ∧ t.f4.length ≤ c4 ∧ Kd.F k25 w' (fun k => w.heap.size ≤ k) A4 t.f4.length t.f4 ∧ Below w.heap.size w w' ∧
  Kd.R k53 53 w' w.heap.size (fun k => w.heap.size ≤ k) (.slice A3 t.f3.length c3) t.f3 ∧ Kd.N k25 25 w' w.heap.size (fun k => w.heap.size ≤ k ∧ some k ≠ (Value.slice A3 t.f3.length c3).ownBlock) (.slice A4 t.f4.length c4) t.f4
theorem told_leaf (w : World) (t : T) (h3 : t.f3 = []) (h4 : t.f4 = []) (w' : World) (hb : Below w.heap.size w w') (e : Ending) (he : e = .returned (.agg #[.int .i64 t.f0, .string t.f1, .string t.f2, .slice none 0 0, .slice none 0 0])) : Told w w' t e := by
  refine ⟨none, 0, none, 0, by rw [h3, h4]; exact he, by rw [h3]; exact Nat.le_refl _, by rw [h3]; exact Kd.F_nil _ _ _, by rw [h4]; exact Nat.le_refl _, by rw [h4]; exact Kd.F_nil _ _ _, hb, by rw [h3]; exact Kd.R_nil _ _ _ _ _, by rw [h4]; exact Kd.N_nil _ _ _ _ _⟩
theorem told_end {w wr w' : World} {t : T} {v3 v4 : Value} (h : TB w wr t.f0 t.f1 t.f2 v3 v4 t.f3 t.f4) (hw : ∀ k, w.heap.size + 2 ≤ k → k < wr.heap.size → w'.heap[k]? = wr.heap[k]?) (hb : Below w.heap.size w w') : Told w w' t (.returned (.agg #[.int .i64 t.f0, .string t.f1, .string t.f2, v3, v4])) := by
  obtain ⟨A3, c3, rfl⟩ := Kd.N_slice h.n3
  obtain ⟨A4, c4, rfl⟩ := Kd.N_slice h.n4
  have m3 := Kd.N_step h.n3 (w1 := w') (fun k hk hlt => hw k hk.1 hlt)
  have m4 := Kd.N_step h.n4 (w1 := w') (fun k hk hlt => hw k hk.1 hlt)
  exact ⟨A3, c3, A4, c4, rfl, (Kd.N_reads' m3).2.1, Kd.F_mono (Kd.N_F m3) (fun k hk => Nat.le_trans (by omega) hk.1), (Kd.N_reads' m4).2.1, Kd.F_mono (Kd.N_F m4) (fun k hk => Nat.le_trans (by omega) hk.1), hb, attr_R (Kd.N_mono m3 (fun k hk => Nat.le_trans (by omega) hk.1)), Kd.N_mono m4 (fun k hk => ⟨Nat.le_trans (by omega) hk.1, hk.2⟩)⟩
theorem sets5 (w : World) (b : Nat) (a0 a1 a2 a3 a4 : Value) (k : Nat) (hk : k ≠ b) : (((((w.setCell ⟨b, 0, none⟩ a0).setCell ⟨b, 1, none⟩ a1).setCell ⟨b, 2, none⟩ a2).setCell ⟨b, 3, none⟩ a3).setCell ⟨b, 4, none⟩ a4).heap[k]? = w.heap[k]? := by
  rw [Below.heap_setCell _ ⟨b, 4, none⟩ _ _ hk, Below.heap_setCell _ ⟨b, 3, none⟩ _ _ hk, Below.heap_setCell _ ⟨b, 2, none⟩ _ _ hk, Below.heap_setCell _ ⟨b, 1, none⟩ _ _ hk, Below.heap_setCell _ ⟨b, 0, none⟩ _ _ hk]
theorem below_sets5 {w wr : World} (h : Below w.heap.size w wr) (a0 a1 a2 a3 a4 : Value) : Below w.heap.size w (((((wr.setCell ⟨w.heap.size, 0, none⟩ a0).setCell ⟨w.heap.size, 1, none⟩ a1).setCell ⟨w.heap.size, 2, none⟩ a2).setCell ⟨w.heap.size, 3, none⟩ a3).setCell ⟨w.heap.size, 4, none⟩ a4) :=
  ((((h.setCell (p := ⟨w.heap.size, 0, none⟩) (Nat.le_refl _) a0).setCell (p := ⟨w.heap.size, 1, none⟩) (Nat.le_refl _) a1).setCell (p := ⟨w.heap.size, 2, none⟩) (Nat.le_refl _) a2).setCell (p := ⟨w.heap.size, 3, none⟩) (Nat.le_refl _) a3).setCell (p := ⟨w.heap.size, 4, none⟩) (Nat.le_refl _) a4
set_option maxHeartbeats 4000000 in
set_option maxRecDepth 100000 in
theorem told_calls (D : Tab) (r : RT) : ∀ (p : Option Nat), Is D p r → RFit r → ∀ (w : World), Dom w D → Calls Try.prog 66 #[ptr (some r.id)] w fun e w' => Told w w' r.toT e := by
  induction r using RT.induct with
  | h i ty a d at_ ks ih =>
    intro p hr hf w hdom
    have hroot : D i = some _ := hr.root
    obtain ⟨va, hHi, hA⟩ := hdom.has hroot
    have c5 : w.cell? ⟨i, 5, none⟩ = some (.int .u32 ty) := hHi.cells10.2.2.2.2.2.1
    have c7 : w.cell? ⟨i, 7, none⟩ = some (.string d) := hHi.cells10.2.2.2.2.2.2.2.1
    have c9 : w.cell? ⟨i, 9, none⟩ = some va := hHi.cells10.2.2.2.2.2.2.2.2.2
    have hl : i < w.heap.size := hHi.lt
    show Calls _ _ #[ptr (some i)] _ _
    rw [ptr_some]
    by_cases t1 : ty = 1
    · subst t1
      clear ih hr hf hdom hroot hHi hA c9
      go_enter Try.func66, Try.ntmps66
      go_wp2_with fail
      refine bodyPost_ret (v := .agg #[.int .i64 1, .string ⟨#[]⟩, .string d, .slice none 0 0, .slice none 0 0]) (by simp [results, Try.results66, go_sem]) rfl ?_
      exact told_leaf w _ rfl rfl _ (below_alloc (below_alloc (Below.refl _ _) _) _) _ rfl
    · by_cases t4 : ty = 4
      · subst t4
        clear ih hr hf hdom hroot hHi hA c9
        go_enter Try.func66, Try.ntmps66
        go_wp2_with fail
        refine bodyPost_ret (v := .agg #[.int .i64 2, .string ⟨#[]⟩, .string d, .slice none 0 0, .slice none 0 0]) (by simp [results, Try.results66, go_sem]) rfl ?_
        exact told_leaf w _ rfl rfl _ (below_alloc (below_alloc (Below.refl _ _) _) _) _ rfl
      · obtain ⟨Aa, ca, hva, hca, hCa⟩ := Kd.R_reads hA
        have hva' : va = .slice Aa at_.length ca := hva
        subst hva'
        have HC := Aside0.mk (show Kd.C kA w Aa at_.length at_ from hCa)
        have HF := Aside0.mk hf
        have HR := Aside0.mk hr
        have HD := Aside0.mk hdom
        have HI := Aside0.mk hHi
        have IH := Aside0.mk ih
        clear ih hr hf hdom hroot hHi hA hCa hva hca
        have HE : ∃ t : T, (RT.node i ty a d at_ ks).toT = t ∧ t.f4 = RT.toTL ks ∧ ((ty = 3 ∧ t.f0 = 0 ∧ t.f1 = d ∧ t.f2 = ⟨#[]⟩ ∧ t.f3 = at_.map (fun a => (⟨a.1, a.2⟩ : At))) ∨ (ty ≠ 3 ∧ t.f0 = 3 ∧ t.f1 = ⟨#[]⟩ ∧ t.f2 = ⟨#[]⟩ ∧ t.f3 = [])) := by
          refine ⟨_, rfl, ?_⟩
          simp only [RT.toT]
          by_cases t3 : ty = 3
          · rw [if_pos t3]
            exact ⟨rfl, .inl ⟨t3, rfl, rfl, rfl, rfl⟩⟩
          · rw [if_neg t3, if_neg t1, if_neg t4]
            exact ⟨rfl, .inr ⟨t3, rfl, rfl, rfl, rfl⟩⟩
        obtain ⟨t, het, hk4, hcase⟩ := HE
        rw [het]
        rcases hcase with ⟨t3, q0, q1, q2, q3⟩ | ⟨t3, q0, q1, q2, q3⟩
        · subst t3
          have HT := Aside0.mk (⟨het, hk4, q0, q1, q2, q3⟩ : _ ∧ _ ∧ _ ∧ _ ∧ _ ∧ _)
          clear het hk4 q0 q1 q2 q3 t1 t4
          go_enter Try.func66, Try.ntmps66
          go_wp2_with fail
          have hS := TB.start w 0 d ⟨#[]⟩ (two_new w (.cells #[.int .i64 0, .string ⟨#[]⟩, .string ⟨#[]⟩, .slice none 0 0, .slice none 0 0] 25) (.cells #[.int .i64 0, .string d, .string ⟨#[]⟩, .slice none 0 0, .slice none 0 0] 25)) ⟨_, _, _, _, _, two_old w _ _⟩ (below_alloc (below_alloc (Below.refl _ _) _) _)
          have HS := Aside0.mk hS
          clear hS
          generalize (w.alloc (.cells #[.int .i64 0, .string ⟨#[]⟩, .string ⟨#[]⟩, .slice none 0 0, .slice none 0 0] 25)).alloc (.cells #[.int .i64 0, .string d, .string ⟨#[]⟩, .slice none 0 0, .slice none 0 0] 25) = W0 at HS ⊢
          clear c5 c7 c9
          go_loopw [24] (fun vj wr => ∃ (j : Nat) (v3 : Value), vj = .int .i64 j ∧ j ≤ at_.length ∧ Aside0 (TB w wr 0 d ⟨#[]⟩ v3 (.slice none 0 0) ((at_.map (fun a => (⟨a.1, a.2⟩ : At))).take j) [])) (fun vj _ => at_.length - (intOf vj).toNat)
          case atStart => exact ⟨0, _, rfl, Nat.zero_le _, HS⟩
          case round =>
            obtain ⟨j, v3, rfl, hj, HB⟩ := hrel
            by_cases hlt : j < at_.length
            · obtain ⟨ad, rfl, y0, y1, y2⟩ := at_A (Kd.C_below HC.out HB.out.below) (j : Int) (by omega) (by omega)
              have he : at_.getD ((j : Int)).toNat (⟨#[]⟩, ⟨#[]⟩) = at_[j] := by simp [List.getD_eq_getElem?_getD, List.getElem?_eq_getElem hlt]
              have hsn : (at_.map (fun a => (⟨a.1, a.2⟩ : At))).take (j + 1) = (at_.map (fun a => (⟨a.1, a.2⟩ : At))).take j ++ [(⟨at_[j].1, at_[j].2⟩ : At)] := by
                rw [List.take_succ_eq_append_getElem (by rw [List.length_map]; exact hlt), List.getElem_map]
              have hlen : ((at_.map (fun a => (⟨a.1, a.2⟩ : At))).take j).length ≤ 4398046510976 := by
                cases HF.out with
                | mk _ _ _ _ _ _ h3 h4 hk => rw [List.length_take, List.length_map]; omega
              rw [he] at y1 y2
              simp only [Int.toNat_natCast] at y0 y1 y2
              generalize at_[j] = q at y1 y2 hsn
              obtain ⟨q0, q1⟩ := q
              simp only at y1 y2 hsn
              have HSN := Aside0.mk hsn
              have HLN := Aside0.mk hlen
              have HWJ := Aside0.mk (show wrap64 ((j : Int) + 1) = ((j + 1 : Nat) : Int) from by
                have := HLN.out
                have : at_.length ≤ 4398046510976 := by cases HF.out with | mk _ _ _ _ _ _ h3 h4 hk => exact h3
                unfold wrap64; omega)
              clear he hsn hlen
              go_upto_region 9 with fail
-- FILL
              have hcp : (wr.alloc (.cells #[.string ⟨#[]⟩, .string q0, .string q1] 106)).heap[wr.heap.size]? = some (.cells #[.string ⟨#[]⟩, .string q0, .string q1] 106 (0, 0)) := heap_alloc_new wr _
              have HB8 := Aside0.mk (below_alloc (Below.refl wr.heap.size wr) (.cells #[.string ⟨#[]⟩, .string q0, .string q1] 106))
              generalize wr.alloc (.cells #[.string ⟨#[]⟩, .string q0, .string q1] 106) = w8 at hcp HB8 ⊢
              have e1 : w8.cell? ⟨wr.heap.size, 1, none⟩ = some (.string q0) := by rw [blk_cell hcp]; rfl
              have e2 : w8.cell? ⟨wr.heap.size, 2, none⟩ = some (.string q1) := by rw [blk_cell hcp]; rfl
              have HM := Aside0.mk (HB.out.moved HB8.out)
              have x3 : w8.cell? ⟨w.heap.size + 1, 3, none⟩ = some v3 := HM.out.cells.2.2.2.1
              clear hcp y0 y1 y2
              go_wp2_with ((with_reducible refine gate_builtin (b := .append) (xs := #[.tmp 29, .tmp 35]) rfl ?_); at_builtin; go_must (refine Kd.N_append k53 (w0 := w) w.heap.size rfl (.tmp 29) (.tmp 35) 22 53 (.agg #[.string ⟨#[]⟩, .string ⟨#[]⟩]) 32 rfl Try.underlying22 infoAt rfl (by decide) (by decide) v3 ((at_.map (fun a => (⟨a.1, a.2⟩ : At))).take j) (⟨q0, q1⟩ : At) [.string q0, .string q1] (fun k => w.heap.size + 2 ≤ k) (fun _ => False) rfl (by go_simp) (k53_mkF w8 _ ⟨q0, q1⟩) (fun _ h => h.elim) (fun k hk => Nat.le_trans HM.out.size hk) (Kd.N_mono HM.out.n3 (fun k hk => hk.1)) HM.out.below HM.out.below.size (by have := HLN.out; omega) ?_))
              intro v1 w3 ho hb hg hat
              rw [← HSN.out] at ho
              obtain ⟨L1, hL1⟩ : ∃ L1, L1 = ((at_.map (fun a => (⟨a.1, a.2⟩ : At))).take (j + 1)).length := ⟨_, rfl⟩
              obtain ⟨A1, k1, hv1⟩ := Kd.N_slice ho
              rw [← hL1] at hv1
              subst hv1
              clear hL1
              obtain ⟨g3, gf3, ht3⟩ := HB.out.attr HB8.out (p := ⟨q0, q1⟩) (by rw [← HSN.out]; exact ho) hb hg
              rw [← HSN.out] at ht3
              have HT3 := Aside0.mk ht3
              clear ho hb hg hat ht3
              go_wp2_with fail
              go_roundw
              case rel => exact ⟨j + 1, _, by rw [HWJ.out], hlt, HT3⟩
              case measure => rw [HWJ.out]; simp [intOf]; omega
            · have hje : j = at_.length := by omega
              subst hje
              have hB := HB.out
              rw [List.take_of_length_le (by rw [List.length_map]; exact Nat.le_refl _)] at hB
              have HB0 := Aside0.mk hB
              clear hB HB hlt hj
              have c1 : wr.cell? ⟨i, 1, none⟩ = some (ptr (ks[0]?.map RT.id)) := Is.first (HD.out.below HB0.out.below) HR.out
              go_wp2_with fail
              go_loopg [6] ks.length (fun n v6 wr => ∃ (j : Nat) (v4 : Value), n = ks.length - j ∧ j ≤ ks.length ∧ v6 = ptr (ks[j]?.map RT.id) ∧ Aside0 (TB w wr 0 d ⟨#[]⟩ v3 v4 (at_.map (fun a => (⟨a.1, a.2⟩ : At))) ((ks.map RT.toT).take j)))
              case atStart => exact ⟨0, _, rfl, Nat.zero_le _, rfl, HB0⟩
              case round =>
                clear c1
                obtain ⟨j, v4, rfl, hj, rfl, HB⟩ := hrel
                by_cases hlt : j < ks.length
                · rw [List.getElem?_eq_getElem hlt]
                  have hkm : ks[j] ∈ ks := List.getElem_mem hlt
                  have HNX := Aside0.mk (show ∀ wx, Below w.heap.size w wx → wx.cell? ⟨ks[j].id, 4, none⟩ = some (ptr (ks[j + 1]?.map RT.id)) from fun wx hb => Is.next (HD.out.below hb) HR.out (j := j) hlt)
                  have HKC := Aside0.mk (fun wx hb => IH.out ks[j] hkm (some i) (HR.out.kid hkm) (by cases HF.out with | mk _ _ _ _ _ _ h3 h4 hk => exact hk _ hkm) wx (HD.out.below hb))
                  have hsn : (ks.map RT.toT).take (j + 1) = (ks.map RT.toT).take j ++ [ks[j].toT] := by rw [List.take_succ_eq_append_getElem (by rw [List.length_map]; exact hlt), List.getElem_map]
                  have hlen : ((ks.map RT.toT).take j).length ≤ 1000000000000 := by
                    cases HF.out with
                    | mk _ _ _ _ _ _ h3 h4 hk => rw [List.length_take, List.length_map]; omega
                  have HSN := Aside0.mk hsn
                  have HLN := Aside0.mk hlen
                  simp only [Option.map_some, ptr_some] at HKC ⊢
                  generalize ks[j].toT = u at HKC HSN
                  generalize ks[j].id = x at HNX HKC ⊢
                  clear hkm hsn hlen
                  have x4 : wr.cell? ⟨w.heap.size + 1, 4, none⟩ = some v4 := HB.out.cells.2.2.2.2
                  have HDW := Aside0.mk (below_drew (Below.refl wr.heap.size wr))
                  have x4d : wr.drew.cell? ⟨w.heap.size + 1, 4, none⟩ = some v4 := (HB.out.moved HDW.out).cells.2.2.2.2
                  go_upto_region 18 with fail
                  go_region_law (first
                    | (refine kids_step (w0 := w) (W := w2) rfl w.heap.size (.tmp 64) (.tmp 67) 23 (.agg #[.int .i64 0, .string ⟨#[]⟩, .string ⟨#[]⟩, .slice none 0 0, .slice none 0 0]) rfl Try.underlying23 infoNd rfl v4 ((ks.map RT.toT).take j) u [.int .i64 u.f0, .string u.f1, .string u.f2, .slice A3 u.f3.length c3, .slice A4 u.f4.length c4] (fun k => w.heap.size + 2 ≤ k ∧ some k ≠ v3.ownBlock) (fun k => wr.heap.size ≤ k) (by simp [Act.eval, Act.put]) (by simp [Act.eval, Act.put]) HFK.out HOK.out HFR.out HM2.out.n4 HM2.out.below HM2.out.below.size (by have := HLN.out; omega) ?_; intro v1 w3 ho hb hg hat; obtain ⟨L1, hL1⟩ : ∃ L1, L1 = ((ks.map RT.toT).take j ++ [u]).length := ⟨_, rfl⟩; obtain ⟨A1, k1, hv1⟩ := Kd.N_slice ho; rw [← hL1] at hv1; subst hv1; clear hL1; obtain ⟨g3, gf3, ht3⟩ := HB.out.kid HB2.out ho hb hg hat; rw [← HSN.out] at ht3; have HT3 := Aside0.mk ht3; have nx := HNX.out _ ht3.below; clear ho hb hg hat ht3)
                    | (go_simp; go_at_call 66; refine (HKC.out _ (below_step HB.out.below HDW.out)).mono ?_; rintro e w2 ⟨A3, c3, A4, c4, rfl, m3, F3, m4, F4, hb2, _, _⟩; have HB2 := Aside0.mk (below_step HDW.out hb2); have HM2 := Aside0.mk (HB.out.moved HB2.out); have HFK := Aside0.mk (k25_mkF w2 (fun k => wr.heap.size ≤ k) u m3 F3 m4 F4); have HOK := Aside0.mk (show ∀ k, wr.heap.size ≤ k → (w.heap.size + 2 ≤ k ∧ some k ≠ v3.ownBlock) ∧ some k ≠ v4.ownBlock from fun k hk => ⟨⟨Nat.le_trans HB.out.size hk, fun e => by have := Kd.N_lt HB.out.n3 k e.symm; omega⟩, fun e => by have := Kd.N_lt HB.out.n4 k e.symm; omega⟩); have HFR := Aside0.mk (show ∀ k, w2.heap.size ≤ k → w.heap.size + 2 ≤ k ∧ some k ≠ v3.ownBlock from fun k hk => ⟨Nat.le_trans HM2.out.size hk, fun e => by have := Kd.N_lt HM2.out.n3 k e.symm; omega⟩); have x42 : w2.cell? ⟨w.heap.size + 1, 4, none⟩ = some v4 := HM2.out.cells.2.2.2.2; have x43 : (w2.alloc (.cells #[.int .i64 u.f0, .string u.f1, .string u.f2, .slice A3 u.f3.length c3, .slice A4 u.f4.length c4] 25)).cell? ⟨w.heap.size + 1, 4, none⟩ = some v4 := (HM2.out.moved (below_alloc (Below.refl _ _) _)).cells.2.2.2.2; clear m3 F3 m4 F4 hb2))
                  all_goals (simp only [Exit.inBlock, Exit.then]; go_wp2_with fail; go_roundg (ks.length - (j + 1)))
                  all_goals first
                    | exact ⟨j + 1, _, rfl, hlt, rfl, HT3⟩
                    | omega
                    | trace_state
                · have hje : j = ks.length := by omega
                  subst hje
                  rw [List.getElem?_eq_none (Nat.le_refl _)]
                  simp only [Option.map_none, ptr_none]
                  have hB := HB.out
                  rw [List.take_of_length_le (by rw [List.length_map]; exact Nat.le_refl _), ← RT.toTL_map] at hB
                  obtain ⟨n3, A3, c3, e3⟩ : ∃ n A c, v3 = .slice A n c := by obtain ⟨A, c, h⟩ := Kd.N_slice hB.n3; exact ⟨_, A, c, h⟩
                  obtain ⟨n4, A4, c4, e4⟩ : ∃ n A c, v4 = .slice A n c := by obtain ⟨A, c, h⟩ := Kd.N_slice hB.n4; exact ⟨_, A, c, h⟩
                  subst e4
                  subst e3
                  obtain ⟨a0, a1, a2, a3, a4, hr⟩ := hB.res
                  obtain ⟨b0, b1, b2, b3, b4⟩ := hB.cells
                  have r0 := blk_cell hr 0
                  have r1 := blk_cell hr 1
                  have r2 := blk_cell hr 2
                  have r3 := blk_cell hr 3
                  have r4 := blk_cell hr 4
                  have f0 := blk_frozen hr 0
                  have f1 := blk_frozen hr 1
                  have f2 := blk_frozen hr 2
                  have f3 := blk_frozen hr 3
                  have f4 := blk_frozen hr 4
                  have HBB := Aside0.mk hB
                  clear hB hr HB
                  go_wp2_with fail
                  refine bodyPost_ret (v := .agg #[.int .i64 0, .string d, .string ⟨#[]⟩, .slice A3 n3 c3, .slice A4 n4 c4]) (by simp [results, Try.results66, go_sem, r0, r1, r2, r3, r4]) rfl ?_
                  obtain ⟨het, hk4, q0, q1, q2, q3⟩ := HT.out
                  have hte := told_end (t := t) (by rw [q0, q1, q2, q3, hk4]; exact HBB.out) (fun k hk _ => sets5 wr w.heap.size (.int .i64 0) (.string d) (.string ⟨#[]⟩) (.slice A3 n3 c3) (.slice A4 n4 c4) k (by omega)) (below_sets5 HBB.out.below (.int .i64 0) (.string d) (.string ⟨#[]⟩) (.slice A3 n3 c3) (.slice A4 n4 c4))
                  rw [q0, q1, q2] at hte
                  exact hte
        · have b3 : (ty == 3) = false := beq_eq_false_iff_ne.2 t3
          have b1 : (ty == 1) = false := beq_eq_false_iff_ne.2 t1
          have b4 : (ty == 4) = false := beq_eq_false_iff_ne.2 t4
          have d3 := decide_eq_false t3
          have d1 := decide_eq_false t1
          have d4 := decide_eq_false t4
          have HT := Aside0.mk (⟨het, hk4, q0, q1, q2, q3⟩ : _ ∧ _ ∧ _ ∧ _ ∧ _ ∧ _)
          clear het hk4 q0 q1 q2 q3 t1 t4 t3
          go_enter Try.func66, Try.ntmps66
          go_upto_region 15 with fail
          have HB0 := Aside0.mk (TB.start w 3 ⟨#[]⟩ ⟨#[]⟩ (two_new w (.cells #[.int .i64 0, .string ⟨#[]⟩, .string ⟨#[]⟩, .slice none 0 0, .slice none 0 0] 25) (.cells #[.int .i64 3, .string ⟨#[]⟩, .string ⟨#[]⟩, .slice none 0 0, .slice none 0 0] 25)) ⟨_, _, _, _, _, two_old w _ _⟩ (below_alloc (below_alloc (Below.refl _ _) _) _))
          generalize (w.alloc (.cells #[.int .i64 0, .string ⟨#[]⟩, .string ⟨#[]⟩, .slice none 0 0, .slice none 0 0] 25)).alloc (.cells #[.int .i64 3, .string ⟨#[]⟩, .string ⟨#[]⟩, .slice none 0 0, .slice none 0 0] 25) = W0 at HB0 ⊢
          clear c5 c7 c9
          have c1 : W0.cell? ⟨i, 1, none⟩ = some (ptr (ks[0]?.map RT.id)) := Is.first (HD.out.below HB0.out.below) HR.out
          go_wp2_with fail
          go_loopg [6] ks.length (fun n v6 wr => ∃ (j : Nat) (v4 : Value), n = ks.length - j ∧ j ≤ ks.length ∧ v6 = ptr (ks[j]?.map RT.id) ∧ Aside0 (TB w wr 3 ⟨#[]⟩ ⟨#[]⟩ (.slice none 0 0) v4 [] ((ks.map RT.toT).take j)))
          case atStart => exact ⟨0, _, rfl, Nat.zero_le _, rfl, HB0⟩
          case round =>
            clear c1
            obtain ⟨j, v4, rfl, hj, rfl, HB⟩ := hrel
            by_cases hlt : j < ks.length
            · rw [List.getElem?_eq_getElem hlt]
              have hkm : ks[j] ∈ ks := List.getElem_mem hlt
              have HNX := Aside0.mk (show ∀ wx, Below w.heap.size w wx → wx.cell? ⟨ks[j].id, 4, none⟩ = some (ptr (ks[j + 1]?.map RT.id)) from fun wx hb => Is.next (HD.out.below hb) HR.out (j := j) hlt)
              have HKC := Aside0.mk (fun wx hb => IH.out ks[j] hkm (some i) (HR.out.kid hkm) (by cases HF.out with | mk _ _ _ _ _ _ h3 h4 hk => exact hk _ hkm) wx (HD.out.below hb))
              have hsn : (ks.map RT.toT).take (j + 1) = (ks.map RT.toT).take j ++ [ks[j].toT] := by rw [List.take_succ_eq_append_getElem (by rw [List.length_map]; exact hlt), List.getElem_map]
              have hlen : ((ks.map RT.toT).take j).length ≤ 1000000000000 := by
                cases HF.out with
                | mk _ _ _ _ _ _ h3 h4 hk => rw [List.length_take, List.length_map]; omega
              have HSN := Aside0.mk hsn
              have HLN := Aside0.mk hlen
              simp only [Option.map_some, ptr_some] at HKC ⊢
              generalize ks[j].toT = u at HKC HSN
              generalize ks[j].id = x at HNX HKC ⊢
              clear hkm hsn hlen
              have x4 : wr.cell? ⟨w.heap.size + 1, 4, none⟩ = some v4 := HB.out.cells.2.2.2.2
              have HDW := Aside0.mk (below_drew (Below.refl wr.heap.size wr))
              have x4d : wr.drew.cell? ⟨w.heap.size + 1, 4, none⟩ = some v4 := (HB.out.moved HDW.out).cells.2.2.2.2
              go_upto_region 18 with fail
              go_region_law (first
                | (refine kids_step (w0 := w) (W := w2) rfl w.heap.size (.tmp 64) (.tmp 67) 23 (.agg #[.int .i64 0, .string ⟨#[]⟩, .string ⟨#[]⟩, .slice none 0 0, .slice none 0 0]) rfl Try.underlying23 infoNd rfl v4 ((ks.map RT.toT).take j) u [.int .i64 u.f0, .string u.f1, .string u.f2, .slice A3 u.f3.length c3, .slice A4 u.f4.length c4] (fun k => w.heap.size + 2 ≤ k ∧ some k ≠ (Value.slice none 0 0).ownBlock) (fun k => wr.heap.size ≤ k) (by simp [Act.eval, Act.put]) (by simp [Act.eval, Act.put]) HFK.out HOK.out HFR.out HM2.out.n4 HM2.out.below HM2.out.below.size (by have := HLN.out; omega) ?_; intro v1 w3 ho hb hg hat; obtain ⟨L1, hL1⟩ : ∃ L1, L1 = ((ks.map RT.toT).take j ++ [u]).length := ⟨_, rfl⟩; obtain ⟨A1, k1, hv1⟩ := Kd.N_slice ho; rw [← hL1] at hv1; subst hv1; clear hL1; obtain ⟨g3, gf3, ht3⟩ := HB.out.kid HB2.out ho hb hg hat; rw [← HSN.out] at ht3; have HT3 := Aside0.mk ht3; have nx := HNX.out _ ht3.below; clear ho hb hg hat ht3)
                | (go_simp; go_at_call 66; refine (HKC.out _ (below_step HB.out.below HDW.out)).mono ?_; rintro e w2 ⟨A3, c3, A4, c4, rfl, m3, F3, m4, F4, hb2, _, _⟩; have HB2 := Aside0.mk (below_step HDW.out hb2); have HM2 := Aside0.mk (HB.out.moved HB2.out); have HFK := Aside0.mk (k25_mkF w2 (fun k => wr.heap.size ≤ k) u m3 F3 m4 F4); have HOK := Aside0.mk (show ∀ k, wr.heap.size ≤ k → (w.heap.size + 2 ≤ k ∧ some k ≠ (Value.slice none 0 0).ownBlock) ∧ some k ≠ v4.ownBlock from fun k hk => ⟨⟨Nat.le_trans HB.out.size hk, fun e => by have := Kd.N_lt HB.out.n3 k e.symm; omega⟩, fun e => by have := Kd.N_lt HB.out.n4 k e.symm; omega⟩); have HFR := Aside0.mk (show ∀ k, w2.heap.size ≤ k → w.heap.size + 2 ≤ k ∧ some k ≠ (Value.slice none 0 0).ownBlock from fun k hk => ⟨Nat.le_trans HM2.out.size hk, fun e => by have := Kd.N_lt HM2.out.n3 k e.symm; omega⟩); have x42 : w2.cell? ⟨w.heap.size + 1, 4, none⟩ = some v4 := HM2.out.cells.2.2.2.2; have x43 : (w2.alloc (.cells #[.int .i64 u.f0, .string u.f1, .string u.f2, .slice A3 u.f3.length c3, .slice A4 u.f4.length c4] 25)).cell? ⟨w.heap.size + 1, 4, none⟩ = some v4 := (HM2.out.moved (below_alloc (Below.refl _ _) _)).cells.2.2.2.2; clear m3 F3 m4 F4 hb2))
              all_goals (simp only [Exit.inBlock, Exit.then]; go_wp2_with fail; go_roundg (ks.length - (j + 1)))
              all_goals first
                | exact ⟨j + 1, _, rfl, hlt, rfl, HT3⟩
                | omega
                | trace_state
            · have hje : j = ks.length := by omega
              subst hje
              rw [List.getElem?_eq_none (Nat.le_refl _)]
              simp only [Option.map_none, ptr_none]
              have hB := HB.out
              rw [List.take_of_length_le (by rw [List.length_map]; exact Nat.le_refl _), ← RT.toTL_map] at hB
              have e3 : True := trivial
              obtain ⟨n4, A4, c4, e4⟩ : ∃ n A c, v4 = .slice A n c := by obtain ⟨A, c, h⟩ := Kd.N_slice hB.n4; exact ⟨_, A, c, h⟩
              subst e4
              clear e3
              obtain ⟨a0, a1, a2, a3, a4, hr⟩ := hB.res
              obtain ⟨b0, b1, b2, b3, b4⟩ := hB.cells
              have r0 := blk_cell hr 0
              have r1 := blk_cell hr 1
              have r2 := blk_cell hr 2
              have r3 := blk_cell hr 3
              have r4 := blk_cell hr 4
              have f0 := blk_frozen hr 0
              have f1 := blk_frozen hr 1
              have f2 := blk_frozen hr 2
              have f3 := blk_frozen hr 3
              have f4 := blk_frozen hr 4
              have HBB := Aside0.mk hB
              clear hB hr HB
              go_wp2_with fail
              refine bodyPost_ret (v := .agg #[.int .i64 3, .string ⟨#[]⟩, .string ⟨#[]⟩, .slice none 0 0, .slice A4 n4 c4]) (by simp [results, Try.results66, go_sem, r0, r1, r2, r3, r4]) rfl ?_
              obtain ⟨het, hk4, q0, q1, q2, q3⟩ := HT.out
              have hte := told_end (t := t) (by rw [q0, q1, q2, q3, hk4]; exact HBB.out) (fun k hk _ => sets5 wr w.heap.size (.int .i64 3) (.string ⟨#[]⟩) (.string ⟨#[]⟩) (.slice none 0 0) (.slice A4 n4 c4) k (by omega)) (below_sets5 HBB.out.below (.int .i64 3) (.string ⟨#[]⟩) (.string ⟨#[]⟩) (.slice none 0 0) (.slice A4 n4 c4))
              rw [q0, q1, q2] at hte
              exact hte
end Go.Proofs.Ytmfjbljdbkmkgaa.Dom

/- Trees of nodes whose children change at one place: what a table holds of them. Plain facts. -/
namespace Go.Proofs.Ytmfjbljdbkmkgaa.Dom
open Go.RowKit Go.Proofs.YtmfjbljdbkmkgaaW.PrintWords Go.Proofs.YtmfjbljdbkmkgaaW.PrintLast Go.Proofs.YtmfjbljdbkmkgaaW.PrintMore Go.Proofs.Ytmfjbljdbkmkgaa.PDom
set_option linter.unusedVariables false
set_option linter.unusedSimpArgs false

theorem Is.congr {D D' : Tab} (r : RT) : ∀ {p : Option Nat}, Is D p r → (∀ b ∈ r.pre, D' b = D b) → Is D' p r := by
  induction r using RT.induct with
  | h i t a d at_ ks ih =>
    intro p h he
    have hroot : D i = some _ := h.root
    refine Is.mk p i t a d at_ ks ((he i (by simp [RT.pre])).trans hroot) (fun k hk => ih k hk (h.kid hk) (fun b hb => he b ?_))
    show b ∈ i :: RT.preL ks
    exact List.mem_cons_of_mem _ (RT.mem_preL.2 ⟨k, hk, hb⟩)
/-- A tree whose root has another parent. -/
theorem Is.reroot {D D' : Tab} {r : RT} {p q : Option Nat} (h : Is D p r) (hr : D' r.id = some (r.info q)) (he : ∀ b ∈ RT.preL r.kids, D' b = D b) : Is D' q r := by
  cases r with
  | node i t a d at_ ks =>
    refine Is.mk q i t a d at_ ks hr (fun k hk => (h.kid (r := .node i t a d at_ ks) hk).congr k (fun b hb => he b (RT.mem_preL.2 ⟨k, hk, hb⟩)))
/-- The children of the node at a place, changed. -/
def RT.mapAt (f : List RT → List RT) : RT → List Int → RT
  | .node i t a d at_ ks, [] => .node i t a d at_ (f ks)
  | .node i t a d at_ ks, j :: l => .node i t a d at_ (match ks[j.toNat]? with | some k => ks.set j.toNat (RT.mapAt f k l) | none => ks)
theorem RT.mapAt_id (f : List RT → List RT) (r : RT) (l : List Int) : (r.mapAt f l).id = r.id := by
  cases r
  cases l <;> simp [RT.mapAt, RT.id]
theorem RT.mapAt_cons (f : List RT → List RT) (i : Nat) (t a : Int) (d : ByteArray) (at_ : List (ByteArray × ByteArray)) (ks : List RT) (j : Int) (l : List Int) {k : RT} (hk : ks[j.toNat]? = some k) :
    RT.mapAt f (.node i t a d at_ ks) (j :: l) = .node i t a d at_ (ks.set j.toNat (k.mapAt f l)) := by
  simp only [RT.mapAt, hk]
theorem RT.sub_pre (l : List Int) : ∀ (r y : RT), r.at_ l = some y → ∀ b ∈ y.pre, b ∈ r.pre := by
  induction l with
  | nil =>
    intro r y h b hb
    have : r = y := by simpa [RT.at_] using h
    rw [this]; exact hb
  | cons j l ih =>
    intro r y h b hb
    simp only [RT.at_] at h
    split at h
    · obtain ⟨k, hk, h2⟩ := Option.bind_eq_some_iff.1 h
      have hkm : k ∈ r.kids := List.mem_of_getElem? hk
      have := ih k y h2 b hb
      cases r with
      | node i t a d at_ ks =>
        show b ∈ i :: RT.preL ks
        exact List.mem_cons_of_mem _ (RT.mem_preL.2 ⟨k, hkm, this⟩)
    · cases h
theorem map_set {α β : Type} (f : α → β) (l : List α) (j : Nat) (x : α) {y : α} (hy : l[j]? = some y) (h : f x = f y) : (l.set j x).map f = l.map f := by
  rw [List.map_set, h]
  apply List.ext_getElem?
  intro m
  by_cases hm : m = j
  · subst hm
    have hlt := (List.getElem?_eq_some_iff.1 hy).1
    rw [List.getElem?_set_self (by rw [List.length_map]; exact hlt), List.getElem?_map, hy]
    rfl
  · rw [List.getElem?_set_ne (fun e => hm e.symm)]
theorem nodup_kid {i : Nat} {ks : List RT} {k k' : RT} {j : Nat} (h : (i :: RT.preL ks).Nodup) (hk : ks[j]? = some k) : i ∉ k.pre ∧ k.pre.Nodup ∧ ∀ m, m ≠ j → ks[m]? = some k' → ∀ b ∈ k'.pre, b ∉ k.pre := by
  obtain ⟨h1, h2⟩ := List.nodup_cons.1 h
  have hlt := (List.getElem?_eq_some_iff.1 hk).1
  have hs : ks = ks.take j ++ k :: ks.drop (j + 1) := by
    have := (List.getElem?_eq_some_iff.1 hk).2
    rw [← this]
    exact (List.take_append_drop j ks).symm.trans (by rw [List.drop_eq_getElem_cons hlt])
  have hp : RT.preL ks = RT.preL (ks.take j) ++ (k.pre ++ RT.preL (ks.drop (j + 1))) := by
    conv => lhs; rw [hs]
    rw [RT.preL_append]
    rfl
  rw [hp] at h1 h2
  rw [List.nodup_append] at h2
  obtain ⟨n1, n2, n3⟩ := h2
  rw [List.nodup_append] at n2
  obtain ⟨m1, m2, m3⟩ := n2
  refine ⟨fun hb => h1 (by simp [hb]), m1, fun m hm hk' b hb hbk => ?_⟩
  rcases Nat.lt_or_gt_of_ne hm with hlt2 | hgt
  · refine n3 b (RT.mem_preL.2 ⟨k', ?_, hb⟩) b (by simp [hbk]) rfl
    refine List.mem_of_getElem? (i := m) ?_
    rw [List.getElem?_take, if_pos hlt2, hk']
  · refine m3 b hbk b (RT.mem_preL.2 ⟨k', ?_, hb⟩) rfl
    refine List.mem_of_getElem? (i := m - (j + 1)) ?_
    rw [List.getElem?_drop, show j + 1 + (m - (j + 1)) = m by omega, hk']
theorem Is.mapAt {D D' : Tab} (f : List RT → List RT) (l : List Int) : ∀ (r up : RT) {p : Option Nat}, Is D p r → r.at_ l = some up → r.pre.Nodup → (∃ q, D' up.id = some { up.info q with kids := (f up.kids).map RT.id } ∧ Is D q up) → (∀ k ∈ f up.kids, Is D' (some up.id) k) →
    (∀ b ∈ r.pre, b ≠ up.id → b ∉ RT.preL up.kids → D' b = D b) → Is D' p (r.mapAt f l) := by
  induction l with
  | nil =>
    intro r up p h hu hnd hD hK hO
    obtain rfl : r = up := by simpa [RT.at_] using hu
    obtain ⟨q, hD, hq⟩ := hD
    have hpq : q = p := by
      have h1 := h.root
      have h2 := hq.root
      rw [h1] at h2
      have := congrArg Info.parent (Option.some.inj h2)
      cases r
      exact this.symm
    subst hpq
    cases r with
    | node i t a d at_ ks =>
      simp only [RT.mapAt]
      exact Is.mk q i t a d at_ (f ks) hD hK
  | cons j l ih =>
    intro r up p h hu hnd hD hK hO
    cases r with
    | node i t a d at_ ks =>
      simp only [RT.at_] at hu
      split at hu
      case isFalse => cases hu
      obtain ⟨k, hk, hu⟩ := Option.bind_eq_some_iff.1 hu
      have hk' : ks[j.toNat]? = some k := hk
      rw [RT.mapAt_cons f i t a d at_ ks j l hk']
      have hkm : k ∈ ks := List.mem_of_getElem? hk'
      have hnd' : (i :: RT.preL ks).Nodup := hnd
      obtain ⟨d1, d2, _⟩ := nodup_kid (k' := k) hnd' hk'
      have hsub := RT.sub_pre l k up hu
      have upk : up.id ∈ k.pre := hsub _ (RT.id_mem up)
      have kidsk : ∀ b ∈ RT.preL up.kids, b ∈ k.pre := fun b hb => hsub b (by cases up; exact List.mem_cons_of_mem _ hb)
      have hroot : D i = some _ := h.root
      refine Is.mk p i t a d at_ _ ?_ ?_
      · rw [hO i (by simp [RT.pre]) (fun e => d1 (by rw [e]; exact upk)) (fun hb => d1 (kidsk _ hb)), hroot, map_set RT.id ks _ _ hk' (RT.mapAt_id f k l)]
        rfl
      · intro x hx
        obtain ⟨m, hm, rfl⟩ := List.getElem_of_mem hx
        by_cases hmj : m = j.toNat
        · subst hmj
          rw [List.getElem_set_self]
          refine ih k up (h.kid hkm) hu d2 hD hK (fun b hb h1 h2 => hO b ?_ h1 h2)
          show b ∈ i :: RT.preL ks
          exact List.mem_cons_of_mem _ (RT.mem_preL.2 ⟨k, hkm, hb⟩)
        · rw [List.getElem_set_ne (fun e => hmj e.symm)]
          have hml : m < ks.length := by simpa using hm
          have hks : ks[m]? = some ks[m] := List.getElem?_eq_getElem hml
          obtain ⟨_, _, d3⟩ := nodup_kid (k' := ks[m]) hnd' hk'
          have hd := d3 m hmj hks
          refine (h.kid (r := .node i t a d at_ ks) (List.getElem_mem hml)).congr _ (fun b hb => hO b ?_ ?_ ?_)
          · show b ∈ i :: RT.preL ks
            exact List.mem_cons_of_mem _ (RT.mem_preL.2 ⟨_, List.getElem_mem hml, hb⟩)
          · exact fun e => hd b hb (by rw [e]; exact upk)
          · exact fun h2 => hd b hb (kidsk b h2)
/-- A node that may have children. -/
def Opens (r : RT) : Prop := r.ty ≠ 1 ∧ r.ty ≠ 4
end Go.Proofs.Ytmfjbljdbkmkgaa.Dom

/- A subtree taken out of a tree, and a tree put in. Plain facts on tables. -/
namespace Go.Proofs.Ytmfjbljdbkmkgaa.Dom
open Go.RowKit Go.Proofs.YtmfjbljdbkmkgaaW.PrintWords Go.Proofs.YtmfjbljdbkmkgaaW.PrintLast Go.Proofs.YtmfjbljdbkmkgaaW.PrintMore Go.Proofs.Ytmfjbljdbkmkgaa.PDom
set_option linter.unusedVariables false
set_option linter.unusedSimpArgs false

theorem Is.up {D : Tab} {r up : RT} {p : Option Nat} {l : List Int} (h : Is D p r) (hu : r.at_ l = some up) : ∃ q, Is D q up := by
  induction l generalizing r p with
  | nil =>
    have : r = up := by simpa [RT.at_] using hu
    exact ⟨p, this ▸ h⟩
  | cons j l ih =>
    simp only [RT.at_] at hu
    split at hu
    · obtain ⟨k, hk, h2⟩ := Option.bind_eq_some_iff.1 hu
      exact ih (h.kid (List.mem_of_getElem? hk)) h2
    · cases hu
theorem info_k (p : Option Nat) (r : RT) : (r.info p).kids = r.kids.map RT.id := by cases r; rfl
theorem info_p (p : Option Nat) (r : RT) : (r.info p).parent = p := by cases r; rfl
theorem info_set (p q : Option Nat) (r : RT) : { r.info p with parent := q } = r.info q := by cases r; rfl
def RT.withKids : RT → List RT → RT
  | .node i t a d at_ _, ks => .node i t a d at_ ks
theorem withKids_kids (r : RT) (ks : List RT) : (r.withKids ks).kids = ks := by cases r; rfl
/-- What a node's children have for themselves. -/
theorem kids_apart {D : Tab} (wf : WF D) {up x : RT} {q : Option Nat} (hu : Is D q up) {k1 k2 : List RT} (hk : up.kids = k1 ++ x :: k2) :
    (∀ k ∈ k1 ++ k2, ∀ b ∈ k.pre, b ≠ up.id ∧ b ≠ x.id) ∧ (∀ b ∈ RT.preL x.kids, b ≠ up.id ∧ b ≠ x.id) ∧ x.id ≠ up.id ∧ x.id ∈ RT.preL up.kids := by
  have hnd := Is.nodup wf up hu
  cases up with
  | node i t a d at_ ks =>
    obtain rfl : ks = k1 ++ x :: k2 := hk
    obtain ⟨n1, n2⟩ := List.nodup_cons.1 (show (i :: RT.preL (k1 ++ x :: k2)).Nodup from hnd)
    have hp : RT.preL (k1 ++ x :: k2) = RT.preL k1 ++ (x.pre ++ RT.preL k2) := by rw [RT.preL_append]; rfl
    rw [hp] at n1 n2
    obtain ⟨m1, m2, m3⟩ := List.nodup_append.1 n2
    obtain ⟨o1, o2, o3⟩ := List.nodup_append.1 m2
    have hxm := RT.id_mem x
    refine ⟨fun k hkm b hb => ⟨fun e => n1 (by rw [← show b = i from e]; rcases List.mem_append.1 hkm with h | h; exact List.mem_append_left _ (RT.mem_preL.2 ⟨k, h, hb⟩); exact List.mem_append_right _ (List.mem_append_right _ (RT.mem_preL.2 ⟨k, h, hb⟩))), fun e => ?_⟩, fun b hb => ⟨fun e => n1 (by rw [← show b = i from e]; exact List.mem_append_right _ (List.mem_append_left _ (by cases x; exact List.mem_cons_of_mem _ hb))), fun e => ?_⟩, fun e => n1 (by rw [← show x.id = i from e]; exact List.mem_append_right _ (List.mem_append_left _ hxm)), ?_⟩
    · rcases List.mem_append.1 hkm with h | h
      · exact m3 b (RT.mem_preL.2 ⟨k, h, hb⟩) x.id (List.mem_append_left _ hxm) e
      · exact o3 x.id hxm b (RT.mem_preL.2 ⟨k, h, hb⟩) e.symm
    · cases x with
      | node i2 t2 a2 d2 at2 ks2 =>
        obtain ⟨p1, _⟩ := List.nodup_cons.1 (show (i2 :: RT.preL ks2).Nodup from o1)
        exact p1 (by rw [← show b = i2 from e]; exact hb)
    · show x.id ∈ RT.preL (k1 ++ x :: k2)
      rw [hp]
      exact List.mem_append_right _ (List.mem_append_left _ hxm)
theorem rt_remove {D : Tab} (wf : WF D) {r up x : RT} {l : List Int} (hr : Is D none r) (hu : r.at_ l = some up) {k1 k2 : List RT} (hk : up.kids = k1 ++ x :: k2) {q : Option Nat} (hq : Is D q up) :
    Is (relink D up.id x.id (up.info q) (x.info (some up.id)) (k1.map RT.id ++ k2.map RT.id) none) none (r.mapAt (fun _ => k1 ++ k2) l) ∧ Is (relink D up.id x.id (up.info q) (x.info (some up.id)) (k1.map RT.id ++ k2.map RT.id) none) none x := by
  obtain ⟨a1, a2, a3, a4⟩ := kids_apart wf hq hk
  have hxm : x ∈ up.kids := by rw [hk]; simp
  have hx := hq.kid hxm
  have hne : up.id ≠ x.id := fun e => a3 e.symm
  refine ⟨hr.mapAt (fun _ => k1 ++ k2) l r up hu (Is.nodup wf r hr) ⟨q, ?_, hq⟩ (fun k hkm => ?_) (fun b hb h1 h2 => relink_o h1 (fun e => h2 (e ▸ a4))), ?_⟩
  · rw [relink_n hne, List.map_append]
  · refine (hq.kid (k := k) (by rw [hk]; rcases List.mem_append.1 hkm with h | h <;> simp [h])).congr k (fun b hb => ?_)
    exact relink_o (a1 k hkm b hb).1 (a1 k hkm b hb).2
  · refine hx.reroot ?_ (fun b hb => relink_o (a2 b hb).1 (a2 b hb).2)
    rw [relink_c, info_set]
end Go.Proofs.Ytmfjbljdbkmkgaa.Dom

/- dom.ReplaceNode: its contract over a tree. -/
namespace Go.Proofs.Ytmfjbljdbkmkgaa.Dom
open Go.RowKit Go.Proofs.YtmfjbljdbkmkgaaW.PrintWords Go.Proofs.YtmfjbljdbkmkgaaW.PrintLast Go.Proofs.YtmfjbljdbkmkgaaW.PrintMore Go.Proofs.Ytmfjbljdbkmkgaa.PDom
set_option linter.unusedVariables false
set_option linter.unusedSimpArgs false

theorem Is.selfless {D : Tab} (wf : WF D) {q : Option Nat} {up : RT} (h : Is D q up) : q ≠ some up.id := fun e => by
  subst e
  obtain ⟨ip, h1, h2⟩ := wf.up h.root (info_p _ _)
  rw [h.root] at h1
  obtain rfl := Option.some.inj h1
  rw [info_k] at h2
  obtain ⟨k, hk, hkid⟩ := List.mem_map.1 h2
  exact h.proper hk (RT.id_mem k) hkid
theorem Is.parent_eq {D : Tab} {p q : Option Nat} {r y : RT} (h : Is D p r) (h' : Is D q y) (e : r.id = y.id) : p = q := by
  have h1 := h.root
  have h2 := h'.root
  rw [e, h2] at h1
  have := congrArg Info.parent (Option.some.inj h1)
  rw [info_p, info_p] at this
  exact this.symm
/-- What a change of a tree leaves. -/
def Left (w w' : World) (D : Tab) (r' : RT) (e : Ending) : Prop := e = .returned (.tuple #[]) ∧ ∃ D', Dom w' D' ∧ Is D' none r' ∧ Only D w w' ∧ (∀ k, D k = none ↔ D' k = none)
/-- Which blocks a change leaves in the table: the same. -/
theorem relink_same {D : Tab} {n c : Nat} {i ic : Info} {K : List Nat} {pc : Option Nat} (hn : D n ≠ none) (hc : D c ≠ none) (k : Nat) : relink D n c i ic K pc k = none ↔ D k = none := by
  unfold relink put
  by_cases h1 : k = c
  · subst h1; simp [hc]
  · by_cases h2 : k = n
    · subst h2; simp [h1, hn]
    · simp [h1, h2]
theorem Only.trans' {D D' : Tab} {w w' w'' : World} (h : Only D w w') (h' : Only D' w' w'') (hD : ∀ k, D k = none ↔ D' k = none) : Only D w w'' := h.trans h' (fun k hk _ => (hD k).1 hk)
theorem Dom.up_cell {w : World} {D : Tab} (h : Dom w D) {b u : Nat} {i : Info} (hb : D b = some i) (hp : i.parent = some u) : w.cell? ⟨b, 0, none⟩ = some (.pointer (some ⟨u, 0, none⟩)) := by
  obtain ⟨v, hv, _⟩ := h.has hb
  rw [hv.cells10.1]
  show some (ptr i.parent) = _
  rw [hp]
  rfl
end Go.Proofs.Ytmfjbljdbkmkgaa.Dom

/- The steps of a tree surgery, one by one, over trees: InsertBefore, RemoveChild, AppendChild. -/
namespace Go.Proofs.Ytmfjbljdbkmkgaa.Dom
open Go.RowKit Go.Proofs.YtmfjbljdbkmkgaaW.PrintWords Go.Proofs.YtmfjbljdbkmkgaaW.PrintLast Go.Proofs.YtmfjbljdbkmkgaaW.PrintMore Go.Proofs.Ytmfjbljdbkmkgaa.PDom
set_option linter.unusedVariables false
set_option linter.unusedSimpArgs false

theorem Is.below_root {D : Tab} (r : RT) : ∀ {p : Option Nat}, Is D p r → ∀ b ∈ RT.preL r.kids, ∃ q i, D b = some i ∧ i.parent = some q := by
  induction r using RT.induct with
  | h i t a d at_ ks ih =>
    intro p h b hb
    obtain ⟨k, hk, hbk⟩ := RT.mem_preL.1 hb
    have hkd := h.kid (show k ∈ (RT.node i t a d at_ ks).kids from hk)
    by_cases e : b = k.id
    · subst e
      exact ⟨_, _, hkd.root, info_p _ _⟩
    · refine ih k hk hkd b ?_
      cases k with
      | node i2 t2 a2 d2 at2 ks2 =>
        simp only [RT.pre, List.mem_cons] at hbk
        rcases hbk with hbk | hbk
        · exact absurd hbk e
        · exact hbk
/-- A root that is not this tree's own stands outside of it. -/
theorem Is.outside {D : Tab} {p : Option Nat} {r x : RT} (h : Is D p r) (hx : Is D none x) (hne : x.id ≠ r.id) : x.id ∉ r.pre := fun hm => by
  have hb : x.id ∈ RT.preL r.kids := by
    cases r with
    | node i t a d at_ ks =>
      simp only [RT.pre, List.mem_cons] at hm
      exact hm.resolve_left hne
  obtain ⟨q, i, h1, h2⟩ := h.below_root r _ hb
  rw [hx.root] at h1
  obtain rfl := Option.some.inj h1
  rw [info_p] at h2
  cases h2
theorem remove_step {w : World} {D : Tab} (hdom : Dom w D) {r x up : RT} {l : List Int} {k1 k2 : List RT} (hr : Is D none r) (hu : r.at_ l = some up) (hk : up.kids = k1 ++ x :: k2) :
    ∃ D1, (Calls Try.prog 98 #[ptr (some up.id), ptr (some x.id)] w fun e w1 => e = .returned (.tuple #[]) ∧ Dom w1 D1 ∧ Only D w w1) ∧
      Is D1 none (r.mapAt (fun _ => k1 ++ k2) l) ∧ Is D1 none x ∧ x.id ∉ (r.mapAt (fun _ => k1 ++ k2) l).pre ∧ (∀ k, D k = none ↔ D1 k = none) := by
  obtain ⟨q, hq⟩ := hr.up hu
  have hself := hq.selfless hdom.wf
  have hxm : x ∈ up.kids := by rw [hk]; simp
  have hx := hq.kid hxm
  obtain ⟨h1, h2⟩ := rt_remove hdom.wf hr hu hk hq
  refine ⟨_, remove_calls w D up.id x.id (up.info q) (x.info (some up.id)) (k1.map RT.id) (k2.map RT.id) hdom hq.root hx.root (by rw [info_k, hk, List.map_append]; rfl) (by rw [info_p]; exact hself), h1, h2, h1.outside h2 ?_, fun k => (relink_same (by rw [hq.root]; simp) (by rw [hx.root]; simp) k).symm⟩
  rw [RT.mapAt_id]
  intro e
  have := Is.parent_eq hx hr e
  cases this
end Go.Proofs.Ytmfjbljdbkmkgaa.Dom

/- dom.WrapNode: its contract over a tree. -/
namespace Go.Proofs.Ytmfjbljdbkmkgaa.Dom
open Go.RowKit Go.Proofs.YtmfjbljdbkmkgaaW.PrintWords Go.Proofs.YtmfjbljdbkmkgaaW.PrintLast Go.Proofs.YtmfjbljdbkmkgaaW.PrintMore Go.Proofs.Ytmfjbljdbkmkgaa.PDom
set_option linter.unusedVariables false
set_option linter.unusedSimpArgs false

theorem kid_cell {w : World} {D : Tab} (hdom : Dom w D) {r up x : RT} {l : List Int} (hr : Is D none r) (hu : r.at_ l = some up) (hx : x ∈ up.kids) : w.cell? ⟨x.id, 0, none⟩ = some (.pointer (some ⟨up.id, 0, none⟩)) := by
  obtain ⟨q, hq⟩ := hr.up hu
  exact hdom.up_cell (hq.kid hx).root (info_p _ _)
end Go.Proofs.Ytmfjbljdbkmkgaa.Dom

/- The guards of the laws on trees always tell something: zzFits2, name29, size29 right29, tree29. Plain facts. -/
namespace Go.Proofs.Ytmfjbljdbkmkgaa.PDom
open Go.RowKit Go.Proofs.YtmfjbljdbkmkgaaW.PrintWords Go.Proofs.YtmfjbljdbkmkgaaW.PrintLast Go.Proofs.YtmfjbljdbkmkgaaW.PrintMore Go.Proofs.Ytmfjbljdbkmkgaa.Dom
set_option linter.unusedVariables false
set_option linter.unusedSimpArgs false

theorem up {α : Type} {g : Nat → Option α} (hm : ∀ k, LeO (g k) (g (k + 1))) {k m : Nat} (h : k ≤ m) {r : α} (hk : g k = some r) : g m = some r := by
  induction h with
  | refl => exact hk
  | step _ ih => exact hm _ _ ih

theorem succ_wrap (j : Nat) (h : j ≤ 4611686018427387904) : wrap64 ((j : Int) + 1) = ((j + 1 : Nat) : Int) := by
  rw [wrap_same (by omega) (by omega)]
  omega

theorem fits3_loop (l : List S53) (hl : l.length ≤ 4611686018427387904) : ∀ (n j k : Nat), j + n = l.length → n < k → ∃ b, laws_zzFits3.l0 k l (l.length : Int) (j : Int) = some b
  | 0, j, k + 1, h, hk => by
    rw [laws_zzFits3.l0, if_neg (by omega)]
    exact ⟨_, rfl⟩
  | n + 1, j, k + 1, h, hk => by
    obtain ⟨b, hb⟩ := fits3_loop l hl n (j + 1) k (by omega) (by omega)
    rw [laws_zzFits3.l0, if_pos (by omega), if_pos (by omega), if_pos (by omega), succ_wrap j (by omega), hb]
    obtain ⟨c, hc⟩ : ∃ c, laws_zzFits4.f (rd_T53 l (j : Int)).f0 (rd_T53 l (j : Int)).f1 = some c := by
      unfold laws_zzFits4.f
      repeat' split
      all_goals exact ⟨_, rfl⟩
    rw [hc, Option.bind_some]
    split
    · exact ⟨_, rfl⟩
    · exact ⟨_, rfl⟩
  | n, j, 0, h, hk => absurd hk (Nat.not_lt_zero _)
theorem fits2_tot (f0 : Int) (f1 f2 : ByteArray) (f3 : List S53) (f4 : List S25) (hl : f3.length ≤ 4611686018427387904) (k : Nat) (hk : f3.length < k) : ∃ b, laws_zzFits2.f k f0 f1 f2 f3 f4 = some b := by
  obtain ⟨c, hc⟩ : ∃ c, laws_zzFits3.f k f3 = some c := by
    unfold laws_zzFits3.f
    split
    · exact ⟨_, rfl⟩
    · exact fits3_loop f3 hl f3.length 0 k (by omega) hk
  unfold laws_zzFits2.f
  rw [hc]
  simp only [Option.bind_some]
  repeat' split
  all_goals exact ⟨_, rfl⟩

inductive FitS : T → Prop
  | mk (t : T) (hn : t.f1.size ≤ 140737488351232) (ha : t.f3.length ≤ 4398046510976) (hk : t.f4.length ≤ 4398046510976) (h : ∀ y ∈ t.f4, FitS y) : FitS t
theorem FitS.fit {t : T} (h : FitS t) : Fit t := by
  induction h with
  | mk t hn ha hk h ih => exact Fit.mk t ha hk ih

end Go.Proofs.Ytmfjbljdbkmkgaa.PDom

/- What the laws' guards on a tree tell: it is in normal form, of 300 nodes at most, as deep as that. Plain facts. -/
namespace Go.Proofs.Ytmfjbljdbkmkgaa.PDom
open Go.RowKit Go.Proofs.YtmfjbljdbkmkgaaW.PrintWords Go.Proofs.YtmfjbljdbkmkgaaW.PrintLast Go.Proofs.YtmfjbljdbkmkgaaW.PrintMore Go.Proofs.Ytmfjbljdbkmkgaa.Dom
set_option linter.unusedVariables false
set_option linter.unusedSimpArgs false

theorem empty_of {a : ByteArray} (h : a.toList = ([] : List UInt8)) : a = ⟨#[]⟩ := by
  have h1 : a.toList = a.data.toList := ByteArray.toList_eq a
  rw [h1] at h
  cases a with
  | mk d =>
    have : d = #[] := by
      apply Array.ext'
      simpa using h
    rw [this]
theorem rd_at (l : List S25) {j : Nat} (h : j < l.length) : rd_T25 l (j : Int) = l[j] := by simp [rd_T25, List.getD_eq_getElem?_getD, List.getElem?_eq_getElem h]
def NodeOk (root : Bool) (t : T) : Prop :=
  ((t.f0 = 1 ∨ t.f0 = 2) ∧ t.f1 = ⟨#[]⟩ ∧ t.f3 = [] ∧ t.f4 = []) ∨ (t.f0 = 3 ∧ root = true ∧ t.f1 = ⟨#[]⟩ ∧ t.f2 = ⟨#[]⟩ ∧ t.f3 = []) ∨ (t.f0 = 0 ∧ t.f2 = ⟨#[]⟩)
inductive Norm : Bool → T → Prop
  | mk (root : Bool) (t : T) (h : NodeOk root t) (hk : ∀ y ∈ t.f4, Norm false y) : Norm root t
/-! ### How many nodes -/
mutual
def countT : T → Nat
  | ⟨_, _, _, _, ks⟩ => 1 + countTL ks
def countTL : List T → Nat
  | [] => 0
  | k :: ks => countT k + countTL ks
end
theorem countT_eq (t : T) : countT t = 1 + countTL t.f4 := by cases t; rfl
end Go.Proofs.Ytmfjbljdbkmkgaa.PDom

/- impl.AllNodes of a tree in normal form: the places of its nodes, in order. -/
namespace Go.Proofs.Ytmfjbljdbkmkgaa.PDom
open Go.RowKit Go.Proofs.YtmfjbljdbkmkgaaW.PrintWords Go.Proofs.YtmfjbljdbkmkgaaW.PrintLast Go.Proofs.YtmfjbljdbkmkgaaW.PrintMore Go.Proofs.Ytmfjbljdbkmkgaa.Dom
set_option linter.unusedVariables false
set_option linter.unusedSimpArgs false

mutual
/-- The places of a tree's nodes, each ahead of those in it. -/
def pathsT (p : List Int) : T → List (List Int)
  | ⟨_, _, _, _, ks⟩ => p :: pathsTL p 0 ks
def pathsTL (p : List Int) (j : Nat) : List T → List (List Int)
  | [] => []
  | k :: ks => pathsT (p ++ [(j : Int)]) k ++ pathsTL p (j + 1) ks
end
theorem pathsT_eq (p : List Int) (t : T) : pathsT p t = p :: pathsTL p 0 t.f4 := by cases t; rfl
theorem kids_norm {root : Bool} {t : T} (h : Norm root t) : kidsT t = t.f4 := by
  obtain ⟨_, _, h1, _⟩ := h
  unfold kidsT
  by_cases hf : flat t
  · rw [if_pos hf]
    rcases h1 with ⟨_, _, _, h4⟩ | ⟨h3, _⟩ | ⟨h0, _⟩
    · exact h4.symm
    · unfold flat at hf; omega
    · unfold flat at hf; omega
  · rw [if_neg hf]
theorem Norm.kid {root : Bool} {t y : T} (h : Norm root t) (hy : y ∈ t.f4) : Norm false y := by
  obtain ⟨_, _, _, hk⟩ := h
  exact hk y hy
theorem told_open {t : T} {i : Nat} {ty a : Int} {d : ByteArray} {at_ : List (ByteArray × ByteArray)} {ks : List RT} (h : TellsT t (.node i ty a d at_ ks)) {root : Bool} (hn : Norm root t) :
    t.f4.length = ks.length ∧ ∀ j (h1 : j < t.f4.length) (h2 : j < ks.length), TellsT t.f4[j] ks[j] := by
  cases h with
  | mk _ _ _ _ ha hl hk =>
    have e := kids_norm hn
    simp only [e] at hl hk
    exact ⟨hl, hk⟩
theorem told_paths (r : RT) : ∀ (t : T) (root : Bool), Norm root t → TellsT t r → (∀ p, r.paths p = pathsT p t) ∧ r.pre.length = countT t := by
  induction r using RT.induct with
  | h i ty a d at_ ks ih =>
    intro t root hn ht
    obtain ⟨hl, hk⟩ := told_open ht hn
    have key : ∀ (n j : Nat), ks.length = j + n → (∀ p, RT.pathsL p j (ks.drop j) = pathsTL p j (t.f4.drop j)) ∧ (RT.preL (ks.drop j)).length = countTL (t.f4.drop j) := by
      intro n
      induction n with
      | zero =>
        intro j hj
        rw [List.drop_eq_nil_of_le (by omega), List.drop_eq_nil_of_le (by omega)]
        exact ⟨fun _ => rfl, rfl⟩
      | succ n ihn =>
        intro j hj
        have h1 : j < ks.length := by omega
        have h2 : j < t.f4.length := by omega
        obtain ⟨e1, e2⟩ := ihn (j + 1) (by omega)
        obtain ⟨e3, e4⟩ := ih ks[j] (List.getElem_mem h1) t.f4[j] false (hn.kid (List.getElem_mem h2)) (hk j h2 h1)
        rw [List.drop_eq_getElem_cons h1, List.drop_eq_getElem_cons h2]
        refine ⟨fun p => ?_, ?_⟩
        · simp only [RT.pathsL, pathsTL]
          rw [e1, e3]
        · simp only [RT.preL, countTL, List.length_append]
          rw [e2, e4]
    obtain ⟨e1, e2⟩ := key ks.length 0 (by omega)
    simp only [List.drop_zero] at e1 e2
    refine ⟨fun p => ?_, ?_⟩
    · rw [pathsT_eq]
      simp only [RT.paths]
      rw [e1]
    · rw [countT_eq]
      simp only [RT.pre, List.length_cons]
      omega
end Go.Proofs.Ytmfjbljdbkmkgaa.PDom

/- Places in a tree as plain data and among its nodes; first children and siblings at places. Plain facts. -/
namespace Go.Proofs.Ytmfjbljdbkmkgaa.PDom
open Go.RowKit Go.Proofs.YtmfjbljdbkmkgaaW.PrintWords Go.Proofs.YtmfjbljdbkmkgaaW.PrintLast Go.Proofs.YtmfjbljdbkmkgaaW.PrintMore Go.Proofs.Ytmfjbljdbkmkgaa.Dom
set_option linter.unusedVariables false
set_option linter.unusedSimpArgs false

theorem at_append (r : RT) (l m : List Int) : r.at_ (l ++ m) = (r.at_ l).bind fun y => y.at_ m := by
  induction l generalizing r with
  | nil => rfl
  | cons k l ih =>
    simp only [List.cons_append, RT.at_]
    by_cases h : 0 ≤ k
    · rw [if_pos h, if_pos h]
      cases r.kids[k.toNat]? with
      | none => rfl
      | some y => simp only [Option.bind_some]; exact ih y
    · rw [if_neg h, if_neg h]; rfl
theorem at_is {D : Tab} (l : List Int) : ∀ (r y : RT) (p : Option Nat), Is D p r → r.at_ l = some y → ∃ q, Is D q y := by
  induction l with
  | nil =>
    intro r y p h e
    obtain rfl := Option.some.inj e
    exact ⟨p, h⟩
  | cons k l ih =>
    intro r y p h e
    simp only [RT.at_] at e
    split at e
    · obtain ⟨z, hz, e2⟩ := Option.bind_eq_some_iff.1 e
      exact ih z y _ (h.kid (List.mem_of_getElem? hz)) e2
    · cases e
/-! ### Which one is found -/
/-- A tree and its node, at the same place in two rows. -/
structure Beside (D : Tab) (t : T) (k : RT) : Prop where
  told : TellsT t k
  is : ∃ p, Is D p k
  norm : Norm false t
end Go.Proofs.Ytmfjbljdbkmkgaa.PDom

/- impl.guarded, over a function that returns: false, and what that function left. -/
namespace Go.Proofs.Ytmfjbljdbkmkgaa.Guard
open Go.RowKit Go.Proofs.YtmfjbljdbkmkgaaW.PrintWords Go.Proofs.YtmfjbljdbkmkgaaW.PrintLast Go.Proofs.YtmfjbljdbkmkgaaW.PrintMore
set_option linter.unusedVariables false
set_option linter.unusedSimpArgs false

theorem catch_idle (p : Addr) (w : World) :
    CallsD Try.prog 94 #[.pointer (some p)] .returning w fun e u' w' => e = .returned (.tuple #[]) ∧ u' = .returning ∧ w' = w := by
  refine callsD_of_wpS Try.func94 rfl fun c₀ cs hu => ?_
  apply wpS_seq
  apply wpS_region
  simp [wpOpsS, go_sem, recoverD, hu, Try.ntmps94, Exit.thenS]
  refine wpS_cond (t := false) (by simp [Act.eval, Array.replicate]) ?_
  simp only [Bool.false_eq_true, if_false]
  refine wpS_of_wp (wp_skip ?_)
  cases c₀
  simp_all [bodyPostS, results, Try.results94]
theorem guarded_calls (F : Nat) (cap : Array Value) (w : World) (Q : World → Prop) (hF : ∀ (args : Array Value) (w : World), (callFunc F args).run Try.prog w = .ok (.enter F args) w)
    (HC : Calls Try.prog F cap (w.alloc (.cells #[.bool false] 4)) fun e w' => e = .returned (.tuple #[]) ∧ w'.heap[w.heap.size]? = some (.cells #[.bool false] 4 (0, 0)) ∧ Q w') :
    Calls Try.prog 63 #[.func (.func F) #[] cap] w fun e w' => e = .returned (.bool false) ∧ ∃ w2, Q w2 ∧ w2.heap[w.heap.size]? = some (.cells #[.bool false] 4 (0, 0)) ∧ w' = w2.setCell ⟨w.heap.size, 0, none⟩ (.bool false) := by
  have hmf : ∀ (fn : Fn) (first cap : Array Value) (w : World), (Instr.makeFunc fn first cap).run Try.prog w = .ok (.func fn first cap) w := fun _ _ _ _ => rfl
  have HC0 := Aside0.mk HC
  clear HC
  go_enter_defers Try.func63, Try.ntmps63
  go_wp2_with fail
  refine HC0.out.mono ?_
  rintro e w2 ⟨rfl, hb, hq⟩
  have c2 := blk_cell hb 0
  have f2 := blk_frozen hb 0
  have HB := Aside0.mk hb
  have HQ := Aside0.mk hq
  clear hb hq
  go_wp2_with fail
  refine leaves_cons (f := 94) (args := #[.pointer (some ⟨w.heap.size, 0, none⟩)]) (by simp) (by simp [go_sem]) ?_
  refine (catch_idle ⟨w.heap.size, 0, none⟩ _).mono ?_
  rintro e u' w'' ⟨rfl, rfl, rfl⟩
  have c3 : (w2.setCell ⟨w.heap.size, 0, none⟩ (.bool false)).cell? ⟨w.heap.size, 0, none⟩ = some (.bool false) := by rw [blk_cell (blk_set HB.out 0 (.bool false))]; rfl
  simp [Leaves, settle, results, Try.results63, go_sem, c3]
  exact ⟨w2, HQ.out, HB.out, rfl⟩
end Go.Proofs.Ytmfjbljdbkmkgaa.Guard

/- impl.changedAt, over a function that changes a tree: what it returns. -/
namespace Go.Proofs.Ytmfjbljdbkmkgaa.Dom
open Go.RowKit Go.Proofs.YtmfjbljdbkmkgaaW.PrintWords Go.Proofs.YtmfjbljdbkmkgaaW.PrintLast Go.Proofs.YtmfjbljdbkmkgaaW.PrintMore Go.Proofs.Ytmfjbljdbkmkgaa.PDom
set_option linter.unusedVariables false
set_option linter.unusedSimpArgs false

theorem Dom.far {w : World} {D : Tab} (h : Dom w D) {g t : Nat} {cells : Array Value} (hb : w.heap[g]? = some (.cells cells t (0, 0))) (hD : D g = none) (ht : 106 ≠ t) (j : Nat) (u : Value) : Dom (w.setCell ⟨g, j, none⟩ u) D :=
  ⟨h.wf, fun {b i} hd => by
    obtain ⟨v, h1, h2⟩ := h.has hd
    refine ⟨v, h1.far (p := ⟨g, j, none⟩) (fun e => by rw [show b = g from e, hD] at hd; cases hd) u, ?_⟩
    exact Kd.R_set h2 hb (fun q hq => by
      have : q = 106 := by simpa [kA, Kd.iso, Kd.pair, Kd.string, Kd.scalar] using hq
      rw [this]
      exact ht) j u⟩
/-- What a tree becomes. -/
def Turns (w w' : World) (D : Tab) (r : RT) (u : T) : Prop := ∃ D' r', Dom w' D' ∧ Is D' none r' ∧ r'.id = r.id ∧ RFit r' ∧ r'.toT = u ∧ Only D w w' ∧ (∀ k, k < w.heap.size → D k = none → D' k = none)
theorem push_size (w : World) (o : Obj) : (w.alloc o).heap.size = w.heap.size + 1 := Array.size_push _
end Go.Proofs.Ytmfjbljdbkmkgaa.Dom

/- What is told of a tree that was made: the tree itself. Plain facts. -/
namespace Go.Proofs.Ytmfjbljdbkmkgaa.PDom
open Go.RowKit Go.Proofs.YtmfjbljdbkmkgaaW.PrintWords Go.Proofs.YtmfjbljdbkmkgaaW.PrintLast Go.Proofs.YtmfjbljdbkmkgaaW.PrintMore Go.Proofs.Ytmfjbljdbkmkgaa.Dom
set_option linter.unusedVariables false
set_option linter.unusedSimpArgs false

theorem toT_norm (r : RT) : ∀ (t : T) (root : Bool), Norm root t → TellsT t r → r.toT = t := by
  induction r using RT.induct with
  | h i ty a d at_ ks ih =>
    intro t root hn ht
    obtain ⟨hl, hk⟩ := told_open ht hn
    have hkids : RT.toTL ks = t.f4 := by
      rw [RT.toTL_map]
      apply List.ext_getElem (by rw [List.length_map]; exact hl.symm)
      intro j h1 h2
      rw [List.getElem_map]
      have h3 : j < ks.length := by rw [List.length_map] at h1; exact h1
      exact ih ks[j] (List.getElem_mem h3) _ false (hn.kid (List.getElem_mem h2)) (hk j h2 h3)
    cases ht with
    | mk _ _ _ _ ha hl2 hk2 =>
      cases hn with
      | mk _ _ h _ =>
        obtain ⟨f0, f1, f2, f3, f4⟩ := t
        simp only at hkids
        simp only [RT.toT, tyOf, dataOf, attrsOf, flat]
        rcases h with ⟨h0, h1, h3, h4⟩ | ⟨h0, hr, h1, h2, h3⟩ | ⟨h0, h2⟩
        · simp only at h0 h1 h3 h4
          subst h1 h3 h4
          rcases h0 with rfl | rfl
          · simp
          · simp
        · simp only at h0 h1 h2 h3
          subst h0 h1 h2 h3
          simp [hkids]
        · simp only at h0 h2
          subst h0 h2
          simp [hkids, List.map_map, Function.comp_def]
theorem RFit.mapAt {f : List RT → List RT} (l : List Int) : ∀ (r up : RT), r.at_ l = some up → RFit r → (f up.kids).length ≤ 1000000000000 → (∀ k ∈ f up.kids, RFit k) → RFit (r.mapAt f l) := by
  induction l with
  | nil =>
    intro r up hu hr hl hk
    obtain rfl : r = up := by simpa [RT.at_] using hu
    cases hr with
    | mk i ty a d at_ ks h3 h4 h5 => exact RFit.mk _ _ _ _ _ _ h3 hl hk
  | cons j l ih =>
    intro r up hu hr hl hk
    cases hr with
    | mk i ty a d at_ ks h3 h4 h5 =>
      simp only [RT.at_] at hu
      split at hu
      case isFalse => cases hu
      obtain ⟨k, hkj, hu⟩ := Option.bind_eq_some_iff.1 hu
      have hk' : ks[j.toNat]? = some k := hkj
      rw [RT.mapAt_cons f i ty a d at_ ks j l hk']
      refine RFit.mk _ _ _ _ _ _ h3 (by rw [List.length_set]; exact h4) (fun x hx => ?_)
      rcases List.mem_or_eq_of_mem_set hx with hx | rfl
      · exact h5 x hx
      · exact ih k up hu (h5 k (List.mem_of_getElem? hk')) hl hk
theorem RFit.at {l : List Int} : ∀ {r up : RT}, r.at_ l = some up → RFit r → RFit up := by
  induction l with
  | nil =>
    intro r up hu hr
    obtain rfl : r = up := by simpa [RT.at_] using hu
    exact hr
  | cons j l ih =>
    intro r up hu hr
    simp only [RT.at_] at hu
    split at hu
    case isFalse => cases hu
    obtain ⟨k, hkj, hu2⟩ := Option.bind_eq_some_iff.1 hu
    have hkm : k ∈ r.kids := List.mem_of_getElem? hkj
    refine ih hu2 ?_
    cases hr with
    | mk i ty a d at_ ks h3 h4 h5 => exact h5 k hkm
end Go.Proofs.Ytmfjbljdbkmkgaa.PDom

/- Who stands within whom in a tree of nodes, and what becomes of it when a node's children come up into its place. Plain facts. -/
namespace Go.Proofs.Ytmfjbljdbkmkgaa.Dom
open Go.RowKit Go.Proofs.YtmfjbljdbkmkgaaW.PrintWords Go.Proofs.YtmfjbljdbkmkgaaW.PrintLast Go.Proofs.YtmfjbljdbkmkgaaW.PrintMore Go.Proofs.Ytmfjbljdbkmkgaa.PDom
set_option linter.unusedVariables false
set_option linter.unusedSimpArgs false

/-- A property of a node in which its children have no part. -/
def Own (m : RT → Bool) : Prop := ∀ r K, m (r.withKids K) = m r
/-- One of the nodes above a place has it. -/
def RT.anyUp (m : RT → Bool) : RT → List Int → Bool
  | _, [] => false
  | r, j :: l => m r || (match r.kids[j.toNat]? with | some k => RT.anyUp m k l | none => false)
theorem at_cons {r y : RT} {j : Int} {l : List Int} (h : r.at_ (j :: l) = some y) : 0 ≤ j ∧ ∃ k, r.kids[j.toNat]? = some k ∧ k.at_ l = some y := by
  simp only [RT.at_] at h
  split at h
  · rename_i h0
    obtain ⟨k, hk, e⟩ := Option.bind_eq_some_iff.1 h
    exact ⟨h0, k, hk, e⟩
  · cases h
theorem at_cons_mk {r y k : RT} {j : Nat} {l : List Int} (hk : r.kids[j]? = some k) (h : k.at_ l = some y) : r.at_ ((j : Int) :: l) = some y := by
  simp only [RT.at_]
  rw [if_pos (by omega), show ((j : Int).toNat) = j from by omega, hk]
  exact h
theorem anyUp_cons {m : RT → Bool} {r k : RT} {j : Int} {l : List Int} (hk : r.kids[j.toNat]? = some k) : r.anyUp m (j :: l) = (m r || k.anyUp m l) := by
  simp only [RT.anyUp, hk]
theorem anyUp_append {m : RT → Bool} (p : List Int) : ∀ (r k : RT) (l : List Int), r.at_ p = some k → r.anyUp m (p ++ l) = (r.anyUp m p || k.anyUp m l) := by
  induction p with
  | nil =>
    intro r k l h
    obtain rfl : r = k := by simpa [RT.at_] using h
    simp [RT.anyUp]
  | cons j p ih =>
    intro r k l h
    obtain ⟨_, c, hc, e⟩ := at_cons h
    rw [List.cons_append, anyUp_cons hc, anyUp_cons hc, ih c k l e, Bool.or_assoc]
/-- Each node of the one tree is one of the other, where it stands below at least as many. -/
structure Emb (m : RT → Bool) (r' r : RT) : Prop where
  idd : r'.id = r.id
  own : m r' = m r
  way : ∀ l' y', r'.at_ l' = some y' → ∃ l y, r.at_ l = some y ∧ y.id = y'.id ∧ m y = m y' ∧ (r'.anyUp m l' = true → r.anyUp m l = true)
theorem Emb.refl (m : RT → Bool) (r : RT) : Emb m r r := ⟨rfl, rfl, fun l y h => ⟨l, y, h, rfl, rfl, fun h => h⟩⟩
theorem Emb.node {m : RT → Bool} {r' r : RT} (hid : r'.id = r.id) (hm : m r' = m r) (h : ∀ (j : Nat) k', r'.kids[j]? = some k' → ∃ (j0 : Nat) (p : List Int) (k : RT), r.at_ ((j0 : Int) :: p) = some k ∧ Emb m k' k) : Emb m r' r := by
  refine ⟨hid, hm, fun l' y' hy => ?_⟩
  cases l' with
  | nil =>
    obtain rfl : r' = y' := by simpa [RT.at_] using hy
    exact ⟨[], r, rfl, hid.symm, hm.symm, fun h => by simp [RT.anyUp] at h⟩
  | cons j l' =>
    obtain ⟨_, k', hk', e⟩ := at_cons hy
    obtain ⟨j0, p, k, hp, E⟩ := h _ _ hk'
    obtain ⟨l, y, h1, h2, h3, h4⟩ := E.way _ _ e
    refine ⟨((j0 : Int) :: p) ++ l, y, by rw [at_append, hp]; exact h1, h2, h3, fun hu => ?_⟩
    rw [anyUp_cons hk'] at hu
    rw [anyUp_append _ _ _ _ hp]
    obtain ⟨_, c, hc, _⟩ := at_cons hp
    rw [anyUp_cons hc, ← hm]
    cases hmr : m r' with
    | true => simp
    | false =>
      rw [hmr, Bool.false_or] at hu
      rw [h4 hu]
      simp
theorem Emb.mapAt {m : RT → Bool} (hO : Own m) {f : List RT → List RT} : ∀ (l : List Int) (r up : RT), r.at_ l = some up → Emb m (up.withKids (f up.kids)) up → Emb m (r.mapAt f l) r := by
  intro l
  induction l with
  | nil =>
    intro r up h E
    obtain rfl : r = up := by simpa [RT.at_] using h
    cases r
    exact E
  | cons j l ih =>
    intro r up h E
    obtain ⟨h0, k, hk, e⟩ := at_cons h
    cases r with
    | node i t a d at_ ks =>
      rw [RT.mapAt_cons _ _ _ _ _ _ _ _ _ (show ks[j.toNat]? = some k from hk)]
      have e1 := ih k up e E
      refine Emb.node rfl (hO (.node i t a d at_ ks) _) (fun i' k' h' => ?_)
      have h'' : (ks.set j.toNat (k.mapAt f l))[i']? = some k' := h'
      by_cases hi : j.toNat = i'
      · subst hi
        have hlt : j.toNat < ks.length := (List.getElem?_eq_some_iff.1 hk).1
        rw [List.getElem?_set_self hlt] at h''
        obtain rfl := Option.some.inj h''
        exact ⟨j.toNat, [], k, at_cons_mk (l := []) hk rfl, e1⟩
      · rw [List.getElem?_set_ne hi] at h''
        exact ⟨i', [], k', at_cons_mk (l := []) h'' rfl, Emb.refl _ _⟩
/-! ### Which nodes a changed tree has -/
/-- Each node of a tree has a place, and one alone. -/
theorem place_of (r : RT) : ∀ b ∈ r.pre, ∃ l y, r.at_ l = some y ∧ y.id = b := by
  induction r using RT.induct with
  | h i t a d at_ ks ih =>
    intro b hb
    rcases List.mem_cons.1 hb with h1 | h1
    · exact ⟨[], _, rfl, h1.symm⟩
    · obtain ⟨k, hk, hbk⟩ := RT.mem_preL.1 h1
      obtain ⟨l, y, h2, h3⟩ := ih k hk b hbk
      obtain ⟨n, hn, rfl⟩ := List.mem_iff_getElem.1 hk
      exact ⟨(n : Int) :: l, y, at_cons_mk (List.getElem?_eq_getElem hn) h2, h3⟩
theorem at_mem {l : List Int} {r y : RT} (h : r.at_ l = some y) : y.id ∈ r.pre := RT.sub_pre l r y h _ (RT.id_mem y)
theorem place_one : ∀ (l1 l2 : List Int) (r y1 y2 : RT), r.pre.Nodup → r.at_ l1 = some y1 → r.at_ l2 = some y2 → y1.id = y2.id → l1 = l2 := by
  intro l1
  induction l1 with
  | nil =>
    intro l2 r y1 y2 hn h1 h2 e
    cases l2 with
    | nil => rfl
    | cons j l2 =>
      obtain rfl : r = y1 := by simpa [RT.at_] using h1
      obtain ⟨_, k, hk, e2⟩ := at_cons h2
      cases r with
      | node i t a d at_ ks =>
        have := (nodup_kid (k' := k) hn hk).1
        exact absurd (by rw [show i = y2.id from e]; exact at_mem e2) this
  | cons j1 l1 ih =>
    intro l2 r y1 y2 hn h1 h2 e
    obtain ⟨p1, k1, hk1, e1⟩ := at_cons h1
    cases l2 with
    | nil =>
      obtain rfl : r = y2 := by simpa [RT.at_] using h2
      cases r with
      | node i t a d at_ ks =>
        have := (nodup_kid (k' := k1) hn hk1).1
        exact absurd (by rw [show i = y1.id from e.symm]; exact at_mem e1) this
    | cons j2 l2 =>
      obtain ⟨p2, k2, hk2, e2⟩ := at_cons h2
      cases r with
      | node i t a d at_ ks =>
        obtain ⟨_, q2, q3⟩ := nodup_kid (k' := k2) hn hk1
        by_cases hj : j2.toNat = j1.toNat
        · have hjj : j2 = j1 := by omega
          subst hjj
          rw [hk1] at hk2
          obtain rfl := Option.some.inj hk2
          rw [ih l2 k1 y1 y2 q2 e1 e2 e]
        · exact absurd (by rw [e]; exact at_mem e2 : y1.id ∈ k2.pre) (fun hm => q3 _ hj hk2 _ hm (at_mem e1))
/-! ### A property of all nodes -/
inductive RT.All (P : RT → Prop) : RT → Prop
  | mk (r : RT) (h : P r) (hk : ∀ k ∈ r.kids, RT.All P k) : RT.All P r
theorem RT.All.at {P : RT → Prop} {l : List Int} : ∀ {r y : RT}, r.at_ l = some y → RT.All P r → RT.All P y := by
  induction l with
  | nil =>
    intro r y h ha
    obtain rfl : r = y := by simpa [RT.at_] using h
    exact ha
  | cons j l ih =>
    intro r y h ha
    obtain ⟨_, k, hk, e⟩ := at_cons h
    cases ha with
    | mk _ _ hks => exact ih e (hks k (List.mem_of_getElem? hk))
theorem RT.All.mapAt {P : RT → Prop} (hO : ∀ r K, P r → P (r.withKids K)) {f : List RT → List RT} : ∀ (l : List Int) (r up : RT), r.at_ l = some up → RT.All P r → (∀ k ∈ f up.kids, RT.All P k) → RT.All P (r.mapAt f l) := by
  intro l
  induction l with
  | nil =>
    intro r up h ha hf
    obtain rfl : r = up := by simpa [RT.at_] using h
    cases r with
    | node i t a d at_ ks =>
      cases ha with
      | mk _ hp hks => exact ⟨_, hO _ (f ks) hp, hf⟩
  | cons j l ih =>
    intro r up h ha hf
    obtain ⟨_, k, hk, e⟩ := at_cons h
    cases r with
    | node i t a d at_ ks =>
      rw [RT.mapAt_cons _ _ _ _ _ _ _ _ _ (show ks[j.toNat]? = some k from hk)]
      cases ha with
      | mk _ hp hks =>
        refine ⟨_, hO _ (ks.set j.toNat (k.mapAt f l)) hp, fun y hy => ?_⟩
        rcases List.mem_or_eq_of_mem_set hy with h2 | h2
        · exact hks y h2
        · subst h2
          exact ih k up e (hks k (List.mem_of_getElem? hk)) hf
/-! ### The text -/
mutual
def RT.tx : RT → List UInt8
  | .node _ t _ d _ ks => if t = 1 then d.data.toList else if t = 4 then [] else RT.txL ks
def RT.txL : List RT → List UInt8
  | [] => []
  | k :: ks => k.tx ++ RT.txL ks
end
/-! ### One within another -/
mutual
def RT.within (m : RT → Bool) (b : Bool) : RT → Bool
  | .node i t a d at_ ks => (m (.node i t a d at_ []) && b) || RT.withinL m (b || m (.node i t a d at_ [])) ks
def RT.withinL (m : RT → Bool) (b : Bool) : List RT → Bool
  | [] => false
  | k :: ks => RT.within m b k || RT.withinL m b ks
end
theorem withinL_iff {m : RT → Bool} {b : Bool} : ∀ {ks : List RT}, RT.withinL m b ks = true ↔ ∃ k ∈ ks, RT.within m b k = true
  | [] => by simp [RT.withinL]
  | k :: ks => by
    rw [RT.withinL, Bool.or_eq_true, withinL_iff (ks := ks)]
    simp
theorem within_iff {m : RT → Bool} (hO : Own m) (r : RT) : ∀ b, RT.within m b r = true ↔ ∃ l y, r.at_ l = some y ∧ m y = true ∧ (b = true ∨ r.anyUp m l = true) := by
  induction r using RT.induct with
  | h i t a d at_ ks ih =>
    intro b
    have hm : m (.node i t a d at_ []) = m (.node i t a d at_ ks) := (hO (.node i t a d at_ ks) []).symm ▸ rfl
    rw [RT.within, hm, Bool.or_eq_true, Bool.and_eq_true, withinL_iff]
    constructor
    · rintro (⟨h1, h2⟩ | ⟨k, hk, h⟩)
      · exact ⟨[], _, rfl, h1, .inl h2⟩
      · obtain ⟨l, y, e1, e2, e3⟩ := (ih k hk _).1 h
        obtain ⟨n, hn, rfl⟩ := List.mem_iff_getElem.1 hk
        refine ⟨(n : Int) :: l, y, at_cons_mk (List.getElem?_eq_getElem hn) e1, e2, ?_⟩
        rw [anyUp_cons (j := (n : Int)) (k := ks[n]) (by show ks[((n : Int).toNat)]? = _; rw [show ((n : Int).toNat) = n from by omega]; exact List.getElem?_eq_getElem hn)]
        rcases e3 with e3 | e3
        · rw [Bool.or_eq_true] at e3
          rcases e3 with e3 | e3
          · exact .inl e3
          · exact .inr (by rw [e3]; rfl)
        · exact .inr (by rw [e3]; simp)
    · rintro ⟨l, y, e1, e2, e3⟩
      cases l with
      | nil =>
        obtain rfl : RT.node i t a d at_ ks = y := by simpa [RT.at_] using e1
        rcases e3 with e3 | e3
        · exact .inl ⟨e2, e3⟩
        · simp [RT.anyUp] at e3
      | cons j l =>
        obtain ⟨_, k, hk, e⟩ := at_cons e1
        refine .inr ⟨k, List.mem_of_getElem? hk, (ih k (List.mem_of_getElem? hk) _).2 ⟨l, y, e, e2, ?_⟩⟩
        rw [anyUp_cons hk, Bool.or_eq_true] at e3
        rcases e3 with e3 | e3 | e3
        · exact .inl (by rw [e3]; rfl)
        · exact .inl (by rw [e3]; simp)
        · exact .inr e3
/-! ### What stands while the nodes of a tree are gone through -/
structure Red (m : RT → Bool) (r0 r : RT) (j : Nat) : Prop where
  id : r.id = r0.id
  text : r.tx = r0.tx
  left : ∀ x ∈ r0.pre.drop j, x ∈ r.pre
  sub : ∀ x ∈ r.pre, x ∈ r0.pre
  done : ∀ l y, r.at_ l = some y → y.id ∈ r0.pre.take j → ¬ (m y = true ∧ r.anyUp m l = true)
  same : RT.within m false r0 = false → r = r0
  len : r.pre.length ≤ r0.pre.length
theorem Red.start (m : RT → Bool) (r : RT) : Red m r r 0 := ⟨rfl, rfl, fun x h => by simpa using h, fun x h => h, fun l y _ h => by simp at h, fun _ => rfl, Nat.le_refl _⟩
theorem take_mem {l : List Nat} {j : Nat} (h : j < l.length) {x : Nat} (hx : x ∈ l.take (j + 1)) : x ∈ l.take j ∨ x = l[j] := by
  rw [List.take_succ_eq_append_getElem h] at hx
  rcases List.mem_append.1 hx with h1 | h1
  · exact .inl h1
  · exact .inr (List.mem_singleton.1 h1)
/-- The node isn't one within another. -/
theorem Red.keep {m : RT → Bool} {r0 r : RT} {j : Nat} (h : Red m r0 r j) (hj : j < r0.pre.length) (hn : r.pre.Nodup) {l : List Int} {y : RT} (hy : r.at_ l = some y) (hid : y.id = r0.pre[j]) (hb : ¬ (m y = true ∧ r.anyUp m l = true)) : Red m r0 r (j + 1) :=
  ⟨h.id, h.text, fun x hx => h.left x (by
    have : x ∈ (r0.pre.drop j).drop 1 := by rw [List.drop_drop]; exact hx
    exact List.mem_of_mem_drop this), h.sub, fun l' y' hy' hm => by
    rcases take_mem hj hm with h1 | h1
    · exact h.done l' y' hy' h1
    · obtain rfl := place_one l' l r y' y hn hy' hy (h1.trans hid.symm)
      rw [hy] at hy'
      obtain rfl := Option.some.inj hy'
      exact hb, h.same, h.len⟩
/-- At the end nothing stands within another one. -/
theorem Red.finish {m : RT → Bool} (hO : Own m) {r0 r : RT} (h : Red m r0 r r0.pre.length) : RT.within m false r = false := by
  cases hw : RT.within m false r with
  | false => rfl
  | true =>
    obtain ⟨l, y, e1, e2, e3⟩ := (within_iff hO r false).1 hw
    rcases e3 with e3 | e3
    · cases e3
    · exact absurd ⟨e2, e3⟩ (h.done l y e1 (by rw [List.take_length]; exact h.sub _ (at_mem e1)))
/-- Attributes that can be counted, and a kind that is known. -/
def okN (r : RT) : Prop := r.attrs.length ≤ 4398046510976 ∧ (r.ty = 1 ∨ r.ty = 3 ∨ r.ty = 4)
theorem okN_own (r : RT) (K : List RT) (h : okN r) : okN (r.withKids K) := by cases r; exact h
theorem rfit_all (r : RT) : RT.All okN r → r.pre.length ≤ 1000000000000 → RFit r := by
  induction r using RT.induct with
  | h i t a d at_ ks ih =>
    intro ha hl
    cases ha with
    | mk _ hp hk =>
      have h1 := RT.kids_lt (.node i t a d at_ ks)
      refine .mk i t a d at_ ks hp.1 ?_ (fun k hkm => ih k hkm (hk k hkm) ?_)
      · have : ks.length < (RT.node i t a d at_ ks).pre.length := h1
        omega
      · have := RT.kid_pre (r := .node i t a d at_ ks) hkm
        omega
end Go.Proofs.Ytmfjbljdbkmkgaa.Dom

/- dom.FindFirstNode, FindAllNodes, ContainsNode: the first node, and all nodes, below a node of which a function is true. -/
namespace Go.Proofs.Ytmfjbljdbkmkgaa.Dom
open Go.RowKit Go.Proofs.YtmfjbljdbkmkgaaW.PrintWords Go.Proofs.YtmfjbljdbkmkgaaW.PrintLast Go.Proofs.YtmfjbljdbkmkgaaW.PrintMore Go.Proofs.Ytmfjbljdbkmkgaa.PDom
set_option linter.unusedVariables false
set_option linter.unusedSimpArgs false

def firstD (D : Tab) (x : Nat) : Option Nat := match D x with
  | some i => i.kids.head?
  | none => none
def nextD (D : Tab) (x : Nat) : Option Nat := match D x with
  | some i => nextIn (sibs D i) x
  | none => none
theorem tells_first {w : World} {D : Tab} (h : Dom w D) : TellsN w D 108 (firstD D) := by
  intro x hx
  cases hi : D x with
  | none => exact absurd hi hx
  | some i =>
    obtain ⟨v, hv, _⟩ := h.has hi
    have e : firstD D x = i.kids.head? := by unfold firstD; rw [hi]
    rw [e]
    exact firstN_calls w x _ hv.cells10.2.1 ⟨_, rfl⟩
theorem tells_next {w : World} {D : Tab} (h : Dom w D) : TellsN w D 106 (nextD D) := by
  intro x hx
  cases hi : D x with
  | none => exact absurd hi hx
  | some i =>
    obtain ⟨v, hv, _⟩ := h.has hi
    have e : nextD D x = nextIn (sibs D i) x := by unfold nextD; rw [hi]
    rw [e]
    exact nextN_calls w x _ hv.cells10.2.2.2.2.1 ⟨_, rfl⟩
theorem nav_all {D : Tab} (wf : WF D) : Nav D (firstD D) (nextD D) (fun _ => true) := by
  constructor
  · intro p i t a d at_ ks h
    have e : D i = some _ := h.root
    unfold firstD
    rw [e]
    show (ks.map RT.id).head? = _
    cases ks <;> rfl
  · intro p i t a d at_ l1 k l2 h
    have hk := h.kid (r := .node i t a d at_ (l1 ++ k :: l2)) (k := k) (by simp [RT.kids])
    have hroot : D i = some _ := h.root
    have hp : (k.info (some i)).parent = some i := by cases k; rfl
    have hnd := wf.nodup hroot
    have e1 : ((RT.node i t a d at_ (l1 ++ k :: l2)).info p).kids = l1.map RT.id ++ k.id :: l2.map RT.id := by simp [RT.info]
    rw [e1] at hnd
    unfold nextD
    rw [hk.root]
    show nextIn (sibs D (k.info (some i))) k.id = _
    rw [sibs_some hp, kidsOf_some hroot, e1, nextIn_split (nodup_split hnd).1]
    cases l2 <;> rfl
theorem enters_first : Enters 108 := fun _ _ => by kernel_rfl
theorem enters_next : Enters 106 := fun _ _ => by kernel_rfl
/-- The three boxes that the function of initGetNeighbor holds. -/
def boxes3 (w : World) (v1 v2 v3 : Value) : World := ((w.alloc (.cells #[v1] 90)).alloc (.cells #[v2] 90)).alloc (.cells #[v3] 44)
def nbrFn (n : Nat) : Value := .func (Fn.func 118) #[] #[.pointer (some ⟨n, 0, none⟩), .pointer (some ⟨n + 1, 0, none⟩), .pointer (some ⟨n + 2, 0, none⟩)]
theorem init_calls (w : World) (f1 fN fU : Nat) (cu : Array Value) :
    Calls Try.prog 104 #[.func (Fn.func f1) #[] #[], .func (Fn.func fN) #[] #[], .func (Fn.func fU) #[] cu] w fun e w' => e = .returned (nbrFn w.heap.size) ∧ w' = boxes3 w (.func (Fn.func f1) #[] #[]) (.func (Fn.func fN) #[] #[]) (.func (Fn.func fU) #[] cu) := by
  have hmf : ∀ (fn : Fn) (first cap : Array Value) (w : World), (Instr.makeFunc fn first cap).run Try.prog w = .ok (.func fn first cap) w := fun _ _ _ _ => rfl
  go_enter Try.func104, Try.ntmps104
  go_wp2
  go_ret
  exact ⟨rfl, rfl⟩
theorem boxes_at (w : World) (v1 v2 v3 : Value) : (boxes3 w v1 v2 v3).heap[w.heap.size]? = some (.cells #[v1] 90 (0, 0)) ∧ (boxes3 w v1 v2 v3).heap[w.heap.size + 1]? = some (.cells #[v2] 90 (0, 0)) ∧ (boxes3 w v1 v2 v3).heap[w.heap.size + 2]? = some (.cells #[v3] 44 (0, 0)) := by
  unfold boxes3
  refine ⟨?_, ?_, ?_⟩
  · show (((w.heap.push _).push _).push _)[w.heap.size]? = _
    rw [Array.getElem?_push, if_neg (by simp only [Array.size_push]; omega), Array.getElem?_push, if_neg (by simp only [Array.size_push]; omega), Array.getElem?_push, if_pos rfl]
  · show (((w.heap.push _).push _).push _)[w.heap.size + 1]? = _
    rw [Array.getElem?_push, if_neg (by simp only [Array.size_push]; omega), Array.getElem?_push, if_pos (by simp only [Array.size_push])]
  · show (((w.heap.push _).push _).push _)[w.heap.size + 2]? = _
    rw [Array.getElem?_push, if_pos (by simp only [Array.size_push])]
theorem boxes_below (w : World) (v1 v2 v3 : Value) : Below w.heap.size w (boxes3 w v1 v2 v3) := below_alloc (below_alloc (below_alloc (Below.refl _ _) _) _) _
end Go.Proofs.Ytmfjbljdbkmkgaa.Dom

/- impl.named: a function that tells whether a node is an element of one of some names. -/
namespace Go.Proofs.Ytmfjbljdbkmkgaa.Dom
open Go.RowKit Go.Proofs.YtmfjbljdbkmkgaaW.PrintWords Go.Proofs.YtmfjbljdbkmkgaaW.PrintLast Go.Proofs.YtmfjbljdbkmkgaaW.PrintMore Go.Proofs.Ytmfjbljdbkmkgaa.PDom
set_option linter.unusedVariables false
set_option linter.unusedSimpArgs false

theorem any_dropN {α : Type} {l : List α} {P : α → Bool} {m : Nat} (h : m < l.length) : (l.drop m).any P = if P l[m] = true then true else (l.drop (m + 1)).any P := by
  rw [List.drop_eq_getElem_cons h, List.any_cons]
  cases P l[m] <;> rfl
end Go.Proofs.Ytmfjbljdbkmkgaa.Dom

/- impl.behind, over a function that changes a tree: what it returns. -/
namespace Go.Proofs.Ytmfjbljdbkmkgaa.Dom
open Go.RowKit Go.Proofs.YtmfjbljdbkmkgaaW.PrintWords Go.Proofs.YtmfjbljdbkmkgaaW.PrintLast Go.Proofs.YtmfjbljdbkmkgaaW.PrintMore Go.Proofs.Ytmfjbljdbkmkgaa.PDom
set_option linter.unusedVariables false
set_option linter.unusedSimpArgs false

def dumI : Info := ⟨none, [], 0, 0, ⟨#[]⟩, []⟩
/-- What the closure leaves in the box b. -/
def Boxed (w w' : World) (b : Nat) (u : T) : Prop := ∃ A3 c3 A4 c4, w'.heap[b]? = some (.cells #[.int .i64 u.f0, .string u.f1, .string u.f2, .slice A3 u.f3.length c3, .slice A4 u.f4.length c4] 25 (0, 0)) ∧ u.f3.length ≤ c3 ∧ Kd.F k53 w' (fun k => w.heap.size ≤ k) A3 u.f3.length u.f3 ∧ u.f4.length ≤ c4 ∧ Kd.F k25 w' (fun k => w.heap.size ≤ k) A4 u.f4.length u.f4 ∧ Only (put none_ b dumI) w w' ∧
  Kd.R k53 53 w' w.heap.size (fun k => w.heap.size ≤ k) (.slice A3 u.f3.length c3) u.f3 ∧ Kd.N k25 25 w' w.heap.size (fun k => w.heap.size ≤ k ∧ some k ≠ (Value.slice A3 u.f3.length c3).ownBlock) (.slice A4 u.f4.length c4) u.f4
theorem only_box {w w' : World} {b : Nat} (hb : ∀ k, k < w.heap.size → k ≠ b → w'.heap[k]? = w.heap[k]?) (h1 : w'.os = w.os) (h2 : w'.tape = w.tape) (h3 : w'.output = w.output) (h4 : w.heap.size ≤ w'.heap.size) : Only (put none_ b dumI) w w' :=
  ⟨h1, h2, h3, h4, fun k hk hd => hb k hk (fun e => by subst e; rw [put_same] at hd; cases hd)⟩
theorem put_none (b k : Nat) (h : k ≠ b) : put none_ b dumI k = none := put_other _ _ h
theorem sets5_box {w : World} {b : Nat} {x0 x1 x2 x3 x4 : Value} (h : w.heap[b]? = some (.cells #[x0, x1, x2, x3, x4] 25 (0, 0))) (a0 a1 a2 a3 a4 : Value) :
    (((((w.setCell ⟨b, 0, none⟩ a0).setCell ⟨b, 1, none⟩ a1).setCell ⟨b, 2, none⟩ a2).setCell ⟨b, 3, none⟩ a3).setCell ⟨b, 4, none⟩ a4).heap[b]? = some (.cells #[a0, a1, a2, a3, a4] 25 (0, 0)) :=
  blk_set (blk_set (blk_set (blk_set (blk_set h 0 a0) 1 a1) 2 a2) 3 a3) 4 a4
theorem boxed_end {w w4 : World} {b : Nat} {u : T} {x0 x1 x2 x3 x4 : Value} {A5 A6 : Option Addr} {c5 c6 : Nat} (hb : b < w.heap.size) (h : w4.heap[b]? = some (.cells #[x0, x1, x2, x3, x4] 25 (0, 0))) (hB : Below w.heap.size w w4)
    (m5 : u.f3.length ≤ c5) (F5 : Kd.F k53 w4 (fun k => w.heap.size ≤ k) A5 u.f3.length u.f3) (m6 : u.f4.length ≤ c6) (F6 : Kd.F k25 w4 (fun k => w.heap.size ≤ k) A6 u.f4.length u.f4) (R5 : Kd.R k53 53 w4 w.heap.size (fun k => w.heap.size ≤ k) (.slice A5 u.f3.length c5) u.f3) (N6 : Kd.N k25 25 w4 w.heap.size (fun k => w.heap.size ≤ k ∧ some k ≠ (Value.slice A5 u.f3.length c5).ownBlock) (.slice A6 u.f4.length c6) u.f4) :
    Boxed w (((((w4.setCell ⟨b, 0, none⟩ (.int .i64 u.f0)).setCell ⟨b, 1, none⟩ (.string u.f1)).setCell ⟨b, 2, none⟩ (.string u.f2)).setCell ⟨b, 3, none⟩ (.slice A5 u.f3.length c5)).setCell ⟨b, 4, none⟩ (.slice A6 u.f4.length c6)) b u := by
  have hs := fun k (hk : k ≠ b) => sets5 w4 b (.int .i64 u.f0) (.string u.f1) (.string u.f2) (.slice A5 u.f3.length c5) (.slice A6 u.f4.length c6) k hk
  have hbb : Below 0 w4 (((((w4.setCell ⟨b, 0, none⟩ (.int .i64 u.f0)).setCell ⟨b, 1, none⟩ (.string u.f1)).setCell ⟨b, 2, none⟩ (.string u.f2)).setCell ⟨b, 3, none⟩ (.slice A5 u.f3.length c5)).setCell ⟨b, 4, none⟩ (.slice A6 u.f4.length c6)) :=
    Below.setCell (Below.setCell (Below.setCell (Below.setCell (Below.setCell (Below.refl 0 w4) (p := ⟨b, 0, none⟩) (Nat.zero_le _) _) (p := ⟨b, 1, none⟩) (Nat.zero_le _) _) (p := ⟨b, 2, none⟩) (Nat.zero_le _) _) (p := ⟨b, 3, none⟩) (Nat.zero_le _) _) (p := ⟨b, 4, none⟩) (Nat.zero_le _) _
  refine ⟨A5, c5, A6, c6, sets5_box h _ _ _ _ _, m5, Kd.F_step F5 (fun k hk _ => hs k (by omega)), m6, Kd.F_step F6 (fun k hk _ => hs k (by omega)), ?_, Kd.R_step R5 (fun k hk _ => hs k (by omega)), Kd.N_step N6 (fun k hk _ => hs k (by have := hk.1; omega))⟩
  exact only_box (fun k hk hne => (hs k hne).trans (hB.block k hk)) (hbb.os.trans hB.os) (hbb.tape.trans hB.tape) (hbb.output.trans hB.output) (Nat.le_trans hB.size hbb.size)
set_option maxHeartbeats 1000000 in
set_option maxRecDepth 100000 in
theorem beh1_calls (F : Nat) (cap : Array Value) (hF : ∀ (args : Array Value) (w : World), (callFunc F args).run Try.prog w = .ok (.enter F args) w) (P : T → Prop) (t : T) (ht : Fit t) (w : World) (b0 b1 b2 : Nat) (A3 : Option Addr) (c3 : Nat) (A4 : Option Addr) (c4 : Nat)
    (hb0 : w.heap[b0]? = some (.cells #[.int .i64 t.f0, .string t.f1, .string t.f2, .slice A3 t.f3.length c3, .slice A4 t.f4.length c4] 25 (0, 0))) (hb1 : w.heap[b1]? = some (.cells #[.func (.func F) #[] cap] 50 (0, 0))) (hb2 : w.heap[b2]? = some (.cells #[.int .i64 0, .string ⟨#[]⟩, .string ⟨#[]⟩, .slice none 0 0, .slice none 0 0] 25 (0, 0)))
    (h3 : Kd.C k53 w A3 t.f3.length t.f3) (l3 : t.f3.length ≤ c3) (h4 : Kd.C k25 w A4 t.f4.length t.f4) (l4 : t.f4.length ≤ c4)
    (hdo : ∀ W D r, Below w.heap.size w W → (∀ k, k < w.heap.size → D k = none) → Dom W D → Is D none r → TellsT t r → Calls Try.prog F (#[.pointer (some ⟨r.id, 0, none⟩)] ++ cap) W fun e w' => e = .returned (.tuple #[]) ∧ ∃ u, P u ∧ Turns W w' D r u) :
    Calls Try.prog 64 #[.pointer (some ⟨b0, 0, none⟩), .pointer (some ⟨b1, 0, none⟩), .pointer (some ⟨b2, 0, none⟩)] w fun e w' => e = .returned (.tuple #[]) ∧ ∃ u, P u ∧ Boxed w w' b2 u := by
  have HM := Aside0.mk (made_calls _ t (Nat.le_refl _) ht w A3 c3 A4 c4 h3 l3 h4 l4)
  have HDO := Aside0.mk hdo
  have HB1 := Aside0.mk hb1
  have HB2 := Aside0.mk hb2
  have a0 := blk_cell hb0 0
  have a1 := blk_cell hb0 1
  have a2 := blk_cell hb0 2
  have a3 := blk_cell hb0 3
  have a4 := blk_cell hb0 4
  have d0 := blk_cell hb1 0
  clear hdo hb0 hb1 hb2 h3 h4 l3 l4 ht
  go_enter Try.func64, Try.ntmps64
  go_wp2_with fail
  refine HM.out.mono ?_
  rintro e w1 ⟨b, D, rfl, hm⟩
  obtain ⟨i0, hi0⟩ : ∃ i, D b = some i := by
    obtain ⟨_, _, i, h, _⟩ := hm.tree
    exact ⟨i, h⟩
  obtain ⟨r, rfl, hr, hto⟩ := hm.tree.rt hm.dom.wf i0 hi0
  have hroot := hm.root i0 hi0
  rw [hroot] at hr
  have hnone : ∀ k, k < w.heap.size → D k = none := fun k hk => by
    cases hd : D k with
    | none => rfl
    | some i => have := hm.fresh k (by rw [hd]; simp); omega
  have HF := Aside0.mk (HDO.out w1 D r hm.below hnone hm.dom hr hto)
  have HBL := Aside0.mk hm.below
  have HNO := Aside0.mk hnone
  have d1 := blk_cell ((hm.below.block _ (blk_lt HB1.out)).trans HB1.out) 0
  clear HM HDO hm hi0 hroot hr hto hnone d0 a0 a1 a2 a3 a4
  generalize hri : r.id = ri at *
  have HRI := Aside0.mk hri
  clear hri
  simp only [ptr_some] at HF ⊢
  go_wp2_with fail
  refine HF.out.mono ?_
  rintro e w3 ⟨rfl, u, hu, D', r', hd', hr', hid, hfit, hto, hon, hnn⟩
  have HT := Aside0.mk (told_calls D' r' none hr' hfit w3 hd')
  rw [hid, HRI.out, hto] at HT
  have HB3 := Aside0.mk (HBL.out.trans (hon.below HBL.out.size (fun k hk => HNO.out k hk)))
  have HU := Aside0.mk hu
  clear hd' hr' hid hfit hto hon hnn HF d1 hu
  simp only [ptr_some] at HT
  go_wp2_with fail
  refine HT.out.mono ?_
  rintro e w4 ⟨A5, c5, A6, c6, rfl, m5, F5, m6, F6, hb4, R5, N6⟩
  have HB4 := Aside0.mk (below_step HB3.out hb4)
  have hb64 := (HB4.out.block _ (blk_lt HB2.out)).trans HB2.out
  have HB64 := Aside0.mk hb64
  have HE := Aside0.mk (boxed_end (blk_lt HB2.out) hb64 HB4.out m5 (Kd.F_mono F5 (fun k hk => Nat.le_trans HB3.out.size hk)) m6 (Kd.F_mono F6 (fun k hk => Nat.le_trans HB3.out.size hk)) (Kd.R_lower (Kd.R_mono R5 (fun k hk => Nat.le_trans HB3.out.size hk)) HB3.out.size) (Kd.N_lower (Kd.N_mono N6 (fun k hk => ⟨Nat.le_trans HB3.out.size hk.1, hk.2⟩)) HB3.out.size))
  have r0 := blk_cell hb64 0
  have r1 := blk_cell hb64 1
  have r2 := blk_cell hb64 2
  have r3 := blk_cell hb64 3
  have r4 := blk_cell hb64 4
  have f0 := blk_frozen hb64 0
  have f1 := blk_frozen hb64 1
  have f2 := blk_frozen hb64 2
  have f3 := blk_frozen hb64 3
  have f4 := blk_frozen hb64 4
  clear m5 F5 m6 F6 R5 N6 hb4 hb64 HT
  go_wp2_with fail
  go_end0
  exact ⟨rfl, u, HU.out, HE.out⟩
theorem enters_beh1 : ∀ (args : Array Value) (w : World), (callFunc 64 args).run Try.prog w = .ok (.enter 64 args) w := fun _ _ => by kernel_rfl
theorem four_boxes (w : World) (o0 o1 o2 o3 : Obj) : ((((w.alloc o0).alloc o1).alloc o2).alloc o3).heap.size = w.heap.size + 4 ∧ Below w.heap.size w ((((w.alloc o0).alloc o1).alloc o2).alloc o3) ∧ ((((w.alloc o0).alloc o1).alloc o2).alloc o3).heap[w.heap.size]? = some o0 ∧
    ((((w.alloc o0).alloc o1).alloc o2).alloc o3).heap[w.heap.size + 1]? = some o1 ∧ ((((w.alloc o0).alloc o1).alloc o2).alloc o3).heap[w.heap.size + 2]? = some o2 ∧ ((((w.alloc o0).alloc o1).alloc o2).alloc o3).heap[w.heap.size + 3]? = some o3 := by
  have e : ((((w.alloc o0).alloc o1).alloc o2).alloc o3).heap = (((w.heap.push o0).push o1).push o2).push o3 := rfl
  refine ⟨by rw [e]; simp, below_alloc (below_alloc (below_alloc (below_alloc (Below.refl _ _) _) _) _) _, ?_, ?_, ?_, ?_⟩ <;> rw [e] <;> simp only [Array.getElem?_push, Array.size_push] <;> repeat (first | rfl | rw [if_pos trivial] | rw [if_pos (by omega)] | rw [if_neg (by omega)])
set_option maxHeartbeats 1000000 in
set_option maxRecDepth 100000 in
theorem behind_calls (F : Nat) (cap : Array Value) (hF : ∀ (args : Array Value) (w : World), (callFunc F args).run Try.prog w = .ok (.enter F args) w) (P : T → Prop) (t : T) (ht : Fit t) (w : World) (A3 : Option Addr) (c3 : Nat) (A4 : Option Addr) (c4 : Nat)
    (h3 : Kd.C k53 w A3 t.f3.length t.f3) (l3 : t.f3.length ≤ c3) (h4 : Kd.C k25 w A4 t.f4.length t.f4) (l4 : t.f4.length ≤ c4)
    (hdo : ∀ W D r, Below w.heap.size w W → (∀ k, k < w.heap.size → D k = none) → Dom W D → Is D none r → TellsT t r → Calls Try.prog F (#[.pointer (some ⟨r.id, 0, none⟩)] ++ cap) W fun e w' => e = .returned (.tuple #[]) ∧ ∃ u, P u ∧ Turns W w' D r u) :
    Calls Try.prog 33 #[.agg #[.int .i64 t.f0, .string t.f1, .string t.f2, .slice A3 t.f3.length c3, .slice A4 t.f4.length c4], .func (.func F) #[] cap] w fun e w' => ∃ u, P u ∧ Told w w' u e := by
  have hmf : ∀ (fn : Fn) (first cap : Array Value) (w : World), (Instr.makeFunc fn first cap).run Try.prog w = .ok (.func fn first cap) w := fun _ _ _ _ => rfl
  obtain ⟨W0, hW0⟩ : ∃ W0, W0 = (((w.alloc (.cells #[.int .i64 t.f0, .string t.f1, .string t.f2, .slice A3 t.f3.length c3, .slice A4 t.f4.length c4] 25)).alloc (.cells #[.func (.func F) #[] cap] 50)).alloc (.cells #[.int .i64 0, .string ⟨#[]⟩, .string ⟨#[]⟩, .slice none 0 0, .slice none 0 0] 25)).alloc (.cells #[.int .i64 0, .string ⟨#[]⟩, .string ⟨#[]⟩, .slice none 0 0, .slice none 0 0] 25) := ⟨_, rfl⟩
  obtain ⟨hsz, hB0, hk0, hk1, hk2, hk3⟩ := four_boxes w (.cells #[.int .i64 t.f0, .string t.f1, .string t.f2, .slice A3 t.f3.length c3, .slice A4 t.f4.length c4] 25) (.cells #[.func (.func F) #[] cap] 50) (.cells #[.int .i64 0, .string ⟨#[]⟩, .string ⟨#[]⟩, .slice none 0 0, .slice none 0 0] 25) (.cells #[.int .i64 0, .string ⟨#[]⟩, .string ⟨#[]⟩, .slice none 0 0, .slice none 0 0] 25)
  rw [← hW0] at hsz hB0 hk0 hk1 hk2 hk3
  have hB1 : Below W0.heap.size W0 (W0.alloc (.cells #[.bool false] 4)) := below_alloc (Below.refl _ _) _
  have hB01 := below_step hB0 hB1
  have HG := Aside0.mk (Guard.guarded_calls 64 #[.pointer (some ⟨w.heap.size, 0, none⟩), .pointer (some ⟨w.heap.size + 1, 0, none⟩), .pointer (some ⟨w.heap.size + 3, 0, none⟩)] W0 (fun w' => ∃ u, P u ∧ Boxed (W0.alloc (.cells #[.bool false] 4)) w' (w.heap.size + 3) u) enters_beh1
    ((beh1_calls F cap hF P t ht _ w.heap.size (w.heap.size + 1) (w.heap.size + 3) A3 c3 A4 c4 ((hB1.block _ (by omega)).trans hk0) ((hB1.block _ (by omega)).trans hk1) ((hB1.block _ (by omega)).trans hk3) (Kd.C_below h3 hB01) l3 (Kd.C_below h4 hB01) l4
      (fun W D r hW hno hd hr hto => hdo W D r (by refine below_step hB0 (Below.trans hB1 ?_); exact hW.mono (by rw [push_size]; omega)) (fun k hk => hno k (by rw [push_size]; omega)) hd hr hto)).mono fun e w' h => by
        obtain ⟨rfl, u, hu, hx⟩ := h
        refine ⟨rfl, ?_, u, hu, hx⟩
        obtain ⟨_, _, _, _, _, _, _, _, _, ho, _, _⟩ := hx
        exact (ho.block _ (by rw [push_size]; omega) (put_none _ _ (by omega))).trans (heap_alloc_new W0 _)))
  have HZ := Aside0.mk hsz
  have HB0 := Aside0.mk hB0
  have K2 := Aside0.mk hk2
  clear hdo ht h3 h4 l3 l4 hB1 hB01 hk0 hk1 hk2 hk3 hsz hB0
  go_enter Try.func33, Try.ntmps33
  go_wp2_with fail
  rw [← hW0]
  refine HG.out.mono ?_
  rintro e w2 ⟨rfl, w3, ⟨u, hu, A5, c5, A6, c6, hbx, m5, F5, m6, F6, ho, R5, N6⟩, hbad, rfl⟩
  have hz := HZ.out
  have hbx2 : (w3.setCell ⟨W0.heap.size, 0, none⟩ (.bool false)).heap[w.heap.size + 3]? = _ := (Below.heap_setCell w3 ⟨W0.heap.size, 0, none⟩ _ (w.heap.size + 3) (by show _ ≠ W0.heap.size; omega)).trans hbx
  have r0 := blk_cell hbx2 0
  have r1 := blk_cell hbx2 1
  have r2 := blk_cell hbx2 2
  have r3 := blk_cell hbx2 3
  have r4 := blk_cell hbx2 4
  have hk2 : (w3.setCell ⟨W0.heap.size, 0, none⟩ (.bool false)).heap[w.heap.size + 2]? = _ := (Below.heap_setCell w3 ⟨W0.heap.size, 0, none⟩ _ (w.heap.size + 2) (by show _ ≠ W0.heap.size; omega)).trans ((ho.block _ (by rw [push_size]; omega) (put_none _ _ (by omega))).trans ((heap_alloc_old W0 _ (by omega)).trans K2.out))
  have f0 := blk_frozen hk2 0
  have f1 := blk_frozen hk2 1
  have f2 := blk_frozen hk2 2
  have f3 := blk_frozen hk2 3
  have f4 := blk_frozen hk2 4
  have q0 := blk_cell hk2 0
  have q1 := blk_cell hk2 1
  have q2 := blk_cell hk2 2
  have q3 := blk_cell hk2 3
  have q4 := blk_cell hk2 4
  have hon : Below w.heap.size w w3 := HB0.out.trans ⟨ho.os, ho.tape, ho.output, by have := ho.size; rw [push_size] at this; omega, fun k hk => (ho.block k (by rw [push_size]; omega) (put_none _ _ (by omega))).trans (heap_alloc_old W0 _ (by omega))⟩
  have hw4 : ∃ w4, w4 = w3.setCell ⟨W0.heap.size, 0, none⟩ (.bool false) := ⟨_, rfl⟩
  obtain ⟨w4, hw4⟩ := hw4
  have hs4 : ∀ k, k ≠ W0.heap.size → w4.heap[k]? = w3.heap[k]? := fun k hk => by rw [hw4]; exact Below.heap_setCell w3 ⟨W0.heap.size, 0, none⟩ _ k hk
  have hon4 : Below w.heap.size w w4 := by rw [hw4]; exact hon.setCell (p := ⟨W0.heap.size, 0, none⟩) (by show _ ≤ W0.heap.size; omega) _
  rw [← hw4] at r0 r1 r2 r3 r4 f0 f1 f2 f3 f4 q0 q1 q2 q3 q4 ⊢
  clear hw4
  have HTO := Aside0.mk (show Told w (((((w4.setCell ⟨w.heap.size + 2, 0, none⟩ (.int .i64 u.f0)).setCell ⟨w.heap.size + 2, 1, none⟩ (.string u.f1)).setCell ⟨w.heap.size + 2, 2, none⟩ (.string u.f2)).setCell ⟨w.heap.size + 2, 3, none⟩ (.slice A5 u.f3.length c5)).setCell ⟨w.heap.size + 2, 4, none⟩ (.slice A6 u.f4.length c6)) u (.returned (.agg #[.int .i64 u.f0, .string u.f1, .string u.f2, .slice A5 u.f3.length c5, .slice A6 u.f4.length c6])) from
    ⟨A5, c5, A6, c6, rfl, m5, Kd.F_mono (Kd.F_step F5 (fun k hk _ => (sets5 w4 _ _ _ _ _ _ k (by rw [push_size] at hk; omega)).trans (hs4 k (by rw [push_size] at hk; omega)))) (fun k hk => by rw [push_size] at hk; omega), m6, Kd.F_mono (Kd.F_step F6 (fun k hk _ => (sets5 w4 _ _ _ _ _ _ k (by rw [push_size] at hk; omega)).trans (hs4 k (by rw [push_size] at hk; omega)))) (fun k hk => by rw [push_size] at hk; omega),
      ((((hon4.setCell (p := ⟨w.heap.size + 2, 0, none⟩) (by show _ ≤ w.heap.size + 2; omega) _).setCell (p := ⟨w.heap.size + 2, 1, none⟩) (by show _ ≤ w.heap.size + 2; omega) _).setCell (p := ⟨w.heap.size + 2, 2, none⟩) (by show _ ≤ w.heap.size + 2; omega) _).setCell (p := ⟨w.heap.size + 2, 3, none⟩) (by show _ ≤ w.heap.size + 2; omega) _).setCell (p := ⟨w.heap.size + 2, 4, none⟩) (by show _ ≤ w.heap.size + 2; omega) _,
      Kd.R_lower (Kd.R_mono (Kd.R_step R5 (fun k hk _ => (sets5 w4 _ _ _ _ _ _ k (by rw [push_size] at hk; omega)).trans (hs4 k (by rw [push_size] at hk; omega)))) (fun k hk => by rw [push_size] at hk; omega)) (by rw [push_size]; omega), Kd.N_lower (Kd.N_mono (Kd.N_step N6 (fun k hk _ => (sets5 w4 _ _ _ _ _ _ k (by have h1 := hk.1; rw [push_size] at h1; omega)).trans (hs4 k (by have h1 := hk.1; rw [push_size] at h1; omega)))) (fun k hk => ⟨by have h1 := hk.1; rw [push_size] at h1; omega, hk.2⟩)) (by rw [push_size]; omega)⟩)
  have HU := Aside0.mk hu
  clear hbx hbx2 F5 F6 R5 N6 m5 m6 ho hbad hon hon4 hs4 hz HG hu hk2
  go_wp2_with fail
  refine bodyPost_ret (v := .agg #[.int .i64 u.f0, .string u.f1, .string u.f2, .slice A5 u.f3.length c5, .slice A6 u.f4.length c6]) (by simp [results, Try.results33, go_sem, q0, q1, q2, q3, q4]) rfl ?_
  exact ⟨u, HU.out, HTO.out⟩
/-- The result, stored in a box of the caller's and read back. -/
theorem told_box {w W0 w2 : World} {u : T} {b : Nat} {A5 A6 : Option Addr} {c5 c6 : Nat} (hb0 : Below w.heap.size w W0) (hb : w.heap.size ≤ b) (hlt : b < W0.heap.size) (m5 : u.f3.length ≤ c5) (F5 : Kd.F k53 w2 (fun k => W0.heap.size ≤ k) A5 u.f3.length u.f3) (m6 : u.f4.length ≤ c6) (F6 : Kd.F k25 w2 (fun k => W0.heap.size ≤ k) A6 u.f4.length u.f4) (hB : Below W0.heap.size W0 w2)
    (R5 : Kd.R k53 53 w2 W0.heap.size (fun k => W0.heap.size ≤ k) (.slice A5 u.f3.length c5) u.f3) (N6 : Kd.N k25 25 w2 W0.heap.size (fun k => W0.heap.size ≤ k ∧ some k ≠ (Value.slice A5 u.f3.length c5).ownBlock) (.slice A6 u.f4.length c6) u.f4) (a0 a1 a2 a3 a4 : Value) :
    Told w (((((w2.setCell ⟨b, 0, none⟩ a0).setCell ⟨b, 1, none⟩ a1).setCell ⟨b, 2, none⟩ a2).setCell ⟨b, 3, none⟩ a3).setCell ⟨b, 4, none⟩ a4) u (.returned (.agg #[.int .i64 u.f0, .string u.f1, .string u.f2, .slice A5 u.f3.length c5, .slice A6 u.f4.length c6])) := by
  have hs := fun k (hk : k ≠ b) => sets5 w2 b a0 a1 a2 a3 a4 k hk
  have hle := hb0.size
  exact ⟨A5, c5, A6, c6, rfl, m5, Kd.F_mono (Kd.F_step F5 (fun k hk _ => hs k (by omega))) (fun k hk => by omega), m6, Kd.F_mono (Kd.F_step F6 (fun k hk _ => hs k (by omega))) (fun k hk => by omega),
    (((((below_step hb0 hB).setCell (p := ⟨b, 0, none⟩) hb _).setCell (p := ⟨b, 1, none⟩) hb _).setCell (p := ⟨b, 2, none⟩) hb _).setCell (p := ⟨b, 3, none⟩) hb _).setCell (p := ⟨b, 4, none⟩) hb _,
    Kd.R_lower (Kd.R_mono (Kd.R_step R5 (fun k hk _ => hs k (by omega))) (fun k hk => by omega)) hle, Kd.N_lower (Kd.N_mono (Kd.N_step N6 (fun k hk _ => hs k (by have := hk.1; omega))) (fun k hk => ⟨by have := hk.1; omega, hk.2⟩)) hle⟩
end Go.Proofs.Ytmfjbljdbkmkgaa.Dom

/- domutils.RemoveRedundant over a tree. -/
namespace Go.Proofs.Ytmfjbljdbkmkgaa.Dom
open Go.RowKit Go.Proofs.YtmfjbljdbkmkgaaW.PrintWords Go.Proofs.YtmfjbljdbkmkgaaW.PrintLast Go.Proofs.YtmfjbljdbkmkgaaW.PrintMore Go.Proofs.Ytmfjbljdbkmkgaa.PDom
set_option linter.unusedVariables false
set_option linter.unusedSimpArgs false

/-- An element of one of some names. -/
def mt (names : List ByteArray) (r : RT) : Bool := r.ty == 3 && names.any fun s => r.data.toList == s.toList
/-! ### Up from a node -/
/-- The node above the one that stands i steps below the root. -/
def upId (r : RT) (l : List Int) : Nat → Option Nat
  | 0 => none
  | i + 1 => (r.at_ (l.take i)).map RT.id
theorem take_snocI {l : List Int} {i : Nat} (h : i < l.length) : l.take (i + 1) = l.take i ++ [l[i]] := List.take_succ_eq_append_getElem h
theorem up_cell {w : World} {D : Tab} (hdom : Dom w D) {r z : RT} {l : List Int} {i : Nat} (hr : Is D none r) (hi : i ≤ l.length) (hz : r.at_ (l.take i) = some z) : w.cell? ⟨z.id, 0, none⟩ = some (ptr (upId r l i)) := by
  cases i with
  | zero =>
    obtain rfl : r = z := by simpa [RT.at_] using hz
    have := parent_cell hdom hr.root
    rw [info_p] at this
    exact this
  | succ i =>
    rw [take_snocI (by omega), at_append] at hz
    obtain ⟨up, hu, e⟩ := Option.bind_eq_some_iff.1 hz
    obtain ⟨_, k, hk, e2⟩ := at_cons e
    obtain rfl : k = z := by simpa [RT.at_] using e2
    have := kid_cell hdom hr hu (List.mem_of_getElem? hk)
    rw [this]
    show some _ = some (ptr ((r.at_ (l.take i)).map RT.id))
    rw [hu]
    rfl
end Go.Proofs.Ytmfjbljdbkmkgaa.Dom

/- impl.neighbor at the kinds of first children and siblings. Printed in part by the program gen_sibm.py of this session. -/
namespace Go.Proofs.Ytmfjbljdbkmkgaa.PDom
open Go.RowKit Go.Proofs.YtmfjbljdbkmkgaaW.PrintWords Go.Proofs.YtmfjbljdbkmkgaaW.PrintLast Go.Proofs.YtmfjbljdbkmkgaaW.PrintMore Go.Proofs.Ytmfjbljdbkmkgaa.Dom
set_option linter.unusedVariables false
set_option linter.unusedSimpArgs false

theorem last_split (path : List Int) (j : Int) (h : path.getLast? = some j) : path = path.dropLast ++ [j] := by
  obtain ⟨l, rfl⟩ := List.getLast?_eq_some_iff.1 h
  simp
/-- The node at a place that isn't the root: its parent, and its number among the children. -/
theorem at_last {r x : RT} {path : List Int} {j : Int} (hx : r.at_ path = some x) (hj : path.getLast? = some j) : ∃ up, r.at_ path.dropLast = some up ∧ 0 ≤ j ∧ ∃ h : j.toNat < up.kids.length, up.kids[j.toNat] = x := by
  have e := last_split path j hj
  rw [e, at_append] at hx
  obtain ⟨up, h1, h2⟩ := Option.bind_eq_some_iff.1 hx
  refine ⟨up, h1, ?_⟩
  simp only [RT.at_] at h2
  by_cases h0 : 0 ≤ j
  · rw [if_pos h0] at h2
    obtain ⟨y, h3, h4⟩ := Option.bind_eq_some_iff.1 h2
    obtain rfl := Option.some.inj h4
    obtain ⟨h5, h6⟩ := List.getElem?_eq_some_iff.1 h3
    exact ⟨h0, h5, h6⟩
  · rw [if_neg h0] at h2
    cases h2
end Go.Proofs.Ytmfjbljdbkmkgaa.PDom

/- impl.Replaced: a tree with another one in a node's place. -/
namespace Go.Proofs.Ytmfjbljdbkmkgaa.PDom
open Go.RowKit Go.Proofs.YtmfjbljdbkmkgaaW.PrintWords Go.Proofs.YtmfjbljdbkmkgaaW.PrintLast Go.Proofs.YtmfjbljdbkmkgaaW.PrintMore Go.Proofs.Ytmfjbljdbkmkgaa.Dom
set_option linter.unusedVariables false
set_option linter.unusedSimpArgs false

theorem is_into {D D' : Tab} {p : Option Nat} {r : RT} (hs : ∀ b i, D b = some i → D' b = some i) (h : Is D p r) : Is D' p r := by
  induction h with
  | mk p i t a d at_ ks h hk ih => exact Is.mk p i t a d at_ ks (hs _ _ h) ih
theorem is_mem {D : Tab} (r : RT) : ∀ {p : Option Nat}, Is D p r → ∀ b ∈ r.pre, D b ≠ none := by
  induction r using RT.induct with
  | h i t a d at_ ks ih =>
    intro p h b hb
    have hroot : D i = some _ := h.root
    rcases List.mem_cons.1 (show b ∈ i :: RT.preL ks from hb) with rfl | hb
    · rw [hroot]; simp
    · obtain ⟨k, hk, hbk⟩ := RT.mem_preL.1 hb
      exact ih k hk (h.kid hk) b hbk
/-- A tree that has been made beside a table. -/
theorem beside {W W1 : World} {D D2 : Tab} {b : Nat} {t tw : T} {r : RT} (hdom : Dom W D) (hr : Is D none r) (hm : Made W W1 b D2 tw) :
    ∃ y, y.id = b ∧ TellsT tw y ∧ Dom W1 (uni D D2) ∧ Is (uni D D2) none r ∧ Is (uni D D2) none y ∧ y.id ∉ r.pre ∧ (∀ k, k < W.heap.size → D k = none → uni D D2 k = none) := by
  have hge : ∀ y, D2 y ≠ none → W.heap.size ≤ y := hm.fresh
  have hd : ∀ y, D y ≠ none → D2 y = none := by
    intro y hy
    cases hc : D2 y with
    | none => rfl
    | some q =>
      have := hge y (by rw [hc]; simp)
      have := hdom.lt hy
      omega
  have hd' : ∀ y, D2 y ≠ none → D y = none := by
    intro y hy
    cases hc : D y with
    | none => rfl
    | some q => exact absurd (hd y (by rw [hc]; simp)) hy
  obtain ⟨i0, hi0⟩ : ∃ i, D2 b = some i := by
    obtain ⟨_, _, i, h, _⟩ := hm.tree
    exact ⟨i, h⟩
  obtain ⟨y, rfl, hy, hto⟩ := hm.tree.rt hm.dom.wf i0 hi0
  rw [hm.root i0 hi0] at hy
  refine ⟨y, rfl, hto, (hdom.below hm.below).union hm.dom hd, is_into (fun b i h => uni_left h) hr, is_into (fun b i h => by rw [uni_right (hd' b (by rw [h]; simp)), h]) hy, fun hmem => ?_, fun k hk hn => ?_⟩
  · have h1 := hdom.lt (is_mem r hr _ hmem)
    have h2 := hge y.id (by rw [hi0]; simp)
    omega
  · rw [uni_right hn]
    cases hc : D2 k with
    | none => rfl
    | some q => have := hge k (by rw [hc]; simp); omega
/-- The parts of a tree at a place below its root. -/
theorem place_parts {r x : RT} {path : List Int} {j : Int} (hx : r.at_ path = some x) (hj : path.getLast? = some j) : ∃ up k1 k2, r.at_ path.dropLast = some up ∧ up.kids = k1 ++ x :: k2 ∧ k1.length = j.toNat := by
  obtain ⟨up, hu, h0, hlt, he⟩ := at_last hx hj
  refine ⟨up, up.kids.take j.toNat, up.kids.drop (j.toNat + 1), hu, ?_, by rw [List.length_take]; omega⟩
  rw [← he]
  exact (List.take_append_drop j.toNat up.kids).symm.trans (by rw [List.drop_eq_getElem_cons hlt])
end Go.Proofs.Ytmfjbljdbkmkgaa.PDom

/- Trees as plain data: their text, which of their nodes stand within one another, whether they are plain (elements, texts, comments); and the same of trees of nodes. Plain facts. -/
namespace Go.Proofs.Ytmfjbljdbkmkgaa.Dom
open Go.RowKit Go.Proofs.YtmfjbljdbkmkgaaW.PrintWords Go.Proofs.YtmfjbljdbkmkgaaW.PrintLast Go.Proofs.YtmfjbljdbkmkgaaW.PrintMore Go.Proofs.Ytmfjbljdbkmkgaa.PDom
set_option linter.unusedVariables false
set_option linter.unusedSimpArgs false

mutual
def txT : T → List UInt8
  | ⟨k, _, x, _, ks⟩ => if k = 1 then x.data.toList else txTL ks
def txTL : List T → List UInt8
  | [] => []
  | k :: ks => txT k ++ txTL ks
end
theorem txT_eq (t : T) : txT t = if t.f0 = 1 then t.f2.data.toList else txTL t.f4 := by cases t; rfl
/-- An element of one of some names. -/
def isT (names : List ByteArray) (t : T) : Bool := t.f0 == 0 && names.any fun s => t.f1.toList == s.toList
/-! ### Taken out, all at once -/
theorem own_nil {m : RT → Bool} (hO : Own m) (i : Nat) (t a : Int) (d : ByteArray) (at_ : List (ByteArray × ByteArray)) (ks : List RT) : m (.node i t a d at_ []) = m (.node i t a d at_ ks) := hO (.node i t a d at_ ks) []
theorem isT_node (names : List ByteArray) (k : Int) (n x : ByteArray) (as_ as2 : List At) (ks ks2 : List T) : isT names ⟨k, n, x, as_, ks⟩ = isT names ⟨k, n, x, as2, ks2⟩ := rfl
/-! ### Plain trees -/
mutual
def okT : T → Bool
  | ⟨k, n, x, as_, ks⟩ => ((((k == 1 || k == 2) && (n.size == 0 && (as_.isEmpty && ks.isEmpty))) || (k == 0 && x.size == 0)) && (decide (as_.length ≤ 4398046510976) && decide (ks.length ≤ 4398046510976))) && okTL ks
def okTL : List T → Bool
  | [] => true
  | k :: ks => okT k && okTL ks
end
theorem okTL_iff : ∀ {l : List T}, okTL l = true ↔ ∀ k ∈ l, okT k = true
  | [] => by simp [okTL]
  | k :: ks => by
    rw [okTL, Bool.and_eq_true, okTL_iff (l := ks)]
    simp
theorem size_zero {a : ByteArray} (h : a.size = 0) : a = ⟨#[]⟩ := by
  cases a with
  | mk d =>
    have : d = #[] := Array.eq_empty_of_size_eq_zero h
    rw [this]
theorem okT_open {t : T} (h : okT t = true) : NodeOk false t ∧ t.f3.length ≤ 4398046510976 ∧ t.f4.length ≤ 4398046510976 ∧ ∀ k ∈ t.f4, okT k = true := by
  cases t with
  | mk k n x as_ ks =>
    rw [okT] at h
    simp only [Bool.and_eq_true, Bool.or_eq_true, beq_iff_eq, decide_eq_true_eq, List.isEmpty_iff] at h
    obtain ⟨⟨h1, h2, h3⟩, h4⟩ := h
    refine ⟨?_, h2, h3, okTL_iff.1 h4⟩
    rcases h1 with ⟨h5, h6, h7, h8⟩ | ⟨h5, h6⟩
    · exact .inl ⟨h5, size_zero h6, h7, h8⟩
    · exact .inr (.inr ⟨h5, size_zero h6⟩)
theorem okT_mk {t : T} (h : NodeOk false t) (h3 : t.f3.length ≤ 4398046510976) (h4 : t.f4.length ≤ 4398046510976) (hk : ∀ k ∈ t.f4, okT k = true) : okT t = true := by
  cases t with
  | mk k n x as_ ks =>
    rw [okT]
    simp only [Bool.and_eq_true, Bool.or_eq_true, beq_iff_eq, decide_eq_true_eq, List.isEmpty_iff]
    refine ⟨⟨?_, h3, h4⟩, okTL_iff.2 hk⟩
    rcases h with ⟨a, b, c, d⟩ | ⟨_, b, _⟩ | ⟨a, b⟩
    · exact .inl ⟨a, by rw [show n = ⟨#[]⟩ from b]; rfl, c, d⟩
    · cases b
    · exact .inr ⟨a, by rw [show x = ⟨#[]⟩ from b]; rfl⟩
theorem T_induct {P : T → Prop} (h : ∀ t : T, (∀ k ∈ t.f4, P k) → P t) : ∀ t, P t := by
  intro t
  generalize hn : SizeOf.sizeOf t = n
  induction n using Nat.strongRecOn generalizing t with
  | _ n ih =>
    refine h t (fun k hk => ih _ ?_ k rfl)
    rw [← hn]
    exact kid_lt hk
theorem ok_norm (t : T) : okT t = true → Norm false t := by
  induction t using T_induct with
  | h t ih =>
    intro h
    obtain ⟨h1, _, _, h4⟩ := okT_open h
    exact ⟨false, t, h1, fun y hy => ih y hy (h4 y hy)⟩
theorem ok_fit (t : T) : okT t = true → Fit t := by
  induction t using T_induct with
  | h t ih =>
    intro h
    obtain ⟨_, h2, h3, h4⟩ := okT_open h
    exact ⟨t, h2, h3, fun y hy => ih y hy (h4 y hy)⟩
theorem Norm.up {t : T} (h : Norm false t) : Norm true t := by
  cases h with
  | mk _ _ h hk =>
    refine ⟨true, t, ?_, hk⟩
    rcases h with h | ⟨_, h, _⟩ | h
    · exact .inl h
    · cases h
    · exact .inr (.inr h)
/-- The nodes of a plain tree. -/
theorem ok_all (r : RT) : ∀ t : T, okT t = true → TellsT t r → RT.All okN r := by
  induction r using RT.induct with
  | h i ty a d at_ ks ih =>
    intro t ht h
    have hn := ok_norm t ht
    obtain ⟨h1, h3, _, h4⟩ := okT_open ht
    obtain ⟨hl, hk⟩ := told_open h hn
    have hty : (ty = 1 ∨ ty = 3 ∨ ty = 4) ∧ at_.length ≤ 4398046510976 := by
      cases h with
      | mk _ _ _ _ ha hl hk =>
        refine ⟨?_, ?_⟩
        · rcases h1 with ⟨(e | e), _⟩ | ⟨_, e, _⟩ | ⟨e, _⟩
          · rw [e]; simp [tyOf]
          · rw [e]; simp [tyOf]
          · cases e
          · rw [e]; simp [tyOf]
        · unfold attrsOf
          split
          · rw [List.length_map]; exact h3
          · simp
    refine ⟨_, ⟨hty.2, hty.1⟩, fun k hk2 => ?_⟩
    obtain ⟨n, hn2, rfl⟩ := List.mem_iff_getElem.1 (show k ∈ ks from hk2)
    exact ih _ hk2 _ (h4 _ (List.getElem_mem (by rw [hl]; exact hn2))) (hk n (by rw [hl]; exact hn2) hn2)
end Go.Proofs.Ytmfjbljdbkmkgaa.Dom

/- spec.Put29: the tree with others in a node's place. -/
namespace Go.Proofs.Ytmfjbljdbkmkgaa.PDom
open Go.RowKit Go.Proofs.YtmfjbljdbkmkgaaW.PrintWords Go.Proofs.YtmfjbljdbkmkgaaW.PrintLast Go.Proofs.YtmfjbljdbkmkgaaW.PrintMore Go.Proofs.Ytmfjbljdbkmkgaa.Dom
set_option linter.unusedVariables false
set_option linter.unusedSimpArgs false

section
variable {w w1 w2 w3 : World} {P : Nat → Prop} {v v1 : Value} {xs ys : List T}
/-- Footprints of what came in are none of an own row. -/
theorem in_apart (hP : ∀ k, P k → k < w.heap.size) (hN : Kd.N k25 25 w1 w.heap.size (fun k => P k ∨ w.heap.size + 2 ≤ k) v xs) : ∀ k, P k → (P k ∨ w.heap.size + 2 ≤ k) ∧ some k ≠ v.ownBlock :=
  fun k hk => ⟨.inl hk, fun e => by have := Kd.N_base hN k e.symm; have := hP k hk; omega⟩
end
/-- An element of a row of trees that is only read. -/
theorem at_F {w : World} {P : Nat → Prop} {A : Option Addr} {n : Nat} {xs : List T} (h : Kd.F k25 w P A n xs) (i : Int) (h0 : 0 ≤ i) (h1 : i < n) : ∃ ad A3 c3 A4 c4, A = some ad ∧ w.cell? (ad.add (i.toNat * 5)) = some (.int .i64 (xs.getD i.toNat z25).f0) ∧ w.cell? ⟨(ad.add (i.toNat * 5)).block, (ad.add (i.toNat * 5)).off + 1, none⟩ = some (.string (xs.getD i.toNat z25).f1) ∧ w.cell? ⟨(ad.add (i.toNat * 5)).block, (ad.add (i.toNat * 5)).off + 2, none⟩ = some (.string (xs.getD i.toNat z25).f2) ∧
    w.cell? ⟨(ad.add (i.toNat * 5)).block, (ad.add (i.toNat * 5)).off + 3, none⟩ = some (.slice A3 (xs.getD i.toNat z25).f3.length c3) ∧ w.cell? ⟨(ad.add (i.toNat * 5)).block, (ad.add (i.toNat * 5)).off + 4, none⟩ = some (.slice A4 (xs.getD i.toNat z25).f4.length c4) ∧
    (xs.getD i.toNat z25).f3.length ≤ c3 ∧ Kd.F k53 w P A3 (xs.getD i.toNat z25).f3.length (xs.getD i.toNat z25).f3 ∧ (xs.getD i.toNat z25).f4.length ≤ c4 ∧ Kd.F k25 w P A4 (xs.getD i.toNat z25).f4.length (xs.getD i.toNat z25).f4 := by
  obtain ⟨ad, cs, rfl, hcl, hK, hcc, _⟩ := Kd.F_get h z25 i h0 h1
  have hc : ∀ j u, cs[j]? = some u → w.cell? (ad.add (i.toNat * 5 + j)) = some u := hcc
  obtain ⟨A3, c3, A4, c4, rfl, l3, g3, l4, g4⟩ := k25_openF hK
  exact ⟨ad, A3, c3, A4, c4, rfl, hc 0 _ rfl, by rw [← add_field _ _ 1 (by omega)]; exact hc 1 _ rfl, by rw [← add_field _ _ 2 (by omega)]; exact hc 2 _ rfl, by rw [← add_field _ _ 3 (by omega)]; exact hc 3 _ rfl, by rw [← add_field _ _ 4 (by omega)]; exact hc 4 _ rfl, l3, g3, l4, g4⟩
/-- The tree's box, the result's box, and the row that is being made. -/
structure PB (w wr : World) (P : Nat → Prop) (c0 : Array Value) (v : Value) (xs : List T) : Prop where
  box : wr.heap[w.heap.size]? = some (.cells c0 25 (0, 0))
  res : wr.heap[w.heap.size + 1]? = some (.cells #[.int .i64 0, .string ⟨#[]⟩, .string ⟨#[]⟩, .slice none 0 0, .slice none 0 0] 25 (0, 0))
  row : Kd.N k25 25 wr w.heap.size (fun k => P k ∨ w.heap.size + 2 ≤ k) v xs
  below : Below w.heap.size w wr
section
variable {w wr w1 w2 w3 : World} {P : Nat → Prop} {c0 : Array Value} {v v1 : Value} {xs ys : List T}
theorem PB.size (h : PB w wr P c0 v xs) : w.heap.size + 2 ≤ wr.heap.size := blk_lt h.res
theorem PB.moved (h : PB w wr P c0 v xs) (hb : Below wr.heap.size wr w1) : PB w w1 P c0 v xs :=
  ⟨(hb.block _ (blk_lt h.box)).trans h.box, (hb.block _ (blk_lt h.res)).trans h.res, Kd.N_below h.row hb, below_step h.below hb⟩
theorem PB.grow (h : PB w wr P c0 v xs) (hP : ∀ k, P k → k < w.heap.size) (ho : Kd.N k25 25 w3 w.heap.size (fun k => P k ∨ w.heap.size + 2 ≤ k) v1 ys) (hb3 : Below w.heap.size w w3) (hg : wr.grownBy w3 v.ownBlock) : PB w w3 P c0 v1 ys := by
  have n0 : some w.heap.size ≠ v.ownBlock := fun e => by
    rcases h.row.1 _ e.symm with h | h
    · have := hP _ h; omega
    · omega
  have n1 : some (w.heap.size + 1) ≠ v.ownBlock := fun e => by
    rcases h.row.1 _ e.symm with h | h
    · have := hP _ h; omega
    · omega
  exact ⟨grown_kept hg h.box n0, grown_kept hg h.res n1, ho, hb3⟩
theorem PB.apart (h : PB w wr P c0 v xs) (hP : ∀ k, P k → k < w.heap.size) : ∀ k, P k → (P k ∨ w.heap.size + 2 ≤ k) ∧ some k ≠ v.ownBlock := in_apart hP h.row
end
end Go.Proofs.Ytmfjbljdbkmkgaa.PDom

/- What laws.inlineTree makes of a tree: its nodes in order, as many as may come, so deep; texts of printed ASCII, names of some. Plain facts. -/
namespace Go.Proofs.Ytmfjbljdbkmkgaa.Dom
open Go.RowKit Go.Proofs.YtmfjbljdbkmkgaaW.PrintWords Go.Proofs.YtmfjbljdbkmkgaaW.PrintLast Go.Proofs.YtmfjbljdbkmkgaaW.PrintMore Go.Proofs.Ytmfjbljdbkmkgaa.PDom Go.Proofs.Ytmfjbljdbkmkgaa.Txt
set_option linter.unusedVariables false
set_option linter.unusedSimpArgs false

/-! ### Names -/
theorem named_some (l : List ByteArray) (hl : l.length ≤ 4611686018427387904) (s : ByteArray) : ∀ (n j k : Nat), j + n = l.length → n < k → spec_Named.l0 k s l (l.length : Int) (j : Int) = some ((l.drop j).any fun x => x.toList == s.toList)
  | 0, j, k, hj, hk => by
    obtain ⟨k, rfl⟩ : ∃ m, k = m + 1 := ⟨k - 1, by omega⟩
    rw [spec_Named.l0, if_neg (by omega), List.drop_eq_nil_of_le (by omega)]
    rfl
  | n + 1, j, k, hj, hk => by
    obtain ⟨k, rfl⟩ : ∃ m, k = m + 1 := ⟨k - 1, by omega⟩
    have hlt : j < l.length := by omega
    have hr : rdOf ByteArray.empty l (j : Int) = l[j] := by simp [rdOf, List.getD_eq_getElem?_getD, List.getElem?_eq_getElem hlt]
    have hw : wrap64 ((j : Int) + 1) = ((j + 1 : Nat) : Int) := by unfold wrap64; omega
    rw [spec_Named.l0, if_pos (by omega), if_pos (by omega), if_pos (by omega), hr, hw, any_dropN hlt]
    by_cases e : l[j].toList = s.toList
    · rw [if_pos e, if_pos (beq_iff_eq.2 e)]
    · rw [if_neg e, if_neg (fun h => e (beq_iff_eq.1 h))]
      exact named_some l hl s n (j + 1) k (by omega) (by omega)
theorem named_f (l : List ByteArray) (hl : l.length ≤ 4611686018427387904) (s : ByteArray) (k : Nat) (hk : l.length < k) : spec_Named.f k l s = some (l.any fun x => x.toList == s.toList) := by
  have := named_some l hl s l.length 0 k (by omega) hk
  rw [List.drop_zero] at this
  exact this
def names14 : List ByteArray := [(⟨#[100, 105, 118]⟩ : ByteArray), (⟨#[112]⟩ : ByteArray), (⟨#[115, 112, 97, 110]⟩ : ByteArray), (⟨#[98]⟩ : ByteArray), (⟨#[115, 116, 114, 111, 110, 103]⟩ : ByteArray), (⟨#[101, 109]⟩ : ByteArray), (⟨#[105]⟩ : ByteArray), (⟨#[97]⟩ : ByteArray), (⟨#[99, 111, 100, 101]⟩ : ByteArray), (⟨#[112, 114, 101]⟩ : ByteArray), (⟨#[98, 114]⟩ : ByteArray), (⟨#[105, 109, 103]⟩ : ByteArray), (⟨#[117, 108]⟩ : ByteArray), (⟨#[108, 105]⟩ : ByteArray)]
def nmC (s : ByteArray) : ByteArray := if (names14.any fun x => x.toList == s.toList) = true then s else rdOf ByteArray.empty names14 ((s.size : Int) % 14)
theorem name_f (s : ByteArray) (k : Nat) (hk : 14 < k) : laws_inlineName.f k s = some (nmC s) := by
  have h1 := named_f names14 (by decide) s k hk
  have h0 : laws_inlineNames.f = some names14 := rfl
  rw [laws_inlineName.f, h0, Option.bind_some, h1, Option.bind_some]
  have hlen : (names14.length : Int) = 14 := rfl
  rw [hlen, if_neg (show ¬ (14 : Int) = 0 by decide), if_pos (show 0 ≤ (s.size : Int) % 14 by omega), if_pos (show (s.size : Int) % 14 < 14 by omega)]
  unfold nmC
  split <;> rfl
theorem nmC_mem (s : ByteArray) : nmC s ∈ names14 := by
  unfold nmC
  split
  · rename_i h
    obtain ⟨x, hx, e⟩ := List.any_eq_true.1 h
    rw [← toList_inj (beq_iff_eq.1 e)]
    exact hx
  · have h1 : ((s.size : Int) % 14).toNat < names14.length := by show _ < 14; omega
    simp only [rdOf, List.getD_eq_getElem?_getD, List.getElem?_eq_getElem h1, Option.getD_some]
    exact List.getElem_mem h1
/-! ### Texts -/
def ascB (s : ByteArray) : ByteArray := (laws_inlineASCII.f 400 s).getD ⟨#[]⟩
theorem asc_f (s : ByteArray) (hs : s.size ≤ 140737488351232) : ∃ r, ascB s = strOfNums r ∧ (∀ k, 301 < k → laws_inlineASCII.f k s = some (ascB s)) ∧ r.length ≤ 300 ∧ Asc r := by
  obtain ⟨r, h1, h2, h3⟩ := ascii s hs
  have e : ascB s = strOfNums r := by unfold ascB; rw [h1 400 (by omega)]; rfl
  exact ⟨r, e, fun k hk => by rw [e]; exact h1 k hk, h2, h3⟩
/-! ### The tree, cut -/
def brN : ByteArray := ⟨#[98, 114]⟩
def imgN : ByteArray := ⟨#[105, 109, 103]⟩
mutual
def cutT (d l : Int) : T → T × Int
  | ⟨k, n, x, _, ks⟩ => if k = 1 then (⟨1, ⟨#[]⟩, ascB x, [], []⟩, l - 1) else if k = 2 then (⟨2, ⟨#[]⟩, ascB x, [], []⟩, l - 1) else
    if nmC n = brN ∨ nmC n = imgN then (⟨0, nmC n, ⟨#[]⟩, [], []⟩, l - 1) else (⟨0, nmC n, ⟨#[]⟩, [], (cutL d (l - 1) ks).1⟩, (cutL d (l - 1) ks).2)
def cutL (d l : Int) : List T → List T × Int
  | [] => ([], l)
  | k :: ks => if 0 < l ∧ 0 < d then ((cutT (d - 1) l k).1 :: (cutL d (cutT (d - 1) l k).2 ks).1, (cutL d (cutT (d - 1) l k).2 ks).2) else cutL d l ks
end
/-- Up to a place, and from there on. -/
theorem cutL_append (d : Int) (a b : List T) : ∀ l, cutL d l (a ++ b) = ((cutL d l a).1 ++ (cutL d (cutL d l a).2 b).1, (cutL d (cutL d l a).2 b).2) := by
  induction a with
  | nil => intro l; rfl
  | cons k a ih =>
    intro l
    rw [List.cons_append, cutL, cutL]
    split
    · rw [ih]
      rfl
    · exact ih l
theorem cutL_one (d l : Int) (k : T) : cutL d l [k] = if 0 < l ∧ 0 < d then ([(cutT (d - 1) l k).1], (cutT (d - 1) l k).2) else ([], l) := by
  rw [cutL]
  split <;> rfl
/-- How many nodes there are, and how many may still come. -/
theorem cut_count (t : T) : ∀ (d l : Int), 0 < l → (countT (cutT d l t).1 : Int) + (cutT d l t).2 = l ∧ 0 ≤ (cutT d l t).2 ∧ (cutT d l t).2 < l := by
  induction t using T_induct with
  | h t ih =>
    intro d l hl
    cases t with
    | mk k n x as_ ks =>
      have hL : ∀ (c : List T), (∀ y ∈ c, y ∈ ks) → ∀ l : Int, 0 ≤ l → (countTL (cutL d l c).1 : Int) + (cutL d l c).2 = l ∧ 0 ≤ (cutL d l c).2 ∧ (cutL d l c).2 ≤ l := by
        intro c
        induction c with
        | nil => intro _ l hl; simp [cutL, countTL]; exact hl
        | cons y c ih2 =>
          intro hm l hl
          rw [cutL]
          split
          · rename_i h0
            obtain ⟨a1, a2, a3⟩ := ih y (hm y (by simp)) (d - 1) l h0.1
            obtain ⟨b1, b2, b3⟩ := ih2 (fun z hz => hm z (by simp [hz])) (cutT (d - 1) l y).2 a2
            simp only [countTL]
            refine ⟨?_, b2, by omega⟩
            push_cast
            omega
          · exact ih2 (fun z hz => hm z (by simp [hz])) l hl
      rw [cutT]
      split
      · simp [countT, countTL]; omega
      · split
        · simp [countT, countTL]; omega
        · split
          · simp [countT, countTL]; omega
          · obtain ⟨a1, a2, a3⟩ := hL ks (fun y hy => hy) (l - 1) (by omega)
            simp only [countT]
            refine ⟨?_, a2, by omega⟩
            push_cast
            omega
theorem cutL_le (d : Int) (c : List T) : ∀ l : Int, 0 ≤ l → 0 ≤ (cutL d l c).2 ∧ (cutL d l c).2 ≤ l := by
  induction c with
  | nil => intro l hl; exact ⟨hl, Int.le_refl _⟩
  | cons y c ih =>
    intro l hl
    rw [cutL]
    split
    · rename_i h0
      obtain ⟨_, a2, a3⟩ := cut_count y (d - 1) l h0.1
      obtain ⟨b2, b3⟩ := ih (cutT (d - 1) l y).2 a2
      exact ⟨b2, by omega⟩
    · exact ih l hl
theorem cutL_len (d : Int) (c : List T) : ∀ l : Int, 0 ≤ l → ((cutL d l c).1.length : Int) ≤ l := by
  induction c with
  | nil => intro l hl; simpa [cutL] using hl
  | cons y c ih =>
    intro l hl
    rw [cutL]
    split
    · rename_i h0
      obtain ⟨_, a2, a3⟩ := cut_count y (d - 1) l h0.1
      have := ih (cutT (d - 1) l y).2 a2
      simp only [List.length_cons]
      push_cast
      omega
    · exact ih l hl
/-- Trees whose texts and rows can be counted. -/
inductive FitX : T → Prop
  | mk (t : T) (h1 : t.f1.size ≤ 140737488351232) (h2 : t.f2.size ≤ 140737488351232) (h3 : t.f3.length ≤ 4398046510976) (h4 : t.f4.length ≤ 4398046510976) (hk : ∀ y ∈ t.f4, FitX y) : FitX t
theorem FitX.fit {t : T} (h : FitX t) : Fit t := by
  induction h with
  | mk t _ _ h3 h4 _ ih => exact ⟨t, h3, h4, ih⟩
/-- What a cut tree is like: plain, its names some of these, its texts ASCII's, none of them long. -/
inductive CutOk : T → Prop
  | text (k : Int) (r : List Int) (hk : k = 1 ∨ k = 2) (hr : Asc r) (hl : r.length ≤ 300) : CutOk ⟨k, ⟨#[]⟩, strOfNums r, [], []⟩
  | elem (n : ByteArray) (ks : List T) (hn : n ∈ names14) (hv : n = brN ∨ n = imgN → ks = []) (hk : ∀ y ∈ ks, CutOk y) : CutOk ⟨0, n, ⟨#[]⟩, [], ks⟩
theorem cut_ok (t : T) : FitX t → ∀ d l, CutOk (cutT d l t).1 := by
  induction t using T_induct with
  | h t ih =>
    intro hf d l
    cases t with
    | mk k n x as_ ks =>
      obtain ⟨_, _, h2, _, _, hk⟩ := hf
      obtain ⟨r, e1, _, e3, e4⟩ := asc_f x h2
      rw [cutT]
      split
      · rw [e1]; exact .text 1 r (.inl rfl) e4 e3
      · split
        · rw [e1]; exact .text 2 r (.inr rfl) e4 e3
        · split
          · exact .elem _ _ (nmC_mem n) (fun _ => rfl) (fun y hy => by simp at hy)
          · rename_i hv
            have hL : ∀ (c : List T), (∀ y ∈ c, y ∈ ks) → ∀ l, ∀ y ∈ (cutL d l c).1, CutOk y := by
              intro c
              induction c with
              | nil => intro _ l y hy; simp [cutL] at hy
              | cons z c ih2 =>
                intro hm l y hy
                rw [cutL] at hy
                split at hy
                · rcases List.mem_cons.1 hy with e | e
                  · rw [e]
                    exact ih z (hm z (by simp)) (hk z (hm z (by simp))) _ _
                  · exact ih2 (fun q hq => hm q (by simp [hq])) _ y e
                · exact ih2 (fun q hq => hm q (by simp [hq])) _ y hy
            exact .elem _ _ (nmC_mem n) (fun h => absurd h hv) (hL ks (fun y hy => hy) _)
theorem countTL_ge (l : List T) : l.length ≤ countTL l := by
  induction l with
  | nil => exact Nat.le_refl _
  | cons k l ih =>
    have := countT_eq k
    rw [countTL, List.length_cons]
    omega
theorem cutOk_ok {t : T} (h : CutOk t) : countT t ≤ 1000000 → okT t = true := by
  induction h with
  | text k r hk hr hl => exact fun _ => okT_mk (.inl ⟨hk, rfl, rfl, rfl⟩) (Nat.zero_le _) (Nat.zero_le _) (fun y hy => by simp at hy)
  | elem n ks hn hv hk ih =>
    intro hc
    rw [countT] at hc
    have h1 := countTL_ge ks
    refine okT_mk (.inr (.inr ⟨rfl, rfl⟩)) (Nat.zero_le _) (by show ks.length ≤ _; omega) (fun y hy => ih y hy ?_)
    have : countT y ≤ countTL ks := by
      clear h1 hc ih hv hk
      have hy' : y ∈ ks := hy
      induction ks with
      | nil => simp at hy'
      | cons z ks ih =>
        rw [countTL]
        rcases List.mem_cons.1 hy' with e | e
        · rw [e]; omega
        · have := ih e e; omega
    omega
end Go.Proofs.Ytmfjbljdbkmkgaa.Dom

/- laws.inlineTree: its contract. -/
namespace Go.Proofs.Ytmfjbljdbkmkgaa.Dom
open Go.RowKit Go.Proofs.YtmfjbljdbkmkgaaW.PrintWords Go.Proofs.YtmfjbljdbkmkgaaW.PrintLast Go.Proofs.YtmfjbljdbkmkgaaW.PrintMore Go.Proofs.Ytmfjbljdbkmkgaa.PDom Go.Proofs.Ytmfjbljdbkmkgaa.Txt
set_option linter.unusedVariables false
set_option linter.unusedSimpArgs false

/-- All is as it was, but for the box of the number that is left. -/
abbrev OnL (lb : Nat) (w w' : World) : Prop := Only (put none_ lb dumI) w w'
theorem OnL.at {lb : Nat} {w w' : World} (h : OnL lb w w') {k : Nat} (hk : k < w.heap.size) (hne : k ≠ lb) : w'.heap[k]? = w.heap[k]? := h.block k hk (put_none lb k hne)
theorem OnL.then {lb : Nat} {w w1 w2 : World} (h : OnL lb w w1) (h2 : OnL lb w1 w2) : OnL lb w w2 := h.trans h2 (fun k hk _ => hk)
theorem OnL.below {lb : Nat} {w w1 w2 : World} (h : OnL lb w w1) (h2 : Below w.heap.size w1 w2) : OnL lb w w2 :=
  ⟨h2.os.trans h.os, h2.tape.trans h.tape, h2.output.trans h.output, Nat.le_trans h.size h2.size, fun k hk hd => (h2.block k hk).trans (h.block k hk hd)⟩
theorem OnL.of {lb : Nat} {w w1 : World} (h : Below w.heap.size w w1) : OnL lb w w1 := ⟨h.os, h.tape, h.output, h.size, fun k hk _ => h.block k hk⟩
theorem OnL.set {lb : Nat} {w w1 : World} (h : OnL lb w w1) (j : Nat) (u : Value) : OnL lb w (w1.setCell ⟨lb, j, none⟩ u) := Only.set h (p := ⟨lb, j, none⟩) (by show put none_ lb dumI lb ≠ none; rw [put_same]; simp) u
def zeroN : Array Value := #[.int .i64 0, .string ⟨#[]⟩, .string ⟨#[]⟩, .slice none 0 0, .slice none 0 0]
/-- The tree that is being made: its box, its row; the result's box; what is left. -/
structure TC (w wr : World) (lb : Nat) (L : Int) (nm : ByteArray) (v4 : Value) (l4 : List T) : Prop where
  box : wr.heap[w.heap.size + 2]? = some (.cells #[.int .i64 0, .string nm, .string ⟨#[]⟩, .slice none 0 0, v4] 25 (0, 0))
  res : wr.heap[w.heap.size + 1]? = some (.cells zeroN 25 (0, 0))
  lbx : wr.heap[lb]? = some (.cells #[.int .i64 L] 3 (0, 0))
  n4 : Kd.N k25 25 wr w.heap.size (fun k => w.heap.size + 3 ≤ k) v4 l4
  on : OnL lb w wr
section
variable {w wr w1 w2 w3 : World} {lb : Nat} {L L' : Int} {nm : ByteArray} {v4 v1 : Value} {l4 : List T}
theorem TC.size (h : TC w wr lb L nm v4 l4) : w.heap.size + 3 ≤ wr.heap.size := blk_lt h.box
theorem TC.moved (h : TC w wr lb L nm v4 l4) (hb : Below wr.heap.size wr w1) : TC w w1 lb L nm v4 l4 :=
  ⟨(hb.block _ (blk_lt h.box)).trans h.box, (hb.block _ (blk_lt h.res)).trans h.res, (hb.block _ (blk_lt h.lbx)).trans h.lbx, Kd.N_below h.n4 hb, h.on.below (hb.mono (by have := h.size; omega))⟩
theorem TC.call (h : TC w w1 lb L nm v4 l4) (hlb : lb < w.heap.size) (ho : OnL lb w1 w2) (hl : w2.heap[lb]? = some (.cells #[.int .i64 L'] 3 (0, 0))) : TC w w2 lb L' nm v4 l4 :=
  ⟨(ho.at (blk_lt h.box) (by omega)).trans h.box, (ho.at (blk_lt h.res) (by omega)).trans h.res, hl, Kd.N_step h.n4 (fun k hk hk2 => ho.at hk2 (by omega)), h.on.then ho⟩
theorem TC.kid (h : TC w w2 lb L nm v4 l4) (hlb : lb < w.heap.size) {p : T} (ho : Kd.N k25 25 w3 w.heap.size (fun k => w.heap.size + 3 ≤ k) v1 (l4 ++ [p])) (hb3 : Below w.heap.size w2 w3) (hg : w2.grownBy w3 v4.ownBlock) :
    w3.cell? ⟨w.heap.size + 2, 4, none⟩ = some v4 ∧ w3.frozen? ⟨w.heap.size + 2, 4, none⟩ = false ∧ TC w (w3.setCell ⟨w.heap.size + 2, 4, none⟩ v1) lb L nm v1 (l4 ++ [p]) := by
  have n2 : some (w.heap.size + 2) ≠ v4.ownBlock := fun e => by have := h.n4.1 _ e.symm; omega
  have n1 : some (w.heap.size + 1) ≠ v4.ownBlock := fun e => by have := h.n4.1 _ e.symm; omega
  have n0 : some lb ≠ v4.ownBlock := fun e => by have := h.n4.1 _ e.symm; omega
  have b3 := grown_kept hg h.box n2
  refine ⟨blk_cell b3 4, blk_frozen b3 4, blk_set b3 4 _, (Below.heap_setCell w3 _ _ _ (by show w.heap.size + 1 ≠ w.heap.size + 2; omega)).trans (grown_kept hg h.res n1), (Below.heap_setCell w3 _ _ _ (by show lb ≠ w.heap.size + 2; omega)).trans (grown_kept hg h.lbx n0), ?_, ?_⟩
  · refine Kd.N_far ho (fun k hk => ?_) _
    show k ≠ w.heap.size + 2
    omega
  · exact h.on.below (Below.setCell hb3 (p := ⟨w.heap.size + 2, 4, none⟩) (by show w.heap.size ≤ w.heap.size + 2; omega) _)
end
/-- What inlineTree returns. -/
def ToldC (w w' : World) (lb : Nat) (L : Int) (u : T) (e : Ending) : Prop := ∃ A4 c4, e = .returned (.agg #[.int .i64 u.f0, .string u.f1, .string u.f2, .slice none 0 0, .slice A4 u.f4.length c4]) ∧ u.f3 = [] ∧ u.f4.length ≤ c4 ∧ Kd.N k25 25 w' w.heap.size (fun k => w.heap.size ≤ k) (.slice A4 u.f4.length c4) u.f4 ∧ OnL lb w w' ∧ w'.heap[lb]? = some (.cells #[.int .i64 L] 3 (0, 0))
theorem cut_end {w w3 : World} {lb : Nat} {L : Int} {u : T} {A4 : Option Addr} {c4 : Nat} (hlb : lb < w.heap.size) (h3 : u.f3 = []) (hr : w.heap.size + 1 < w3.heap.size) (hl : w3.heap[lb]? = some (.cells #[.int .i64 L] 3 (0, 0))) (hon : OnL lb w w3)
    (h4 : Kd.N k25 25 w3 w.heap.size (fun k => w.heap.size + 3 ≤ k) (.slice A4 u.f4.length c4) u.f4) (a0 a1 a2 a3 a4 : Value) :
    ToldC w (((((w3.setCell ⟨w.heap.size + 1, 0, none⟩ a0).setCell ⟨w.heap.size + 1, 1, none⟩ a1).setCell ⟨w.heap.size + 1, 2, none⟩ a2).setCell ⟨w.heap.size + 1, 3, none⟩ a3).setCell ⟨w.heap.size + 1, 4, none⟩ a4) lb L u (.returned (.agg #[.int .i64 u.f0, .string u.f1, .string u.f2, .slice none 0 0, .slice A4 u.f4.length c4])) := by
  have hs := fun k (hk : k ≠ w.heap.size + 1) => sets5 w3 (w.heap.size + 1) a0 a1 a2 a3 a4 k hk
  have hb : Below w.heap.size w3 (((((w3.setCell ⟨w.heap.size + 1, 0, none⟩ a0).setCell ⟨w.heap.size + 1, 1, none⟩ a1).setCell ⟨w.heap.size + 1, 2, none⟩ a2).setCell ⟨w.heap.size + 1, 3, none⟩ a3).setCell ⟨w.heap.size + 1, 4, none⟩ a4) :=
    Below.setCell (Below.setCell (Below.setCell (Below.setCell (Below.setCell (Below.refl _ w3) (p := ⟨w.heap.size + 1, 0, none⟩) (Nat.le_succ _) _) (p := ⟨w.heap.size + 1, 1, none⟩) (Nat.le_succ _) _) (p := ⟨w.heap.size + 1, 2, none⟩) (Nat.le_succ _) _) (p := ⟨w.heap.size + 1, 3, none⟩) (Nat.le_succ _) _) (p := ⟨w.heap.size + 1, 4, none⟩) (Nat.le_succ _) _
  exact ⟨A4, c4, rfl, h3, (Kd.N_reads' h4).2.1, Kd.N_mono (Kd.N_step h4 (fun k hk _ => hs k (by omega))) (fun k hk => by omega), hon.below hb, (hs lb (by omega)).trans hl⟩
theorem fk_cut {W : World} {ok : Nat → Prop} {u : T} {A4 : Option Addr} {c4 : Nat} (h3 : u.f3 = []) (l4 : u.f4.length ≤ c4) (g4 : Kd.F k25 W ok A4 u.f4.length u.f4) : Kd.FK k25 W ok u [.int .i64 u.f0, .string u.f1, .string u.f2, .slice none 0 0, .slice A4 u.f4.length c4] := by
  have := k25_mkF W ok u (A3 := none) (c3 := 0) (by rw [h3]; exact Nat.le_refl _) (by rw [h3]; exact Kd.F_nil _ _ _) l4 g4
  rw [h3] at this
  exact this
/-- The three boxes, and one less left. -/
theorem cut_start {w : World} {lb : Nat} {l l' : Int} (hlb : w.heap[lb]? = some (.cells #[.int .i64 l] 3 (0, 0))) (c0 c1 c2 : Array Value) (W : World) (hW : W = (((w.setCell ⟨lb, 0, none⟩ (.int .i64 l')).alloc (.cells c0 25)).alloc (.cells c1 25)).alloc (.cells c2 25)) :
    W.heap.size = w.heap.size + 3 ∧ W.heap[w.heap.size]? = some (.cells c0 25 (0, 0)) ∧ W.heap[w.heap.size + 1]? = some (.cells c1 25 (0, 0)) ∧ W.heap[w.heap.size + 2]? = some (.cells c2 25 (0, 0)) ∧ W.heap[lb]? = some (.cells #[.int .i64 l'] 3 (0, 0)) ∧ OnL lb w W := by
  have hlt := blk_lt hlb
  obtain ⟨W3, hW3⟩ : ∃ W3, W3 = w.setCell ⟨lb, 0, none⟩ (.int .i64 l') := ⟨_, rfl⟩
  have kl3 : W3.heap[lb]? = some (.cells #[.int .i64 l'] 3 (0, 0)) := by rw [hW3]; exact blk_set hlb 0 _
  have hs3 : W3.heap.size = w.heap.size := by rw [hW3]; simp [World.setCell]
  have o3 : OnL lb w W3 := by rw [hW3]; exact (OnL.of (Below.refl _ w)).set 0 _
  rw [← hW3] at hW
  have e : W.heap = ((W3.heap.push (.cells c0 25 (0, 0))).push (.cells c1 25 (0, 0))).push (.cells c2 25 (0, 0)) := by rw [hW]; rfl
  have b4 : Below W3.heap.size W3 W := by rw [hW]; exact below_alloc (below_alloc (below_alloc (Below.refl _ _) _) _) _
  refine ⟨by rw [e]; simp [hs3], ?_, ?_, ?_, (b4.block _ (by omega)).trans kl3, o3.below (b4.mono (by omega))⟩ <;> rw [e] <;> simp only [Array.getElem?_push, Array.size_push, hs3] <;> repeat (first | rfl | rw [if_pos trivial] | rw [if_pos (by omega)] | rw [if_neg (by omega)])
end Go.Proofs.Ytmfjbljdbkmkgaa.Dom

/- laws.inlineTree: its walk. -/
namespace Go.Proofs.Ytmfjbljdbkmkgaa.Dom
open Go.RowKit Go.Proofs.YtmfjbljdbkmkgaaW.PrintWords Go.Proofs.YtmfjbljdbkmkgaaW.PrintLast Go.Proofs.YtmfjbljdbkmkgaaW.PrintMore Go.Proofs.Ytmfjbljdbkmkgaa.PDom Go.Proofs.Ytmfjbljdbkmkgaa.Txt
set_option linter.unusedVariables false
set_option linter.unusedSimpArgs false

set_option maxHeartbeats 4000000 in
set_option maxRecDepth 100000 in
theorem cut_calls : ∀ (n : Nat) (t : T), SizeOf.sizeOf t ≤ n → FitX t → ∀ (d l : Int), 0 ≤ d → d ≤ 8 → 0 < l → l ≤ 60 → ∀ (w : World) (lb : Nat) (P : Nat → Prop) (A3 : Option Addr) (c3 : Nat) (A4 : Option Addr) (c4 : Nat), w.heap[lb]? = some (.cells #[.int .i64 l] 3 (0, 0)) → (∀ k, P k → k ≠ lb ∧ k < w.heap.size) → Kd.F k25 w P A4 t.f4.length t.f4 → t.f4.length ≤ c4 →
    Calls Try.prog 31 #[.agg #[.int .i64 t.f0, .string t.f1, .string t.f2, .slice A3 t.f3.length c3, .slice A4 t.f4.length c4], .int .i64 d, .pointer (some ⟨lb, 0, none⟩)] w fun e w' => ToldC w w' lb (cutT d l t).2 (cutT d l t).1 e := by
  intro n
  induction n with
  | zero =>
    intro t h
    cases t
    simp at h
  | succ n ih =>
    intro t hsz hfit d l hd0 hd8 hl0 hl60 w lb P A3 c3 A4 c4 hlb hP h4 l4
    obtain ⟨f0, f1, f2, f3, f4⟩ := t
    simp only at h4 l4 ⊢
    have hlt := blk_lt hlb
    have HSZ := Aside0.mk hsz
    have HFIT := Aside0.mk hfit
    have HP := Aside0.mk hP
    have H4 := Aside0.mk h4
    have L4 := Aside0.mk l4
    have IH := Aside0.mk ih
    have HLB := Aside0.mk hlb
    have hw1 : wrap64 (l - 1) = l - 1 := by unfold wrap64; omega
    have q0 : w.cell? ⟨lb, 0, none⟩ = some (.int .i64 l) := by rw [blk_cell hlb]; rfl
    have qf : w.frozen? ⟨lb, 0, none⟩ = false := blk_frozen hlb 0
    by_cases k1 : f0 = 1 ∨ f0 = 2
    · obtain ⟨W, hW⟩ : ∃ W, W = (((w.setCell ⟨lb, 0, none⟩ (.int .i64 (l - 1))).alloc (.cells #[.int .i64 f0, .string f1, .string f2, .slice A3 f3.length c3, .slice A4 f4.length c4] 25)).alloc (.cells #[.int .i64 0, .string ⟨#[]⟩, .string ⟨#[]⟩, .slice none 0 0, .slice none 0 0] 25)).alloc (.cells #[.int .i64 f0, .string f1, .string f2, .slice none 0 0, .slice none 0 0] 25) := ⟨_, rfl⟩
      obtain ⟨z0, z1, z2, z3, z4, z5⟩ := cut_start (l' := l - 1) hlb _ _ _ W hW
      obtain ⟨r, e1, e2, _, _⟩ := asc_f f2 (by cases hfit with | mk _ h1 h2 h3 h4 hk => exact h2)
      have HA := Aside0.mk (laws_inlineASCII.calls 400 f2 (ascB f2) W (e2 400 (by omega)))
      have Z0 := Aside0.mk z0
      have Z2 := Aside0.mk z2
      have Z4 := Aside0.mk z4
      have Z5 := Aside0.mk z5
      clear hsz hfit h4 l4 ih hP z0 z1 z2 z3 z4 z5 e1 e2 HSZ HFIT HP H4 L4 IH hd0 hd8 hl0 hl60
      rcases k1 with rfl | rfl
      · rw [show (cutT d l ⟨1, f1, f2, f3, f4⟩).2 = l - 1 by rw [cutT, if_pos rfl], show (cutT d l ⟨1, f1, f2, f3, f4⟩).1 = ⟨1, ⟨#[]⟩, ascB f2, [], []⟩ by rw [cutT, if_pos rfl]]
        clear hlb
        go_enter Try.func31, Try.ntmps31
        go_wp2_with fail
        rw [← hW]
        clear hW
        refine HA.out.mono ?_
        rintro e w3 ⟨rfl, hB⟩
        have hb2 := (hB.block _ (blk_lt Z2.out)).trans Z2.out
        have HE := Aside0.mk (fun a0 a1 a2 a3 a4 => cut_end (w := w) (w3 := w3) (u := ⟨1, ⟨#[]⟩, ascB f2, [], []⟩) (A4 := none) (c4 := 0) hlt rfl (blk_lt hb2) ((hB.block _ (blk_lt Z4.out)).trans Z4.out) (Z5.out.below (hB.mono (by have := Z0.out; omega))) (Kd.N_nil _ _ _ _ _) a0 a1 a2 a3 a4)
        have g0 := blk_frozen hb2 0
        have g1 := blk_frozen hb2 1
        have g2 := blk_frozen hb2 2
        have g3 := blk_frozen hb2 3
        have g4 := blk_frozen hb2 4
        have p0 := blk_cell hb2 0
        have p1 := blk_cell hb2 1
        have p2 := blk_cell hb2 2
        have p3 := blk_cell hb2 3
        have p4 := blk_cell hb2 4
        clear hb2 hB HA
        go_wp2_with fail
        refine bodyPost_ret (v := .agg #[.int .i64 1, .string ⟨#[]⟩, .string (ascB f2), .slice none 0 0, .slice none 0 0]) (by simp [results, Try.results31, go_sem, p0, p1, p2, p3, p4]) rfl ?_
        exact HE.out _ _ _ _ _
      · rw [show (cutT d l ⟨2, f1, f2, f3, f4⟩).2 = l - 1 by rw [cutT, if_neg (by decide), if_pos rfl], show (cutT d l ⟨2, f1, f2, f3, f4⟩).1 = ⟨2, ⟨#[]⟩, ascB f2, [], []⟩ by rw [cutT, if_neg (by decide), if_pos rfl]]
        clear hlb
        go_enter Try.func31, Try.ntmps31
        go_wp2_with fail
        rw [← hW]
        clear hW
        refine HA.out.mono ?_
        rintro e w3 ⟨rfl, hB⟩
        have hb2 := (hB.block _ (blk_lt Z2.out)).trans Z2.out
        have HE := Aside0.mk (fun a0 a1 a2 a3 a4 => cut_end (w := w) (w3 := w3) (u := ⟨2, ⟨#[]⟩, ascB f2, [], []⟩) (A4 := none) (c4 := 0) hlt rfl (blk_lt hb2) ((hB.block _ (blk_lt Z4.out)).trans Z4.out) (Z5.out.below (hB.mono (by have := Z0.out; omega))) (Kd.N_nil _ _ _ _ _) a0 a1 a2 a3 a4)
        have g0 := blk_frozen hb2 0
        have g1 := blk_frozen hb2 1
        have g2 := blk_frozen hb2 2
        have g3 := blk_frozen hb2 3
        have g4 := blk_frozen hb2 4
        have p0 := blk_cell hb2 0
        have p1 := blk_cell hb2 1
        have p2 := blk_cell hb2 2
        have p3 := blk_cell hb2 3
        have p4 := blk_cell hb2 4
        clear hb2 hB HA
        go_wp2_with fail
        refine bodyPost_ret (v := .agg #[.int .i64 2, .string ⟨#[]⟩, .string (ascB f2), .slice none 0 0, .slice none 0 0]) (by simp [results, Try.results31, go_sem, p0, p1, p2, p3, p4]) rfl ?_
        exact HE.out _ _ _ _ _
    · have kk1 : f0 ≠ 1 := fun e => k1 (.inl e)
      have kk2 : f0 ≠ 2 := fun e => k1 (.inr e)
      have d1 : decide (f0 = 1) = false := decide_eq_false kk1
      have d2 : decide (f0 = 2) = false := decide_eq_false kk2
      have b1 : (f0 == 1) = false := beq_eq_false_iff_ne.2 kk1
      have b2 : (f0 == 2) = false := beq_eq_false_iff_ne.2 kk2
      obtain ⟨W, hW⟩ : ∃ W, W = (((w.setCell ⟨lb, 0, none⟩ (.int .i64 (l - 1))).alloc (.cells #[.int .i64 f0, .string f1, .string f2, .slice A3 f3.length c3, .slice A4 f4.length c4] 25)).alloc (.cells #[.int .i64 0, .string ⟨#[]⟩, .string ⟨#[]⟩, .slice none 0 0, .slice none 0 0] 25)).alloc (.cells #[.int .i64 f0, .string f1, .string f2, .slice none 0 0, .slice none 0 0] 25) := ⟨_, rfl⟩
      obtain ⟨z0, z1, z2, z3, z4, z5⟩ := cut_start (l' := l - 1) hlb _ _ _ W hW
      have HA := Aside0.mk (laws_inlineName.calls 20 f1 (nmC f1) W (name_f f1 20 (by omega)))
      have Z0 := Aside0.mk z0
      have Z1 := Aside0.mk z1
      have Z2 := Aside0.mk z2
      have Z3 := Aside0.mk z3
      have Z4 := Aside0.mk z4
      have Z5 := Aside0.mk z5
      have HC := Aside0.mk (show (cutT d l ⟨f0, f1, f2, f3, f4⟩).1 = (if nmC f1 = brN ∨ nmC f1 = imgN then ⟨0, nmC f1, ⟨#[]⟩, [], []⟩ else ⟨0, nmC f1, ⟨#[]⟩, [], (cutL d (l - 1) f4).1⟩) ∧ (cutT d l ⟨f0, f1, f2, f3, f4⟩).2 = (if nmC f1 = brN ∨ nmC f1 = imgN then l - 1 else (cutL d (l - 1) f4).2) from by
        rw [cutT, if_neg kk1, if_neg kk2]
        split <;> exact ⟨rfl, rfl⟩)
      have HD0 := Aside0.mk hd0
      have HD8 := Aside0.mk hd8
      have HL60 := Aside0.mk hl60
      have HL0 := Aside0.mk hl0
      clear hsz hfit h4 l4 ih hP hlb z0 z1 z2 z3 z4 z5 k1 kk1 kk2 hd0 hd8 hl0 hl60
      go_enter Try.func31, Try.ntmps31
      go_wp2_with fail
      rw [← hW]
      clear hW
      refine HA.out.mono ?_
      rintro e w3 ⟨rfl, hB⟩
      have hb2 := (hB.block _ (blk_lt Z3.out)).trans Z3.out
      have HT := Aside0.mk (show TC w (((((w3.setCell ⟨w.heap.size + 1 + 1, 0, none⟩ (.int .i64 0)).setCell ⟨w.heap.size + 1 + 1, 1, none⟩ (.string (nmC f1))).setCell ⟨w.heap.size + 1 + 1, 2, none⟩ (.string ⟨#[]⟩)).setCell ⟨w.heap.size + 1 + 1, 3, none⟩ (.slice none 0 0)).setCell ⟨w.heap.size + 1 + 1, 4, none⟩ (.slice none 0 0)) lb (l - 1) (nmC f1) (.slice none 0 0) [] from by
        have hs := fun k (hk : k ≠ w.heap.size + 2) => sets5 w3 (w.heap.size + 2) (.int .i64 0) (.string (nmC f1)) (.string ⟨#[]⟩) (.slice none 0 0) (.slice none 0 0) k hk
        have hz := Z0.out
        refine ⟨sets5_box hb2 _ _ _ _ _, (hs _ (by omega)).trans ((hB.block _ (blk_lt Z2.out)).trans Z2.out), (hs _ (by omega)).trans ((hB.block _ (blk_lt Z4.out)).trans Z4.out), Kd.N_nil _ _ _ _ _, (Z5.out.below (hB.mono (by omega))).below ?_⟩
        exact Below.setCell (Below.setCell (Below.setCell (Below.setCell (Below.setCell (Below.refl _ w3) (p := ⟨w.heap.size + 2, 0, none⟩) (by show _ ≤ w.heap.size + 2; omega) _) (p := ⟨w.heap.size + 2, 1, none⟩) (by show _ ≤ w.heap.size + 2; omega) _) (p := ⟨w.heap.size + 2, 2, none⟩) (by show _ ≤ w.heap.size + 2; omega) _) (p := ⟨w.heap.size + 2, 3, none⟩) (by show _ ≤ w.heap.size + 2; omega) _) (p := ⟨w.heap.size + 2, 4, none⟩) (by show _ ≤ w.heap.size + 2; omega) _)
      have hbN := (hB.block _ (blk_lt Z1.out)).trans Z1.out
      have HBN := Aside0.mk hbN
      have g0 := blk_frozen hb2 0
      have g1 := blk_frozen hb2 1
      have g2 := blk_frozen hb2 2
      have g3 := blk_frozen hb2 3
      have g4 := blk_frozen hb2 4
      have p0 := blk_cell hb2 0
      have p1 := blk_cell hb2 1
      have p2 := blk_cell hb2 2
      have p3 := blk_cell hb2 3
      have p4 := blk_cell hb2 4
      have r4 := blk_cell hbN 4
      clear hb2 hbN hB HA
      go_upto_region 8 with fail
      have HR4 := Aside0.mk (show (((((w3.setCell ⟨w.heap.size + 1 + 1, 0, none⟩ (.int .i64 0)).setCell ⟨w.heap.size + 1 + 1, 1, none⟩ (.string (nmC f1))).setCell ⟨w.heap.size + 1 + 1, 2, none⟩ (.string ⟨#[]⟩)).setCell ⟨w.heap.size + 1 + 1, 3, none⟩ (.slice none 0 0)).setCell ⟨w.heap.size + 1 + 1, 4, none⟩ (.slice none 0 0)).cell? ⟨w.heap.size, 4, none⟩ = some (.slice A4 f4.length c4) from
        blk_cell ((sets5 w3 (w.heap.size + 2) (.int .i64 0) (.string (nmC f1)) (.string ⟨#[]⟩) (.slice none 0 0) (.slice none 0 0) _ (by omega)).trans HBN.out) 4)
      clear g0 g1 g2 g3 g4 p0 p1 p2 p3 p4 r4 HBN Z0 Z1 Z2 Z3 Z4 Z5
      generalize hW4 : ((((w3.setCell ⟨w.heap.size + 1 + 1, 0, none⟩ (.int .i64 0)).setCell ⟨w.heap.size + 1 + 1, 1, none⟩ (.string (nmC f1))).setCell ⟨w.heap.size + 1 + 1, 2, none⟩ (.string ⟨#[]⟩)).setCell ⟨w.heap.size + 1 + 1, 3, none⟩ (.slice none 0 0)).setCell ⟨w.heap.size + 1 + 1, 4, none⟩ (.slice none 0 0) = W4 at HT HR4 ⊢
      clear hW4
      have r4 := HR4.out
      have o1 : W4.cell? ⟨w.heap.size + 1 + 1, 1, none⟩ = some (.string (nmC f1)) := blk_cell HT.out.box 1
      by_cases hv : nmC f1 = brN ∨ nmC f1 = imgN
      · have hc := HC.out
        rw [if_pos hv, if_pos hv] at hc
        have HC2 := Aside0.mk hc
        clear hc HC
        have o0 : W4.cell? ⟨w.heap.size + 1 + 1, 0, none⟩ = some (.int .i64 0) := blk_cell HT.out.box 0
        have o2 : W4.cell? ⟨w.heap.size + 1 + 1, 2, none⟩ = some (.string ⟨#[]⟩) := blk_cell HT.out.box 2
        have o3 : W4.cell? ⟨w.heap.size + 1 + 1, 3, none⟩ = some (.slice none 0 0) := blk_cell HT.out.box 3
        have o4 : W4.cell? ⟨w.heap.size + 1 + 1, 4, none⟩ = some (.slice none 0 0) := blk_cell HT.out.box 4
        have hr := HT.out.res
        have g0 := blk_frozen hr 0
        have g1 := blk_frozen hr 1
        have g2 := blk_frozen hr 2
        have g3 := blk_frozen hr 3
        have g4 := blk_frozen hr 4
        have p0 := blk_cell hr 0
        have p1 := blk_cell hr 1
        have p2 := blk_cell hr 2
        have p3 := blk_cell hr 3
        have p4 := blk_cell hr 4
        simp only [zeroN] at p0 p1 p2 p3 p4
        have HE := Aside0.mk (fun a0 a1 a2 a3 a4 => cut_end (w := w) (w3 := W4) (u := ⟨0, nmC f1, ⟨#[]⟩, [], []⟩) (A4 := none) (c4 := 0) hlt rfl (blk_lt hr) HT.out.lbx HT.out.on HT.out.n4 a0 a1 a2 a3 a4)
        clear hr HT HR4
        generalize nmC f1 = nm at *
        rcases hv with rfl | rfl
        · simp only [brN] at *
          go_wp2_with fail
          refine bodyPost_ret (v := .agg #[.int .i64 0, .string ⟨#[98, 114]⟩, .string ⟨#[]⟩, .slice none 0 0, .slice none 0 0]) (by simp [results, Try.results31, go_sem, p0, p1, p2, p3, p4]) rfl ?_
          rw [HC2.out.1, HC2.out.2]
          exact HE.out _ _ _ _ _
        · simp only [imgN] at *
          go_wp2_with fail
          refine bodyPost_ret (v := .agg #[.int .i64 0, .string ⟨#[105, 109, 103]⟩, .string ⟨#[]⟩, .slice none 0 0, .slice none 0 0]) (by simp [results, Try.results31, go_sem, p0, p1, p2, p3, p4]) rfl ?_
          rw [HC2.out.1, HC2.out.2]
          exact HE.out _ _ _ _ _
      · have hc := HC.out
        rw [if_neg hv, if_neg hv] at hc
        have HC2 := Aside0.mk hc
        clear hc HC
        have m1 : ((nmC f1).toList == (⟨#[98, 114]⟩ : ByteArray).toList) = false := beq_eq_false_iff_ne.2 (fun e => hv (.inl (toList_inj e)))
        have m2 : ((nmC f1).toList == (⟨#[105, 109, 103]⟩ : ByteArray).toList) = false := beq_eq_false_iff_ne.2 (fun e => hv (.inr (toList_inj e)))
        clear hv
        have x1 : (⟨#[98, 114]⟩ : ByteArray).toList = [98, 114] := (ByteArray.toList_eq _).trans rfl
        have x2 : (⟨#[105, 109, 103]⟩ : ByteArray).toList = [105, 109, 103] := (ByteArray.toList_eq _).trans rfl
        rw [x1] at m1
        rw [x2] at m2
        generalize nmC f1 = nm at *
        clear x1 x2
        go_wp2_with fail
        go_loopw [54] (fun vi wr => ∃ (j : Nat) (v4 : Value), vi = .int .i64 j ∧ j ≤ f4.length ∧ Aside0 (TC w wr lb (cutL d (l - 1) (f4.take j)).2 nm v4 (cutL d (l - 1) (f4.take j)).1)) (fun vi _ => f4.length - (intOf vi).toNat)
        case atStart => exact ⟨0, _, rfl, Nat.zero_le _, HT⟩
        case round =>
          clear HT HR4 r4 m1 m2
          obtain ⟨j, v4, rfl, hj, HT⟩ := hrel
          by_cases hlt2 : j < f4.length
          · have hF := Kd.F_step H4.out (fun k hk hk2 => HT.out.on.at hk2 (HP.out k hk).1)
            obtain ⟨ad, A5, c5, A6, c6, rfl, y0, y1, y2, y3, y4, m3, g3, m4, g4⟩ := at_F hF (j : Int) (by omega) (by omega)
            have he : f4.getD (j : Int).toNat z25 = f4[j] := by simp [List.getD_eq_getElem?_getD, List.getElem?_eq_getElem hlt2]
            rw [he] at y0 y1 y2 y3 y4 m3 g3 m4 g4
            simp only [Int.toNat_natCast] at y0 y1 y2 y3 y4
            have hq : f4[j] ∈ f4 := List.getElem_mem _
            have hfq : FitX f4[j] := by obtain ⟨_, _, _, _, _, hk⟩ := HFIT.out; exact hk _ hq
            have hsq : SizeOf.sizeOf f4[j] ≤ n := by have h1 := kid_lt (t := ⟨f0, f1, f2, f3, f4⟩) hq; have h2 := HSZ.out; omega
            have hsn : cutL d (l - 1) (f4.take (j + 1)) = if 0 < (cutL d (l - 1) (f4.take j)).2 ∧ 0 < d then ((cutL d (l - 1) (f4.take j)).1 ++ [(cutT (d - 1) (cutL d (l - 1) (f4.take j)).2 f4[j]).1], (cutT (d - 1) (cutL d (l - 1) (f4.take j)).2 f4[j]).2) else ((cutL d (l - 1) (f4.take j)).1, (cutL d (l - 1) (f4.take j)).2) := by
              rw [List.take_succ_eq_append_getElem hlt2, cutL_append, cutL_one]
              split <;> simp
            have hL := cutL_le d (f4.take j) (l - 1) (by have := HL0.out; omega)
            have hlen : (cutL d (l - 1) (f4.take j)).1.length ≤ 1000000 := by
              have := cutL_len d (f4.take j) (l - 1) (by have := HL0.out; omega)
              have := HL60.out
              omega
            generalize f4[j] = q at *
            generalize (cutL d (l - 1) (f4.take j)).1 = la at *
            generalize (cutL d (l - 1) (f4.take j)).2 = L at *
            have HWJ := Aside0.mk (wrap_succ j (by obtain ⟨_, _, _, _, ha, _⟩ := HFIT.out; simp only at ha; omega))
            have ql := blk_cell HT.out.lbx 0
            have HSN := Aside0.mk hsn
            have HKC := Aside0.mk (fun (hL0 : 0 < L) (hd1 : 0 < d) wx (hb : Below wr.heap.size wr wx) => IH.out q hsq hfq (d - 1) L (by omega) (by have := HD8.out; omega) hL0 (by have := HL60.out; omega) wx lb P A5 c5 A6 c6 ((hb.block _ (blk_lt HT.out.lbx)).trans HT.out.lbx) (fun k hk => ⟨(HP.out k hk).1, by have h1 := (HP.out k hk).2; have h2 := HT.out.size; have h3 := hb.size; omega⟩) (Kd.F_below g4 hb) m4)
            have HLN := Aside0.mk hlen
            clear he hq hfq hsq hsn hL hF m3 g3 m4 g4 hlen
            have hwd : wrap64 (d - 1) = d - 1 := by have := HD0.out; have := HD8.out; unfold wrap64; omega
            go_upto_region 13 with fail
            have hcp : (wr.alloc (.cells #[.int .i64 q.f0, .string q.f1, .string q.f2, .slice A5 q.f3.length c5, .slice A6 q.f4.length c6] 25)).heap[wr.heap.size]? = some (.cells #[.int .i64 q.f0, .string q.f1, .string q.f2, .slice A5 q.f3.length c5, .slice A6 q.f4.length c6] 25 (0, 0)) := heap_alloc_new wr _
            have HB8 := Aside0.mk (below_alloc (Below.refl wr.heap.size wr) (.cells #[.int .i64 q.f0, .string q.f1, .string q.f2, .slice A5 q.f3.length c5, .slice A6 q.f4.length c6] 25))
            have HTP := Aside0.mk HT.out
            clear HT ql
            generalize wr.alloc (.cells #[.int .i64 q.f0, .string q.f1, .string q.f2, .slice A5 q.f3.length c5, .slice A6 q.f4.length c6] 25) = w8 at hcp HB8 ⊢
            have HT := Aside0.mk (HTP.out.moved HB8.out)
            have ql := blk_cell HT.out.lbx 0
            have HCP := Aside0.mk hcp
            clear hcp y0 y1 y2 y3 y4
            have hwk : IntKind.i64.wrap (d - 1) = d - 1 := by have := HD0.out; have := HD8.out; simp [IntKind.wrap, IntKind.bits, IntKind.signed]; omega
            by_cases hp : 0 < L ∧ 0 < d
            · obtain ⟨hp1, hp2⟩ := hp
              have HSN2 := Aside0.mk (HSN.out.trans (if_pos ⟨hp1, hp2⟩))
              have HKC2 := Aside0.mk (HKC.out hp1 hp2)
              clear HSN HKC
              go_upto_region 14 with fail
              have HDW := Aside0.mk (below_drew (Below.refl w8.heap.size w8))
              have hcd := (HDW.out.block _ (blk_lt HCP.out)).trans HCP.out
              have y0 := blk_cell HCP.out 0
              have y1 := blk_cell HCP.out 1
              have y2 := blk_cell HCP.out 2
              have y3 := blk_cell HCP.out 3
              have y4 := blk_cell HCP.out 4
              have yd0 := blk_cell hcd 0
              have yd1 := blk_cell hcd 1
              have yd2 := blk_cell hcd 2
              have yd3 := blk_cell hcd 3
              have yd4 := blk_cell hcd 4
              have x4 : w8.cell? ⟨w.heap.size + 1 + 1, 4, none⟩ = some v4 := blk_cell HT.out.box 4
              have x4d : w8.drew.cell? ⟨w.heap.size + 1 + 1, 4, none⟩ = some v4 := blk_cell (HT.out.moved HDW.out).box 4
              have HKW := Aside0.mk (HKC2.out _ (below_step HB8.out HDW.out))
              have HTD := Aside0.mk (HT.out.moved HDW.out)
              clear hcd HKC2
              generalize (cutT (d - 1) L q).1 = u at HKW HSN2
              generalize (cutT (d - 1) L q).2 = L2 at HKW HSN2
              have HOK := Aside0.mk (show ∀ k, wr.heap.size ≤ k → w.heap.size + 3 ≤ k ∧ some k ≠ v4.ownBlock from fun k hk => ⟨Nat.le_trans HTP.out.size hk, fun e => by have := Kd.N_lt HTP.out.n4 k e.symm; omega⟩)
              have HAF := Aside0.mk (show ∀ (w2 : World) (A7 : Option Addr) (c7 : Nat), u.f3 = [] → u.f4.length ≤ c7 → Kd.N k25 25 w2 w8.drew.heap.size (fun k => w8.drew.heap.size ≤ k) (.slice A7 u.f4.length c7) u.f4 → OnL lb w8.drew w2 → w2.heap[lb]? = some (.cells #[.int .i64 L2] 3 (0, 0)) →
                  Aside0 (TC w w2 lb L2 nm v4 la) ∧ Aside0 (w.heap.size ≤ w2.heap.size) ∧ Aside0 (Kd.FK k25 w2 (fun k => wr.heap.size ≤ k) u [.int .i64 u.f0, .string u.f1, .string u.f2, .slice none 0 0, .slice A7 u.f4.length c7]) ∧ Aside0 (∀ k, w2.heap.size ≤ k → w.heap.size + 3 ≤ k) ∧ w2.cell? ⟨w.heap.size + 1 + 1, 4, none⟩ = some v4 ∧ (w2.alloc (.cells #[.int .i64 u.f0, .string u.f1, .string u.f2, .slice none 0 0, .slice A7 u.f4.length c7] 25)).cell? ⟨w.heap.size + 1 + 1, 4, none⟩ = some v4 from fun w2 A7 c7 hu3 m7 N7 ho2 hl2 => by
                have h2 := HTD.out.call hlt ho2 hl2
                refine ⟨⟨h2⟩, ⟨by have := h2.size; omega⟩, ⟨Kd.FK_mono (fk_cut (W := w2) hu3 m7 (Kd.N_F N7)) (fun k hk => show wr.heap.size ≤ k from Nat.le_trans (Nat.le_trans HB8.out.size HDW.out.size) hk)⟩, ⟨fun k hk => Nat.le_trans h2.size hk⟩, blk_cell h2.box 4, blk_cell (h2.moved (below_alloc (Below.refl _ _) _)).box 4⟩)
              go_region_law (first
                | (refine kids_step (w0 := w2) (W := w2) rfl w.heap.size (.tmp 67) (.tmp 73) 23 (.agg #[.int .i64 0, .string ⟨#[]⟩, .string ⟨#[]⟩, .slice none 0 0, .slice none 0 0]) rfl Try.underlying23 infoNd rfl v4 la u [.int .i64 u.f0, .string u.f1, .string u.f2, .slice none 0 0, .slice A7 u.f4.length c7] (fun k => w.heap.size + 3 ≤ k) (fun k => wr.heap.size ≤ k) (by simp [Act.eval, Act.put]) (by simp [Act.eval, Act.put]) HFK.out HOK.out HFR.out HT2.out.n4 (Below.refl _ _) HSZ2.out (by have := HLN.out; omega) ?_; intro v1 w3 ho hb hg hat; obtain ⟨L1, hL1⟩ : ∃ L1, L1 = (la ++ [u]).length := ⟨_, rfl⟩; obtain ⟨A1, k1, hv1⟩ := Kd.N_slice ho; rw [← hL1] at hv1; subst hv1; clear hL1; obtain ⟨g3, gf3, ht3⟩ := HT2.out.kid hlt ho hb hg; have HT3 := Aside0.mk ht3; clear ho hb hg hat ht3)
                | (go_simp; go_at_call 31; (try simp only [hwk]); refine HKW.out.mono ?_; rintro e w2 ⟨A7, c7, rfl, hu3, m7, N7, ho2, hl2⟩; obtain ⟨HT2, HSZ2, HFK, HFR, x42, x43⟩ := HAF.out w2 A7 c7 hu3 m7 N7 ho2 hl2; clear hu3 m7 N7 ho2 hl2))
              all_goals (simp only [Exit.inBlock, Exit.then]; go_wp2_with fail; go_roundw)
              all_goals first
                | exact ⟨j + 1, _, by rw [HWJ.out], hlt2, by rw [HSN2.out]; exact HT3⟩
                | (rw [HWJ.out]; simp [intOf]; omega)
            · have HSN2 := Aside0.mk (HSN.out.trans (if_neg hp))
              clear HSN HKC
              by_cases hp1 : 0 < L
              · have hp2 : ¬ 0 < d := fun h => hp ⟨hp1, h⟩
                clear hp
                go_wp2_with fail
                go_roundw
                case rel => exact ⟨j + 1, _, by rw [HWJ.out], hlt2, by rw [HSN2.out]; exact HT⟩
                case measure => rw [HWJ.out]; simp [intOf]; omega
              · clear hp
                go_wp2_with fail
                go_roundw
                case rel => exact ⟨j + 1, _, by rw [HWJ.out], hlt2, by rw [HSN2.out]; exact HT⟩
                case measure => rw [HWJ.out]; simp [intOf]; omega
          · have hje : j = f4.length := by omega
            subst hje
            have hT := HT.out
            rw [List.take_of_length_le (Nat.le_refl _)] at hT
            generalize (cutL d (l - 1) f4).1 = la at *
            generalize (cutL d (l - 1) f4).2 = L at *
            obtain ⟨A7, c7, e4⟩ := Kd.N_slice hT.n4
            obtain ⟨n7, hn7⟩ : ∃ n7, n7 = la.length := ⟨_, rfl⟩
            rw [← hn7] at e4
            subst e4
            have o0 : wr.cell? ⟨w.heap.size + 1 + 1, 0, none⟩ = some (.int .i64 0) := blk_cell hT.box 0
            have o1 : wr.cell? ⟨w.heap.size + 1 + 1, 1, none⟩ = some (.string nm) := blk_cell hT.box 1
            have o2 : wr.cell? ⟨w.heap.size + 1 + 1, 2, none⟩ = some (.string ⟨#[]⟩) := blk_cell hT.box 2
            have o3 : wr.cell? ⟨w.heap.size + 1 + 1, 3, none⟩ = some (.slice none 0 0) := blk_cell hT.box 3
            have o4 : wr.cell? ⟨w.heap.size + 1 + 1, 4, none⟩ = some (.slice A7 n7 c7) := blk_cell hT.box 4
            have hr := hT.res
            have g0 := blk_frozen hr 0
            have g1 := blk_frozen hr 1
            have g2 := blk_frozen hr 2
            have g3 := blk_frozen hr 3
            have g4 := blk_frozen hr 4
            have p0 := blk_cell hr 0
            have p1 := blk_cell hr 1
            have p2 := blk_cell hr 2
            have p3 := blk_cell hr 3
            have p4 := blk_cell hr 4
            simp only [zeroN] at p0 p1 p2 p3 p4
            have HE := Aside0.mk (fun a0 a1 a2 a3 a4 => cut_end (w := w) (w3 := wr) (u := ⟨0, nm, ⟨#[]⟩, [], la⟩) (A4 := A7) (c4 := c7) hlt rfl (blk_lt hr) hT.lbx hT.on (by rw [hn7] at hT; exact hT.n4) a0 a1 a2 a3 a4)
            rw [← hn7] at HE
            clear hr hT HT hn7
            go_wp2_with fail
            refine bodyPost_ret (v := .agg #[.int .i64 0, .string nm, .string ⟨#[]⟩, .slice none 0 0, .slice A7 n7 c7]) (by simp [results, Try.results31, go_sem, p0, p1, p2, p3, p4]) rfl ?_
            rw [HC2.out.1, HC2.out.2]
            exact HE.out _ _ _ _ _
end Go.Proofs.Ytmfjbljdbkmkgaa.Dom

/- laws.inlineCutTree: its contract. -/
namespace Go.Proofs.Ytmfjbljdbkmkgaa.Dom
open Go.RowKit Go.Proofs.YtmfjbljdbkmkgaaW.PrintWords Go.Proofs.YtmfjbljdbkmkgaaW.PrintLast Go.Proofs.YtmfjbljdbkmkgaaW.PrintMore Go.Proofs.Ytmfjbljdbkmkgaa.PDom Go.Proofs.Ytmfjbljdbkmkgaa.Txt
set_option linter.unusedVariables false
set_option linter.unusedSimpArgs false

def divN : ByteArray := ⟨#[100, 105, 118]⟩
/-- A tree, cut: its root is a div. -/
def cutR (t : T) : T := ⟨0, divN, ⟨#[]⟩, [], (cutT 8 60 ⟨0, t.f1, t.f2, t.f3, t.f4⟩).1.f4⟩
theorem cutT_0 (t : T) : (cutT 8 60 ⟨0, t.f1, t.f2, t.f3, t.f4⟩).1.f0 = 0 ∧ (cutT 8 60 ⟨0, t.f1, t.f2, t.f3, t.f4⟩).1.f2 = ⟨#[]⟩ ∧ (cutT 8 60 ⟨0, t.f1, t.f2, t.f3, t.f4⟩).1.f3 = [] := by
  rw [cutT, if_neg (by decide), if_neg (by decide)]
  split <;> exact ⟨rfl, rfl, rfl⟩
mutual
def fitXB : T → Bool
  | ⟨_, n, x, as_, ks⟩ => (decide (n.size ≤ 140737488351232) && (decide (x.size ≤ 140737488351232) && (decide (as_.length ≤ 4398046510976) && decide (ks.length ≤ 4398046510976)))) && fitXBL ks
def fitXBL : List T → Bool
  | [] => true
  | k :: ks => fitXB k && fitXBL ks
end
theorem fitXBL_iff : ∀ {l : List T}, fitXBL l = true ↔ ∀ k ∈ l, fitXB k = true
  | [] => by simp [fitXBL]
  | k :: ks => by
    rw [fitXBL, Bool.and_eq_true, fitXBL_iff (l := ks)]
    simp
theorem fitXB_iff (t : T) : fitXB t = true ↔ FitX t := by
  induction t using T_induct with
  | h t ih =>
    cases t with
    | mk k n x as_ ks =>
      rw [fitXB]
      simp only [Bool.and_eq_true, decide_eq_true_eq]
      constructor
      · rintro ⟨⟨h1, h2, h3, h4⟩, h5⟩
        exact ⟨_, h1, h2, h3, h4, fun y hy => (ih y hy).1 (fitXBL_iff.1 h5 y hy)⟩
      · rintro ⟨_, h1, h2, h3, h4, h5⟩
        exact ⟨⟨h1, h2, h3, h4⟩, fitXBL_iff.2 (fun y hy => (ih y hy).2 (h5 y hy))⟩
theorem three_new (w : World) (o0 o1 o2 : Obj) : (((w.alloc o0).alloc o1).alloc o2).heap.size = w.heap.size + 3 ∧ Below w.heap.size w (((w.alloc o0).alloc o1).alloc o2) ∧ (((w.alloc o0).alloc o1).alloc o2).heap[w.heap.size]? = some o0 ∧ (((w.alloc o0).alloc o1).alloc o2).heap[w.heap.size + 1]? = some o1 ∧ (((w.alloc o0).alloc o1).alloc o2).heap[w.heap.size + 2]? = some o2 := by
  have e : (((w.alloc o0).alloc o1).alloc o2).heap = ((w.heap.push o0).push o1).push o2 := rfl
  refine ⟨by rw [e]; simp, below_alloc (below_alloc (below_alloc (Below.refl _ _) _) _) _, ?_, ?_, ?_⟩ <;> rw [e] <;> simp only [Array.getElem?_push, Array.size_push] <;> repeat (first | rfl | rw [if_pos trivial] | rw [if_pos (by omega)] | rw [if_neg (by omega)])
set_option maxHeartbeats 1000000 in
set_option maxRecDepth 100000 in
theorem cutR_calls (t : T) (hf : FitX t) (w : World) (A3 : Option Addr) (c3 : Nat) (A4 : Option Addr) (c4 : Nat) (h3 : Kd.C k53 w A3 t.f3.length t.f3) (l3 : t.f3.length ≤ c3) (h4 : Kd.C k25 w A4 t.f4.length t.f4) (l4 : t.f4.length ≤ c4) :
    Calls Try.prog 10 #[.agg #[.int .i64 t.f0, .string t.f1, .string t.f2, .slice A3 t.f3.length c3, .slice A4 t.f4.length c4]] w fun e w' => ∃ A5 c5, e = .returned (.agg #[.int .i64 0, .string divN, .string ⟨#[]⟩, .slice none 0 0, .slice A5 (cutR t).f4.length c5]) ∧ Kd.N k25 25 w' w.heap.size (fun k => w.heap.size ≤ k) (.slice A5 (cutR t).f4.length c5) (cutR t).f4 ∧ Below w.heap.size w w' := by
  obtain ⟨W, hW⟩ : ∃ W, W = ((w.alloc (.cells #[.int .i64 0, .string t.f1, .string t.f2, .slice A3 t.f3.length c3, .slice A4 t.f4.length c4] 25)).alloc (.cells #[.int .i64 0, .string ⟨#[]⟩, .string ⟨#[]⟩, .slice none 0 0, .slice none 0 0] 25)).alloc (.cells #[.int .i64 60] 3) := ⟨_, rfl⟩
  obtain ⟨z0, z1, z2, z3, z4⟩ := three_new w (.cells #[.int .i64 0, .string t.f1, .string t.f2, .slice A3 t.f3.length c3, .slice A4 t.f4.length c4] 25) (.cells #[.int .i64 0, .string ⟨#[]⟩, .string ⟨#[]⟩, .slice none 0 0, .slice none 0 0] 25) (.cells #[.int .i64 60] 3)
  rw [← hW] at z0 z1 z2 z3 z4
  have hfx : FitX ⟨0, t.f1, t.f2, t.f3, t.f4⟩ := by obtain ⟨_, h1, h2, h3, h4, h5⟩ := hf; exact ⟨_, h1, h2, h3, h4, h5⟩
  have HC := Aside0.mk (cut_calls _ ⟨0, t.f1, t.f2, t.f3, t.f4⟩ (Nat.le_refl _) hfx 8 60 (by decide) (by decide) (by decide) (by decide) W (w.heap.size + 1 + 1) (fun k => k < w.heap.size) A3 c3 A4 c4 z4 (fun k hk => ⟨by omega, by omega⟩) (Kd.F_below (Kd.C_F k25_heap h4) z1) l4)
  obtain ⟨e0, e2, e3⟩ := cutT_0 t
  have hcr : cutR t = ⟨0, divN, ⟨#[]⟩, [], (cutT 8 60 ⟨0, t.f1, t.f2, t.f3, t.f4⟩).1.f4⟩ := rfl
  have HCR := Aside0.mk hcr
  generalize (cutT 8 60 ⟨0, t.f1, t.f2, t.f3, t.f4⟩).1 = u at *
  generalize (cutT 8 60 ⟨0, t.f1, t.f2, t.f3, t.f4⟩).2 = L at *
  obtain ⟨u0, u1, u2, u3, u4⟩ := u
  simp only at e0 e2 e3
  subst e0
  subst e2
  subst e3
  have Z0 := Aside0.mk z0
  have Z1 := Aside0.mk z1
  have Z3 := Aside0.mk z3
  clear h3 l3 h4 l4 hf hfx z0 z1 z2 z3 z4 hcr
  go_enter Try.func10, Try.ntmps10
  go_wp2_with fail
  rw [← hW]
  clear hW
  refine HC.out.mono ?_
  rintro e w2 ⟨A5, c5, rfl, _, m5, N5, ho, hl⟩
  have HR := Aside0.mk ((ho.at (blk_lt Z3.out) (by omega)).trans Z3.out)
  have HB := Aside0.mk (show Below w.heap.size w w2 from Z1.out.trans ⟨ho.os, ho.tape, ho.output, by have := ho.size; have := Z0.out; omega, fun k hk => ho.at (by have := Z0.out; omega) (by omega)⟩)
  have N5' := Aside0.mk N5
  have HZ := Aside0.mk (show w.heap.size + 3 ≤ w2.heap.size by have := ho.size; have := Z0.out; omega)
  clear m5 N5 ho hl HC
  go_upto_region 5 with fail
  have K9 := heap_alloc_new w2 (.cells #[.int .i64 0, .string ⟨#[100, 105, 118]⟩, .string ⟨#[]⟩, .slice none 0 0, .slice A5 u4.length c5] 25)
  have HB9 := Aside0.mk (below_alloc (Below.refl w2.heap.size w2) (.cells #[.int .i64 0, .string ⟨#[100, 105, 118]⟩, .string ⟨#[]⟩, .slice none 0 0, .slice A5 u4.length c5] 25))
  generalize w2.alloc (.cells #[.int .i64 0, .string ⟨#[100, 105, 118]⟩, .string ⟨#[]⟩, .slice none 0 0, .slice A5 u4.length c5] 25) = w9 at K9 HB9 ⊢
  have hb2 := (HB9.out.block _ (blk_lt HR.out)).trans HR.out
  have o0 := blk_cell K9 0
  have o1 := blk_cell K9 1
  have o2 := blk_cell K9 2
  have o3 := blk_cell K9 3
  have o4 := blk_cell K9 4
  have f0 := blk_frozen hb2 0
  have f1 := blk_frozen hb2 1
  have f2 := blk_frozen hb2 2
  have f3 := blk_frozen hb2 3
  have f4 := blk_frozen hb2 4
  have q0 := blk_cell hb2 0
  have q1 := blk_cell hb2 1
  have q2 := blk_cell hb2 2
  have q3 := blk_cell hb2 3
  have q4 := blk_cell hb2 4
  have HE := Aside0.mk (fun a0 a1 a2 a3 a4 => sets5 w9 (w.heap.size + 1) a0 a1 a2 a3 a4)
  have HE2 := Aside0.mk (fun (a0 a1 a2 a3 a4 : Value) => (Below.setCell (Below.setCell (Below.setCell (Below.setCell (Below.setCell (below_step HB.out HB9.out) (p := ⟨w.heap.size + 1, 0, none⟩) (Nat.le_succ _) a0) (p := ⟨w.heap.size + 1, 1, none⟩) (Nat.le_succ _) a1) (p := ⟨w.heap.size + 1, 2, none⟩) (Nat.le_succ _) a2) (p := ⟨w.heap.size + 1, 3, none⟩) (Nat.le_succ _) a3) (p := ⟨w.heap.size + 1, 4, none⟩) (Nat.le_succ _) a4))
  clear K9 hb2
  go_wp2_with fail
  refine bodyPost_ret (v := .agg #[.int .i64 0, .string ⟨#[100, 105, 118]⟩, .string ⟨#[]⟩, .slice none 0 0, .slice A5 u4.length c5]) (by simp [results, Try.results10, go_sem, q0, q1, q2, q3, q4]) rfl ?_
  rw [HCR.out]
  refine ⟨A5, c5, rfl, ?_, HE2.out _ _ _ _ _⟩
  have hz := Z0.out
  exact Kd.N_lower (Kd.N_mono (Kd.N_step (Kd.N_below N5'.out HB9.out) (fun k hk _ => HE.out _ _ _ _ _ k (by omega))) (fun k hk => by omega)) Z1.out.size
end Go.Proofs.Ytmfjbljdbkmkgaa.Dom
namespace Go.Proofs.Ytmfjbljdbkmkgaa.PDom
open Go.RowKit Go.Proofs.YtmfjbljdbkmkgaaW.PrintWords Go.Proofs.YtmfjbljdbkmkgaaW.PrintLast Go.Proofs.YtmfjbljdbkmkgaaW.PrintMore Go.Proofs.Ytmfjbljdbkmkgaa.Dom
set_option linter.unusedVariables false
set_option linter.unusedSimpArgs false
/-! ### As the printed walks take it -/
def laws_inlineCutTree.f (_k : Nat) (a0_0 : Int) (a0_1 : ByteArray) (a0_2 : ByteArray) (l0_3 : List (S53)) (l0_4 : List (S25)) : Option (Int × ByteArray × ByteArray × List S53 × List S25) :=
  if fitXB ⟨a0_0, a0_1, a0_2, l0_3, l0_4⟩ = true then some (let u := cutR ⟨a0_0, a0_1, a0_2, l0_3, l0_4⟩; (u.f0, u.f1, u.f2, u.f3, u.f4)) else none
theorem laws_inlineCutTree.mono : ∀ a0 a1 a2 a3 a4 k, LeO (laws_inlineCutTree.f k a0 a1 a2 a3 a4) (laws_inlineCutTree.f (k + 1) a0 a1 a2 a3 a4) := fun _ _ _ _ _ _ => LeO.refl _
theorem laws_inlineCutTree.calls (k : Nat) (a0_0 : Int) (a0_1 : ByteArray) (a0_2 : ByteArray) (A0_3 : Option Addr) (c0_3 : Nat) (l0_3 : List (S53)) (A0_4 : Option Addr) (c0_4 : Nat) (l0_4 : List (S25)) (r1 : Int) (r2 r3 : ByteArray) (r4 : List S53) (r5 : List S25) (w : World)
    (hr0_3 : Kd.C k53 w A0_3 l0_3.length l0_3) (hc0_3 : l0_3.length ≤ c0_3) (hr0_4 : Kd.C k25 w A0_4 l0_4.length l0_4) (hc0_4 : l0_4.length ≤ c0_4) (h : laws_inlineCutTree.f k a0_0 a0_1 a0_2 l0_3 l0_4 = some (r1, r2, r3, r4, r5)) :
    Calls Try.prog 10 #[.agg #[.int .i64 a0_0, .string a0_1, .string a0_2, .slice A0_3 l0_3.length c0_3, .slice A0_4 l0_4.length c0_4]] w fun e w' => ∃ v3_ v4_ : Value, e = .returned (.agg #[.int .i64 r1, .string r2, .string r3, v3_, v4_]) ∧ Kd.R k53 53 w' w.heap.size (fun k_ => w.heap.size ≤ k_) v3_ r4 ∧ Kd.N k25 25 w' w.heap.size (fun k_ => w.heap.size ≤ k_ ∧ some k_ ≠ (v3_ : Value).ownBlock) v4_ r5 ∧ Below w.heap.size w w' := by
  unfold laws_inlineCutTree.f at h
  split at h
  · rename_i hg
    have hh := Option.some.inj h
    simp only [Prod.mk.injEq] at hh
    obtain ⟨rfl, rfl, rfl, rfl, rfl⟩ := hh
    refine (cutR_calls ⟨a0_0, a0_1, a0_2, l0_3, l0_4⟩ ((fitXB_iff _).1 hg) w A0_3 c0_3 A0_4 c0_4 hr0_3 hc0_3 hr0_4 hc0_4).mono ?_
    rintro e w' ⟨A5, c5, rfl, N5, hB⟩
    exact ⟨_, _, rfl, Kd.R_nil _ _ _ _ _, Kd.N_mono N5 (fun k hk => ⟨hk, by simp [Value.ownBlock]⟩), hB⟩
  · cases h
end Go.Proofs.Ytmfjbljdbkmkgaa.PDom

/- Printed by the program extprint.py of this session, out of the kit's print and contracts of this session's own; Lean checks it. -/
namespace Go.Proofs.Ytmfjbljdbkmkgaa.PDom
open Go.RowKit Go.Proofs.YtmfjbljdbkmkgaaW.PrintWords Go.Proofs.YtmfjbljdbkmkgaaW.PrintLast Go.Proofs.YtmfjbljdbkmkgaaW.PrintMore
attribute [local go_sem] max2_int min2_int max_two min_two max_three min_three max_four min_four   -- for this text's walks alone
set_option linter.unusedVariables false
set_option linter.unusedSimpArgs false

theorem eqA53 (d : Nat) (w : World) (x0 y0 : ByteArray) (x1 y1 : ByteArray) :
    (Op.equalIn (d + 2) 53 (.agg #[.string x0, .string x1]) (.agg #[.string y0, .string y1])).run Try.prog w = .ok (x0.toList == y0.toList && (x1.toList == y1.toList)) w := by
  refine eqA_of Try.underlying53 (by kernel_rfl) ?_
  refine eqf_cons (by rfl) (by go_simp; rfl) (by go_simp; rfl) (by go_simp) ?_
  exact eqf_last (by rfl) (by go_simp; rfl) (by go_simp; rfl) (by go_simp)
end Go.Proofs.Ytmfjbljdbkmkgaa.PDom
