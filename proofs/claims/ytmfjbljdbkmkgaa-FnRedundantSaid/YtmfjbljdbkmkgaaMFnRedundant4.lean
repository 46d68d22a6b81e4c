/- A part of the proof of FnRedundant: TreeT, Put, CutP, CutX, CutY, CutZ, EDomx1, EDomx4, EvT, RedY, RedZ, Keep, EDomx5, one behind the other. -/
import Derived.Test.YtmfjbljdbkmkgaaMFnRedundant3
import Derived.Deep.RegionLaw
import Derived.Test.YtmfjbljdbkmkgaaMFnRedundant2
import Derived.Deep.DeepCutAuto
import Derived.Deep.DeepMust
import Derived.BigRegion
import Derived.Test.YtmfjbljdbkmkgaaMFnRedundant1
/- Trees as plain data: their text, which of their nodes stand within one another, whether they are plain (elements, texts, comments); and the same of trees of nodes. Plain facts. -/
namespace Go.Proofs.Ytmfjbljdbkmkgaa.Dom
open Go.RowKit Go.Proofs.YtmfjbljdbkmkgaaW.PrintWords Go.Proofs.YtmfjbljdbkmkgaaW.PrintLast Go.Proofs.YtmfjbljdbkmkgaaW.PrintMore Go.Proofs.Ytmfjbljdbkmkgaa.PDom
set_option linter.unusedVariables false
set_option linter.unusedSimpArgs false

mutual
def txT : T → List UInt8
  | ⟨k, _, x, _, ks⟩ => if k = 1 then x.data.toList else txTL ks
def txTL : List T → List UInt8
  | [] => []
  | k :: ks => txT k ++ txTL ks
end
theorem txT_eq (t : T) : txT t = if t.f0 = 1 then t.f2.data.toList else txTL t.f4 := by cases t; rfl
/-- An element of one of some names. -/
def isT (names : List ByteArray) (t : T) : Bool := t.f0 == 0 && names.any fun s => t.f1.toList == s.toList
mutual
def withinT (names : List ByteArray) (b : Bool) : T → Bool
  | ⟨k, n, x, as_, ks⟩ => (isT names ⟨k, n, x, as_, []⟩ && b) || withinTL names (b || isT names ⟨k, n, x, as_, []⟩) ks
def withinTL (names : List ByteArray) (b : Bool) : List T → Bool
  | [] => false
  | k :: ks => withinT names b k || withinTL names b ks
end
/-! ### Taken out, all at once -/
mutual
def RT.red (m : RT → Bool) (b : Bool) : RT → List RT
  | .node i t a d at_ ks => if (m (.node i t a d at_ []) && b) = true then RT.redL m b ks else [.node i t a d at_ (RT.redL m (b || m (.node i t a d at_ [])) ks)]
def RT.redL (m : RT → Bool) (b : Bool) : List RT → List RT
  | [] => []
  | k :: ks => RT.red m b k ++ RT.redL m b ks
end
theorem redL_append (m : RT → Bool) (b : Bool) (l l2 : List RT) : RT.redL m b (l ++ l2) = RT.redL m b l ++ RT.redL m b l2 := by
  induction l with
  | nil => rfl
  | cons k l ih => rw [List.cons_append, RT.redL, RT.redL, ih, List.append_assoc]
theorem own_nil {m : RT → Bool} (hO : Own m) (i : Nat) (t a : Int) (d : ByteArray) (at_ : List (ByteArray × ByteArray)) (ks : List RT) : m (.node i t a d at_ []) = m (.node i t a d at_ ks) := hO (.node i t a d at_ ks) []
theorem redL_set {m : RT → Bool} {b : Bool} : ∀ (ks : List RT) (j : Nat) (k k' : RT), ks[j]? = some k → RT.red m b k' = RT.red m b k → RT.redL m b (ks.set j k') = RT.redL m b ks
  | [], j, k, k', h, e => by simp at h
  | c :: ks, 0, k, k', h, e => by
    obtain rfl : c = k := by simpa using h
    show RT.red m b k' ++ RT.redL m b ks = RT.red m b c ++ RT.redL m b ks
    rw [e]
  | c :: ks, j + 1, k, k', h, e => by
    show RT.red m b c ++ RT.redL m b (ks.set j k') = RT.red m b c ++ RT.redL m b ks
    rw [redL_set ks j k k' (by simpa using h) e]
theorem red_true {m : RT → Bool} (hO : Own m) {y : RT} (h : m y = true) : RT.red m true y = RT.redL m true y.kids := by
  cases y with
  | node i t a d at_ ks =>
    rw [RT.red, own_nil hO i t a d at_ ks, h]
    rfl
/-- A node that stands within another one: taken out now or later is the same. -/
theorem red_mapAt {m : RT → Bool} (hO : Own m) {y : RT} {k1 k2 : List RT} {n : Int} (hm : m y = true) : ∀ (l : List Int) (r up : RT) (b : Bool), r.at_ l = some up → up.kids = k1 ++ y :: k2 → up.kids[n.toNat]? = some y → (b || r.anyUp m (l ++ [n])) = true →
    RT.red m b (r.mapAt (fun _ => k1 ++ y.kids ++ k2) l) = RT.red m b r := by
  intro l
  induction l with
  | nil =>
    intro r up b h hk hn hb
    obtain rfl : r = up := by simpa [RT.at_] using h
    rw [List.nil_append, anyUp_cons hn] at hb
    have hb' : (b || m r) = true := by simpa [RT.anyUp] using hb
    cases r with
    | node i t a d at_ ks =>
      obtain rfl : ks = k1 ++ y :: k2 := hk
      have hK : RT.redL m true (k1 ++ y.kids ++ k2) = RT.redL m true (k1 ++ y :: k2) := by
        rw [redL_append, redL_append, redL_append, RT.redL, red_true hO hm, List.append_assoc]
      show RT.red m b (.node i t a d at_ (k1 ++ y.kids ++ k2)) = _
      rw [RT.red, RT.red, own_nil hO i t a d at_ (k1 ++ y :: k2), hb', hK]
      cases b with
      | true => rw [hK]
      | false => simp
  | cons j l ih =>
    intro r up b h hk hn hb
    obtain ⟨_, k, hkk, e⟩ := at_cons h
    rw [List.cons_append, anyUp_cons hkk] at hb
    cases r with
    | node i t a d at_ ks =>
      rw [RT.mapAt_cons _ _ _ _ _ _ _ _ _ (show ks[j.toNat]? = some k from hkk), RT.red, RT.red]
      have hmm := own_nil hO i t a d at_ ks
      rw [← hmm] at hb
      generalize m (.node i t a d at_ []) = mr at *
      have hi := ih k up (b || mr) e hk hn (by rw [Bool.or_assoc]; exact hb)
      cases b with
      | true =>
        rw [Bool.true_or] at hi ⊢
        rw [redL_set ks _ k _ hkk hi]
      | false =>
        rw [redL_set ks _ k _ hkk hi, Bool.and_false]
        simp
theorem red_none {m : RT → Bool} (hO : Own m) (r : RT) : ∀ b, RT.within m b r = false → RT.red m b r = [r] := by
  induction r using RT.induct with
  | h i t a d at_ ks ih =>
    intro b h
    rw [RT.within, Bool.or_eq_false_iff] at h
    obtain ⟨h1, h2⟩ := h
    have hL : ∀ l : List RT, (∀ k ∈ l, k ∈ ks) → RT.withinL m (b || m (.node i t a d at_ [])) l = false → RT.redL m (b || m (.node i t a d at_ [])) l = l := by
      intro l
      induction l with
      | nil => intro _ _; rfl
      | cons k l ih2 =>
        intro hm hw
        rw [RT.withinL, Bool.or_eq_false_iff] at hw
        rw [RT.redL, ih k (hm k (by simp)) _ hw.1, ih2 (fun y hy => hm y (by simp [hy])) hw.2]
        rfl
    rw [RT.red, h1, if_neg (by simp), hL ks (fun k hk => hk) h2]
mutual
def redT (names : List ByteArray) (b : Bool) : T → List T
  | ⟨k, n, x, as_, ks⟩ => if (isT names ⟨k, n, x, as_, []⟩ && b) = true then redTL names b ks else [⟨k, n, x, as_, redTL names (b || isT names ⟨k, n, x, as_, []⟩) ks⟩]
def redTL (names : List ByteArray) (b : Bool) : List T → List T
  | [] => []
  | k :: ks => redT names b k ++ redTL names b ks
end
theorem isT_node (names : List ByteArray) (k : Int) (n x : ByteArray) (as_ as2 : List At) (ks ks2 : List T) : isT names ⟨k, n, x, as_, ks⟩ = isT names ⟨k, n, x, as2, ks2⟩ := rfl
theorem red_toT (names : List ByteArray) (r : RT) : ∀ b, (RT.red (mt names) b r).map RT.toT = redT names b r.toT := by
  induction r using RT.induct with
  | h i ty a d at_ ks ih =>
    intro b
    have hL : ∀ (b : Bool) (l : List RT), (∀ k ∈ l, k ∈ ks) → (RT.redL (mt names) b l).map RT.toT = redTL names b (RT.toTL l) := by
      intro b l
      induction l with
      | nil => intro _; rfl
      | cons k l ih2 =>
        intro h
        show (RT.red (mt names) b k ++ RT.redL (mt names) b l).map RT.toT = redT names b k.toT ++ redTL names b (RT.toTL l)
        rw [List.map_append, ih k (h k (by simp)), ih2 (fun y hy => h y (by simp [hy]))]
    have hks := fun b => hL b ks (fun k hk => hk)
    have hmt : mt names (.node i ty a d at_ []) = (ty == 3 && names.any fun s => d.toList == s.toList) := rfl
    rw [RT.red, hmt]
    by_cases h3 : ty = 3
    · subst h3
      rw [RT.toT, if_pos rfl, redT]
      have hi : isT names ⟨0, d, ⟨#[]⟩, at_.map (fun a => (⟨a.1, a.2⟩ : At)), []⟩ = ((3 : Int) == 3 && names.any fun s => d.toList == s.toList) := rfl
      rw [hi]
      split
      · exact hks b
      · rw [List.map_singleton, RT.toT, if_pos rfl, ← hks, RT.toTL_map]
    · have e3 : (ty == 3) = false := beq_eq_false_iff_ne.2 h3
      rw [e3, Bool.false_and, Bool.false_and, if_neg (by simp), Bool.or_false, List.map_singleton, RT.toT, RT.toT, if_neg h3, if_neg h3]
      split
      · rfl
      · split
        · rfl
        · rw [redT, RT.toTL_map, hks b]
          have hi : isT names ⟨3, ⟨#[]⟩, ⟨#[]⟩, [], []⟩ = false := rfl
          rw [hi, Bool.false_and, if_neg (by simp), Bool.or_false]
/-! ### Plain trees -/
mutual
def okT : T → Bool
  | ⟨k, n, x, as_, ks⟩ => ((((k == 1 || k == 2) && (n.size == 0 && (as_.isEmpty && ks.isEmpty))) || (k == 0 && x.size == 0)) && (decide (as_.length ≤ 4398046510976) && decide (ks.length ≤ 4398046510976))) && okTL ks
def okTL : List T → Bool
  | [] => true
  | k :: ks => okT k && okTL ks
end
theorem okTL_iff : ∀ {l : List T}, okTL l = true ↔ ∀ k ∈ l, okT k = true
  | [] => by simp [okTL]
  | k :: ks => by
    rw [okTL, Bool.and_eq_true, okTL_iff (l := ks)]
    simp
theorem size_zero {a : ByteArray} (h : a.size = 0) : a = ⟨#[]⟩ := by
  cases a with
  | mk d =>
    have : d = #[] := Array.eq_empty_of_size_eq_zero h
    rw [this]
theorem okT_open {t : T} (h : okT t = true) : NodeOk false t ∧ t.f3.length ≤ 4398046510976 ∧ t.f4.length ≤ 4398046510976 ∧ ∀ k ∈ t.f4, okT k = true := by
  cases t with
  | mk k n x as_ ks =>
    rw [okT] at h
    simp only [Bool.and_eq_true, Bool.or_eq_true, beq_iff_eq, decide_eq_true_eq, List.isEmpty_iff] at h
    obtain ⟨⟨h1, h2, h3⟩, h4⟩ := h
    refine ⟨?_, h2, h3, okTL_iff.1 h4⟩
    rcases h1 with ⟨h5, h6, h7, h8⟩ | ⟨h5, h6⟩
    · exact .inl ⟨h5, size_zero h6, h7, h8⟩
    · exact .inr (.inr ⟨h5, size_zero h6⟩)
theorem okT_mk {t : T} (h : NodeOk false t) (h3 : t.f3.length ≤ 4398046510976) (h4 : t.f4.length ≤ 4398046510976) (hk : ∀ k ∈ t.f4, okT k = true) : okT t = true := by
  cases t with
  | mk k n x as_ ks =>
    rw [okT]
    simp only [Bool.and_eq_true, Bool.or_eq_true, beq_iff_eq, decide_eq_true_eq, List.isEmpty_iff]
    refine ⟨⟨?_, h3, h4⟩, okTL_iff.2 hk⟩
    rcases h with ⟨a, b, c, d⟩ | ⟨_, b, _⟩ | ⟨a, b⟩
    · exact .inl ⟨a, by rw [show n = ⟨#[]⟩ from b]; rfl, c, d⟩
    · cases b
    · exact .inr ⟨a, by rw [show x = ⟨#[]⟩ from b]; rfl⟩
theorem T_induct {P : T → Prop} (h : ∀ t : T, (∀ k ∈ t.f4, P k) → P t) : ∀ t, P t := by
  intro t
  generalize hn : SizeOf.sizeOf t = n
  induction n using Nat.strongRecOn generalizing t with
  | _ n ih =>
    refine h t (fun k hk => ih _ ?_ k rfl)
    rw [← hn]
    exact kid_lt hk
theorem ok_norm (t : T) : okT t = true → Norm false t := by
  induction t using T_induct with
  | h t ih =>
    intro h
    obtain ⟨h1, _, _, h4⟩ := okT_open h
    exact ⟨false, t, h1, fun y hy => ih y hy (h4 y hy)⟩
theorem ok_fit (t : T) : okT t = true → Fit t := by
  induction t using T_induct with
  | h t ih =>
    intro h
    obtain ⟨_, h2, h3, h4⟩ := okT_open h
    exact ⟨t, h2, h3, fun y hy => ih y hy (h4 y hy)⟩
theorem Norm.up {t : T} (h : Norm false t) : Norm true t := by
  cases h with
  | mk _ _ h hk =>
    refine ⟨true, t, ?_, hk⟩
    rcases h with h | ⟨_, h, _⟩ | h
    · exact .inl h
    · cases h
    · exact .inr (.inr h)
/-- The nodes of a plain tree. -/
theorem ok_all (r : RT) : ∀ t : T, okT t = true → TellsT t r → RT.All okN r := by
  induction r using RT.induct with
  | h i ty a d at_ ks ih =>
    intro t ht h
    have hn := ok_norm t ht
    obtain ⟨h1, h3, _, h4⟩ := okT_open ht
    obtain ⟨hl, hk⟩ := told_open h hn
    have hty : (ty = 1 ∨ ty = 3 ∨ ty = 4) ∧ at_.length ≤ 4398046510976 := by
      cases h with
      | mk _ _ _ _ ha hl hk =>
        refine ⟨?_, ?_⟩
        · rcases h1 with ⟨(e | e), _⟩ | ⟨_, e, _⟩ | ⟨e, _⟩
          · rw [e]; simp [tyOf]
          · rw [e]; simp [tyOf]
          · cases e
          · rw [e]; simp [tyOf]
        · unfold attrsOf
          split
          · rw [List.length_map]; exact h3
          · simp
    refine ⟨_, ⟨hty.2, hty.1⟩, fun k hk2 => ?_⟩
    obtain ⟨n, hn2, rfl⟩ := List.mem_iff_getElem.1 (show k ∈ ks from hk2)
    exact ih _ hk2 _ (h4 _ (List.getElem_mem (by rw [hl]; exact hn2))) (hk n (by rw [hl]; exact hn2) hn2)
end Go.Proofs.Ytmfjbljdbkmkgaa.Dom

/- spec.Put29: the tree with others in a node's place. -/
namespace Go.Proofs.Ytmfjbljdbkmkgaa.PDom
open Go.RowKit Go.Proofs.YtmfjbljdbkmkgaaW.PrintWords Go.Proofs.YtmfjbljdbkmkgaaW.PrintLast Go.Proofs.YtmfjbljdbkmkgaaW.PrintMore Go.Proofs.Ytmfjbljdbkmkgaa.Dom
set_option linter.unusedVariables false
set_option linter.unusedSimpArgs false

theorem count_kid {t k : T} (h : k ∈ t.f4) : countT k < countT t := by
  have : ∀ l : List T, k ∈ l → countT k ≤ countTL l := by
    intro l
    induction l with
    | nil => intro h; cases h
    | cons x l ih =>
      intro h
      simp only [countTL]
      rcases List.mem_cons.1 h with rfl | h
      · omega
      · have := ih h
        omega
  have h2 := this t.f4 h
  have h3 := countT_eq t
  omega
section
variable {w w1 w2 w3 : World} {P : Nat → Prop} {v v1 : Value} {xs ys : List T}
/-- Footprints of what came in are none of an own row. -/
theorem in_apart (hP : ∀ k, P k → k < w.heap.size) (hN : Kd.N k25 25 w1 w.heap.size (fun k => P k ∨ w.heap.size + 2 ≤ k) v xs) : ∀ k, P k → (P k ∨ w.heap.size + 2 ≤ k) ∧ some k ≠ v.ownBlock :=
  fun k hk => ⟨.inl hk, fun e => by have := Kd.N_base hN k e.symm; have := hP k hk; omega⟩
end
/-- An element of a row of trees that is only read. -/
theorem at_F {w : World} {P : Nat → Prop} {A : Option Addr} {n : Nat} {xs : List T} (h : Kd.F k25 w P A n xs) (i : Int) (h0 : 0 ≤ i) (h1 : i < n) : ∃ ad A3 c3 A4 c4, A = some ad ∧ w.cell? (ad.add (i.toNat * 5)) = some (.int .i64 (xs.getD i.toNat z25).f0) ∧ w.cell? ⟨(ad.add (i.toNat * 5)).block, (ad.add (i.toNat * 5)).off + 1, none⟩ = some (.string (xs.getD i.toNat z25).f1) ∧ w.cell? ⟨(ad.add (i.toNat * 5)).block, (ad.add (i.toNat * 5)).off + 2, none⟩ = some (.string (xs.getD i.toNat z25).f2) ∧
    w.cell? ⟨(ad.add (i.toNat * 5)).block, (ad.add (i.toNat * 5)).off + 3, none⟩ = some (.slice A3 (xs.getD i.toNat z25).f3.length c3) ∧ w.cell? ⟨(ad.add (i.toNat * 5)).block, (ad.add (i.toNat * 5)).off + 4, none⟩ = some (.slice A4 (xs.getD i.toNat z25).f4.length c4) ∧
    (xs.getD i.toNat z25).f3.length ≤ c3 ∧ Kd.F k53 w P A3 (xs.getD i.toNat z25).f3.length (xs.getD i.toNat z25).f3 ∧ (xs.getD i.toNat z25).f4.length ≤ c4 ∧ Kd.F k25 w P A4 (xs.getD i.toNat z25).f4.length (xs.getD i.toNat z25).f4 := by
  obtain ⟨ad, cs, rfl, hcl, hK, hcc, _⟩ := Kd.F_get h z25 i h0 h1
  have hc : ∀ j u, cs[j]? = some u → w.cell? (ad.add (i.toNat * 5 + j)) = some u := hcc
  obtain ⟨A3, c3, A4, c4, rfl, l3, g3, l4, g4⟩ := k25_openF hK
  exact ⟨ad, A3, c3, A4, c4, rfl, hc 0 _ rfl, by rw [← add_field _ _ 1 (by omega)]; exact hc 1 _ rfl, by rw [← add_field _ _ 2 (by omega)]; exact hc 2 _ rfl, by rw [← add_field _ _ 3 (by omega)]; exact hc 3 _ rfl, by rw [← add_field _ _ 4 (by omega)]; exact hc 4 _ rfl, l3, g3, l4, g4⟩
/-- The tree's box, the result's box, and the row that is being made. -/
structure PB (w wr : World) (P : Nat → Prop) (c0 : Array Value) (v : Value) (xs : List T) : Prop where
  box : wr.heap[w.heap.size]? = some (.cells c0 25 (0, 0))
  res : wr.heap[w.heap.size + 1]? = some (.cells #[.int .i64 0, .string ⟨#[]⟩, .string ⟨#[]⟩, .slice none 0 0, .slice none 0 0] 25 (0, 0))
  row : Kd.N k25 25 wr w.heap.size (fun k => P k ∨ w.heap.size + 2 ≤ k) v xs
  below : Below w.heap.size w wr
section
variable {w wr w1 w2 w3 : World} {P : Nat → Prop} {c0 : Array Value} {v v1 : Value} {xs ys : List T}
theorem PB.size (h : PB w wr P c0 v xs) : w.heap.size + 2 ≤ wr.heap.size := blk_lt h.res
theorem PB.moved (h : PB w wr P c0 v xs) (hb : Below wr.heap.size wr w1) : PB w w1 P c0 v xs :=
  ⟨(hb.block _ (blk_lt h.box)).trans h.box, (hb.block _ (blk_lt h.res)).trans h.res, Kd.N_below h.row hb, below_step h.below hb⟩
theorem PB.grow (h : PB w wr P c0 v xs) (hP : ∀ k, P k → k < w.heap.size) (ho : Kd.N k25 25 w3 w.heap.size (fun k => P k ∨ w.heap.size + 2 ≤ k) v1 ys) (hb3 : Below w.heap.size w w3) (hg : wr.grownBy w3 v.ownBlock) : PB w w3 P c0 v1 ys := by
  have n0 : some w.heap.size ≠ v.ownBlock := fun e => by
    rcases h.row.1 _ e.symm with h | h
    · have := hP _ h; omega
    · omega
  have n1 : some (w.heap.size + 1) ≠ v.ownBlock := fun e => by
    rcases h.row.1 _ e.symm with h | h
    · have := hP _ h; omega
    · omega
  exact ⟨grown_kept hg h.box n0, grown_kept hg h.res n1, ho, hb3⟩
theorem PB.apart (h : PB w wr P c0 v xs) (hP : ∀ k, P k → k < w.heap.size) : ∀ k, P k → (P k ∨ w.heap.size + 2 ≤ k) ∧ some k ≠ v.ownBlock := in_apart hP h.row
end
end Go.Proofs.Ytmfjbljdbkmkgaa.PDom

/- What laws.inlineTree makes of a tree: its nodes in order, as many as may come, so deep; texts of printed ASCII, names of some. Plain facts. -/
namespace Go.Proofs.Ytmfjbljdbkmkgaa.Dom
open Go.RowKit Go.Proofs.YtmfjbljdbkmkgaaW.PrintWords Go.Proofs.YtmfjbljdbkmkgaaW.PrintLast Go.Proofs.YtmfjbljdbkmkgaaW.PrintMore Go.Proofs.Ytmfjbljdbkmkgaa.PDom Go.Proofs.Ytmfjbljdbkmkgaa.Txt
set_option linter.unusedVariables false
set_option linter.unusedSimpArgs false

/-! ### Names -/
theorem named_some (l : List ByteArray) (hl : l.length ≤ 4611686018427387904) (s : ByteArray) : ∀ (n j k : Nat), j + n = l.length → n < k → spec_Named.l0 k s l (l.length : Int) (j : Int) = some ((l.drop j).any fun x => x.toList == s.toList)
  | 0, j, k, hj, hk => by
    obtain ⟨k, rfl⟩ : ∃ m, k = m + 1 := ⟨k - 1, by omega⟩
    rw [spec_Named.l0, if_neg (by omega), List.drop_eq_nil_of_le (by omega)]
    rfl
  | n + 1, j, k, hj, hk => by
    obtain ⟨k, rfl⟩ : ∃ m, k = m + 1 := ⟨k - 1, by omega⟩
    have hlt : j < l.length := by omega
    have hr : rdOf ByteArray.empty l (j : Int) = l[j] := by simp [rdOf, List.getD_eq_getElem?_getD, List.getElem?_eq_getElem hlt]
    have hw : wrap64 ((j : Int) + 1) = ((j + 1 : Nat) : Int) := by unfold wrap64; omega
    rw [spec_Named.l0, if_pos (by omega), if_pos (by omega), if_pos (by omega), hr, hw, any_dropN hlt]
    by_cases e : l[j].toList = s.toList
    · rw [if_pos e, if_pos (beq_iff_eq.2 e)]
    · rw [if_neg e, if_neg (fun h => e (beq_iff_eq.1 h))]
      exact named_some l hl s n (j + 1) k (by omega) (by omega)
theorem named_f (l : List ByteArray) (hl : l.length ≤ 4611686018427387904) (s : ByteArray) (k : Nat) (hk : l.length < k) : spec_Named.f k l s = some (l.any fun x => x.toList == s.toList) := by
  have := named_some l hl s l.length 0 k (by omega) hk
  rw [List.drop_zero] at this
  exact this
def names14 : List ByteArray := [(⟨#[100, 105, 118]⟩ : ByteArray), (⟨#[112]⟩ : ByteArray), (⟨#[115, 112, 97, 110]⟩ : ByteArray), (⟨#[98]⟩ : ByteArray), (⟨#[115, 116, 114, 111, 110, 103]⟩ : ByteArray), (⟨#[101, 109]⟩ : ByteArray), (⟨#[105]⟩ : ByteArray), (⟨#[97]⟩ : ByteArray), (⟨#[99, 111, 100, 101]⟩ : ByteArray), (⟨#[112, 114, 101]⟩ : ByteArray), (⟨#[98, 114]⟩ : ByteArray), (⟨#[105, 109, 103]⟩ : ByteArray), (⟨#[117, 108]⟩ : ByteArray), (⟨#[108, 105]⟩ : ByteArray)]
def nmC (s : ByteArray) : ByteArray := if (names14.any fun x => x.toList == s.toList) = true then s else rdOf ByteArray.empty names14 ((s.size : Int) % 14)
theorem name_f (s : ByteArray) (k : Nat) (hk : 14 < k) : laws_inlineName.f k s = some (nmC s) := by
  have h1 := named_f names14 (by decide) s k hk
  have h0 : laws_inlineNames.f = some names14 := rfl
  rw [laws_inlineName.f, h0, Option.bind_some, h1, Option.bind_some]
  have hlen : (names14.length : Int) = 14 := rfl
  rw [hlen, if_neg (show ¬ (14 : Int) = 0 by decide), if_pos (show 0 ≤ (s.size : Int) % 14 by omega), if_pos (show (s.size : Int) % 14 < 14 by omega)]
  unfold nmC
  split <;> rfl
theorem nmC_mem (s : ByteArray) : nmC s ∈ names14 := by
  unfold nmC
  split
  · rename_i h
    obtain ⟨x, hx, e⟩ := List.any_eq_true.1 h
    rw [← toList_inj (beq_iff_eq.1 e)]
    exact hx
  · have h1 : ((s.size : Int) % 14).toNat < names14.length := by show _ < 14; omega
    simp only [rdOf, List.getD_eq_getElem?_getD, List.getElem?_eq_getElem h1, Option.getD_some]
    exact List.getElem_mem h1
/-! ### Texts -/
def ascB (s : ByteArray) : ByteArray := (laws_inlineASCII.f 400 s).getD ⟨#[]⟩
theorem asc_f (s : ByteArray) (hs : s.size ≤ 140737488351232) : ∃ r, ascB s = strOfNums r ∧ (∀ k, 301 < k → laws_inlineASCII.f k s = some (ascB s)) ∧ r.length ≤ 300 ∧ Asc r := by
  obtain ⟨r, h1, h2, h3⟩ := ascii s hs
  have e : ascB s = strOfNums r := by unfold ascB; rw [h1 400 (by omega)]; rfl
  exact ⟨r, e, fun k hk => by rw [e]; exact h1 k hk, h2, h3⟩
/-! ### The tree, cut -/
def brN : ByteArray := ⟨#[98, 114]⟩
def imgN : ByteArray := ⟨#[105, 109, 103]⟩
mutual
def cutT (d l : Int) : T → T × Int
  | ⟨k, n, x, _, ks⟩ => if k = 1 then (⟨1, ⟨#[]⟩, ascB x, [], []⟩, l - 1) else if k = 2 then (⟨2, ⟨#[]⟩, ascB x, [], []⟩, l - 1) else
    if nmC n = brN ∨ nmC n = imgN then (⟨0, nmC n, ⟨#[]⟩, [], []⟩, l - 1) else (⟨0, nmC n, ⟨#[]⟩, [], (cutL d (l - 1) ks).1⟩, (cutL d (l - 1) ks).2)
def cutL (d l : Int) : List T → List T × Int
  | [] => ([], l)
  | k :: ks => if 0 < l ∧ 0 < d then ((cutT (d - 1) l k).1 :: (cutL d (cutT (d - 1) l k).2 ks).1, (cutL d (cutT (d - 1) l k).2 ks).2) else cutL d l ks
end
/-- Up to a place, and from there on. -/
theorem cutL_append (d : Int) (a b : List T) : ∀ l, cutL d l (a ++ b) = ((cutL d l a).1 ++ (cutL d (cutL d l a).2 b).1, (cutL d (cutL d l a).2 b).2) := by
  induction a with
  | nil => intro l; rfl
  | cons k a ih =>
    intro l
    rw [List.cons_append, cutL, cutL]
    split
    · rw [ih]
      rfl
    · exact ih l
theorem cutL_one (d l : Int) (k : T) : cutL d l [k] = if 0 < l ∧ 0 < d then ([(cutT (d - 1) l k).1], (cutT (d - 1) l k).2) else ([], l) := by
  rw [cutL]
  split <;> rfl
/-- How many nodes there are, and how many may still come. -/
theorem cut_count (t : T) : ∀ (d l : Int), 0 < l → (countT (cutT d l t).1 : Int) + (cutT d l t).2 = l ∧ 0 ≤ (cutT d l t).2 ∧ (cutT d l t).2 < l := by
  induction t using T_induct with
  | h t ih =>
    intro d l hl
    cases t with
    | mk k n x as_ ks =>
      have hL : ∀ (c : List T), (∀ y ∈ c, y ∈ ks) → ∀ l : Int, 0 ≤ l → (countTL (cutL d l c).1 : Int) + (cutL d l c).2 = l ∧ 0 ≤ (cutL d l c).2 ∧ (cutL d l c).2 ≤ l := by
        intro c
        induction c with
        | nil => intro _ l hl; simp [cutL, countTL]; exact hl
        | cons y c ih2 =>
          intro hm l hl
          rw [cutL]
          split
          · rename_i h0
            obtain ⟨a1, a2, a3⟩ := ih y (hm y (by simp)) (d - 1) l h0.1
            obtain ⟨b1, b2, b3⟩ := ih2 (fun z hz => hm z (by simp [hz])) (cutT (d - 1) l y).2 a2
            simp only [countTL]
            refine ⟨?_, b2, by omega⟩
            push_cast
            omega
          · exact ih2 (fun z hz => hm z (by simp [hz])) l hl
      rw [cutT]
      split
      · simp [countT, countTL]; omega
      · split
        · simp [countT, countTL]; omega
        · split
          · simp [countT, countTL]; omega
          · obtain ⟨a1, a2, a3⟩ := hL ks (fun y hy => hy) (l - 1) (by omega)
            simp only [countT]
            refine ⟨?_, a2, by omega⟩
            push_cast
            omega
theorem cutL_le (d : Int) (c : List T) : ∀ l : Int, 0 ≤ l → 0 ≤ (cutL d l c).2 ∧ (cutL d l c).2 ≤ l := by
  induction c with
  | nil => intro l hl; exact ⟨hl, Int.le_refl _⟩
  | cons y c ih =>
    intro l hl
    rw [cutL]
    split
    · rename_i h0
      obtain ⟨_, a2, a3⟩ := cut_count y (d - 1) l h0.1
      obtain ⟨b2, b3⟩ := ih (cutT (d - 1) l y).2 a2
      exact ⟨b2, by omega⟩
    · exact ih l hl
theorem cutL_len (d : Int) (c : List T) : ∀ l : Int, 0 ≤ l → ((cutL d l c).1.length : Int) ≤ l := by
  induction c with
  | nil => intro l hl; simpa [cutL] using hl
  | cons y c ih =>
    intro l hl
    rw [cutL]
    split
    · rename_i h0
      obtain ⟨_, a2, a3⟩ := cut_count y (d - 1) l h0.1
      have := ih (cutT (d - 1) l y).2 a2
      simp only [List.length_cons]
      push_cast
      omega
    · exact ih l hl
/-- Trees whose texts and rows can be counted. -/
inductive FitX : T → Prop
  | mk (t : T) (h1 : t.f1.size ≤ 140737488351232) (h2 : t.f2.size ≤ 140737488351232) (h3 : t.f3.length ≤ 4398046510976) (h4 : t.f4.length ≤ 4398046510976) (hk : ∀ y ∈ t.f4, FitX y) : FitX t
theorem FitX.fit {t : T} (h : FitX t) : Fit t := by
  induction h with
  | mk t _ _ h3 h4 _ ih => exact ⟨t, h3, h4, ih⟩
/-- What a cut tree is like: plain, its names some of these, its texts ASCII's, none of them long. -/
inductive CutOk : T → Prop
  | text (k : Int) (r : List Int) (hk : k = 1 ∨ k = 2) (hr : Asc r) (hl : r.length ≤ 300) : CutOk ⟨k, ⟨#[]⟩, strOfNums r, [], []⟩
  | elem (n : ByteArray) (ks : List T) (hn : n ∈ names14) (hv : n = brN ∨ n = imgN → ks = []) (hk : ∀ y ∈ ks, CutOk y) : CutOk ⟨0, n, ⟨#[]⟩, [], ks⟩
theorem cut_ok (t : T) : FitX t → ∀ d l, CutOk (cutT d l t).1 := by
  induction t using T_induct with
  | h t ih =>
    intro hf d l
    cases t with
    | mk k n x as_ ks =>
      obtain ⟨_, _, h2, _, _, hk⟩ := hf
      obtain ⟨r, e1, _, e3, e4⟩ := asc_f x h2
      rw [cutT]
      split
      · rw [e1]; exact .text 1 r (.inl rfl) e4 e3
      · split
        · rw [e1]; exact .text 2 r (.inr rfl) e4 e3
        · split
          · exact .elem _ _ (nmC_mem n) (fun _ => rfl) (fun y hy => by simp at hy)
          · rename_i hv
            have hL : ∀ (c : List T), (∀ y ∈ c, y ∈ ks) → ∀ l, ∀ y ∈ (cutL d l c).1, CutOk y := by
              intro c
              induction c with
              | nil => intro _ l y hy; simp [cutL] at hy
              | cons z c ih2 =>
                intro hm l y hy
                rw [cutL] at hy
                split at hy
                · rcases List.mem_cons.1 hy with e | e
                  · rw [e]
                    exact ih z (hm z (by simp)) (hk z (hm z (by simp))) _ _
                  · exact ih2 (fun q hq => hm q (by simp [hq])) _ y e
                · exact ih2 (fun q hq => hm q (by simp [hq])) _ y hy
            exact .elem _ _ (nmC_mem n) (fun h => absurd h hv) (hL ks (fun y hy => hy) _)
theorem countTL_ge (l : List T) : l.length ≤ countTL l := by
  induction l with
  | nil => exact Nat.le_refl _
  | cons k l ih =>
    have := countT_eq k
    rw [countTL, List.length_cons]
    omega
theorem cutOk_ok {t : T} (h : CutOk t) : countT t ≤ 1000000 → okT t = true := by
  induction h with
  | text k r hk hr hl => exact fun _ => okT_mk (.inl ⟨hk, rfl, rfl, rfl⟩) (Nat.zero_le _) (Nat.zero_le _) (fun y hy => by simp at hy)
  | elem n ks hn hv hk ih =>
    intro hc
    rw [countT] at hc
    have h1 := countTL_ge ks
    refine okT_mk (.inr (.inr ⟨rfl, rfl⟩)) (Nat.zero_le _) (by show ks.length ≤ _; omega) (fun y hy => ih y hy ?_)
    have : countT y ≤ countTL ks := by
      clear h1 hc ih hv hk
      have hy' : y ∈ ks := hy
      induction ks with
      | nil => simp at hy'
      | cons z ks ih =>
        rw [countTL]
        rcases List.mem_cons.1 hy' with e | e
        · rw [e]; omega
        · have := ih e e; omega
    omega
end Go.Proofs.Ytmfjbljdbkmkgaa.Dom

/- laws.inlineTree: its contract. -/
namespace Go.Proofs.Ytmfjbljdbkmkgaa.Dom
open Go.RowKit Go.Proofs.YtmfjbljdbkmkgaaW.PrintWords Go.Proofs.YtmfjbljdbkmkgaaW.PrintLast Go.Proofs.YtmfjbljdbkmkgaaW.PrintMore Go.Proofs.Ytmfjbljdbkmkgaa.PDom Go.Proofs.Ytmfjbljdbkmkgaa.Txt
set_option linter.unusedVariables false
set_option linter.unusedSimpArgs false

/-- All is as it was, but for the box of the number that is left. -/
abbrev OnL (lb : Nat) (w w' : World) : Prop := Only (put none_ lb dumI) w w'
theorem OnL.at {lb : Nat} {w w' : World} (h : OnL lb w w') {k : Nat} (hk : k < w.heap.size) (hne : k ≠ lb) : w'.heap[k]? = w.heap[k]? := h.block k hk (put_none lb k hne)
theorem OnL.then {lb : Nat} {w w1 w2 : World} (h : OnL lb w w1) (h2 : OnL lb w1 w2) : OnL lb w w2 := h.trans h2 (fun k hk _ => hk)
theorem OnL.below {lb : Nat} {w w1 w2 : World} (h : OnL lb w w1) (h2 : Below w.heap.size w1 w2) : OnL lb w w2 :=
  ⟨h2.os.trans h.os, h2.tape.trans h.tape, h2.output.trans h.output, Nat.le_trans h.size h2.size, fun k hk hd => (h2.block k hk).trans (h.block k hk hd)⟩
theorem OnL.of {lb : Nat} {w w1 : World} (h : Below w.heap.size w w1) : OnL lb w w1 := ⟨h.os, h.tape, h.output, h.size, fun k hk _ => h.block k hk⟩
theorem OnL.set {lb : Nat} {w w1 : World} (h : OnL lb w w1) (j : Nat) (u : Value) : OnL lb w (w1.setCell ⟨lb, j, none⟩ u) := Only.set h (p := ⟨lb, j, none⟩) (by show put none_ lb dumI lb ≠ none; rw [put_same]; simp) u
def zeroN : Array Value := #[.int .i64 0, .string ⟨#[]⟩, .string ⟨#[]⟩, .slice none 0 0, .slice none 0 0]
/-- The tree that is being made: its box, its row; the result's box; what is left. -/
structure TC (w wr : World) (lb : Nat) (L : Int) (nm : ByteArray) (v4 : Value) (l4 : List T) : Prop where
  box : wr.heap[w.heap.size + 2]? = some (.cells #[.int .i64 0, .string nm, .string ⟨#[]⟩, .slice none 0 0, v4] 25 (0, 0))
  res : wr.heap[w.heap.size + 1]? = some (.cells zeroN 25 (0, 0))
  lbx : wr.heap[lb]? = some (.cells #[.int .i64 L] 3 (0, 0))
  n4 : Kd.N k25 25 wr w.heap.size (fun k => w.heap.size + 3 ≤ k) v4 l4
  on : OnL lb w wr
section
variable {w wr w1 w2 w3 : World} {lb : Nat} {L L' : Int} {nm : ByteArray} {v4 v1 : Value} {l4 : List T}
theorem TC.size (h : TC w wr lb L nm v4 l4) : w.heap.size + 3 ≤ wr.heap.size := blk_lt h.box
theorem TC.moved (h : TC w wr lb L nm v4 l4) (hb : Below wr.heap.size wr w1) : TC w w1 lb L nm v4 l4 :=
  ⟨(hb.block _ (blk_lt h.box)).trans h.box, (hb.block _ (blk_lt h.res)).trans h.res, (hb.block _ (blk_lt h.lbx)).trans h.lbx, Kd.N_below h.n4 hb, h.on.below (hb.mono (by have := h.size; omega))⟩
theorem TC.call (h : TC w w1 lb L nm v4 l4) (hlb : lb < w.heap.size) (ho : OnL lb w1 w2) (hl : w2.heap[lb]? = some (.cells #[.int .i64 L'] 3 (0, 0))) : TC w w2 lb L' nm v4 l4 :=
  ⟨(ho.at (blk_lt h.box) (by omega)).trans h.box, (ho.at (blk_lt h.res) (by omega)).trans h.res, hl, Kd.N_step h.n4 (fun k hk hk2 => ho.at hk2 (by omega)), h.on.then ho⟩
theorem TC.kid (h : TC w w2 lb L nm v4 l4) (hlb : lb < w.heap.size) {p : T} (ho : Kd.N k25 25 w3 w.heap.size (fun k => w.heap.size + 3 ≤ k) v1 (l4 ++ [p])) (hb3 : Below w.heap.size w2 w3) (hg : w2.grownBy w3 v4.ownBlock) :
    w3.cell? ⟨w.heap.size + 2, 4, none⟩ = some v4 ∧ w3.frozen? ⟨w.heap.size + 2, 4, none⟩ = false ∧ TC w (w3.setCell ⟨w.heap.size + 2, 4, none⟩ v1) lb L nm v1 (l4 ++ [p]) := by
  have n2 : some (w.heap.size + 2) ≠ v4.ownBlock := fun e => by have := h.n4.1 _ e.symm; omega
  have n1 : some (w.heap.size + 1) ≠ v4.ownBlock := fun e => by have := h.n4.1 _ e.symm; omega
  have n0 : some lb ≠ v4.ownBlock := fun e => by have := h.n4.1 _ e.symm; omega
  have b3 := grown_kept hg h.box n2
  refine ⟨blk_cell b3 4, blk_frozen b3 4, blk_set b3 4 _, (Below.heap_setCell w3 _ _ _ (by show w.heap.size + 1 ≠ w.heap.size + 2; omega)).trans (grown_kept hg h.res n1), (Below.heap_setCell w3 _ _ _ (by show lb ≠ w.heap.size + 2; omega)).trans (grown_kept hg h.lbx n0), ?_, ?_⟩
  · refine Kd.N_far ho (fun k hk => ?_) _
    show k ≠ w.heap.size + 2
    omega
  · exact h.on.below (Below.setCell hb3 (p := ⟨w.heap.size + 2, 4, none⟩) (by show w.heap.size ≤ w.heap.size + 2; omega) _)
end
/-- What inlineTree returns. -/
def ToldC (w w' : World) (lb : Nat) (L : Int) (u : T) (e : Ending) : Prop := ∃ A4 c4, e = .returned (.agg #[.int .i64 u.f0, .string u.f1, .string u.f2, .slice none 0 0, .slice A4 u.f4.length c4]) ∧ u.f3 = [] ∧ u.f4.length ≤ c4 ∧ Kd.N k25 25 w' w.heap.size (fun k => w.heap.size ≤ k) (.slice A4 u.f4.length c4) u.f4 ∧ OnL lb w w' ∧ w'.heap[lb]? = some (.cells #[.int .i64 L] 3 (0, 0))
theorem cut_end {w w3 : World} {lb : Nat} {L : Int} {u : T} {A4 : Option Addr} {c4 : Nat} (hlb : lb < w.heap.size) (h3 : u.f3 = []) (hr : w.heap.size + 1 < w3.heap.size) (hl : w3.heap[lb]? = some (.cells #[.int .i64 L] 3 (0, 0))) (hon : OnL lb w w3)
    (h4 : Kd.N k25 25 w3 w.heap.size (fun k => w.heap.size + 3 ≤ k) (.slice A4 u.f4.length c4) u.f4) (a0 a1 a2 a3 a4 : Value) :
    ToldC w (((((w3.setCell ⟨w.heap.size + 1, 0, none⟩ a0).setCell ⟨w.heap.size + 1, 1, none⟩ a1).setCell ⟨w.heap.size + 1, 2, none⟩ a2).setCell ⟨w.heap.size + 1, 3, none⟩ a3).setCell ⟨w.heap.size + 1, 4, none⟩ a4) lb L u (.returned (.agg #[.int .i64 u.f0, .string u.f1, .string u.f2, .slice none 0 0, .slice A4 u.f4.length c4])) := by
  have hs := fun k (hk : k ≠ w.heap.size + 1) => sets5 w3 (w.heap.size + 1) a0 a1 a2 a3 a4 k hk
  have hb : Below w.heap.size w3 (((((w3.setCell ⟨w.heap.size + 1, 0, none⟩ a0).setCell ⟨w.heap.size + 1, 1, none⟩ a1).setCell ⟨w.heap.size + 1, 2, none⟩ a2).setCell ⟨w.heap.size + 1, 3, none⟩ a3).setCell ⟨w.heap.size + 1, 4, none⟩ a4) :=
    Below.setCell (Below.setCell (Below.setCell (Below.setCell (Below.setCell (Below.refl _ w3) (p := ⟨w.heap.size + 1, 0, none⟩) (Nat.le_succ _) _) (p := ⟨w.heap.size + 1, 1, none⟩) (Nat.le_succ _) _) (p := ⟨w.heap.size + 1, 2, none⟩) (Nat.le_succ _) _) (p := ⟨w.heap.size + 1, 3, none⟩) (Nat.le_succ _) _) (p := ⟨w.heap.size + 1, 4, none⟩) (Nat.le_succ _) _
  exact ⟨A4, c4, rfl, h3, (Kd.N_reads' h4).2.1, Kd.N_mono (Kd.N_step h4 (fun k hk _ => hs k (by omega))) (fun k hk => by omega), hon.below hb, (hs lb (by omega)).trans hl⟩
theorem fk_cut {W : World} {ok : Nat → Prop} {u : T} {A4 : Option Addr} {c4 : Nat} (h3 : u.f3 = []) (l4 : u.f4.length ≤ c4) (g4 : Kd.F k25 W ok A4 u.f4.length u.f4) : Kd.FK k25 W ok u [.int .i64 u.f0, .string u.f1, .string u.f2, .slice none 0 0, .slice A4 u.f4.length c4] := by
  have := k25_mkF W ok u (A3 := none) (c3 := 0) (by rw [h3]; exact Nat.le_refl _) (by rw [h3]; exact Kd.F_nil _ _ _) l4 g4
  rw [h3] at this
  exact this
/-- The three boxes, and one less left. -/
theorem cut_start {w : World} {lb : Nat} {l l' : Int} (hlb : w.heap[lb]? = some (.cells #[.int .i64 l] 3 (0, 0))) (c0 c1 c2 : Array Value) (W : World) (hW : W = (((w.setCell ⟨lb, 0, none⟩ (.int .i64 l')).alloc (.cells c0 25)).alloc (.cells c1 25)).alloc (.cells c2 25)) :
    W.heap.size = w.heap.size + 3 ∧ W.heap[w.heap.size]? = some (.cells c0 25 (0, 0)) ∧ W.heap[w.heap.size + 1]? = some (.cells c1 25 (0, 0)) ∧ W.heap[w.heap.size + 2]? = some (.cells c2 25 (0, 0)) ∧ W.heap[lb]? = some (.cells #[.int .i64 l'] 3 (0, 0)) ∧ OnL lb w W := by
  have hlt := blk_lt hlb
  obtain ⟨W3, hW3⟩ : ∃ W3, W3 = w.setCell ⟨lb, 0, none⟩ (.int .i64 l') := ⟨_, rfl⟩
  have kl3 : W3.heap[lb]? = some (.cells #[.int .i64 l'] 3 (0, 0)) := by rw [hW3]; exact blk_set hlb 0 _
  have hs3 : W3.heap.size = w.heap.size := by rw [hW3]; simp [World.setCell]
  have o3 : OnL lb w W3 := by rw [hW3]; exact (OnL.of (Below.refl _ w)).set 0 _
  rw [← hW3] at hW
  have e : W.heap = ((W3.heap.push (.cells c0 25 (0, 0))).push (.cells c1 25 (0, 0))).push (.cells c2 25 (0, 0)) := by rw [hW]; rfl
  have b4 : Below W3.heap.size W3 W := by rw [hW]; exact below_alloc (below_alloc (below_alloc (Below.refl _ _) _) _) _
  refine ⟨by rw [e]; simp [hs3], ?_, ?_, ?_, (b4.block _ (by omega)).trans kl3, o3.below (b4.mono (by omega))⟩ <;> rw [e] <;> simp only [Array.getElem?_push, Array.size_push, hs3] <;> repeat (first | rfl | rw [if_pos trivial] | rw [if_pos (by omega)] | rw [if_neg (by omega)])
end Go.Proofs.Ytmfjbljdbkmkgaa.Dom

/- laws.inlineTree: its walk. -/
namespace Go.Proofs.Ytmfjbljdbkmkgaa.Dom
open Go.RowKit Go.Proofs.YtmfjbljdbkmkgaaW.PrintWords Go.Proofs.YtmfjbljdbkmkgaaW.PrintLast Go.Proofs.YtmfjbljdbkmkgaaW.PrintMore Go.Proofs.Ytmfjbljdbkmkgaa.PDom Go.Proofs.Ytmfjbljdbkmkgaa.Txt
set_option linter.unusedVariables false
set_option linter.unusedSimpArgs false

set_option maxHeartbeats 4000000 in
set_option maxRecDepth 100000 in
theorem cut_calls : ∀ (n : Nat) (t : T), SizeOf.sizeOf t ≤ n → FitX t → ∀ (d l : Int), 0 ≤ d → d ≤ 8 → 0 < l → l ≤ 60 → ∀ (w : World) (lb : Nat) (P : Nat → Prop) (A3 : Option Addr) (c3 : Nat) (A4 : Option Addr) (c4 : Nat), w.heap[lb]? = some (.cells #[.int .i64 l] 3 (0, 0)) → (∀ k, P k → k ≠ lb ∧ k < w.heap.size) → Kd.F k25 w P A4 t.f4.length t.f4 → t.f4.length ≤ c4 →
    Calls Try.prog 31 #[.agg #[.int .i64 t.f0, .string t.f1, .string t.f2, .slice A3 t.f3.length c3, .slice A4 t.f4.length c4], .int .i64 d, .pointer (some ⟨lb, 0, none⟩)] w fun e w' => ToldC w w' lb (cutT d l t).2 (cutT d l t).1 e := by
  intro n
  induction n with
  | zero =>
    intro t h
    cases t
    simp at h
  | succ n ih =>
    intro t hsz hfit d l hd0 hd8 hl0 hl60 w lb P A3 c3 A4 c4 hlb hP h4 l4
    obtain ⟨f0, f1, f2, f3, f4⟩ := t
    simp only at h4 l4 ⊢
    have hlt := blk_lt hlb
    have HSZ := Aside0.mk hsz
    have HFIT := Aside0.mk hfit
    have HP := Aside0.mk hP
    have H4 := Aside0.mk h4
    have L4 := Aside0.mk l4
    have IH := Aside0.mk ih
    have HLB := Aside0.mk hlb
    have hw1 : wrap64 (l - 1) = l - 1 := by unfold wrap64; omega
    have q0 : w.cell? ⟨lb, 0, none⟩ = some (.int .i64 l) := by rw [blk_cell hlb]; rfl
    have qf : w.frozen? ⟨lb, 0, none⟩ = false := blk_frozen hlb 0
    by_cases k1 : f0 = 1 ∨ f0 = 2
    · obtain ⟨W, hW⟩ : ∃ W, W = (((w.setCell ⟨lb, 0, none⟩ (.int .i64 (l - 1))).alloc (.cells #[.int .i64 f0, .string f1, .string f2, .slice A3 f3.length c3, .slice A4 f4.length c4] 25)).alloc (.cells #[.int .i64 0, .string ⟨#[]⟩, .string ⟨#[]⟩, .slice none 0 0, .slice none 0 0] 25)).alloc (.cells #[.int .i64 f0, .string f1, .string f2, .slice none 0 0, .slice none 0 0] 25) := ⟨_, rfl⟩
      obtain ⟨z0, z1, z2, z3, z4, z5⟩ := cut_start (l' := l - 1) hlb _ _ _ W hW
      obtain ⟨r, e1, e2, _, _⟩ := asc_f f2 (by cases hfit with | mk _ h1 h2 h3 h4 hk => exact h2)
      have HA := Aside0.mk (laws_inlineASCII.calls 400 f2 (ascB f2) W (e2 400 (by omega)))
      have Z0 := Aside0.mk z0
      have Z2 := Aside0.mk z2
      have Z4 := Aside0.mk z4
      have Z5 := Aside0.mk z5
      clear hsz hfit h4 l4 ih hP z0 z1 z2 z3 z4 z5 e1 e2 HSZ HFIT HP H4 L4 IH hd0 hd8 hl0 hl60
      rcases k1 with rfl | rfl
      · rw [show (cutT d l ⟨1, f1, f2, f3, f4⟩).2 = l - 1 by rw [cutT, if_pos rfl], show (cutT d l ⟨1, f1, f2, f3, f4⟩).1 = ⟨1, ⟨#[]⟩, ascB f2, [], []⟩ by rw [cutT, if_pos rfl]]
        clear hlb
        go_enter Try.func31, Try.ntmps31
        go_wp2_with fail
        rw [← hW]
        clear hW
        refine HA.out.mono ?_
        rintro e w3 ⟨rfl, hB⟩
        have hb2 := (hB.block _ (blk_lt Z2.out)).trans Z2.out
        have HE := Aside0.mk (fun a0 a1 a2 a3 a4 => cut_end (w := w) (w3 := w3) (u := ⟨1, ⟨#[]⟩, ascB f2, [], []⟩) (A4 := none) (c4 := 0) hlt rfl (blk_lt hb2) ((hB.block _ (blk_lt Z4.out)).trans Z4.out) (Z5.out.below (hB.mono (by have := Z0.out; omega))) (Kd.N_nil _ _ _ _ _) a0 a1 a2 a3 a4)
        have g0 := blk_frozen hb2 0
        have g1 := blk_frozen hb2 1
        have g2 := blk_frozen hb2 2
        have g3 := blk_frozen hb2 3
        have g4 := blk_frozen hb2 4
        have p0 := blk_cell hb2 0
        have p1 := blk_cell hb2 1
        have p2 := blk_cell hb2 2
        have p3 := blk_cell hb2 3
        have p4 := blk_cell hb2 4
        clear hb2 hB HA
        go_wp2_with fail
        refine bodyPost_ret (v := .agg #[.int .i64 1, .string ⟨#[]⟩, .string (ascB f2), .slice none 0 0, .slice none 0 0]) (by simp [results, Try.results31, go_sem, p0, p1, p2, p3, p4]) rfl ?_
        exact HE.out _ _ _ _ _
      · rw [show (cutT d l ⟨2, f1, f2, f3, f4⟩).2 = l - 1 by rw [cutT, if_neg (by decide), if_pos rfl], show (cutT d l ⟨2, f1, f2, f3, f4⟩).1 = ⟨2, ⟨#[]⟩, ascB f2, [], []⟩ by rw [cutT, if_neg (by decide), if_pos rfl]]
        clear hlb
        go_enter Try.func31, Try.ntmps31
        go_wp2_with fail
        rw [← hW]
        clear hW
        refine HA.out.mono ?_
        rintro e w3 ⟨rfl, hB⟩
        have hb2 := (hB.block _ (blk_lt Z2.out)).trans Z2.out
        have HE := Aside0.mk (fun a0 a1 a2 a3 a4 => cut_end (w := w) (w3 := w3) (u := ⟨2, ⟨#[]⟩, ascB f2, [], []⟩) (A4 := none) (c4 := 0) hlt rfl (blk_lt hb2) ((hB.block _ (blk_lt Z4.out)).trans Z4.out) (Z5.out.below (hB.mono (by have := Z0.out; omega))) (Kd.N_nil _ _ _ _ _) a0 a1 a2 a3 a4)
        have g0 := blk_frozen hb2 0
        have g1 := blk_frozen hb2 1
        have g2 := blk_frozen hb2 2
        have g3 := blk_frozen hb2 3
        have g4 := blk_frozen hb2 4
        have p0 := blk_cell hb2 0
        have p1 := blk_cell hb2 1
        have p2 := blk_cell hb2 2
        have p3 := blk_cell hb2 3
        have p4 := blk_cell hb2 4
        clear hb2 hB HA
        go_wp2_with fail
        refine bodyPost_ret (v := .agg #[.int .i64 2, .string ⟨#[]⟩, .string (ascB f2), .slice none 0 0, .slice none 0 0]) (by simp [results, Try.results31, go_sem, p0, p1, p2, p3, p4]) rfl ?_
        exact HE.out _ _ _ _ _
    · have kk1 : f0 ≠ 1 := fun e => k1 (.inl e)
      have kk2 : f0 ≠ 2 := fun e => k1 (.inr e)
      have d1 : decide (f0 = 1) = false := decide_eq_false kk1
      have d2 : decide (f0 = 2) = false := decide_eq_false kk2
      have b1 : (f0 == 1) = false := beq_eq_false_iff_ne.2 kk1
      have b2 : (f0 == 2) = false := beq_eq_false_iff_ne.2 kk2
      obtain ⟨W, hW⟩ : ∃ W, W = (((w.setCell ⟨lb, 0, none⟩ (.int .i64 (l - 1))).alloc (.cells #[.int .i64 f0, .string f1, .string f2, .slice A3 f3.length c3, .slice A4 f4.length c4] 25)).alloc (.cells #[.int .i64 0, .string ⟨#[]⟩, .string ⟨#[]⟩, .slice none 0 0, .slice none 0 0] 25)).alloc (.cells #[.int .i64 f0, .string f1, .string f2, .slice none 0 0, .slice none 0 0] 25) := ⟨_, rfl⟩
      obtain ⟨z0, z1, z2, z3, z4, z5⟩ := cut_start (l' := l - 1) hlb _ _ _ W hW
      have HA := Aside0.mk (laws_inlineName.calls 20 f1 (nmC f1) W (name_f f1 20 (by omega)))
      have Z0 := Aside0.mk z0
      have Z1 := Aside0.mk z1
      have Z2 := Aside0.mk z2
      have Z3 := Aside0.mk z3
      have Z4 := Aside0.mk z4
      have Z5 := Aside0.mk z5
      have HC := Aside0.mk (show (cutT d l ⟨f0, f1, f2, f3, f4⟩).1 = (if nmC f1 = brN ∨ nmC f1 = imgN then ⟨0, nmC f1, ⟨#[]⟩, [], []⟩ else ⟨0, nmC f1, ⟨#[]⟩, [], (cutL d (l - 1) f4).1⟩) ∧ (cutT d l ⟨f0, f1, f2, f3, f4⟩).2 = (if nmC f1 = brN ∨ nmC f1 = imgN then l - 1 else (cutL d (l - 1) f4).2) from by
        rw [cutT, if_neg kk1, if_neg kk2]
        split <;> exact ⟨rfl, rfl⟩)
      have HD0 := Aside0.mk hd0
      have HD8 := Aside0.mk hd8
      have HL60 := Aside0.mk hl60
      have HL0 := Aside0.mk hl0
      clear hsz hfit h4 l4 ih hP hlb z0 z1 z2 z3 z4 z5 k1 kk1 kk2 hd0 hd8 hl0 hl60
      go_enter Try.func31, Try.ntmps31
      go_wp2_with fail
      rw [← hW]
      clear hW
      refine HA.out.mono ?_
      rintro e w3 ⟨rfl, hB⟩
      have hb2 := (hB.block _ (blk_lt Z3.out)).trans Z3.out
      have HT := Aside0.mk (show TC w (((((w3.setCell ⟨w.heap.size + 1 + 1, 0, none⟩ (.int .i64 0)).setCell ⟨w.heap.size + 1 + 1, 1, none⟩ (.string (nmC f1))).setCell ⟨w.heap.size + 1 + 1, 2, none⟩ (.string ⟨#[]⟩)).setCell ⟨w.heap.size + 1 + 1, 3, none⟩ (.slice none 0 0)).setCell ⟨w.heap.size + 1 + 1, 4, none⟩ (.slice none 0 0)) lb (l - 1) (nmC f1) (.slice none 0 0) [] from by
        have hs := fun k (hk : k ≠ w.heap.size + 2) => sets5 w3 (w.heap.size + 2) (.int .i64 0) (.string (nmC f1)) (.string ⟨#[]⟩) (.slice none 0 0) (.slice none 0 0) k hk
        have hz := Z0.out
        refine ⟨sets5_box hb2 _ _ _ _ _, (hs _ (by omega)).trans ((hB.block _ (blk_lt Z2.out)).trans Z2.out), (hs _ (by omega)).trans ((hB.block _ (blk_lt Z4.out)).trans Z4.out), Kd.N_nil _ _ _ _ _, (Z5.out.below (hB.mono (by omega))).below ?_⟩
        exact Below.setCell (Below.setCell (Below.setCell (Below.setCell (Below.setCell (Below.refl _ w3) (p := ⟨w.heap.size + 2, 0, none⟩) (by show _ ≤ w.heap.size + 2; omega) _) (p := ⟨w.heap.size + 2, 1, none⟩) (by show _ ≤ w.heap.size + 2; omega) _) (p := ⟨w.heap.size + 2, 2, none⟩) (by show _ ≤ w.heap.size + 2; omega) _) (p := ⟨w.heap.size + 2, 3, none⟩) (by show _ ≤ w.heap.size + 2; omega) _) (p := ⟨w.heap.size + 2, 4, none⟩) (by show _ ≤ w.heap.size + 2; omega) _)
      have hbN := (hB.block _ (blk_lt Z1.out)).trans Z1.out
      have HBN := Aside0.mk hbN
      have g0 := blk_frozen hb2 0
      have g1 := blk_frozen hb2 1
      have g2 := blk_frozen hb2 2
      have g3 := blk_frozen hb2 3
      have g4 := blk_frozen hb2 4
      have p0 := blk_cell hb2 0
      have p1 := blk_cell hb2 1
      have p2 := blk_cell hb2 2
      have p3 := blk_cell hb2 3
      have p4 := blk_cell hb2 4
      have r4 := blk_cell hbN 4
      clear hb2 hbN hB HA
      go_upto_region 8 with fail
      have HR4 := Aside0.mk (show (((((w3.setCell ⟨w.heap.size + 1 + 1, 0, none⟩ (.int .i64 0)).setCell ⟨w.heap.size + 1 + 1, 1, none⟩ (.string (nmC f1))).setCell ⟨w.heap.size + 1 + 1, 2, none⟩ (.string ⟨#[]⟩)).setCell ⟨w.heap.size + 1 + 1, 3, none⟩ (.slice none 0 0)).setCell ⟨w.heap.size + 1 + 1, 4, none⟩ (.slice none 0 0)).cell? ⟨w.heap.size, 4, none⟩ = some (.slice A4 f4.length c4) from
        blk_cell ((sets5 w3 (w.heap.size + 2) (.int .i64 0) (.string (nmC f1)) (.string ⟨#[]⟩) (.slice none 0 0) (.slice none 0 0) _ (by omega)).trans HBN.out) 4)
      clear g0 g1 g2 g3 g4 p0 p1 p2 p3 p4 r4 HBN Z0 Z1 Z2 Z3 Z4 Z5
      generalize hW4 : ((((w3.setCell ⟨w.heap.size + 1 + 1, 0, none⟩ (.int .i64 0)).setCell ⟨w.heap.size + 1 + 1, 1, none⟩ (.string (nmC f1))).setCell ⟨w.heap.size + 1 + 1, 2, none⟩ (.string ⟨#[]⟩)).setCell ⟨w.heap.size + 1 + 1, 3, none⟩ (.slice none 0 0)).setCell ⟨w.heap.size + 1 + 1, 4, none⟩ (.slice none 0 0) = W4 at HT HR4 ⊢
      clear hW4
      have r4 := HR4.out
      have o1 : W4.cell? ⟨w.heap.size + 1 + 1, 1, none⟩ = some (.string (nmC f1)) := blk_cell HT.out.box 1
      by_cases hv : nmC f1 = brN ∨ nmC f1 = imgN
      · have hc := HC.out
        rw [if_pos hv, if_pos hv] at hc
        have HC2 := Aside0.mk hc
        clear hc HC
        have o0 : W4.cell? ⟨w.heap.size + 1 + 1, 0, none⟩ = some (.int .i64 0) := blk_cell HT.out.box 0
        have o2 : W4.cell? ⟨w.heap.size + 1 + 1, 2, none⟩ = some (.string ⟨#[]⟩) := blk_cell HT.out.box 2
        have o3 : W4.cell? ⟨w.heap.size + 1 + 1, 3, none⟩ = some (.slice none 0 0) := blk_cell HT.out.box 3
        have o4 : W4.cell? ⟨w.heap.size + 1 + 1, 4, none⟩ = some (.slice none 0 0) := blk_cell HT.out.box 4
        have hr := HT.out.res
        have g0 := blk_frozen hr 0
        have g1 := blk_frozen hr 1
        have g2 := blk_frozen hr 2
        have g3 := blk_frozen hr 3
        have g4 := blk_frozen hr 4
        have p0 := blk_cell hr 0
        have p1 := blk_cell hr 1
        have p2 := blk_cell hr 2
        have p3 := blk_cell hr 3
        have p4 := blk_cell hr 4
        simp only [zeroN] at p0 p1 p2 p3 p4
        have HE := Aside0.mk (fun a0 a1 a2 a3 a4 => cut_end (w := w) (w3 := W4) (u := ⟨0, nmC f1, ⟨#[]⟩, [], []⟩) (A4 := none) (c4 := 0) hlt rfl (blk_lt hr) HT.out.lbx HT.out.on HT.out.n4 a0 a1 a2 a3 a4)
        clear hr HT HR4
        generalize nmC f1 = nm at *
        rcases hv with rfl | rfl
        · simp only [brN] at *
          go_wp2_with fail
          refine bodyPost_ret (v := .agg #[.int .i64 0, .string ⟨#[98, 114]⟩, .string ⟨#[]⟩, .slice none 0 0, .slice none 0 0]) (by simp [results, Try.results31, go_sem, p0, p1, p2, p3, p4]) rfl ?_
          rw [HC2.out.1, HC2.out.2]
          exact HE.out _ _ _ _ _
        · simp only [imgN] at *
          go_wp2_with fail
          refine bodyPost_ret (v := .agg #[.int .i64 0, .string ⟨#[105, 109, 103]⟩, .string ⟨#[]⟩, .slice none 0 0, .slice none 0 0]) (by simp [results, Try.results31, go_sem, p0, p1, p2, p3, p4]) rfl ?_
          rw [HC2.out.1, HC2.out.2]
          exact HE.out _ _ _ _ _
      · have hc := HC.out
        rw [if_neg hv, if_neg hv] at hc
        have HC2 := Aside0.mk hc
        clear hc HC
        have m1 : ((nmC f1).toList == (⟨#[98, 114]⟩ : ByteArray).toList) = false := beq_eq_false_iff_ne.2 (fun e => hv (.inl (toList_inj e)))
        have m2 : ((nmC f1).toList == (⟨#[105, 109, 103]⟩ : ByteArray).toList) = false := beq_eq_false_iff_ne.2 (fun e => hv (.inr (toList_inj e)))
        clear hv
        have x1 : (⟨#[98, 114]⟩ : ByteArray).toList = [98, 114] := (ByteArray.toList_eq _).trans rfl
        have x2 : (⟨#[105, 109, 103]⟩ : ByteArray).toList = [105, 109, 103] := (ByteArray.toList_eq _).trans rfl
        rw [x1] at m1
        rw [x2] at m2
        generalize nmC f1 = nm at *
        clear x1 x2
        go_wp2_with fail
        go_loopw [54] (fun vi wr => ∃ (j : Nat) (v4 : Value), vi = .int .i64 j ∧ j ≤ f4.length ∧ Aside0 (TC w wr lb (cutL d (l - 1) (f4.take j)).2 nm v4 (cutL d (l - 1) (f4.take j)).1)) (fun vi _ => f4.length - (intOf vi).toNat)
        case atStart => exact ⟨0, _, rfl, Nat.zero_le _, HT⟩
        case round =>
          clear HT HR4 r4 m1 m2
          obtain ⟨j, v4, rfl, hj, HT⟩ := hrel
          by_cases hlt2 : j < f4.length
          · have hF := Kd.F_step H4.out (fun k hk hk2 => HT.out.on.at hk2 (HP.out k hk).1)
            obtain ⟨ad, A5, c5, A6, c6, rfl, y0, y1, y2, y3, y4, m3, g3, m4, g4⟩ := at_F hF (j : Int) (by omega) (by omega)
            have he : f4.getD (j : Int).toNat z25 = f4[j] := by simp [List.getD_eq_getElem?_getD, List.getElem?_eq_getElem hlt2]
            rw [he] at y0 y1 y2 y3 y4 m3 g3 m4 g4
            simp only [Int.toNat_natCast] at y0 y1 y2 y3 y4
            have hq : f4[j] ∈ f4 := List.getElem_mem _
            have hfq : FitX f4[j] := by obtain ⟨_, _, _, _, _, hk⟩ := HFIT.out; exact hk _ hq
            have hsq : SizeOf.sizeOf f4[j] ≤ n := by have h1 := kid_lt (t := ⟨f0, f1, f2, f3, f4⟩) hq; have h2 := HSZ.out; omega
            have hsn : cutL d (l - 1) (f4.take (j + 1)) = if 0 < (cutL d (l - 1) (f4.take j)).2 ∧ 0 < d then ((cutL d (l - 1) (f4.take j)).1 ++ [(cutT (d - 1) (cutL d (l - 1) (f4.take j)).2 f4[j]).1], (cutT (d - 1) (cutL d (l - 1) (f4.take j)).2 f4[j]).2) else ((cutL d (l - 1) (f4.take j)).1, (cutL d (l - 1) (f4.take j)).2) := by
              rw [List.take_succ_eq_append_getElem hlt2, cutL_append, cutL_one]
              split <;> simp
            have hL := cutL_le d (f4.take j) (l - 1) (by have := HL0.out; omega)
            have hlen : (cutL d (l - 1) (f4.take j)).1.length ≤ 1000000 := by
              have := cutL_len d (f4.take j) (l - 1) (by have := HL0.out; omega)
              have := HL60.out
              omega
            generalize f4[j] = q at *
            generalize (cutL d (l - 1) (f4.take j)).1 = la at *
            generalize (cutL d (l - 1) (f4.take j)).2 = L at *
            have HWJ := Aside0.mk (wrap_succ j (by obtain ⟨_, _, _, _, ha, _⟩ := HFIT.out; simp only at ha; omega))
            have ql := blk_cell HT.out.lbx 0
            have HSN := Aside0.mk hsn
            have HKC := Aside0.mk (fun (hL0 : 0 < L) (hd1 : 0 < d) wx (hb : Below wr.heap.size wr wx) => IH.out q hsq hfq (d - 1) L (by omega) (by have := HD8.out; omega) hL0 (by have := HL60.out; omega) wx lb P A5 c5 A6 c6 ((hb.block _ (blk_lt HT.out.lbx)).trans HT.out.lbx) (fun k hk => ⟨(HP.out k hk).1, by have h1 := (HP.out k hk).2; have h2 := HT.out.size; have h3 := hb.size; omega⟩) (Kd.F_below g4 hb) m4)
            have HLN := Aside0.mk hlen
            clear he hq hfq hsq hsn hL hF m3 g3 m4 g4 hlen
            have hwd : wrap64 (d - 1) = d - 1 := by have := HD0.out; have := HD8.out; unfold wrap64; omega
            go_upto_region 13 with fail
            have hcp : (wr.alloc (.cells #[.int .i64 q.f0, .string q.f1, .string q.f2, .slice A5 q.f3.length c5, .slice A6 q.f4.length c6] 25)).heap[wr.heap.size]? = some (.cells #[.int .i64 q.f0, .string q.f1, .string q.f2, .slice A5 q.f3.length c5, .slice A6 q.f4.length c6] 25 (0, 0)) := heap_alloc_new wr _
            have HB8 := Aside0.mk (below_alloc (Below.refl wr.heap.size wr) (.cells #[.int .i64 q.f0, .string q.f1, .string q.f2, .slice A5 q.f3.length c5, .slice A6 q.f4.length c6] 25))
            have HTP := Aside0.mk HT.out
            clear HT ql
            generalize wr.alloc (.cells #[.int .i64 q.f0, .string q.f1, .string q.f2, .slice A5 q.f3.length c5, .slice A6 q.f4.length c6] 25) = w8 at hcp HB8 ⊢
            have HT := Aside0.mk (HTP.out.moved HB8.out)
            have ql := blk_cell HT.out.lbx 0
            have HCP := Aside0.mk hcp
            clear hcp y0 y1 y2 y3 y4
            have hwk : IntKind.i64.wrap (d - 1) = d - 1 := by have := HD0.out; have := HD8.out; simp [IntKind.wrap, IntKind.bits, IntKind.signed]; omega
            by_cases hp : 0 < L ∧ 0 < d
            · obtain ⟨hp1, hp2⟩ := hp
              have HSN2 := Aside0.mk (HSN.out.trans (if_pos ⟨hp1, hp2⟩))
              have HKC2 := Aside0.mk (HKC.out hp1 hp2)
              clear HSN HKC
              go_upto_region 14 with fail
              have HDW := Aside0.mk (below_drew (Below.refl w8.heap.size w8))
              have hcd := (HDW.out.block _ (blk_lt HCP.out)).trans HCP.out
              have y0 := blk_cell HCP.out 0
              have y1 := blk_cell HCP.out 1
              have y2 := blk_cell HCP.out 2
              have y3 := blk_cell HCP.out 3
              have y4 := blk_cell HCP.out 4
              have yd0 := blk_cell hcd 0
              have yd1 := blk_cell hcd 1
              have yd2 := blk_cell hcd 2
              have yd3 := blk_cell hcd 3
              have yd4 := blk_cell hcd 4
              have x4 : w8.cell? ⟨w.heap.size + 1 + 1, 4, none⟩ = some v4 := blk_cell HT.out.box 4
              have x4d : w8.drew.cell? ⟨w.heap.size + 1 + 1, 4, none⟩ = some v4 := blk_cell (HT.out.moved HDW.out).box 4
              have HKW := Aside0.mk (HKC2.out _ (below_step HB8.out HDW.out))
              have HTD := Aside0.mk (HT.out.moved HDW.out)
              clear hcd HKC2
              generalize (cutT (d - 1) L q).1 = u at HKW HSN2
              generalize (cutT (d - 1) L q).2 = L2 at HKW HSN2
              have HOK := Aside0.mk (show ∀ k, wr.heap.size ≤ k → w.heap.size + 3 ≤ k ∧ some k ≠ v4.ownBlock from fun k hk => ⟨Nat.le_trans HTP.out.size hk, fun e => by have := Kd.N_lt HTP.out.n4 k e.symm; omega⟩)
              have HAF := Aside0.mk (show ∀ (w2 : World) (A7 : Option Addr) (c7 : Nat), u.f3 = [] → u.f4.length ≤ c7 → Kd.N k25 25 w2 w8.drew.heap.size (fun k => w8.drew.heap.size ≤ k) (.slice A7 u.f4.length c7) u.f4 → OnL lb w8.drew w2 → w2.heap[lb]? = some (.cells #[.int .i64 L2] 3 (0, 0)) →
                  Aside0 (TC w w2 lb L2 nm v4 la) ∧ Aside0 (w.heap.size ≤ w2.heap.size) ∧ Aside0 (Kd.FK k25 w2 (fun k => wr.heap.size ≤ k) u [.int .i64 u.f0, .string u.f1, .string u.f2, .slice none 0 0, .slice A7 u.f4.length c7]) ∧ Aside0 (∀ k, w2.heap.size ≤ k → w.heap.size + 3 ≤ k) ∧ w2.cell? ⟨w.heap.size + 1 + 1, 4, none⟩ = some v4 ∧ (w2.alloc (.cells #[.int .i64 u.f0, .string u.f1, .string u.f2, .slice none 0 0, .slice A7 u.f4.length c7] 25)).cell? ⟨w.heap.size + 1 + 1, 4, none⟩ = some v4 from fun w2 A7 c7 hu3 m7 N7 ho2 hl2 => by
                have h2 := HTD.out.call hlt ho2 hl2
                refine ⟨⟨h2⟩, ⟨by have := h2.size; omega⟩, ⟨Kd.FK_mono (fk_cut (W := w2) hu3 m7 (Kd.N_F N7)) (fun k hk => show wr.heap.size ≤ k from Nat.le_trans (Nat.le_trans HB8.out.size HDW.out.size) hk)⟩, ⟨fun k hk => Nat.le_trans h2.size hk⟩, blk_cell h2.box 4, blk_cell (h2.moved (below_alloc (Below.refl _ _) _)).box 4⟩)
              go_region_law (first
                | (refine kids_step (w0 := w2) (W := w2) rfl w.heap.size (.tmp 67) (.tmp 73) 23 (.agg #[.int .i64 0, .string ⟨#[]⟩, .string ⟨#[]⟩, .slice none 0 0, .slice none 0 0]) rfl Try.underlying23 infoNd rfl v4 la u [.int .i64 u.f0, .string u.f1, .string u.f2, .slice none 0 0, .slice A7 u.f4.length c7] (fun k => w.heap.size + 3 ≤ k) (fun k => wr.heap.size ≤ k) (by simp [Act.eval, Act.put]) (by simp [Act.eval, Act.put]) HFK.out HOK.out HFR.out HT2.out.n4 (Below.refl _ _) HSZ2.out (by have := HLN.out; omega) ?_; intro v1 w3 ho hb hg hat; obtain ⟨L1, hL1⟩ : ∃ L1, L1 = (la ++ [u]).length := ⟨_, rfl⟩; obtain ⟨A1, k1, hv1⟩ := Kd.N_slice ho; rw [← hL1] at hv1; subst hv1; clear hL1; obtain ⟨g3, gf3, ht3⟩ := HT2.out.kid hlt ho hb hg; have HT3 := Aside0.mk ht3; clear ho hb hg hat ht3)
                | (go_simp; go_at_call 31; (try simp only [hwk]); refine HKW.out.mono ?_; rintro e w2 ⟨A7, c7, rfl, hu3, m7, N7, ho2, hl2⟩; obtain ⟨HT2, HSZ2, HFK, HFR, x42, x43⟩ := HAF.out w2 A7 c7 hu3 m7 N7 ho2 hl2; clear hu3 m7 N7 ho2 hl2))
              all_goals (simp only [Exit.inBlock, Exit.then]; go_wp2_with fail; go_roundw)
              all_goals first
                | exact ⟨j + 1, _, by rw [HWJ.out], hlt2, by rw [HSN2.out]; exact HT3⟩
                | (rw [HWJ.out]; simp [intOf]; omega)
            · have HSN2 := Aside0.mk (HSN.out.trans (if_neg hp))
              clear HSN HKC
              by_cases hp1 : 0 < L
              · have hp2 : ¬ 0 < d := fun h => hp ⟨hp1, h⟩
                clear hp
                go_wp2_with fail
                go_roundw
                case rel => exact ⟨j + 1, _, by rw [HWJ.out], hlt2, by rw [HSN2.out]; exact HT⟩
                case measure => rw [HWJ.out]; simp [intOf]; omega
              · clear hp
                go_wp2_with fail
                go_roundw
                case rel => exact ⟨j + 1, _, by rw [HWJ.out], hlt2, by rw [HSN2.out]; exact HT⟩
                case measure => rw [HWJ.out]; simp [intOf]; omega
          · have hje : j = f4.length := by omega
            subst hje
            have hT := HT.out
            rw [List.take_of_length_le (Nat.le_refl _)] at hT
            generalize (cutL d (l - 1) f4).1 = la at *
            generalize (cutL d (l - 1) f4).2 = L at *
            obtain ⟨A7, c7, e4⟩ := Kd.N_slice hT.n4
            obtain ⟨n7, hn7⟩ : ∃ n7, n7 = la.length := ⟨_, rfl⟩
            rw [← hn7] at e4
            subst e4
            have o0 : wr.cell? ⟨w.heap.size + 1 + 1, 0, none⟩ = some (.int .i64 0) := blk_cell hT.box 0
            have o1 : wr.cell? ⟨w.heap.size + 1 + 1, 1, none⟩ = some (.string nm) := blk_cell hT.box 1
            have o2 : wr.cell? ⟨w.heap.size + 1 + 1, 2, none⟩ = some (.string ⟨#[]⟩) := blk_cell hT.box 2
            have o3 : wr.cell? ⟨w.heap.size + 1 + 1, 3, none⟩ = some (.slice none 0 0) := blk_cell hT.box 3
            have o4 : wr.cell? ⟨w.heap.size + 1 + 1, 4, none⟩ = some (.slice A7 n7 c7) := blk_cell hT.box 4
            have hr := hT.res
            have g0 := blk_frozen hr 0
            have g1 := blk_frozen hr 1
            have g2 := blk_frozen hr 2
            have g3 := blk_frozen hr 3
            have g4 := blk_frozen hr 4
            have p0 := blk_cell hr 0
            have p1 := blk_cell hr 1
            have p2 := blk_cell hr 2
            have p3 := blk_cell hr 3
            have p4 := blk_cell hr 4
            simp only [zeroN] at p0 p1 p2 p3 p4
            have HE := Aside0.mk (fun a0 a1 a2 a3 a4 => cut_end (w := w) (w3 := wr) (u := ⟨0, nm, ⟨#[]⟩, [], la⟩) (A4 := A7) (c4 := c7) hlt rfl (blk_lt hr) hT.lbx hT.on (by rw [hn7] at hT; exact hT.n4) a0 a1 a2 a3 a4)
            rw [← hn7] at HE
            clear hr hT HT hn7
            go_wp2_with fail
            refine bodyPost_ret (v := .agg #[.int .i64 0, .string nm, .string ⟨#[]⟩, .slice none 0 0, .slice A7 n7 c7]) (by simp [results, Try.results31, go_sem, p0, p1, p2, p3, p4]) rfl ?_
            rw [HC2.out.1, HC2.out.2]
            exact HE.out _ _ _ _ _
end Go.Proofs.Ytmfjbljdbkmkgaa.Dom

/- laws.inlineCutTree: its contract. -/
namespace Go.Proofs.Ytmfjbljdbkmkgaa.Dom
open Go.RowKit Go.Proofs.YtmfjbljdbkmkgaaW.PrintWords Go.Proofs.YtmfjbljdbkmkgaaW.PrintLast Go.Proofs.YtmfjbljdbkmkgaaW.PrintMore Go.Proofs.Ytmfjbljdbkmkgaa.PDom Go.Proofs.Ytmfjbljdbkmkgaa.Txt
set_option linter.unusedVariables false
set_option linter.unusedSimpArgs false

def divN : ByteArray := ⟨#[100, 105, 118]⟩
/-- A tree, cut: its root is a div. -/
def cutR (t : T) : T := ⟨0, divN, ⟨#[]⟩, [], (cutT 8 60 ⟨0, t.f1, t.f2, t.f3, t.f4⟩).1.f4⟩
theorem cutT_0 (t : T) : (cutT 8 60 ⟨0, t.f1, t.f2, t.f3, t.f4⟩).1.f0 = 0 ∧ (cutT 8 60 ⟨0, t.f1, t.f2, t.f3, t.f4⟩).1.f2 = ⟨#[]⟩ ∧ (cutT 8 60 ⟨0, t.f1, t.f2, t.f3, t.f4⟩).1.f3 = [] := by
  rw [cutT, if_neg (by decide), if_neg (by decide)]
  split <;> exact ⟨rfl, rfl, rfl⟩
mutual
def fitXB : T → Bool
  | ⟨_, n, x, as_, ks⟩ => (decide (n.size ≤ 140737488351232) && (decide (x.size ≤ 140737488351232) && (decide (as_.length ≤ 4398046510976) && decide (ks.length ≤ 4398046510976)))) && fitXBL ks
def fitXBL : List T → Bool
  | [] => true
  | k :: ks => fitXB k && fitXBL ks
end
theorem fitXBL_iff : ∀ {l : List T}, fitXBL l = true ↔ ∀ k ∈ l, fitXB k = true
  | [] => by simp [fitXBL]
  | k :: ks => by
    rw [fitXBL, Bool.and_eq_true, fitXBL_iff (l := ks)]
    simp
theorem fitXB_iff (t : T) : fitXB t = true ↔ FitX t := by
  induction t using T_induct with
  | h t ih =>
    cases t with
    | mk k n x as_ ks =>
      rw [fitXB]
      simp only [Bool.and_eq_true, decide_eq_true_eq]
      constructor
      · rintro ⟨⟨h1, h2, h3, h4⟩, h5⟩
        exact ⟨_, h1, h2, h3, h4, fun y hy => (ih y hy).1 (fitXBL_iff.1 h5 y hy)⟩
      · rintro ⟨_, h1, h2, h3, h4, h5⟩
        exact ⟨⟨h1, h2, h3, h4⟩, fitXBL_iff.2 (fun y hy => (ih y hy).2 (h5 y hy))⟩
theorem three_new (w : World) (o0 o1 o2 : Obj) : (((w.alloc o0).alloc o1).alloc o2).heap.size = w.heap.size + 3 ∧ Below w.heap.size w (((w.alloc o0).alloc o1).alloc o2) ∧ (((w.alloc o0).alloc o1).alloc o2).heap[w.heap.size]? = some o0 ∧ (((w.alloc o0).alloc o1).alloc o2).heap[w.heap.size + 1]? = some o1 ∧ (((w.alloc o0).alloc o1).alloc o2).heap[w.heap.size + 2]? = some o2 := by
  have e : (((w.alloc o0).alloc o1).alloc o2).heap = ((w.heap.push o0).push o1).push o2 := rfl
  refine ⟨by rw [e]; simp, below_alloc (below_alloc (below_alloc (Below.refl _ _) _) _) _, ?_, ?_, ?_⟩ <;> rw [e] <;> simp only [Array.getElem?_push, Array.size_push] <;> repeat (first | rfl | rw [if_pos trivial] | rw [if_pos (by omega)] | rw [if_neg (by omega)])
set_option maxHeartbeats 1000000 in
set_option maxRecDepth 100000 in
theorem cutR_calls (t : T) (hf : FitX t) (w : World) (A3 : Option Addr) (c3 : Nat) (A4 : Option Addr) (c4 : Nat) (h3 : Kd.C k53 w A3 t.f3.length t.f3) (l3 : t.f3.length ≤ c3) (h4 : Kd.C k25 w A4 t.f4.length t.f4) (l4 : t.f4.length ≤ c4) :
    Calls Try.prog 10 #[.agg #[.int .i64 t.f0, .string t.f1, .string t.f2, .slice A3 t.f3.length c3, .slice A4 t.f4.length c4]] w fun e w' => ∃ A5 c5, e = .returned (.agg #[.int .i64 0, .string divN, .string ⟨#[]⟩, .slice none 0 0, .slice A5 (cutR t).f4.length c5]) ∧ Kd.N k25 25 w' w.heap.size (fun k => w.heap.size ≤ k) (.slice A5 (cutR t).f4.length c5) (cutR t).f4 ∧ Below w.heap.size w w' := by
  obtain ⟨W, hW⟩ : ∃ W, W = ((w.alloc (.cells #[.int .i64 0, .string t.f1, .string t.f2, .slice A3 t.f3.length c3, .slice A4 t.f4.length c4] 25)).alloc (.cells #[.int .i64 0, .string ⟨#[]⟩, .string ⟨#[]⟩, .slice none 0 0, .slice none 0 0] 25)).alloc (.cells #[.int .i64 60] 3) := ⟨_, rfl⟩
  obtain ⟨z0, z1, z2, z3, z4⟩ := three_new w (.cells #[.int .i64 0, .string t.f1, .string t.f2, .slice A3 t.f3.length c3, .slice A4 t.f4.length c4] 25) (.cells #[.int .i64 0, .string ⟨#[]⟩, .string ⟨#[]⟩, .slice none 0 0, .slice none 0 0] 25) (.cells #[.int .i64 60] 3)
  rw [← hW] at z0 z1 z2 z3 z4
  have hfx : FitX ⟨0, t.f1, t.f2, t.f3, t.f4⟩ := by obtain ⟨_, h1, h2, h3, h4, h5⟩ := hf; exact ⟨_, h1, h2, h3, h4, h5⟩
  have HC := Aside0.mk (cut_calls _ ⟨0, t.f1, t.f2, t.f3, t.f4⟩ (Nat.le_refl _) hfx 8 60 (by decide) (by decide) (by decide) (by decide) W (w.heap.size + 1 + 1) (fun k => k < w.heap.size) A3 c3 A4 c4 z4 (fun k hk => ⟨by omega, by omega⟩) (Kd.F_below (Kd.C_F k25_heap h4) z1) l4)
  obtain ⟨e0, e2, e3⟩ := cutT_0 t
  have hcr : cutR t = ⟨0, divN, ⟨#[]⟩, [], (cutT 8 60 ⟨0, t.f1, t.f2, t.f3, t.f4⟩).1.f4⟩ := rfl
  have HCR := Aside0.mk hcr
  generalize (cutT 8 60 ⟨0, t.f1, t.f2, t.f3, t.f4⟩).1 = u at *
  generalize (cutT 8 60 ⟨0, t.f1, t.f2, t.f3, t.f4⟩).2 = L at *
  obtain ⟨u0, u1, u2, u3, u4⟩ := u
  simp only at e0 e2 e3
  subst e0
  subst e2
  subst e3
  have Z0 := Aside0.mk z0
  have Z1 := Aside0.mk z1
  have Z3 := Aside0.mk z3
  clear h3 l3 h4 l4 hf hfx z0 z1 z2 z3 z4 hcr
  go_enter Try.func10, Try.ntmps10
  go_wp2_with fail
  rw [← hW]
  clear hW
  refine HC.out.mono ?_
  rintro e w2 ⟨A5, c5, rfl, _, m5, N5, ho, hl⟩
  have HR := Aside0.mk ((ho.at (blk_lt Z3.out) (by omega)).trans Z3.out)
  have HB := Aside0.mk (show Below w.heap.size w w2 from Z1.out.trans ⟨ho.os, ho.tape, ho.output, by have := ho.size; have := Z0.out; omega, fun k hk => ho.at (by have := Z0.out; omega) (by omega)⟩)
  have N5' := Aside0.mk N5
  have HZ := Aside0.mk (show w.heap.size + 3 ≤ w2.heap.size by have := ho.size; have := Z0.out; omega)
  clear m5 N5 ho hl HC
  go_upto_region 5 with fail
  have K9 := heap_alloc_new w2 (.cells #[.int .i64 0, .string ⟨#[100, 105, 118]⟩, .string ⟨#[]⟩, .slice none 0 0, .slice A5 u4.length c5] 25)
  have HB9 := Aside0.mk (below_alloc (Below.refl w2.heap.size w2) (.cells #[.int .i64 0, .string ⟨#[100, 105, 118]⟩, .string ⟨#[]⟩, .slice none 0 0, .slice A5 u4.length c5] 25))
  generalize w2.alloc (.cells #[.int .i64 0, .string ⟨#[100, 105, 118]⟩, .string ⟨#[]⟩, .slice none 0 0, .slice A5 u4.length c5] 25) = w9 at K9 HB9 ⊢
  have hb2 := (HB9.out.block _ (blk_lt HR.out)).trans HR.out
  have o0 := blk_cell K9 0
  have o1 := blk_cell K9 1
  have o2 := blk_cell K9 2
  have o3 := blk_cell K9 3
  have o4 := blk_cell K9 4
  have f0 := blk_frozen hb2 0
  have f1 := blk_frozen hb2 1
  have f2 := blk_frozen hb2 2
  have f3 := blk_frozen hb2 3
  have f4 := blk_frozen hb2 4
  have q0 := blk_cell hb2 0
  have q1 := blk_cell hb2 1
  have q2 := blk_cell hb2 2
  have q3 := blk_cell hb2 3
  have q4 := blk_cell hb2 4
  have HE := Aside0.mk (fun a0 a1 a2 a3 a4 => sets5 w9 (w.heap.size + 1) a0 a1 a2 a3 a4)
  have HE2 := Aside0.mk (fun (a0 a1 a2 a3 a4 : Value) => (Below.setCell (Below.setCell (Below.setCell (Below.setCell (Below.setCell (below_step HB.out HB9.out) (p := ⟨w.heap.size + 1, 0, none⟩) (Nat.le_succ _) a0) (p := ⟨w.heap.size + 1, 1, none⟩) (Nat.le_succ _) a1) (p := ⟨w.heap.size + 1, 2, none⟩) (Nat.le_succ _) a2) (p := ⟨w.heap.size + 1, 3, none⟩) (Nat.le_succ _) a3) (p := ⟨w.heap.size + 1, 4, none⟩) (Nat.le_succ _) a4))
  clear K9 hb2
  go_wp2_with fail
  refine bodyPost_ret (v := .agg #[.int .i64 0, .string ⟨#[100, 105, 118]⟩, .string ⟨#[]⟩, .slice none 0 0, .slice A5 u4.length c5]) (by simp [results, Try.results10, go_sem, q0, q1, q2, q3, q4]) rfl ?_
  rw [HCR.out]
  refine ⟨A5, c5, rfl, ?_, HE2.out _ _ _ _ _⟩
  have hz := Z0.out
  exact Kd.N_lower (Kd.N_mono (Kd.N_step (Kd.N_below N5'.out HB9.out) (fun k hk _ => HE.out _ _ _ _ _ k (by omega))) (fun k hk => by omega)) Z1.out.size
end Go.Proofs.Ytmfjbljdbkmkgaa.Dom
namespace Go.Proofs.Ytmfjbljdbkmkgaa.PDom
open Go.RowKit Go.Proofs.YtmfjbljdbkmkgaaW.PrintWords Go.Proofs.YtmfjbljdbkmkgaaW.PrintLast Go.Proofs.YtmfjbljdbkmkgaaW.PrintMore Go.Proofs.Ytmfjbljdbkmkgaa.Dom
set_option linter.unusedVariables false
set_option linter.unusedSimpArgs false
/-! ### As the printed walks take it -/
def laws_inlineCutTree.f (_k : Nat) (a0_0 : Int) (a0_1 : ByteArray) (a0_2 : ByteArray) (l0_3 : List (S53)) (l0_4 : List (S25)) : Option (Int × ByteArray × ByteArray × List S53 × List S25) :=
  if fitXB ⟨a0_0, a0_1, a0_2, l0_3, l0_4⟩ = true then some (let u := cutR ⟨a0_0, a0_1, a0_2, l0_3, l0_4⟩; (u.f0, u.f1, u.f2, u.f3, u.f4)) else none
theorem laws_inlineCutTree.mono : ∀ a0 a1 a2 a3 a4 k, LeO (laws_inlineCutTree.f k a0 a1 a2 a3 a4) (laws_inlineCutTree.f (k + 1) a0 a1 a2 a3 a4) := fun _ _ _ _ _ _ => LeO.refl _
theorem laws_inlineCutTree.calls (k : Nat) (a0_0 : Int) (a0_1 : ByteArray) (a0_2 : ByteArray) (A0_3 : Option Addr) (c0_3 : Nat) (l0_3 : List (S53)) (A0_4 : Option Addr) (c0_4 : Nat) (l0_4 : List (S25)) (r1 : Int) (r2 r3 : ByteArray) (r4 : List S53) (r5 : List S25) (w : World)
    (hr0_3 : Kd.C k53 w A0_3 l0_3.length l0_3) (hc0_3 : l0_3.length ≤ c0_3) (hr0_4 : Kd.C k25 w A0_4 l0_4.length l0_4) (hc0_4 : l0_4.length ≤ c0_4) (h : laws_inlineCutTree.f k a0_0 a0_1 a0_2 l0_3 l0_4 = some (r1, r2, r3, r4, r5)) :
    Calls Try.prog 10 #[.agg #[.int .i64 a0_0, .string a0_1, .string a0_2, .slice A0_3 l0_3.length c0_3, .slice A0_4 l0_4.length c0_4]] w fun e w' => ∃ v3_ v4_ : Value, e = .returned (.agg #[.int .i64 r1, .string r2, .string r3, v3_, v4_]) ∧ Kd.R k53 53 w' w.heap.size (fun k_ => w.heap.size ≤ k_) v3_ r4 ∧ Kd.N k25 25 w' w.heap.size (fun k_ => w.heap.size ≤ k_ ∧ some k_ ≠ (v3_ : Value).ownBlock) v4_ r5 ∧ Below w.heap.size w w' := by
  unfold laws_inlineCutTree.f at h
  split at h
  · rename_i hg
    have hh := Option.some.inj h
    simp only [Prod.mk.injEq] at hh
    obtain ⟨rfl, rfl, rfl, rfl, rfl⟩ := hh
    refine (cutR_calls ⟨a0_0, a0_1, a0_2, l0_3, l0_4⟩ ((fitXB_iff _).1 hg) w A0_3 c0_3 A0_4 c0_4 hr0_3 hc0_3 hr0_4 hc0_4).mono ?_
    rintro e w' ⟨A5, c5, rfl, N5, hB⟩
    exact ⟨_, _, rfl, Kd.R_nil _ _ _ _ _, Kd.N_mono N5 (fun k hk => ⟨hk, by simp [Value.ownBlock]⟩), hB⟩
  · cases h
end Go.Proofs.Ytmfjbljdbkmkgaa.PDom

/- Printed by the program extprint.py of this session, out of the kit's print and contracts of this session's own; Lean checks it. -/
namespace Go.Proofs.Ytmfjbljdbkmkgaa.PDom
open Go.RowKit Go.Proofs.YtmfjbljdbkmkgaaW.PrintWords Go.Proofs.YtmfjbljdbkmkgaaW.PrintLast Go.Proofs.YtmfjbljdbkmkgaaW.PrintMore
attribute [local go_sem] max2_int min2_int max_two min_two max_three min_three max_four min_four   -- for this text's walks alone
set_option linter.unusedVariables false
set_option linter.unusedSimpArgs false

theorem eqA53 (d : Nat) (w : World) (x0 y0 : ByteArray) (x1 y1 : ByteArray) :
    (Op.equalIn (d + 2) 53 (.agg #[.string x0, .string x1]) (.agg #[.string y0, .string y1])).run Try.prog w = .ok (x0.toList == y0.toList && (x1.toList == y1.toList)) w := by
  refine eqA_of Try.underlying53 (by kernel_rfl) ?_
  refine eqf_cons (by rfl) (by go_simp; rfl) (by go_simp; rfl) (by go_simp) ?_
  exact eqf_last (by rfl) (by go_simp; rfl) (by go_simp; rfl) (by go_simp)
end Go.Proofs.Ytmfjbljdbkmkgaa.PDom

/- Printed by the program extprint.py of this session, out of the kit's print and contracts of this session's own; Lean checks it. -/
namespace Go.Proofs.Ytmfjbljdbkmkgaa.PDom
open Go.RowKit Go.Proofs.YtmfjbljdbkmkgaaW.PrintWords Go.Proofs.YtmfjbljdbkmkgaaW.PrintLast Go.Proofs.YtmfjbljdbkmkgaaW.PrintMore
attribute [local go_sem] max2_int min2_int max_two min_two max_three min_three max_four min_four   -- for this text's walks alone
set_option linter.unusedVariables false
set_option linter.unusedSimpArgs false

attribute [local go_sem high] eqA53

/-! ### spec_SameTree: function 14 -/
mutual
def spec_SameTree.j0 : Nat → Bool → Int → ByteArray → ByteArray → List (S53) → List (S25) → Int → ByteArray → ByteArray → List (S53) → List (S25) → Option (Bool)
  | 0, _, _, _, _, _, _, _, _, _, _, _ => none
  | k + 1, x43, x152000, x152001, x152002, x152003, x152004, x153000, x153001, x153002, x153003, x153004 => if x43 = true then (some false) else (spec_SameTree.l0 k (x152003.length : Int) 0 x152000 x152001 x152002 x152003 x152004 x153000 x153001 x153002 x153003 x153004)
def spec_SameTree.l0 : Nat → Int → Int → Int → ByteArray → ByteArray → List (S53) → List (S25) → Int → ByteArray → ByteArray → List (S53) → List (S25) → Option (Bool)
  | 0, _, _, _, _, _, _, _, _, _, _, _, _ => none
  | k + 1, x46, x47, x152000, x152001, x152002, x152003, x152004, x153000, x153001, x153002, x153003, x153004 => if x47 < x46 then (if 0 ≤ x47 then (if x47 < (x152003.length : Int) then (if x47 < (x153003.length : Int) then (if (!((((rd_T53 x152003 x47).f0).toList) == (((rd_T53 x153003 x47).f0).toList)) || (!((((rd_T53 x152003 x47).f1).toList) == (((rd_T53 x153003 x47).f1).toList)))) = true then (some false) else (spec_SameTree.l0 k x46 (wrap64 (x47 + 1)) x152000 x152001 x152002 x152003 x152004 x153000 x153001 x153002 x153003 x153004)) else (none)) else (none)) else (none)) else (spec_SameTree.l1 k (x152004.length : Int) 0 x152000 x152001 x152002 x152003 x152004 x153000 x153001 x153002 x153003 x153004)
def spec_SameTree.l1 : Nat → Int → Int → Int → ByteArray → ByteArray → List (S53) → List (S25) → Int → ByteArray → ByteArray → List (S53) → List (S25) → Option (Bool)
  | 0, _, _, _, _, _, _, _, _, _, _, _, _ => none
  | k + 1, x64, x65, x152000, x152001, x152002, x152003, x152004, x153000, x153001, x153002, x153003, x153004 => if x65 < x64 then (if 0 ≤ x65 then (if x65 < (x152004.length : Int) then (if x65 < (x153004.length : Int) then ((spec_SameTree.f k ((rd_T25 x152004 x65).f0) ((rd_T25 x152004 x65).f1) ((rd_T25 x152004 x65).f2) ((rd_T25 x152004 x65).f3) ((rd_T25 x152004 x65).f4) ((rd_T25 x153004 x65).f0) ((rd_T25 x153004 x65).f1) ((rd_T25 x153004 x65).f2) ((rd_T25 x153004 x65).f3) ((rd_T25 x153004 x65).f4)).bind fun t157 => (if t157 = true then (spec_SameTree.l1 k x64 (wrap64 (x65 + 1)) x152000 x152001 x152002 x152003 x152004 x153000 x153001 x153002 x153003 x153004) else (some false))) else (none)) else (none)) else (none)) else (some true)
def spec_SameTree.f : Nat → Int → ByteArray → ByteArray → List (S53) → List (S25) → Int → ByteArray → ByteArray → List (S53) → List (S25) → Option (Bool)
  | 0, _, _, _, _, _, _, _, _, _, _ => none
  | k + 1, a0_0, a0_1, a0_2, l0_3, l0_4, a1_0, a1_1, a1_2, l1_3, l1_4 => if a0_0 = a1_0 then (if a0_1.toList = a1_1.toList then (if a0_2.toList = a1_2.toList then (if (l0_3.length : Int) = (l1_3.length : Int) then (spec_SameTree.j0 k ((l0_4.length : Int) != (l1_4.length : Int)) a0_0 a0_1 a0_2 l0_3 l0_4 a1_0 a1_1 a1_2 l1_3 l1_4) else (spec_SameTree.j0 k true a0_0 a0_1 a0_2 l0_3 l0_4 a1_0 a1_1 a1_2 l1_3 l1_4)) else (spec_SameTree.j0 k true a0_0 a0_1 a0_2 l0_3 l0_4 a1_0 a1_1 a1_2 l1_3 l1_4)) else (spec_SameTree.j0 k true a0_0 a0_1 a0_2 l0_3 l0_4 a1_0 a1_1 a1_2 l1_3 l1_4)) else (spec_SameTree.j0 k true a0_0 a0_1 a0_2 l0_3 l0_4 a1_0 a1_1 a1_2 l1_3 l1_4)
end
theorem spec_SameTree.mono_l : ∀ k, (∀ y0 y1 y2 y3 y4 y5 y6 y7 y8 y9, LeO (spec_SameTree.f k y0 y1 y2 y3 y4 y5 y6 y7 y8 y9) (spec_SameTree.f (k + 1) y0 y1 y2 y3 y4 y5 y6 y7 y8 y9)) ∧ (∀ y0 y1 y2 y3 y4 y5 y6 y7 y8 y9 y10, LeO (spec_SameTree.j0 k y0 y1 y2 y3 y4 y5 y6 y7 y8 y9 y10) (spec_SameTree.j0 (k + 1) y0 y1 y2 y3 y4 y5 y6 y7 y8 y9 y10)) ∧ (∀ y0 y1 y2 y3 y4 y5 y6 y7 y8 y9 y10 y11, LeO (spec_SameTree.l0 k y0 y1 y2 y3 y4 y5 y6 y7 y8 y9 y10 y11) (spec_SameTree.l0 (k + 1) y0 y1 y2 y3 y4 y5 y6 y7 y8 y9 y10 y11)) ∧ (∀ y0 y1 y2 y3 y4 y5 y6 y7 y8 y9 y10 y11, LeO (spec_SameTree.l1 k y0 y1 y2 y3 y4 y5 y6 y7 y8 y9 y10 y11) (spec_SameTree.l1 (k + 1) y0 y1 y2 y3 y4 y5 y6 y7 y8 y9 y10 y11))
  | 0 => ⟨fun _ _ _ _ _ _ _ _ _ _ r h => by simp [spec_SameTree.f] at h, fun _ _ _ _ _ _ _ _ _ _ _ r h => by simp [spec_SameTree.j0] at h, fun _ _ _ _ _ _ _ _ _ _ _ _ r h => by simp [spec_SameTree.l0] at h, fun _ _ _ _ _ _ _ _ _ _ _ _ r h => by simp [spec_SameTree.l1] at h⟩
  | k + 1 => by
    obtain ⟨ih0, ih1, ih2, ih3⟩ := spec_SameTree.mono_l k
    refine ⟨?_, ?_, ?_, ?_⟩
    · intro y0 y1 y2 y3 y4 y5 y6 y7 y8 y9
      unfold spec_SameTree.f
      repeat' first
      | (with_reducible exact ih0 _ _ _ _ _ _ _ _ _ _)
      | (with_reducible exact ih1 _ _ _ _ _ _ _ _ _ _ _)
      | (with_reducible exact ih2 _ _ _ _ _ _ _ _ _ _ _ _)
      | (with_reducible exact ih3 _ _ _ _ _ _ _ _ _ _ _ _)
      | (with_reducible exact LeO.refl _)
      | (with_reducible exact LeO.none _)
      | (with_reducible refine LeO.ite ?_ ?_)
      | (with_reducible refine LeO.bind ?_ (fun _ => ?_))
      | exact ih0 _ _ _ _ _ _ _ _ _ _
      | exact ih1 _ _ _ _ _ _ _ _ _ _ _
      | exact ih2 _ _ _ _ _ _ _ _ _ _ _ _
      | exact ih3 _ _ _ _ _ _ _ _ _ _ _ _
      | exact LeO.none _
      | refine LeO.ite ?_ ?_
      | refine LeO.bind ?_ (fun _ => ?_)
    · intro y0 y1 y2 y3 y4 y5 y6 y7 y8 y9 y10
      unfold spec_SameTree.j0
      repeat' first
      | (with_reducible exact ih0 _ _ _ _ _ _ _ _ _ _)
      | (with_reducible exact ih1 _ _ _ _ _ _ _ _ _ _ _)
      | (with_reducible exact ih2 _ _ _ _ _ _ _ _ _ _ _ _)
      | (with_reducible exact ih3 _ _ _ _ _ _ _ _ _ _ _ _)
      | (with_reducible exact LeO.refl _)
      | (with_reducible exact LeO.none _)
      | (with_reducible refine LeO.ite ?_ ?_)
      | (with_reducible refine LeO.bind ?_ (fun _ => ?_))
      | exact ih0 _ _ _ _ _ _ _ _ _ _
      | exact ih1 _ _ _ _ _ _ _ _ _ _ _
      | exact ih2 _ _ _ _ _ _ _ _ _ _ _ _
      | exact ih3 _ _ _ _ _ _ _ _ _ _ _ _
      | exact LeO.none _
      | refine LeO.ite ?_ ?_
      | refine LeO.bind ?_ (fun _ => ?_)
    · intro y0 y1 y2 y3 y4 y5 y6 y7 y8 y9 y10 y11
      unfold spec_SameTree.l0
      repeat' first
      | (with_reducible exact ih0 _ _ _ _ _ _ _ _ _ _)
      | (with_reducible exact ih1 _ _ _ _ _ _ _ _ _ _ _)
      | (with_reducible exact ih2 _ _ _ _ _ _ _ _ _ _ _ _)
      | (with_reducible exact ih3 _ _ _ _ _ _ _ _ _ _ _ _)
      | (with_reducible exact LeO.refl _)
      | (with_reducible exact LeO.none _)
      | (with_reducible refine LeO.ite ?_ ?_)
      | (with_reducible refine LeO.bind ?_ (fun _ => ?_))
      | exact ih0 _ _ _ _ _ _ _ _ _ _
      | exact ih1 _ _ _ _ _ _ _ _ _ _ _
      | exact ih2 _ _ _ _ _ _ _ _ _ _ _ _
      | exact ih3 _ _ _ _ _ _ _ _ _ _ _ _
      | exact LeO.none _
      | refine LeO.ite ?_ ?_
      | refine LeO.bind ?_ (fun _ => ?_)
    · intro y0 y1 y2 y3 y4 y5 y6 y7 y8 y9 y10 y11
      unfold spec_SameTree.l1
      repeat' first
      | (with_reducible exact ih0 _ _ _ _ _ _ _ _ _ _)
      | (with_reducible exact ih1 _ _ _ _ _ _ _ _ _ _ _)
      | (with_reducible exact ih2 _ _ _ _ _ _ _ _ _ _ _ _)
      | (with_reducible exact ih3 _ _ _ _ _ _ _ _ _ _ _ _)
      | (with_reducible exact LeO.refl _)
      | (with_reducible exact LeO.none _)
      | (with_reducible refine LeO.ite ?_ ?_)
      | (with_reducible refine LeO.bind ?_ (fun _ => ?_))
      | exact ih0 _ _ _ _ _ _ _ _ _ _
      | exact ih1 _ _ _ _ _ _ _ _ _ _ _
      | exact ih2 _ _ _ _ _ _ _ _ _ _ _ _
      | exact ih3 _ _ _ _ _ _ _ _ _ _ _ _
      | exact LeO.none _
      | refine LeO.ite ?_ ?_
      | refine LeO.bind ?_ (fun _ => ?_)
theorem spec_SameTree.mono : ∀ a0 a1 a2 a3 a4 a5 a6 a7 a8 a9 k, LeO (spec_SameTree.f k a0 a1 a2 a3 a4 a5 a6 a7 a8 a9) (spec_SameTree.f (k + 1) a0 a1 a2 a3 a4 a5 a6 a7 a8 a9) := by
  intro a0 a1 a2 a3 a4 a5 a6 a7 a8 a9 k
  obtain ⟨ih0, ih1, ih2, ih3⟩ := spec_SameTree.mono_l k
  exact ih0 a0 a1 a2 a3 a4 a5 a6 a7 a8 a9
def spec_SameTree.T6 : Bool × List (List Nat × List Nat) := (true, [([], []), ([0], [0]), ([], []), ([1, 2], [1, 2]), ([3], [3]), ([], []), ([5], [5]), ([], []), ([6, 7], [6, 7]), ([8], [8]), ([4, 9], [4, 9])])
def spec_SameTree.B6 : List Nat := [0, 1, 0, 7, 15, 0, 32, 0, 224, 480, 1023]
theorem spec_SameTree.tab6 : rtab .any (opsOf Try.f14 6) = spec_SameTree.T6 := by kernel_rfl
theorem spec_SameTree.bits6 : waitsOk spec_SameTree.T6.2 spec_SameTree.B6 = true := by kernel_rfl
def spec_SameTree.T12 : Bool × List (List Nat × List Nat) := (true, [([], []), ([0], [0]), ([], []), ([1, 2], [1, 2]), ([3], [3]), ([], []), ([5], [5]), ([], []), ([6, 7], [6, 7]), ([8], [8]), ([4, 9], [4, 9]), ([10], [10])])
def spec_SameTree.B12 : List Nat := [0, 1, 0, 7, 15, 0, 32, 0, 224, 480, 1023, 2047]
theorem spec_SameTree.tab12 : rtab .any (opsOf Try.f14 12) = spec_SameTree.T12 := by kernel_rfl
theorem spec_SameTree.bits12 : waitsOk spec_SameTree.T12.2 spec_SameTree.B12 = true := by kernel_rfl
set_option maxHeartbeats 8000000 in
set_option maxRecDepth 100000 in
theorem spec_SameTree.calls (k : Nat) : ∀ (a0_0 : Int) (a0_1 : ByteArray) (a0_2 : ByteArray) (A0_3 : Option Addr) (c0_3 : Nat) (l0_3 : List (S53)) (A0_4 : Option Addr) (c0_4 : Nat) (l0_4 : List (S25)) (a1_0 : Int) (a1_1 : ByteArray) (a1_2 : ByteArray) (A1_3 : Option Addr) (c1_3 : Nat) (l1_3 : List (S53)) (A1_4 : Option Addr) (c1_4 : Nat) (l1_4 : List (S25)) (r : Bool) (w : World) (hr0_3 : Kd.C k53 w A0_3 l0_3.length l0_3) (hc0_3 : l0_3.length ≤ c0_3) (hr0_4 : Kd.C k25 w A0_4 l0_4.length l0_4) (hc0_4 : l0_4.length ≤ c0_4) (hr1_3 : Kd.C k53 w A1_3 l1_3.length l1_3) (hc1_3 : l1_3.length ≤ c1_3) (hr1_4 : Kd.C k25 w A1_4 l1_4.length l1_4) (hc1_4 : l1_4.length ≤ c1_4) (h : spec_SameTree.f k a0_0 a0_1 a0_2 l0_3 l0_4 a1_0 a1_1 a1_2 l1_3 l1_4 = some r),
    Calls Try.prog 14 #[.agg #[.int .i64 a0_0, .string a0_1, .string a0_2, .slice A0_3 l0_3.length c0_3, .slice A0_4 l0_4.length c0_4], .agg #[.int .i64 a1_0, .string a1_1, .string a1_2, .slice A1_3 l1_3.length c1_3, .slice A1_4 l1_4.length c1_4]] w fun e w' => e = .returned (.bool r) ∧ Below w.heap.size w w' := by
  induction k using Nat.strongRecOn with
  | _ k ih =>
  intro a0_0 a0_1 a0_2 A0_3 c0_3 l0_3 A0_4 c0_4 l0_4 a1_0 a1_1 a1_2 A1_3 c1_3 l1_3 A1_4 c1_4 l1_4 r w hr0_3 hc0_3 hr0_4 hc0_4 hr1_3 hc1_3 hr1_4 hc1_4 h
  cases k with
  | zero => exact absurd h (by simp [spec_SameTree.f])
  | succ k =>
  simp only [spec_SameTree.f] at h
  have hu25 := Try.underlying25
  have hu53 := Try.underlying53
  have HR0_3 := Aside0.mk hr0_3
  have HC0_3 := Aside0.mk hc0_3
  clear hr0_3 hc0_3
  have HR0_4 := Aside0.mk hr0_4
  have HC0_4 := Aside0.mk hc0_4
  clear hr0_4 hc0_4
  have HR1_3 := Aside0.mk hr1_3
  have HC1_3 := Aside0.mk hc1_3
  clear hr1_3 hc1_3
  have HR1_4 := Aside0.mk hr1_4
  have HC1_4 := Aside0.mk hc1_4
  clear hr1_4 hc1_4
  have HB := Aside0.mk (Below.refl w.heap.size w)
  have H : (if a0_0 = a1_0 then (if a0_1.toList = a1_1.toList then (if a0_2.toList = a1_2.toList then (if (l0_3.length : Int) = (l1_3.length : Int) then (spec_SameTree.j0 k ((l0_4.length : Int) != (l1_4.length : Int)) a0_0 a0_1 a0_2 l0_3 l0_4 a1_0 a1_1 a1_2 l1_3 l1_4) else (spec_SameTree.j0 k true a0_0 a0_1 a0_2 l0_3 l0_4 a1_0 a1_1 a1_2 l1_3 l1_4)) else (spec_SameTree.j0 k true a0_0 a0_1 a0_2 l0_3 l0_4 a1_0 a1_1 a1_2 l1_3 l1_4)) else (spec_SameTree.j0 k true a0_0 a0_1 a0_2 l0_3 l0_4 a1_0 a1_1 a1_2 l1_3 l1_4)) else (spec_SameTree.j0 k true a0_0 a0_1 a0_2 l0_3 l0_4 a1_0 a1_1 a1_2 l1_3 l1_4)) = some r := h
  clear h
  have HC3 := Aside0.mk H
  clear H
  go_enter Try.func14, Try.ntmps14
  go_upto_region 1 with (first | ((with_reducible refine gate_dst (N := 2) rfl ?_); (try (refine gate_guard (by rfl) ?_; dsimp only)); refine box_event ?hg (N := 2) ?hd (cs := #[.int .i64 a0_0, .string a0_1, .string a0_2, .slice A0_3 l0_3.length c0_3, .slice A0_4 l0_4.length c0_4]) (t := 25) ?hr ?_; (case hd => rfl); (case hg => rfl); (case hr => first | (go_simp; done) | (go_simp; rfl)); intro gb151 hg w4 hbox hb; have n0_ := Aside0.mk (below_step (by repeat (first | (with_reducible first | exact HB.out | apply below_alloc | apply pw_below_drewN | apply below_drew1) | exact HB.out)) hb); have n1_ := Aside0.mk (hbox); have n2_ := Aside0.mk ((by rw [hg]; exact (below_size (by repeat (first | (with_reducible first | exact HB.out | apply below_alloc | apply pw_below_drewN | apply below_drew1) | exact HB.out))) : w.heap.size ≤ gb151)); have n3_ := Aside0.mk ((by rw [hg]; exact (below_size (by repeat (first | (with_reducible first | exact HB.out | apply below_alloc | apply pw_below_drewN | apply below_drew1) | exact HB.out))) : w.heap.size ≤ gb151)); clear HB; have HB := n0_; have BK151 := n1_; have GW151 := n2_; have GE151 := n3_; clear n0_ n1_ n2_ n3_; clear hb hbox hg) | ((with_reducible refine gate_dst (N := 3) rfl ?_); (try (refine gate_guard (by rfl) ?_; dsimp only)); refine box_event ?hg (N := 3) ?hd (cs := #[.int .i64 a1_0, .string a1_1, .string a1_2, .slice A1_3 l1_3.length c1_3, .slice A1_4 l1_4.length c1_4]) (t := 25) ?hr ?_; (case hd => rfl); (case hg => rfl); (case hr => first | (go_simp; done) | (go_simp; rfl)); intro gb152 hg w5 hbox hb; have n0_ := Aside0.mk (blk_below (g := gb151) (o := .cells #[.int .i64 a0_0, .string a0_1, .string a0_2, .slice A0_3 l0_3.length c0_3, .slice A0_4 l0_4.length c0_4] 25 (0, 0)) (by (with_reducible repeat (first | refine blk_drewN ?_ _ | refine blk_drew ?_ | refine blk_alloc ?_ _)); exact BK151.out) hb); have n1_ := Aside0.mk (below_step (by repeat (first | (with_reducible first | exact HB.out | apply below_alloc | apply pw_below_drewN | apply below_drew1 | refine below_set ?_ GE151.out) | exact HB.out)) hb); have n2_ := Aside0.mk (hbox); have n3_ := Aside0.mk ((by rw [hg]; exact (below_size (by repeat (first | (with_reducible first | exact HB.out | apply below_alloc | apply pw_below_drewN | apply below_drew1 | refine below_set ?_ GE151.out) | exact HB.out))) : w.heap.size ≤ gb152)); have n4_ := Aside0.mk ((by rw [hg]; exact (below_size (by repeat (first | (with_reducible first | exact HB.out | apply below_alloc | apply pw_below_drewN | apply below_drew1 | refine below_set ?_ GE151.out) | exact HB.out))) : w.heap.size ≤ gb152)); have n5_ := Aside0.mk ((by rw [hg]; exact Nat.ne_of_lt (blk_lt (g := gb151) (o := .cells #[.int .i64 a0_0, .string a0_1, .string a0_2, .slice A0_3 l0_3.length c0_3, .slice A0_4 l0_4.length c0_4] 25 (0, 0)) (by (with_reducible repeat (first | refine blk_drewN ?_ _ | refine blk_drew ?_ | refine blk_alloc ?_ _)); exact BK151.out)) : gb151 ≠ gb152)); have n6_ := Aside0.mk ((by rw [hg]; exact Nat.ne_of_gt (blk_lt (g := gb151) (o := .cells #[.int .i64 a0_0, .string a0_1, .string a0_2, .slice A0_3 l0_3.length c0_3, .slice A0_4 l0_4.length c0_4] 25 (0, 0)) (by (with_reducible repeat (first | refine blk_drewN ?_ _ | refine blk_drew ?_ | refine blk_alloc ?_ _)); exact BK151.out)) : gb152 ≠ gb151)); clear BK151; clear HB; have BK151 := n0_; have HB := n1_; have BK152 := n2_; have GW152 := n3_; have GE152 := n4_; have NB151_152 := n5_; have NB152_151 := n6_; clear n0_ n1_ n2_ n3_ n4_ n5_ n6_; clear hb hbox hg))
  (try simp only [Act.put, List.setIfInBounds_toArray, List.set_cons_zero, List.set_cons_succ])
  go_cut [43] (fun v43 wc => ∃ (kq : Nat) (x43_2 : Bool), v43 = .bool x43_2 ∧ Aside0 (spec_SameTree.j0 kq x43_2 a0_0 a0_1 a0_2 l0_3 l0_4 a1_0 a1_1 a1_2 l1_3 l1_4 = some r) ∧ Aside0 (kq ≤ k) ∧ Aside0 (wc.heap[gb151]? = some (.cells #[.int .i64 a0_0, .string a0_1, .string a0_2, (.slice A0_3 l0_3.length c0_3), (.slice A0_4 l0_4.length c0_4)] 25 (0, 0))) ∧ Aside0 (wc.heap[gb152]? = some (.cells #[.int .i64 a1_0, .string a1_1, .string a1_2, (.slice A1_3 l1_3.length c1_3), (.slice A1_4 l1_4.length c1_4)] 25 (0, 0))) ∧ Aside0 (Below w.heap.size w wc))
  case first =>
    have H := HC3.out
    clear HC3
    by_cases c6 : a0_0 = a1_0
    · rw [if_pos c6] at H
      have c6b0 : (a0_0 == a1_0) = true := beq_iff_eq.mpr c6
      have c6b1 : (a0_0 != a1_0) = false := bne_eq_false_iff_eq.mpr c6
      clear c6
      (first | rw [c6b0] | (simp only [i64_w, i32_w]; rw [c6b0]) | skip)
      by_cases c7 : a0_1.toList = a1_1.toList
      · rw [if_pos c7] at H
        have c7b0 : (a0_1.toList == a1_1.toList) = true := beq_iff_eq.mpr c7
        have c7b1 : (a0_1.toList != a1_1.toList) = false := bne_eq_false_iff_eq.mpr c7
        clear c7
        by_cases c8 : a0_2.toList = a1_2.toList
        · rw [if_pos c8] at H
          have c8b0 : (a0_2.toList == a1_2.toList) = true := beq_iff_eq.mpr c8
          have c8b1 : (a0_2.toList != a1_2.toList) = false := bne_eq_false_iff_eq.mpr c8
          clear c8
          by_cases c9 : (l0_3.length : Int) = (l1_3.length : Int)
          · rw [if_pos c9] at H
            have c9b0 : ((l0_3.length : Int) == (l1_3.length : Int)) = true := beq_iff_eq.mpr c9
            have c9b1 : ((l0_3.length : Int) != (l1_3.length : Int)) = false := bne_eq_false_iff_eq.mpr c9
            have c9b2 : (l0_3.length == l1_3.length) = true := by first | simpa using c9 | (simp at c9 ⊢; omega)
            clear c9
            have H' := Aside0.mk H
            clear H
            have hnb10 := NB151_152.out
            have hnc10 := NB152_151.out
            have hcz11_0 : w5.cell? ⟨gb151, 0, none⟩ = some (.int .i64 a0_0) := (blk_cell BK151.out 0).trans rfl
            have hcz11_1 : w5.cell? ⟨gb151, 1, none⟩ = some (.string a0_1) := (blk_cell BK151.out 1).trans rfl
            have hcz11_2 : w5.cell? ⟨gb151, 2, none⟩ = some (.string a0_2) := (blk_cell BK151.out 2).trans rfl
            have hcz11_3 : w5.cell? ⟨gb151, 3, none⟩ = some (.slice A0_3 l0_3.length c0_3) := (blk_cell BK151.out 3).trans rfl
            have hcz11_4 : w5.cell? ⟨gb151, 4, none⟩ = some (.slice A0_4 l0_4.length c0_4) := (blk_cell BK151.out 4).trans rfl
            have hfz11_0 := blk_frozen BK151.out 0
            have hfz11_1 := blk_frozen BK151.out 1
            have hfz11_2 := blk_frozen BK151.out 2
            have hfz11_3 := blk_frozen BK151.out 3
            have hfz11_4 := blk_frozen BK151.out 4
            have hcz12_0 : w5.cell? ⟨gb152, 0, none⟩ = some (.int .i64 a1_0) := (blk_cell BK152.out 0).trans rfl
            have hcz12_1 : w5.cell? ⟨gb152, 1, none⟩ = some (.string a1_1) := (blk_cell BK152.out 1).trans rfl
            have hcz12_2 : w5.cell? ⟨gb152, 2, none⟩ = some (.string a1_2) := (blk_cell BK152.out 2).trans rfl
            have hcz12_3 : w5.cell? ⟨gb152, 3, none⟩ = some (.slice A1_3 l1_3.length c1_3) := (blk_cell BK152.out 3).trans rfl
            have hcz12_4 : w5.cell? ⟨gb152, 4, none⟩ = some (.slice A1_4 l1_4.length c1_4) := (blk_cell BK152.out 4).trans rfl
            have hfz12_0 := blk_frozen BK152.out 0
            have hfz12_1 := blk_frozen BK152.out 1
            have hfz12_2 := blk_frozen BK152.out 2
            have hfz12_3 := blk_frozen BK152.out 3
            have hfz12_4 := blk_frozen BK152.out 4
            go_wp2
            go_meet
            case rel => exact ⟨_, (((l0_4.length : Int) != (l1_4.length : Int))), (by first | rfl | (simp; done) | (simp [*]; done)), H', ⟨by first | omega | exact Nat.le_refl _⟩, ⟨by (with_reducible repeat (first | refine blk_drewN ?_ _ | refine blk_drew ?_ | refine blk_alloc ?_ _)); exact BK151.out⟩, ⟨by (with_reducible repeat (first | refine blk_drewN ?_ _ | refine blk_drew ?_ | refine blk_alloc ?_ _)); exact BK152.out⟩, ⟨by repeat (first | (with_reducible first | exact HB.out | apply below_alloc | apply pw_below_drewN | apply below_drew1 | refine below_set ?_ GE151.out | refine below_set ?_ GE152.out) | exact HB.out)⟩⟩
          · rw [if_neg c9] at H
            have c9b0 : ((l0_3.length : Int) == (l1_3.length : Int)) = false := beq_eq_false_iff_ne.mpr c9
            have c9b1 : ((l0_3.length : Int) != (l1_3.length : Int)) = true := bne_iff_ne.mpr c9
            have c9b2 : (l0_3.length == l1_3.length) = false := by first | simpa using c9 | (simp at c9 ⊢; omega)
            have H' := Aside0.mk H
            clear H
            have hnb13 := NB151_152.out
            have hnc13 := NB152_151.out
            have hcz14_0 : w5.cell? ⟨gb151, 0, none⟩ = some (.int .i64 a0_0) := (blk_cell BK151.out 0).trans rfl
            have hcz14_1 : w5.cell? ⟨gb151, 1, none⟩ = some (.string a0_1) := (blk_cell BK151.out 1).trans rfl
            have hcz14_2 : w5.cell? ⟨gb151, 2, none⟩ = some (.string a0_2) := (blk_cell BK151.out 2).trans rfl
            have hcz14_3 : w5.cell? ⟨gb151, 3, none⟩ = some (.slice A0_3 l0_3.length c0_3) := (blk_cell BK151.out 3).trans rfl
            have hcz14_4 : w5.cell? ⟨gb151, 4, none⟩ = some (.slice A0_4 l0_4.length c0_4) := (blk_cell BK151.out 4).trans rfl
            have hfz14_0 := blk_frozen BK151.out 0
            have hfz14_1 := blk_frozen BK151.out 1
            have hfz14_2 := blk_frozen BK151.out 2
            have hfz14_3 := blk_frozen BK151.out 3
            have hfz14_4 := blk_frozen BK151.out 4
            have hcz15_0 : w5.cell? ⟨gb152, 0, none⟩ = some (.int .i64 a1_0) := (blk_cell BK152.out 0).trans rfl
            have hcz15_1 : w5.cell? ⟨gb152, 1, none⟩ = some (.string a1_1) := (blk_cell BK152.out 1).trans rfl
            have hcz15_2 : w5.cell? ⟨gb152, 2, none⟩ = some (.string a1_2) := (blk_cell BK152.out 2).trans rfl
            have hcz15_3 : w5.cell? ⟨gb152, 3, none⟩ = some (.slice A1_3 l1_3.length c1_3) := (blk_cell BK152.out 3).trans rfl
            have hcz15_4 : w5.cell? ⟨gb152, 4, none⟩ = some (.slice A1_4 l1_4.length c1_4) := (blk_cell BK152.out 4).trans rfl
            have hfz15_0 := blk_frozen BK152.out 0
            have hfz15_1 := blk_frozen BK152.out 1
            have hfz15_2 := blk_frozen BK152.out 2
            have hfz15_3 := blk_frozen BK152.out 3
            have hfz15_4 := blk_frozen BK152.out 4
            go_wp2
            go_meet
            case rel => exact ⟨_, (true), (by first | rfl | (simp; done) | (simp [*]; done)), H', ⟨by first | omega | exact Nat.le_refl _⟩, ⟨by (with_reducible repeat (first | refine blk_drewN ?_ _ | refine blk_drew ?_ | refine blk_alloc ?_ _)); exact BK151.out⟩, ⟨by (with_reducible repeat (first | refine blk_drewN ?_ _ | refine blk_drew ?_ | refine blk_alloc ?_ _)); exact BK152.out⟩, ⟨by repeat (first | (with_reducible first | exact HB.out | apply below_alloc | apply pw_below_drewN | apply below_drew1 | refine below_set ?_ GE151.out | refine below_set ?_ GE152.out) | exact HB.out)⟩⟩
        · rw [if_neg c8] at H
          have c8b0 : (a0_2.toList == a1_2.toList) = false := beq_eq_false_iff_ne.mpr c8
          have c8b1 : (a0_2.toList != a1_2.toList) = true := bne_iff_ne.mpr c8
          have H' := Aside0.mk H
          clear H
          have hnb16 := NB151_152.out
          have hnc16 := NB152_151.out
          have hcz17_0 : w5.cell? ⟨gb151, 0, none⟩ = some (.int .i64 a0_0) := (blk_cell BK151.out 0).trans rfl
          have hcz17_1 : w5.cell? ⟨gb151, 1, none⟩ = some (.string a0_1) := (blk_cell BK151.out 1).trans rfl
          have hcz17_2 : w5.cell? ⟨gb151, 2, none⟩ = some (.string a0_2) := (blk_cell BK151.out 2).trans rfl
          have hcz17_3 : w5.cell? ⟨gb151, 3, none⟩ = some (.slice A0_3 l0_3.length c0_3) := (blk_cell BK151.out 3).trans rfl
          have hcz17_4 : w5.cell? ⟨gb151, 4, none⟩ = some (.slice A0_4 l0_4.length c0_4) := (blk_cell BK151.out 4).trans rfl
          have hfz17_0 := blk_frozen BK151.out 0
          have hfz17_1 := blk_frozen BK151.out 1
          have hfz17_2 := blk_frozen BK151.out 2
          have hfz17_3 := blk_frozen BK151.out 3
          have hfz17_4 := blk_frozen BK151.out 4
          have hcz18_0 : w5.cell? ⟨gb152, 0, none⟩ = some (.int .i64 a1_0) := (blk_cell BK152.out 0).trans rfl
          have hcz18_1 : w5.cell? ⟨gb152, 1, none⟩ = some (.string a1_1) := (blk_cell BK152.out 1).trans rfl
          have hcz18_2 : w5.cell? ⟨gb152, 2, none⟩ = some (.string a1_2) := (blk_cell BK152.out 2).trans rfl
          have hcz18_3 : w5.cell? ⟨gb152, 3, none⟩ = some (.slice A1_3 l1_3.length c1_3) := (blk_cell BK152.out 3).trans rfl
          have hcz18_4 : w5.cell? ⟨gb152, 4, none⟩ = some (.slice A1_4 l1_4.length c1_4) := (blk_cell BK152.out 4).trans rfl
          have hfz18_0 := blk_frozen BK152.out 0
          have hfz18_1 := blk_frozen BK152.out 1
          have hfz18_2 := blk_frozen BK152.out 2
          have hfz18_3 := blk_frozen BK152.out 3
          have hfz18_4 := blk_frozen BK152.out 4
          go_wp2
          go_meet
          case rel => exact ⟨_, (true), (by first | rfl | (simp; done) | (simp [*]; done)), H', ⟨by first | omega | exact Nat.le_refl _⟩, ⟨by (with_reducible repeat (first | refine blk_drewN ?_ _ | refine blk_drew ?_ | refine blk_alloc ?_ _)); exact BK151.out⟩, ⟨by (with_reducible repeat (first | refine blk_drewN ?_ _ | refine blk_drew ?_ | refine blk_alloc ?_ _)); exact BK152.out⟩, ⟨by repeat (first | (with_reducible first | exact HB.out | apply below_alloc | apply pw_below_drewN | apply below_drew1 | refine below_set ?_ GE151.out | refine below_set ?_ GE152.out) | exact HB.out)⟩⟩
      · rw [if_neg c7] at H
        have c7b0 : (a0_1.toList == a1_1.toList) = false := beq_eq_false_iff_ne.mpr c7
        have c7b1 : (a0_1.toList != a1_1.toList) = true := bne_iff_ne.mpr c7
        have H' := Aside0.mk H
        clear H
        have hnb19 := NB151_152.out
        have hnc19 := NB152_151.out
        have hcz20_0 : w5.cell? ⟨gb151, 0, none⟩ = some (.int .i64 a0_0) := (blk_cell BK151.out 0).trans rfl
        have hcz20_1 : w5.cell? ⟨gb151, 1, none⟩ = some (.string a0_1) := (blk_cell BK151.out 1).trans rfl
        have hcz20_2 : w5.cell? ⟨gb151, 2, none⟩ = some (.string a0_2) := (blk_cell BK151.out 2).trans rfl
        have hcz20_3 : w5.cell? ⟨gb151, 3, none⟩ = some (.slice A0_3 l0_3.length c0_3) := (blk_cell BK151.out 3).trans rfl
        have hcz20_4 : w5.cell? ⟨gb151, 4, none⟩ = some (.slice A0_4 l0_4.length c0_4) := (blk_cell BK151.out 4).trans rfl
        have hfz20_0 := blk_frozen BK151.out 0
        have hfz20_1 := blk_frozen BK151.out 1
        have hfz20_2 := blk_frozen BK151.out 2
        have hfz20_3 := blk_frozen BK151.out 3
        have hfz20_4 := blk_frozen BK151.out 4
        have hcz21_0 : w5.cell? ⟨gb152, 0, none⟩ = some (.int .i64 a1_0) := (blk_cell BK152.out 0).trans rfl
        have hcz21_1 : w5.cell? ⟨gb152, 1, none⟩ = some (.string a1_1) := (blk_cell BK152.out 1).trans rfl
        have hcz21_2 : w5.cell? ⟨gb152, 2, none⟩ = some (.string a1_2) := (blk_cell BK152.out 2).trans rfl
        have hcz21_3 : w5.cell? ⟨gb152, 3, none⟩ = some (.slice A1_3 l1_3.length c1_3) := (blk_cell BK152.out 3).trans rfl
        have hcz21_4 : w5.cell? ⟨gb152, 4, none⟩ = some (.slice A1_4 l1_4.length c1_4) := (blk_cell BK152.out 4).trans rfl
        have hfz21_0 := blk_frozen BK152.out 0
        have hfz21_1 := blk_frozen BK152.out 1
        have hfz21_2 := blk_frozen BK152.out 2
        have hfz21_3 := blk_frozen BK152.out 3
        have hfz21_4 := blk_frozen BK152.out 4
        go_wp2
        go_meet
        case rel => exact ⟨_, (true), (by first | rfl | (simp; done) | (simp [*]; done)), H', ⟨by first | omega | exact Nat.le_refl _⟩, ⟨by (with_reducible repeat (first | refine blk_drewN ?_ _ | refine blk_drew ?_ | refine blk_alloc ?_ _)); exact BK151.out⟩, ⟨by (with_reducible repeat (first | refine blk_drewN ?_ _ | refine blk_drew ?_ | refine blk_alloc ?_ _)); exact BK152.out⟩, ⟨by repeat (first | (with_reducible first | exact HB.out | apply below_alloc | apply pw_below_drewN | apply below_drew1 | refine below_set ?_ GE151.out | refine below_set ?_ GE152.out) | exact HB.out)⟩⟩
    · rw [if_neg c6] at H
      have c6b0 : (a0_0 == a1_0) = false := beq_eq_false_iff_ne.mpr c6
      have c6b1 : (a0_0 != a1_0) = true := bne_iff_ne.mpr c6
      (first | rw [c6b0] | (simp only [i64_w, i32_w]; rw [c6b0]) | skip)
      have H' := Aside0.mk H
      clear H
      have hnb22 := NB151_152.out
      have hnc22 := NB152_151.out
      have hcz23_0 : w5.cell? ⟨gb151, 0, none⟩ = some (.int .i64 a0_0) := (blk_cell BK151.out 0).trans rfl
      have hcz23_1 : w5.cell? ⟨gb151, 1, none⟩ = some (.string a0_1) := (blk_cell BK151.out 1).trans rfl
      have hcz23_2 : w5.cell? ⟨gb151, 2, none⟩ = some (.string a0_2) := (blk_cell BK151.out 2).trans rfl
      have hcz23_3 : w5.cell? ⟨gb151, 3, none⟩ = some (.slice A0_3 l0_3.length c0_3) := (blk_cell BK151.out 3).trans rfl
      have hcz23_4 : w5.cell? ⟨gb151, 4, none⟩ = some (.slice A0_4 l0_4.length c0_4) := (blk_cell BK151.out 4).trans rfl
      have hfz23_0 := blk_frozen BK151.out 0
      have hfz23_1 := blk_frozen BK151.out 1
      have hfz23_2 := blk_frozen BK151.out 2
      have hfz23_3 := blk_frozen BK151.out 3
      have hfz23_4 := blk_frozen BK151.out 4
      have hcz24_0 : w5.cell? ⟨gb152, 0, none⟩ = some (.int .i64 a1_0) := (blk_cell BK152.out 0).trans rfl
      have hcz24_1 : w5.cell? ⟨gb152, 1, none⟩ = some (.string a1_1) := (blk_cell BK152.out 1).trans rfl
      have hcz24_2 : w5.cell? ⟨gb152, 2, none⟩ = some (.string a1_2) := (blk_cell BK152.out 2).trans rfl
      have hcz24_3 : w5.cell? ⟨gb152, 3, none⟩ = some (.slice A1_3 l1_3.length c1_3) := (blk_cell BK152.out 3).trans rfl
      have hcz24_4 : w5.cell? ⟨gb152, 4, none⟩ = some (.slice A1_4 l1_4.length c1_4) := (blk_cell BK152.out 4).trans rfl
      have hfz24_0 := blk_frozen BK152.out 0
      have hfz24_1 := blk_frozen BK152.out 1
      have hfz24_2 := blk_frozen BK152.out 2
      have hfz24_3 := blk_frozen BK152.out 3
      have hfz24_4 := blk_frozen BK152.out 4
      go_wp2
      go_meet
      case rel => exact ⟨_, (true), (by first | rfl | (simp; done) | (simp [*]; done)), H', ⟨by first | omega | exact Nat.le_refl _⟩, ⟨by (with_reducible repeat (first | refine blk_drewN ?_ _ | refine blk_drew ?_ | refine blk_alloc ?_ _)); exact BK151.out⟩, ⟨by (with_reducible repeat (first | refine blk_drewN ?_ _ | refine blk_drew ?_ | refine blk_alloc ?_ _)); exact BK152.out⟩, ⟨by repeat (first | (with_reducible first | exact HB.out | apply below_alloc | apply pw_below_drewN | apply below_drew1 | refine below_set ?_ GE151.out | refine below_set ?_ GE152.out) | exact HB.out)⟩⟩
  case rest =>
    clear HC3
    try clear c1
    try clear c2
    try clear p2
    try clear c6
    try clear c6b0
    try clear c6b1
    try clear c7
    try clear c7b0
    try clear c7b1
    try clear c8
    try clear c8b0
    try clear c8b1
    try clear c9
    try clear c9b0
    try clear c9b1
    try clear c9b2
    try clear c10
    try clear c13
    try clear c14
    try clear c16
    try clear c19
    try clear c22
    try clear hcz11_0
    try clear hcz11_1
    try clear hcz11_2
    try clear hcz11_3
    try clear hcz11_4
    try clear hcz12_0
    try clear hcz12_1
    try clear hcz12_2
    try clear hcz12_3
    try clear hcz12_4
    try clear hcz14_0
    try clear hcz14_1
    try clear hcz14_2
    try clear hcz14_3
    try clear hcz14_4
    try clear hcz15_0
    try clear hcz15_1
    try clear hcz15_2
    try clear hcz15_3
    try clear hcz15_4
    try clear hcz17_0
    try clear hcz17_1
    try clear hcz17_2
    try clear hcz17_3
    try clear hcz17_4
    try clear hcz18_0
    try clear hcz18_1
    try clear hcz18_2
    try clear hcz18_3
    try clear hcz18_4
    try clear hcz20_0
    try clear hcz20_1
    try clear hcz20_2
    try clear hcz20_3
    try clear hcz20_4
    try clear hcz21_0
    try clear hcz21_1
    try clear hcz21_2
    try clear hcz21_3
    try clear hcz21_4
    try clear hcz23_0
    try clear hcz23_1
    try clear hcz23_2
    try clear hcz23_3
    try clear hcz23_4
    try clear hcz24_0
    try clear hcz24_1
    try clear hcz24_2
    try clear hcz24_3
    try clear hcz24_4
    try clear hfz11_0
    try clear hfz11_1
    try clear hfz11_2
    try clear hfz11_3
    try clear hfz11_4
    try clear hfz12_0
    try clear hfz12_1
    try clear hfz12_2
    try clear hfz12_3
    try clear hfz12_4
    try clear hfz14_0
    try clear hfz14_1
    try clear hfz14_2
    try clear hfz14_3
    try clear hfz14_4
    try clear hfz15_0
    try clear hfz15_1
    try clear hfz15_2
    try clear hfz15_3
    try clear hfz15_4
    try clear hfz17_0
    try clear hfz17_1
    try clear hfz17_2
    try clear hfz17_3
    try clear hfz17_4
    try clear hfz18_0
    try clear hfz18_1
    try clear hfz18_2
    try clear hfz18_3
    try clear hfz18_4
    try clear hfz20_0
    try clear hfz20_1
    try clear hfz20_2
    try clear hfz20_3
    try clear hfz20_4
    try clear hfz21_0
    try clear hfz21_1
    try clear hfz21_2
    try clear hfz21_3
    try clear hfz21_4
    try clear hfz23_0
    try clear hfz23_1
    try clear hfz23_2
    try clear hfz23_3
    try clear hfz23_4
    try clear hfz24_0
    try clear hfz24_1
    try clear hfz24_2
    try clear hfz24_3
    try clear hfz24_4
    obtain ⟨kq, x43_2, rfl, HA, HJ2, BK151, BK152, HB⟩ := hcut
    cases kq with
    | zero => exact absurd HA.out (by simp [spec_SameTree.j0])
    | succ kj2 =>
      have H := HA.out
      clear HA
      simp only [spec_SameTree.j0] at H
      by_cases c25 : x43_2 = true
      · subst c25
        have H1 : (some false) = some r := by rw [if_pos rfl] at H; exact H
        clear H
        have H := H1
        clear H1
        obtain rfl := Option.some.inj H
        go_wp2
        go_ret
        exact ⟨by first | rfl | (simp [errW_none, errW_some] <;> rfl) | (simp [*, errW_none, errW_some] <;> rfl), by repeat (first | (with_reducible first | exact HB.out | apply below_alloc | apply pw_below_drewN | apply below_drew1 | refine below_set ?_ GE151.out | refine below_set ?_ GE152.out) | exact HB.out)⟩
      · replace c25 := Bool.eq_false_iff.mpr c25
        subst c25
        have H1 : (spec_SameTree.l0 kj2 (l0_3.length : Int) 0 a0_0 a0_1 a0_2 l0_3 l0_4 a1_0 a1_1 a1_2 l1_3 l1_4) = some r := by rw [if_neg (show ¬ (false = true) by decide)] at H; exact H
        clear H
        have H := H1
        clear H1
        have H' := Aside0.mk H
        clear H
        have hnb26 := NB151_152.out
        have hnc26 := NB152_151.out
        have hcz27_0 : wc.cell? ⟨gb151, 0, none⟩ = some (.int .i64 a0_0) := (blk_cell BK151.out 0).trans rfl
        have hcz27_1 : wc.cell? ⟨gb151, 1, none⟩ = some (.string a0_1) := (blk_cell BK151.out 1).trans rfl
        have hcz27_2 : wc.cell? ⟨gb151, 2, none⟩ = some (.string a0_2) := (blk_cell BK151.out 2).trans rfl
        have hcz27_3 : wc.cell? ⟨gb151, 3, none⟩ = some (.slice A0_3 l0_3.length c0_3) := (blk_cell BK151.out 3).trans rfl
        have hcz27_4 : wc.cell? ⟨gb151, 4, none⟩ = some (.slice A0_4 l0_4.length c0_4) := (blk_cell BK151.out 4).trans rfl
        have hfz27_0 := blk_frozen BK151.out 0
        have hfz27_1 := blk_frozen BK151.out 1
        have hfz27_2 := blk_frozen BK151.out 2
        have hfz27_3 := blk_frozen BK151.out 3
        have hfz27_4 := blk_frozen BK151.out 4
        go_wp2
        go_loopg [47] kj2 (fun kq v47 w' => ∃ (x47_2 : Int), v47 = .int .i64 x47_2 ∧ Aside0 (spec_SameTree.l0 kq (l0_3.length : Int) x47_2 a0_0 a0_1 a0_2 l0_3 l0_4 a1_0 a1_1 a1_2 l1_3 l1_4 = some r) ∧ Aside0 (kq ≤ kj2) ∧ Aside0 (w'.heap[gb151]? = some (.cells #[.int .i64 a0_0, .string a0_1, .string a0_2, (.slice A0_3 l0_3.length c0_3), (.slice A0_4 l0_4.length c0_4)] 25 (0, 0))) ∧ Aside0 (w'.heap[gb152]? = some (.cells #[.int .i64 a1_0, .string a1_1, .string a1_2, (.slice A1_3 l1_3.length c1_3), (.slice A1_4 l1_4.length c1_4)] 25 (0, 0))) ∧ Aside0 (Below w.heap.size w w'))
        case atStart => exact ⟨(0), (by first | rfl | (simp; done) | (simp [*]; done)), H', ⟨Nat.le_refl _⟩, ⟨by (with_reducible repeat (first | refine blk_drewN ?_ _ | refine blk_drew ?_ | refine blk_alloc ?_ _)); exact BK151.out⟩, ⟨by (with_reducible repeat (first | refine blk_drewN ?_ _ | refine blk_drew ?_ | refine blk_alloc ?_ _)); exact BK152.out⟩, ⟨by repeat (first | (with_reducible first | exact HB.out | apply below_alloc | apply pw_below_drewN | apply below_drew1 | refine below_set ?_ GE151.out | refine below_set ?_ GE152.out) | exact HB.out)⟩⟩
        case round =>
          clear H'
          try clear c1
          try clear c2
          try clear p2
          try clear c6
          try clear c6b0
          try clear c6b1
          try clear c7
          try clear c7b0
          try clear c7b1
          try clear c8
          try clear c8b0
          try clear c8b1
          try clear c9
          try clear c9b0
          try clear c9b1
          try clear c9b2
          try clear c10
          try clear c13
          try clear c14
          try clear c16
          try clear c19
          try clear c22
          try clear c25
          try clear c26
          try clear hcz11_0
          try clear hcz11_1
          try clear hcz11_2
          try clear hcz11_3
          try clear hcz11_4
          try clear hcz12_0
          try clear hcz12_1
          try clear hcz12_2
          try clear hcz12_3
          try clear hcz12_4
          try clear hcz14_0
          try clear hcz14_1
          try clear hcz14_2
          try clear hcz14_3
          try clear hcz14_4
          try clear hcz15_0
          try clear hcz15_1
          try clear hcz15_2
          try clear hcz15_3
          try clear hcz15_4
          try clear hcz17_0
          try clear hcz17_1
          try clear hcz17_2
          try clear hcz17_3
          try clear hcz17_4
          try clear hcz18_0
          try clear hcz18_1
          try clear hcz18_2
          try clear hcz18_3
          try clear hcz18_4
          try clear hcz20_0
          try clear hcz20_1
          try clear hcz20_2
          try clear hcz20_3
          try clear hcz20_4
          try clear hcz21_0
          try clear hcz21_1
          try clear hcz21_2
          try clear hcz21_3
          try clear hcz21_4
          try clear hcz23_0
          try clear hcz23_1
          try clear hcz23_2
          try clear hcz23_3
          try clear hcz23_4
          try clear hcz24_0
          try clear hcz24_1
          try clear hcz24_2
          try clear hcz24_3
          try clear hcz24_4
          try clear hcz27_0
          try clear hcz27_1
          try clear hcz27_2
          try clear hcz27_3
          try clear hcz27_4
          try clear hfz11_0
          try clear hfz11_1
          try clear hfz11_2
          try clear hfz11_3
          try clear hfz11_4
          try clear hfz12_0
          try clear hfz12_1
          try clear hfz12_2
          try clear hfz12_3
          try clear hfz12_4
          try clear hfz14_0
          try clear hfz14_1
          try clear hfz14_2
          try clear hfz14_3
          try clear hfz14_4
          try clear hfz15_0
          try clear hfz15_1
          try clear hfz15_2
          try clear hfz15_3
          try clear hfz15_4
          try clear hfz17_0
          try clear hfz17_1
          try clear hfz17_2
          try clear hfz17_3
          try clear hfz17_4
          try clear hfz18_0
          try clear hfz18_1
          try clear hfz18_2
          try clear hfz18_3
          try clear hfz18_4
          try clear hfz20_0
          try clear hfz20_1
          try clear hfz20_2
          try clear hfz20_3
          try clear hfz20_4
          try clear hfz21_0
          try clear hfz21_1
          try clear hfz21_2
          try clear hfz21_3
          try clear hfz21_4
          try clear hfz23_0
          try clear hfz23_1
          try clear hfz23_2
          try clear hfz23_3
          try clear hfz23_4
          try clear hfz24_0
          try clear hfz24_1
          try clear hfz24_2
          try clear hfz24_3
          try clear hfz24_4
          try clear hfz27_0
          try clear hfz27_1
          try clear hfz27_2
          try clear hfz27_3
          try clear hfz27_4
          try clear p2
          obtain ⟨x47_2, rfl, HA, HK2, BK151, BK152, HB⟩ := hrel
          cases gk with
          | zero => exact absurd HA.out (by simp [spec_SameTree.l0])
          | succ k2 =>
            have H := HA.out
            clear HA
            simp only [spec_SameTree.l0] at H
            by_cases c28 : x47_2 < (l0_3.length : Int)
            · rw [if_pos c28] at H
              have c28b0 : decide (x47_2 < (l0_3.length : Int)) = true := decide_eq_true c28
              clear c28
              by_cases c29 : 0 ≤ x47_2
              · rw [if_pos c29] at H
                have c29b0 : decide (0 ≤ x47_2) = true := decide_eq_true c29
                clear c29
                by_cases c30 : x47_2 < (l0_3.length : Int)
                · rw [if_pos c30] at H
                  have c30b0 : decide (x47_2 < (l0_3.length : Int)) = true := decide_eq_true c30
                  clear c30
                  by_cases c31 : x47_2 < (l1_3.length : Int)
                  · rw [if_pos c31] at H
                    have c31b0 : decide (x47_2 < (l1_3.length : Int)) = true := decide_eq_true c31
                    clear c31
                    by_cases c32 : (!((((rd_T53 l0_3 x47_2).f0).toList) == (((rd_T53 l1_3 x47_2).f0).toList)) || (!((((rd_T53 l0_3 x47_2).f1).toList) == (((rd_T53 l1_3 x47_2).f1).toList)))) = true
                    · rw [if_pos c32] at H
                      have c32b0 : (!((((rd_T53 l0_3 x47_2).f0).toList) == (((rd_T53 l1_3 x47_2).f0).toList)) || (!((((rd_T53 l0_3 x47_2).f1).toList) == (((rd_T53 l1_3 x47_2).f1).toList)))) = true := c32
                      clear c32
                      obtain rfl := Option.some.inj H
                      try go_wp2
                      have n0_ := Aside0.mk (blk_drew BK151.out)
                      have n1_ := Aside0.mk (blk_drew BK152.out)
                      have n2_ := Aside0.mk (below_drew1 HB.out)
                      clear BK151
                      clear BK152
                      clear HB
                      have BK151 := n0_
                      have BK152 := n1_
                      have HB := n2_
                      clear n0_ n1_ n2_
                      have p153 : 0 ≤ (x47_2 : Int) := of_decide_eq_true (by first | (with_reducible assumption) | assumption)
                      have q153 : x47_2 < (l0_3.length : Int) := of_decide_eq_true (by first | (with_reducible assumption) | assumption)
                      obtain ⟨ad153, e153, hx153_0, hx153_1⟩ := at_T53 HR0_3.out x47_2 p153 q153
                      have hw153_1 := hx153_1
                      have hw153_0 := hx153_0
                      cases e153
                      replace hx153_0 := (HB.out.cell (World.block_lt_of_cell? w _ hx153_0)).trans hx153_0
                      replace hx153_1 := (HB.out.cell (World.block_lt_of_cell? w _ hx153_1)).trans hx153_1
                      replace p153 := eq_true p153
                      replace q153 := eq_true q153
                      have p154 : 0 ≤ (x47_2 : Int) := of_decide_eq_true (by first | (with_reducible assumption) | assumption)
                      have q154 : x47_2 < (l1_3.length : Int) := of_decide_eq_true (by first | (with_reducible assumption) | assumption)
                      obtain ⟨ad154, e154, hx154_0, hx154_1⟩ := at_T53 HR1_3.out x47_2 p154 q154
                      have hw154_1 := hx154_1
                      have hw154_0 := hx154_0
                      cases e154
                      replace hx154_0 := (HB.out.cell (World.block_lt_of_cell? w _ hx154_0)).trans hx154_0
                      replace hx154_1 := (HB.out.cell (World.block_lt_of_cell? w _ hx154_1)).trans hx154_1
                      replace p154 := eq_true p154
                      replace q154 := eq_true q154
                      refine start_ (n := 11) (S := fun w' => w'.cell? ⟨gb151, 0, none⟩ = some (.int .i64 a0_0) ∧ w'.cell? ⟨gb151, 1, none⟩ = some (.string a0_1) ∧ w'.cell? ⟨gb151, 2, none⟩ = some (.string a0_2) ∧ w'.cell? ⟨gb151, 3, none⟩ = some (.slice (some ad153) l0_3.length c0_3) ∧ w'.cell? ⟨gb151, 4, none⟩ = some (.slice A0_4 l0_4.length c0_4) ∧ w'.cell? ⟨gb152, 0, none⟩ = some (.int .i64 a1_0) ∧ w'.cell? ⟨gb152, 1, none⟩ = some (.string a1_1) ∧ w'.cell? ⟨gb152, 2, none⟩ = some (.string a1_2) ∧ w'.cell? ⟨gb152, 3, none⟩ = some (.slice (some ad154) l1_3.length c1_3) ∧ w'.cell? ⟨gb152, 4, none⟩ = some (.slice A1_4 l1_4.length c1_4) ∧ w'.cell? (ad153.add ((x47_2).toNat * 2)) = some (.string ((rd_T53 l0_3 x47_2).f0)) ∧ w'.cell? ⟨(ad153.add ((x47_2).toNat * 2)).block, (ad153.add ((x47_2).toNat * 2)).off + 1, none⟩ = some (.string ((rd_T53 l0_3 x47_2).f1)) ∧ w'.cell? (ad154.add ((x47_2).toNat * 2)) = some (.string ((rd_T53 l1_3 x47_2).f0)) ∧ w'.cell? ⟨(ad154.add ((x47_2).toNat * 2)).block, (ad154.add ((x47_2).toNat * 2)).off + 1, none⟩ = some (.string ((rd_T53 l1_3 x47_2).f1))) (ds := []) #[false, false, false, false, false, false, false, false, false, false, false] (by kernel_rfl) rfl rfl ⟨(blk_cell BK151.out 0).trans rfl, (blk_cell BK151.out 1).trans rfl, (blk_cell BK151.out 2).trans rfl, (blk_cell BK151.out 3).trans rfl, (blk_cell BK151.out 4).trans rfl, (blk_cell BK152.out 0).trans rfl, (blk_cell BK152.out 1).trans rfl, (blk_cell BK152.out 2).trans rfl, (blk_cell BK152.out 3).trans rfl, (blk_cell BK152.out 4).trans rfl, ((HB.out.cell (World.block_lt_of_cell? w _ hw153_0)).trans hw153_0), ((HB.out.cell (World.block_lt_of_cell? w _ hw153_1)).trans hw153_1), ((HB.out.cell (World.block_lt_of_cell? w _ hw154_0)).trans hw154_0), ((HB.out.cell (World.block_lt_of_cell? w _ hw154_1)).trans hw154_1)⟩ (fun hHeld => ?_); refine with_tabW spec_SameTree.tab6 spec_SameTree.bits6 (fun HT_ HW_ => ?_)
                      generalize wr.drew = w33 at BK151 BK152 HB hx153_0 hx153_1 hx154_0 hx154_1 hHeld ⊢
                      refine pure_ (i := 0) (N := some 50) (v := ?_) (a' := ?_) #[true, false, false, false, false, false, false, false, false, false, false] rfl rfl (any_of HT_.out (by kernel_rfl)) (fun _ _ _ h => h) (Or.inl ⟨by rfl, ?_⟩) ?_ ?_
                      rotate_left
                      · intro w'
                        go_simp
                        with_reducible rfl
                      rotate_left
                      · simp only [Act.put, List.setIfInBounds_toArray, List.set_cons_zero, List.set_cons_succ, i64_w, i32_w]
                        rfl
                      refine pure_ (i := 2) (N := some 52) (v := ?_) (a' := ?_) #[true, false, true, false, false, false, false, false, false, false, false] rfl rfl (any_of HT_.out (by kernel_rfl)) (fun _ _ _ h => h) (Or.inl ⟨by rfl, ?_⟩) ?_ ?_
                      rotate_left
                      · intro w'
                        go_simp
                        with_reducible rfl
                      rotate_left
                      · simp only [Act.put, List.setIfInBounds_toArray, List.set_cons_zero, List.set_cons_succ, i64_w, i32_w]
                        rfl
                      refine pure_ (i := 5) (N := some 55) (v := ?_) (a' := ?_) #[true, false, true, false, false, true, false, false, false, false, false] rfl rfl (any_of HT_.out (by kernel_rfl)) (fun _ _ _ h => h) (Or.inl ⟨by rfl, ?_⟩) ?_ ?_
                      rotate_left
                      · intro w'
                        go_simp
                        with_reducible rfl
                      rotate_left
                      · simp only [Act.put, List.setIfInBounds_toArray, List.set_cons_zero, List.set_cons_succ, i64_w, i32_w]
                        rfl
                      refine pure_ (i := 7) (N := some 57) (v := ?_) (a' := ?_) #[true, false, true, false, false, true, false, true, false, false, false] rfl rfl (any_of HT_.out (by kernel_rfl)) (fun _ _ _ h => h) (Or.inl ⟨by rfl, ?_⟩) ?_ ?_
                      rotate_left
                      · intro w'
                        go_simp
                        with_reducible rfl
                      rotate_left
                      · simp only [Act.put, List.setIfInBounds_toArray, List.set_cons_zero, List.set_cons_succ, i64_w, i32_w]
                        rfl
                      refine take_ (i := 1) (N := some 51) (v := ?_) (a' := ?_) #[true, true, true, false, false, true, false, true, false, false, false] rfl rfl (take_ofW HT_.out HW_.out (by kernel_rfl)) (fun _ _ _ h => h) (Or.inl ⟨by rfl, ?_⟩) hHeld ?_ ?_
                      rotate_left
                      · rintro w' ⟨s0, s1, s2, s3, s4, s5, s6, s7, s8, s9, s10, s11, s12, s13⟩
                        go_simp
                        with_reducible rfl
                      rotate_left
                      · simp only [Act.put, List.setIfInBounds_toArray, List.set_cons_zero, List.set_cons_succ, i64_w, i32_w]
                        rfl
                      refine pure_ (i := 3) (N := some 53) (v := ?_) (a' := ?_) #[true, true, true, true, false, true, false, true, false, false, false] rfl rfl (any_of HT_.out (by kernel_rfl)) (fun _ _ _ h => h) (Or.inl ⟨by rfl, ?_⟩) ?_ ?_
                      rotate_left
                      · intro w'
                        go_simp
                        with_reducible rfl
                      rotate_left
                      · simp only [Act.put, List.setIfInBounds_toArray, List.set_cons_zero, List.set_cons_succ, i64_w, i32_w]
                        rfl
                      refine take_ (i := 4) (N := some 54) (v := ?_) (a' := ?_) #[true, true, true, true, true, true, false, true, false, false, false] rfl rfl (take_ofW HT_.out HW_.out (by kernel_rfl)) (fun _ _ _ h => h) (Or.inl ⟨by rfl, ?_⟩) hHeld ?_ ?_
                      rotate_left
                      · rintro w' ⟨s0, s1, s2, s3, s4, s5, s6, s7, s8, s9, s10, s11, s12, s13⟩
                        go_simp
                        with_reducible rfl
                      rotate_left
                      · simp only [Act.put, List.setIfInBounds_toArray, List.set_cons_zero, List.set_cons_succ, i64_w, i32_w]
                        rfl
                      refine take_ (i := 6) (N := some 56) (v := ?_) (a' := ?_) #[true, true, true, true, true, true, true, true, false, false, false] rfl rfl (take_ofW HT_.out HW_.out (by kernel_rfl)) (fun _ _ _ h => h) (Or.inl ⟨by rfl, ?_⟩) hHeld ?_ ?_
                      rotate_left
                      · rintro w' ⟨s0, s1, s2, s3, s4, s5, s6, s7, s8, s9, s10, s11, s12, s13⟩
                        go_simp
                        with_reducible rfl
                      rotate_left
                      · simp only [Act.put, List.setIfInBounds_toArray, List.set_cons_zero, List.set_cons_succ, i64_w, i32_w]
                        rfl
                      refine pure_ (i := 8) (N := some 58) (v := ?_) (a' := ?_) #[true, true, true, true, true, true, true, true, true, false, false] rfl rfl (any_of HT_.out (by kernel_rfl)) (fun _ _ _ h => h) (Or.inl ⟨by rfl, ?_⟩) ?_ ?_
                      rotate_left
                      · intro w'
                        go_simp
                        with_reducible rfl
                      rotate_left
                      · simp only [Act.put, List.setIfInBounds_toArray, List.set_cons_zero, List.set_cons_succ, i64_w, i32_w]
                        rfl
                      refine take_ (i := 9) (N := some 59) (v := ?_) (a' := ?_) #[true, true, true, true, true, true, true, true, true, true, false] rfl rfl (take_ofW HT_.out HW_.out (by kernel_rfl)) (fun _ _ _ h => h) (Or.inl ⟨by rfl, ?_⟩) hHeld ?_ ?_
                      rotate_left
                      · rintro w' ⟨s0, s1, s2, s3, s4, s5, s6, s7, s8, s9, s10, s11, s12, s13⟩
                        go_simp
                        with_reducible rfl
                      rotate_left
                      · simp only [Act.put, List.setIfInBounds_toArray, List.set_cons_zero, List.set_cons_succ, i64_w, i32_w]
                        rfl
                      refine pure_ (i := 10) (N := some 60) (v := ?_) (a' := ?_) #[true, true, true, true, true, true, true, true, true, true, true] rfl rfl (any_of HT_.out (by kernel_rfl)) (fun _ _ _ h => h) (Or.inl ⟨by rfl, ?_⟩) ?_ ?_
                      rotate_left
                      · intro w'
                        go_simp
                        with_reducible rfl
                      rotate_left
                      · simp only [Act.put, List.setIfInBounds_toArray, List.set_cons_zero, List.set_cons_succ, i64_w, i32_w]
                        rfl
                      refine done_ (done_of HT_.out (by kernel_rfl)) ?_
                      try go_wp2
                      go_ret
                      exact ⟨by first | rfl | (simp [errW_none, errW_some] <;> rfl) | (simp [*, errW_none, errW_some] <;> rfl), by repeat (first | (with_reducible first | exact HB.out | apply below_alloc | apply pw_below_drewN | apply below_drew1 | refine below_set ?_ GE151.out | refine below_set ?_ GE152.out) | exact HB.out)⟩
                    · rw [if_neg c32] at H
                      have c32b0 : (!((((rd_T53 l0_3 x47_2).f0).toList) == (((rd_T53 l1_3 x47_2).f0).toList)) || (!((((rd_T53 l0_3 x47_2).f1).toList) == (((rd_T53 l1_3 x47_2).f1).toList)))) = false := by simpa using c32
                      clear c32
                      have H' := Aside0.mk H
                      clear H
                      try go_wp2
                      have n0_ := Aside0.mk (blk_drew BK151.out)
                      have n1_ := Aside0.mk (blk_drew BK152.out)
                      have n2_ := Aside0.mk (below_drew1 HB.out)
                      clear BK151
                      clear BK152
                      clear HB
                      have BK151 := n0_
                      have BK152 := n1_
                      have HB := n2_
                      clear n0_ n1_ n2_
                      have p153 : 0 ≤ (x47_2 : Int) := of_decide_eq_true (by first | (with_reducible assumption) | assumption)
                      have q153 : x47_2 < (l0_3.length : Int) := of_decide_eq_true (by first | (with_reducible assumption) | assumption)
                      obtain ⟨ad153, e153, hx153_0, hx153_1⟩ := at_T53 HR0_3.out x47_2 p153 q153
                      have hw153_1 := hx153_1
                      have hw153_0 := hx153_0
                      cases e153
                      replace hx153_0 := (HB.out.cell (World.block_lt_of_cell? w _ hx153_0)).trans hx153_0
                      replace hx153_1 := (HB.out.cell (World.block_lt_of_cell? w _ hx153_1)).trans hx153_1
                      replace p153 := eq_true p153
                      replace q153 := eq_true q153
                      have p154 : 0 ≤ (x47_2 : Int) := of_decide_eq_true (by first | (with_reducible assumption) | assumption)
                      have q154 : x47_2 < (l1_3.length : Int) := of_decide_eq_true (by first | (with_reducible assumption) | assumption)
                      obtain ⟨ad154, e154, hx154_0, hx154_1⟩ := at_T53 HR1_3.out x47_2 p154 q154
                      have hw154_1 := hx154_1
                      have hw154_0 := hx154_0
                      cases e154
                      replace hx154_0 := (HB.out.cell (World.block_lt_of_cell? w _ hx154_0)).trans hx154_0
                      replace hx154_1 := (HB.out.cell (World.block_lt_of_cell? w _ hx154_1)).trans hx154_1
                      replace p154 := eq_true p154
                      replace q154 := eq_true q154
                      refine start_ (n := 11) (S := fun w' => w'.cell? ⟨gb151, 0, none⟩ = some (.int .i64 a0_0) ∧ w'.cell? ⟨gb151, 1, none⟩ = some (.string a0_1) ∧ w'.cell? ⟨gb151, 2, none⟩ = some (.string a0_2) ∧ w'.cell? ⟨gb151, 3, none⟩ = some (.slice (some ad153) l0_3.length c0_3) ∧ w'.cell? ⟨gb151, 4, none⟩ = some (.slice A0_4 l0_4.length c0_4) ∧ w'.cell? ⟨gb152, 0, none⟩ = some (.int .i64 a1_0) ∧ w'.cell? ⟨gb152, 1, none⟩ = some (.string a1_1) ∧ w'.cell? ⟨gb152, 2, none⟩ = some (.string a1_2) ∧ w'.cell? ⟨gb152, 3, none⟩ = some (.slice (some ad154) l1_3.length c1_3) ∧ w'.cell? ⟨gb152, 4, none⟩ = some (.slice A1_4 l1_4.length c1_4) ∧ w'.cell? (ad153.add ((x47_2).toNat * 2)) = some (.string ((rd_T53 l0_3 x47_2).f0)) ∧ w'.cell? ⟨(ad153.add ((x47_2).toNat * 2)).block, (ad153.add ((x47_2).toNat * 2)).off + 1, none⟩ = some (.string ((rd_T53 l0_3 x47_2).f1)) ∧ w'.cell? (ad154.add ((x47_2).toNat * 2)) = some (.string ((rd_T53 l1_3 x47_2).f0)) ∧ w'.cell? ⟨(ad154.add ((x47_2).toNat * 2)).block, (ad154.add ((x47_2).toNat * 2)).off + 1, none⟩ = some (.string ((rd_T53 l1_3 x47_2).f1))) (ds := []) #[false, false, false, false, false, false, false, false, false, false, false] (by kernel_rfl) rfl rfl ⟨(blk_cell BK151.out 0).trans rfl, (blk_cell BK151.out 1).trans rfl, (blk_cell BK151.out 2).trans rfl, (blk_cell BK151.out 3).trans rfl, (blk_cell BK151.out 4).trans rfl, (blk_cell BK152.out 0).trans rfl, (blk_cell BK152.out 1).trans rfl, (blk_cell BK152.out 2).trans rfl, (blk_cell BK152.out 3).trans rfl, (blk_cell BK152.out 4).trans rfl, ((HB.out.cell (World.block_lt_of_cell? w _ hw153_0)).trans hw153_0), ((HB.out.cell (World.block_lt_of_cell? w _ hw153_1)).trans hw153_1), ((HB.out.cell (World.block_lt_of_cell? w _ hw154_0)).trans hw154_0), ((HB.out.cell (World.block_lt_of_cell? w _ hw154_1)).trans hw154_1)⟩ (fun hHeld => ?_); refine with_tabW spec_SameTree.tab6 spec_SameTree.bits6 (fun HT_ HW_ => ?_)
                      generalize wr.drew = w34 at BK151 BK152 HB hx153_0 hx153_1 hx154_0 hx154_1 hHeld ⊢
                      refine pure_ (i := 0) (N := some 50) (v := ?_) (a' := ?_) #[true, false, false, false, false, false, false, false, false, false, false] rfl rfl (any_of HT_.out (by kernel_rfl)) (fun _ _ _ h => h) (Or.inl ⟨by rfl, ?_⟩) ?_ ?_
                      rotate_left
                      · intro w'
                        go_simp
                        with_reducible rfl
                      rotate_left
                      · simp only [Act.put, List.setIfInBounds_toArray, List.set_cons_zero, List.set_cons_succ, i64_w, i32_w]
                        rfl
                      refine pure_ (i := 2) (N := some 52) (v := ?_) (a' := ?_) #[true, false, true, false, false, false, false, false, false, false, false] rfl rfl (any_of HT_.out (by kernel_rfl)) (fun _ _ _ h => h) (Or.inl ⟨by rfl, ?_⟩) ?_ ?_
                      rotate_left
                      · intro w'
                        go_simp
                        with_reducible rfl
                      rotate_left
                      · simp only [Act.put, List.setIfInBounds_toArray, List.set_cons_zero, List.set_cons_succ, i64_w, i32_w]
                        rfl
                      refine pure_ (i := 5) (N := some 55) (v := ?_) (a' := ?_) #[true, false, true, false, false, true, false, false, false, false, false] rfl rfl (any_of HT_.out (by kernel_rfl)) (fun _ _ _ h => h) (Or.inl ⟨by rfl, ?_⟩) ?_ ?_
                      rotate_left
                      · intro w'
                        go_simp
                        with_reducible rfl
                      rotate_left
                      · simp only [Act.put, List.setIfInBounds_toArray, List.set_cons_zero, List.set_cons_succ, i64_w, i32_w]
                        rfl
                      refine pure_ (i := 7) (N := some 57) (v := ?_) (a' := ?_) #[true, false, true, false, false, true, false, true, false, false, false] rfl rfl (any_of HT_.out (by kernel_rfl)) (fun _ _ _ h => h) (Or.inl ⟨by rfl, ?_⟩) ?_ ?_
                      rotate_left
                      · intro w'
                        go_simp
                        with_reducible rfl
                      rotate_left
                      · simp only [Act.put, List.setIfInBounds_toArray, List.set_cons_zero, List.set_cons_succ, i64_w, i32_w]
                        rfl
                      refine take_ (i := 1) (N := some 51) (v := ?_) (a' := ?_) #[true, true, true, false, false, true, false, true, false, false, false] rfl rfl (take_ofW HT_.out HW_.out (by kernel_rfl)) (fun _ _ _ h => h) (Or.inl ⟨by rfl, ?_⟩) hHeld ?_ ?_
                      rotate_left
                      · rintro w' ⟨s0, s1, s2, s3, s4, s5, s6, s7, s8, s9, s10, s11, s12, s13⟩
                        go_simp
                        with_reducible rfl
                      rotate_left
                      · simp only [Act.put, List.setIfInBounds_toArray, List.set_cons_zero, List.set_cons_succ, i64_w, i32_w]
                        rfl
                      refine pure_ (i := 3) (N := some 53) (v := ?_) (a' := ?_) #[true, true, true, true, false, true, false, true, false, false, false] rfl rfl (any_of HT_.out (by kernel_rfl)) (fun _ _ _ h => h) (Or.inl ⟨by rfl, ?_⟩) ?_ ?_
                      rotate_left
                      · intro w'
                        go_simp
                        with_reducible rfl
                      rotate_left
                      · simp only [Act.put, List.setIfInBounds_toArray, List.set_cons_zero, List.set_cons_succ, i64_w, i32_w]
                        rfl
                      refine take_ (i := 4) (N := some 54) (v := ?_) (a' := ?_) #[true, true, true, true, true, true, false, true, false, false, false] rfl rfl (take_ofW HT_.out HW_.out (by kernel_rfl)) (fun _ _ _ h => h) (Or.inl ⟨by rfl, ?_⟩) hHeld ?_ ?_
                      rotate_left
                      · rintro w' ⟨s0, s1, s2, s3, s4, s5, s6, s7, s8, s9, s10, s11, s12, s13⟩
                        go_simp
                        with_reducible rfl
                      rotate_left
                      · simp only [Act.put, List.setIfInBounds_toArray, List.set_cons_zero, List.set_cons_succ, i64_w, i32_w]
                        rfl
                      refine take_ (i := 6) (N := some 56) (v := ?_) (a' := ?_) #[true, true, true, true, true, true, true, true, false, false, false] rfl rfl (take_ofW HT_.out HW_.out (by kernel_rfl)) (fun _ _ _ h => h) (Or.inl ⟨by rfl, ?_⟩) hHeld ?_ ?_
                      rotate_left
                      · rintro w' ⟨s0, s1, s2, s3, s4, s5, s6, s7, s8, s9, s10, s11, s12, s13⟩
                        go_simp
                        with_reducible rfl
                      rotate_left
                      · simp only [Act.put, List.setIfInBounds_toArray, List.set_cons_zero, List.set_cons_succ, i64_w, i32_w]
                        rfl
                      refine pure_ (i := 8) (N := some 58) (v := ?_) (a' := ?_) #[true, true, true, true, true, true, true, true, true, false, false] rfl rfl (any_of HT_.out (by kernel_rfl)) (fun _ _ _ h => h) (Or.inl ⟨by rfl, ?_⟩) ?_ ?_
                      rotate_left
                      · intro w'
                        go_simp
                        with_reducible rfl
                      rotate_left
                      · simp only [Act.put, List.setIfInBounds_toArray, List.set_cons_zero, List.set_cons_succ, i64_w, i32_w]
                        rfl
                      refine take_ (i := 9) (N := some 59) (v := ?_) (a' := ?_) #[true, true, true, true, true, true, true, true, true, true, false] rfl rfl (take_ofW HT_.out HW_.out (by kernel_rfl)) (fun _ _ _ h => h) (Or.inl ⟨by rfl, ?_⟩) hHeld ?_ ?_
                      rotate_left
                      · rintro w' ⟨s0, s1, s2, s3, s4, s5, s6, s7, s8, s9, s10, s11, s12, s13⟩
                        go_simp
                        with_reducible rfl
                      rotate_left
                      · simp only [Act.put, List.setIfInBounds_toArray, List.set_cons_zero, List.set_cons_succ, i64_w, i32_w]
                        rfl
                      refine pure_ (i := 10) (N := some 60) (v := ?_) (a' := ?_) #[true, true, true, true, true, true, true, true, true, true, true] rfl rfl (any_of HT_.out (by kernel_rfl)) (fun _ _ _ h => h) (Or.inl ⟨by rfl, ?_⟩) ?_ ?_
                      rotate_left
                      · intro w'
                        go_simp
                        with_reducible rfl
                      rotate_left
                      · simp only [Act.put, List.setIfInBounds_toArray, List.set_cons_zero, List.set_cons_succ, i64_w, i32_w]
                        rfl
                      refine done_ (done_of HT_.out (by kernel_rfl)) ?_
                      try go_wp2
                      go_roundg k2
                      case measure => have := HJ2.out; have := HK2.out; omega
                      case rel => exact ⟨(wrap64 (x47_2 + 1)), (by first | rfl | (simp; done) | (simp [*]; done)), H', ⟨by have := HJ2.out; have := HK2.out; omega⟩, ⟨by (with_reducible repeat (first | refine blk_drewN ?_ _ | refine blk_drew ?_ | refine blk_alloc ?_ _)); exact BK151.out⟩, ⟨by (with_reducible repeat (first | refine blk_drewN ?_ _ | refine blk_drew ?_ | refine blk_alloc ?_ _)); exact BK152.out⟩, ⟨by repeat (first | (with_reducible first | exact HB.out | apply below_alloc | apply pw_below_drewN | apply below_drew1 | refine below_set ?_ GE151.out | refine below_set ?_ GE152.out) | exact HB.out)⟩⟩
                  · rw [if_neg c31] at H
                    exact absurd H (by simp)
                · rw [if_neg c30] at H
                  exact absurd H (by simp)
              · rw [if_neg c29] at H
                exact absurd H (by simp)
            · rw [if_neg c28] at H
              have c28b0 : decide (x47_2 < (l0_3.length : Int)) = false := decide_eq_false c28
              clear c28
              have H' := Aside0.mk H
              clear H
              have hnb35 := NB151_152.out
              have hnc35 := NB152_151.out
              have hcz36_0 : wr.cell? ⟨gb151, 0, none⟩ = some (.int .i64 a0_0) := (blk_cell BK151.out 0).trans rfl
              have hcz36_1 : wr.cell? ⟨gb151, 1, none⟩ = some (.string a0_1) := (blk_cell BK151.out 1).trans rfl
              have hcz36_2 : wr.cell? ⟨gb151, 2, none⟩ = some (.string a0_2) := (blk_cell BK151.out 2).trans rfl
              have hcz36_3 : wr.cell? ⟨gb151, 3, none⟩ = some (.slice A0_3 l0_3.length c0_3) := (blk_cell BK151.out 3).trans rfl
              have hcz36_4 : wr.cell? ⟨gb151, 4, none⟩ = some (.slice A0_4 l0_4.length c0_4) := (blk_cell BK151.out 4).trans rfl
              have hfz36_0 := blk_frozen BK151.out 0
              have hfz36_1 := blk_frozen BK151.out 1
              have hfz36_2 := blk_frozen BK151.out 2
              have hfz36_3 := blk_frozen BK151.out 3
              have hfz36_4 := blk_frozen BK151.out 4
              go_wp2
              go_loopg [65] k2 (fun kq v65 w' => ∃ (x65_3 : Int), v65 = .int .i64 x65_3 ∧ Aside0 (spec_SameTree.l1 kq (l0_4.length : Int) x65_3 a0_0 a0_1 a0_2 l0_3 l0_4 a1_0 a1_1 a1_2 l1_3 l1_4 = some r) ∧ Aside0 (kq ≤ k2) ∧ Aside0 (w'.heap[gb151]? = some (.cells #[.int .i64 a0_0, .string a0_1, .string a0_2, (.slice A0_3 l0_3.length c0_3), (.slice A0_4 l0_4.length c0_4)] 25 (0, 0))) ∧ Aside0 (w'.heap[gb152]? = some (.cells #[.int .i64 a1_0, .string a1_1, .string a1_2, (.slice A1_3 l1_3.length c1_3), (.slice A1_4 l1_4.length c1_4)] 25 (0, 0))) ∧ Aside0 (Below w.heap.size w w'))
              case atStart => exact ⟨(0), (by first | rfl | (simp; done) | (simp [*]; done)), H', ⟨Nat.le_refl _⟩, ⟨by (with_reducible repeat (first | refine blk_drewN ?_ _ | refine blk_drew ?_ | refine blk_alloc ?_ _)); exact BK151.out⟩, ⟨by (with_reducible repeat (first | refine blk_drewN ?_ _ | refine blk_drew ?_ | refine blk_alloc ?_ _)); exact BK152.out⟩, ⟨by repeat (first | (with_reducible first | exact HB.out | apply below_alloc | apply pw_below_drewN | apply below_drew1 | refine below_set ?_ GE151.out | refine below_set ?_ GE152.out) | exact HB.out)⟩⟩
              case round =>
                clear H'
                try clear c1
                try clear p1
                try clear q1
                try clear hx1
                try clear c2
                try clear p2
                try clear c3
                try clear c6
                try clear c6b0
                try clear c6b1
                try clear p6
                try clear c7
                try clear c7b0
                try clear c7b1
                try clear c8
                try clear c8b0
                try clear c8b1
                try clear c9
                try clear c9b0
                try clear c9b1
                try clear c9b2
                try clear c10
                try clear c13
                try clear c14
                try clear p15
                try clear q15
                try clear hx15
                try clear c16
                try clear c19
                try clear c22
                try clear c25
                try clear c26
                try clear c28
                try clear c28b0
                try clear c29
                try clear c29b0
                try clear c30
                try clear c30b0
                try clear c31
                try clear c31b0
                try clear c32
                try clear c32b0
                try clear c35
                try clear hcz11_0
                try clear hcz11_1
                try clear hcz11_2
                try clear hcz11_3
                try clear hcz11_4
                try clear hcz12_0
                try clear hcz12_1
                try clear hcz12_2
                try clear hcz12_3
                try clear hcz12_4
                try clear hcz14_0
                try clear hcz14_1
                try clear hcz14_2
                try clear hcz14_3
                try clear hcz14_4
                try clear hcz15_0
                try clear hcz15_1
                try clear hcz15_2
                try clear hcz15_3
                try clear hcz15_4
                try clear hcz17_0
                try clear hcz17_1
                try clear hcz17_2
                try clear hcz17_3
                try clear hcz17_4
                try clear hcz18_0
                try clear hcz18_1
                try clear hcz18_2
                try clear hcz18_3
                try clear hcz18_4
                try clear hcz20_0
                try clear hcz20_1
                try clear hcz20_2
                try clear hcz20_3
                try clear hcz20_4
                try clear hcz21_0
                try clear hcz21_1
                try clear hcz21_2
                try clear hcz21_3
                try clear hcz21_4
                try clear hcz23_0
                try clear hcz23_1
                try clear hcz23_2
                try clear hcz23_3
                try clear hcz23_4
                try clear hcz24_0
                try clear hcz24_1
                try clear hcz24_2
                try clear hcz24_3
                try clear hcz24_4
                try clear hcz27_0
                try clear hcz27_1
                try clear hcz27_2
                try clear hcz27_3
                try clear hcz27_4
                try clear hcz36_0
                try clear hcz36_1
                try clear hcz36_2
                try clear hcz36_3
                try clear hcz36_4
                try clear hfz11_0
                try clear hfz11_1
                try clear hfz11_2
                try clear hfz11_3
                try clear hfz11_4
                try clear hfz12_0
                try clear hfz12_1
                try clear hfz12_2
                try clear hfz12_3
                try clear hfz12_4
                try clear hfz14_0
                try clear hfz14_1
                try clear hfz14_2
                try clear hfz14_3
                try clear hfz14_4
                try clear hfz15_0
                try clear hfz15_1
                try clear hfz15_2
                try clear hfz15_3
                try clear hfz15_4
                try clear hfz17_0
                try clear hfz17_1
                try clear hfz17_2
                try clear hfz17_3
                try clear hfz17_4
                try clear hfz18_0
                try clear hfz18_1
                try clear hfz18_2
                try clear hfz18_3
                try clear hfz18_4
                try clear hfz20_0
                try clear hfz20_1
                try clear hfz20_2
                try clear hfz20_3
                try clear hfz20_4
                try clear hfz21_0
                try clear hfz21_1
                try clear hfz21_2
                try clear hfz21_3
                try clear hfz21_4
                try clear hfz23_0
                try clear hfz23_1
                try clear hfz23_2
                try clear hfz23_3
                try clear hfz23_4
                try clear hfz24_0
                try clear hfz24_1
                try clear hfz24_2
                try clear hfz24_3
                try clear hfz24_4
                try clear hfz27_0
                try clear hfz27_1
                try clear hfz27_2
                try clear hfz27_3
                try clear hfz27_4
                try clear hfz36_0
                try clear hfz36_1
                try clear hfz36_2
                try clear hfz36_3
                try clear hfz36_4
                try clear hx153_0
                try clear hx153_1
                try clear hx154_0
                try clear hx154_1
                try clear p153
                try clear p154
                try clear p2
                try clear q153
                try clear q154
                obtain ⟨x65_3, rfl, HA, HK3, BK151, BK152, HB⟩ := hrel
                cases gk with
                | zero => exact absurd HA.out (by simp [spec_SameTree.l1])
                | succ k3 =>
                  have H := HA.out
                  clear HA
                  simp only [spec_SameTree.l1] at H
                  by_cases c37 : x65_3 < (l0_4.length : Int)
                  · rw [if_pos c37] at H
                    have c37b0 : decide (x65_3 < (l0_4.length : Int)) = true := decide_eq_true c37
                    clear c37
                    by_cases c38 : 0 ≤ x65_3
                    · rw [if_pos c38] at H
                      have c38b0 : decide (0 ≤ x65_3) = true := decide_eq_true c38
                      clear c38
                      by_cases c39 : x65_3 < (l0_4.length : Int)
                      · rw [if_pos c39] at H
                        have c39b0 : decide (x65_3 < (l0_4.length : Int)) = true := decide_eq_true c39
                        clear c39
                        by_cases c40 : x65_3 < (l1_4.length : Int)
                        · rw [if_pos c40] at H
                          have c40b0 : decide (x65_3 < (l1_4.length : Int)) = true := decide_eq_true c40
                          clear c40
                          replace H := Option.bind_eq_some_iff.mp H
                          obtain ⟨t157, A410, H⟩ := H
                          replace H : (if t157 = true then (spec_SameTree.l1 k3 (l0_4.length : Int) (wrap64 (x65_3 + 1)) a0_0 a0_1 a0_2 l0_3 l0_4 a1_0 a1_1 a1_2 l1_3 l1_4) else (some false)) = some r := H
                          have A41 := Aside0.mk A410
                          clear A410
                          by_cases c42 : t157 = true
                          · subst c42
                            have H1 : (spec_SameTree.l1 k3 (l0_4.length : Int) (wrap64 (x65_3 + 1)) a0_0 a0_1 a0_2 l0_3 l0_4 a1_0 a1_1 a1_2 l1_3 l1_4) = some r := by rw [if_pos rfl] at H; exact H
                            clear H
                            have H := H1
                            clear H1
                            have H' := Aside0.mk H
                            clear H
                            try go_wp2
                            have n0_ := Aside0.mk (blk_drew BK151.out)
                            have n1_ := Aside0.mk (blk_drew BK152.out)
                            have n2_ := Aside0.mk (below_drew1 HB.out)
                            clear BK151
                            clear BK152
                            clear HB
                            have BK151 := n0_
                            have BK152 := n1_
                            have HB := n2_
                            clear n0_ n1_ n2_
                            have p155 : 0 ≤ (x65_3 : Int) := of_decide_eq_true (by first | (with_reducible assumption) | assumption)
                            have q155 : x65_3 < (l0_4.length : Int) := of_decide_eq_true (by first | (with_reducible assumption) | assumption)
                            obtain ⟨ad155, A155_3, c155_3, A155_4, c155_4, e155, hx155_0, hx155_1, hx155_2, hx155_3, hx155_4, hl155_3, hi155_3, hl155_4, hi155_4⟩ := at_T25 HR0_4.out x65_3 p155 q155
                            have hw155_4 := hx155_4
                            have hw155_3 := hx155_3
                            have hw155_2 := hx155_2
                            have hw155_1 := hx155_1
                            have hw155_0 := hx155_0
                            cases e155
                            replace hx155_0 := (HB.out.cell (World.block_lt_of_cell? w _ hx155_0)).trans hx155_0
                            replace hx155_1 := (HB.out.cell (World.block_lt_of_cell? w _ hx155_1)).trans hx155_1
                            replace hx155_2 := (HB.out.cell (World.block_lt_of_cell? w _ hx155_2)).trans hx155_2
                            replace hx155_3 := (HB.out.cell (World.block_lt_of_cell? w _ hx155_3)).trans hx155_3
                            replace hx155_4 := (HB.out.cell (World.block_lt_of_cell? w _ hx155_4)).trans hx155_4
                            have HR155_3 := Aside0.mk hi155_3
                            have HC155_3 := Aside0.mk hl155_3
                            clear hi155_3 hl155_3
                            have HR155_4 := Aside0.mk hi155_4
                            have HC155_4 := Aside0.mk hl155_4
                            clear hi155_4 hl155_4
                            replace p155 := eq_true p155
                            replace q155 := eq_true q155
                            have p156 : 0 ≤ (x65_3 : Int) := of_decide_eq_true (by first | (with_reducible assumption) | assumption)
                            have q156 : x65_3 < (l1_4.length : Int) := of_decide_eq_true (by first | (with_reducible assumption) | assumption)
                            obtain ⟨ad156, A156_3, c156_3, A156_4, c156_4, e156, hx156_0, hx156_1, hx156_2, hx156_3, hx156_4, hl156_3, hi156_3, hl156_4, hi156_4⟩ := at_T25 HR1_4.out x65_3 p156 q156
                            have hw156_4 := hx156_4
                            have hw156_3 := hx156_3
                            have hw156_2 := hx156_2
                            have hw156_1 := hx156_1
                            have hw156_0 := hx156_0
                            cases e156
                            replace hx156_0 := (HB.out.cell (World.block_lt_of_cell? w _ hx156_0)).trans hx156_0
                            replace hx156_1 := (HB.out.cell (World.block_lt_of_cell? w _ hx156_1)).trans hx156_1
                            replace hx156_2 := (HB.out.cell (World.block_lt_of_cell? w _ hx156_2)).trans hx156_2
                            replace hx156_3 := (HB.out.cell (World.block_lt_of_cell? w _ hx156_3)).trans hx156_3
                            replace hx156_4 := (HB.out.cell (World.block_lt_of_cell? w _ hx156_4)).trans hx156_4
                            have HR156_3 := Aside0.mk hi156_3
                            have HC156_3 := Aside0.mk hl156_3
                            clear hi156_3 hl156_3
                            have HR156_4 := Aside0.mk hi156_4
                            have HC156_4 := Aside0.mk hl156_4
                            clear hi156_4 hl156_4
                            replace p156 := eq_true p156
                            replace q156 := eq_true q156
                            refine start_ (n := 12) (S := fun w' => w'.cell? ⟨gb151, 0, none⟩ = some (.int .i64 a0_0) ∧ w'.cell? ⟨gb151, 1, none⟩ = some (.string a0_1) ∧ w'.cell? ⟨gb151, 2, none⟩ = some (.string a0_2) ∧ w'.cell? ⟨gb151, 3, none⟩ = some (.slice A0_3 l0_3.length c0_3) ∧ w'.cell? ⟨gb151, 4, none⟩ = some (.slice (some ad155) l0_4.length c0_4) ∧ w'.cell? ⟨gb152, 0, none⟩ = some (.int .i64 a1_0) ∧ w'.cell? ⟨gb152, 1, none⟩ = some (.string a1_1) ∧ w'.cell? ⟨gb152, 2, none⟩ = some (.string a1_2) ∧ w'.cell? ⟨gb152, 3, none⟩ = some (.slice A1_3 l1_3.length c1_3) ∧ w'.cell? ⟨gb152, 4, none⟩ = some (.slice (some ad156) l1_4.length c1_4) ∧ w'.cell? (ad155.add ((x65_3).toNat * 5)) = some (.int .i64 ((rd_T25 l0_4 x65_3).f0)) ∧ w'.cell? ⟨(ad155.add ((x65_3).toNat * 5)).block, (ad155.add ((x65_3).toNat * 5)).off + 1, none⟩ = some (.string ((rd_T25 l0_4 x65_3).f1)) ∧ w'.cell? ⟨(ad155.add ((x65_3).toNat * 5)).block, (ad155.add ((x65_3).toNat * 5)).off + 2, none⟩ = some (.string ((rd_T25 l0_4 x65_3).f2)) ∧ w'.cell? ⟨(ad155.add ((x65_3).toNat * 5)).block, (ad155.add ((x65_3).toNat * 5)).off + 3, none⟩ = some (.slice A155_3 ((rd_T25 l0_4 x65_3).f3).length c155_3) ∧ w'.cell? ⟨(ad155.add ((x65_3).toNat * 5)).block, (ad155.add ((x65_3).toNat * 5)).off + 4, none⟩ = some (.slice A155_4 ((rd_T25 l0_4 x65_3).f4).length c155_4) ∧ w'.cell? (ad156.add ((x65_3).toNat * 5)) = some (.int .i64 ((rd_T25 l1_4 x65_3).f0)) ∧ w'.cell? ⟨(ad156.add ((x65_3).toNat * 5)).block, (ad156.add ((x65_3).toNat * 5)).off + 1, none⟩ = some (.string ((rd_T25 l1_4 x65_3).f1)) ∧ w'.cell? ⟨(ad156.add ((x65_3).toNat * 5)).block, (ad156.add ((x65_3).toNat * 5)).off + 2, none⟩ = some (.string ((rd_T25 l1_4 x65_3).f2)) ∧ w'.cell? ⟨(ad156.add ((x65_3).toNat * 5)).block, (ad156.add ((x65_3).toNat * 5)).off + 3, none⟩ = some (.slice A156_3 ((rd_T25 l1_4 x65_3).f3).length c156_3) ∧ w'.cell? ⟨(ad156.add ((x65_3).toNat * 5)).block, (ad156.add ((x65_3).toNat * 5)).off + 4, none⟩ = some (.slice A156_4 ((rd_T25 l1_4 x65_3).f4).length c156_4)) (ds := []) #[false, false, false, false, false, false, false, false, false, false, false, false] (by kernel_rfl) rfl rfl ⟨(blk_cell BK151.out 0).trans rfl, (blk_cell BK151.out 1).trans rfl, (blk_cell BK151.out 2).trans rfl, (blk_cell BK151.out 3).trans rfl, (blk_cell BK151.out 4).trans rfl, (blk_cell BK152.out 0).trans rfl, (blk_cell BK152.out 1).trans rfl, (blk_cell BK152.out 2).trans rfl, (blk_cell BK152.out 3).trans rfl, (blk_cell BK152.out 4).trans rfl, ((HB.out.cell (World.block_lt_of_cell? w _ hw155_0)).trans hw155_0), ((HB.out.cell (World.block_lt_of_cell? w _ hw155_1)).trans hw155_1), ((HB.out.cell (World.block_lt_of_cell? w _ hw155_2)).trans hw155_2), ((HB.out.cell (World.block_lt_of_cell? w _ hw155_3)).trans hw155_3), ((HB.out.cell (World.block_lt_of_cell? w _ hw155_4)).trans hw155_4), ((HB.out.cell (World.block_lt_of_cell? w _ hw156_0)).trans hw156_0), ((HB.out.cell (World.block_lt_of_cell? w _ hw156_1)).trans hw156_1), ((HB.out.cell (World.block_lt_of_cell? w _ hw156_2)).trans hw156_2), ((HB.out.cell (World.block_lt_of_cell? w _ hw156_3)).trans hw156_3), ((HB.out.cell (World.block_lt_of_cell? w _ hw156_4)).trans hw156_4)⟩ (fun hHeld => ?_); refine with_tabW spec_SameTree.tab12 spec_SameTree.bits12 (fun HT_ HW_ => ?_)
                            generalize wr.drew = w43 at BK151 BK152 HB HR155_3 HR155_4 HR156_3 HR156_4 hx155_0 hx155_1 hx155_2 hx155_3 hx155_4 hx156_0 hx156_1 hx156_2 hx156_3 hx156_4 hHeld ⊢
                            refine pure_ (i := 0) (N := some 68) (v := ?_) (a' := ?_) #[true, false, false, false, false, false, false, false, false, false, false, false] rfl rfl (any_of HT_.out (by kernel_rfl)) (fun _ _ _ h => h) (Or.inl ⟨by rfl, ?_⟩) ?_ ?_
                            rotate_left
                            · intro w'
                              go_simp
                              with_reducible rfl
                            rotate_left
                            · simp only [Act.put, List.setIfInBounds_toArray, List.set_cons_zero, List.set_cons_succ, i64_w, i32_w]
                              rfl
                            refine pure_ (i := 2) (N := some 70) (v := ?_) (a' := ?_) #[true, false, true, false, false, false, false, false, false, false, false, false] rfl rfl (any_of HT_.out (by kernel_rfl)) (fun _ _ _ h => h) (Or.inl ⟨by rfl, ?_⟩) ?_ ?_
                            rotate_left
                            · intro w'
                              go_simp
                              with_reducible rfl
                            rotate_left
                            · simp only [Act.put, List.setIfInBounds_toArray, List.set_cons_zero, List.set_cons_succ, i64_w, i32_w]
                              rfl
                            refine pure_ (i := 5) (N := some 73) (v := ?_) (a' := ?_) #[true, false, true, false, false, true, false, false, false, false, false, false] rfl rfl (any_of HT_.out (by kernel_rfl)) (fun _ _ _ h => h) (Or.inl ⟨by rfl, ?_⟩) ?_ ?_
                            rotate_left
                            · intro w'
                              go_simp
                              with_reducible rfl
                            rotate_left
                            · simp only [Act.put, List.setIfInBounds_toArray, List.set_cons_zero, List.set_cons_succ, i64_w, i32_w]
                              rfl
                            refine pure_ (i := 7) (N := some 75) (v := ?_) (a' := ?_) #[true, false, true, false, false, true, false, true, false, false, false, false] rfl rfl (any_of HT_.out (by kernel_rfl)) (fun _ _ _ h => h) (Or.inl ⟨by rfl, ?_⟩) ?_ ?_
                            rotate_left
                            · intro w'
                              go_simp
                              with_reducible rfl
                            rotate_left
                            · simp only [Act.put, List.setIfInBounds_toArray, List.set_cons_zero, List.set_cons_succ, i64_w, i32_w]
                              rfl
                            refine take_ (i := 1) (N := some 69) (v := ?_) (a' := ?_) #[true, true, true, false, false, true, false, true, false, false, false, false] rfl rfl (take_ofW HT_.out HW_.out (by kernel_rfl)) (fun _ _ _ h => h) (Or.inl ⟨by rfl, ?_⟩) hHeld ?_ ?_
                            rotate_left
                            · rintro w' ⟨s0, s1, s2, s3, s4, s5, s6, s7, s8, s9, s10, s11, s12, s13, s14, s15, s16, s17, s18, s19⟩
                              go_simp
                              with_reducible rfl
                            rotate_left
                            · simp only [Act.put, List.setIfInBounds_toArray, List.set_cons_zero, List.set_cons_succ, i64_w, i32_w]
                              rfl
                            refine pure_ (i := 3) (N := some 71) (v := ?_) (a' := ?_) #[true, true, true, true, false, true, false, true, false, false, false, false] rfl rfl (any_of HT_.out (by kernel_rfl)) (fun _ _ _ h => h) (Or.inl ⟨by rfl, ?_⟩) ?_ ?_
                            rotate_left
                            · intro w'
                              go_simp
                              with_reducible rfl
                            rotate_left
                            · simp only [Act.put, List.setIfInBounds_toArray, List.set_cons_zero, List.set_cons_succ, i64_w, i32_w]
                              rfl
                            refine take_ (i := 4) (N := some 72) (v := ?_) (a' := ?_) #[true, true, true, true, true, true, false, true, false, false, false, false] rfl rfl (take_ofW HT_.out HW_.out (by kernel_rfl)) (fun _ _ _ h => h) (Or.inl ⟨by rfl, ?_⟩) hHeld ?_ ?_
                            rotate_left
                            · rintro w' ⟨s0, s1, s2, s3, s4, s5, s6, s7, s8, s9, s10, s11, s12, s13, s14, s15, s16, s17, s18, s19⟩
                              go_simp
                              with_reducible rfl
                            rotate_left
                            · simp only [Act.put, List.setIfInBounds_toArray, List.set_cons_zero, List.set_cons_succ, i64_w, i32_w]
                              rfl
                            refine take_ (i := 6) (N := some 74) (v := ?_) (a' := ?_) #[true, true, true, true, true, true, true, true, false, false, false, false] rfl rfl (take_ofW HT_.out HW_.out (by kernel_rfl)) (fun _ _ _ h => h) (Or.inl ⟨by rfl, ?_⟩) hHeld ?_ ?_
                            rotate_left
                            · rintro w' ⟨s0, s1, s2, s3, s4, s5, s6, s7, s8, s9, s10, s11, s12, s13, s14, s15, s16, s17, s18, s19⟩
                              go_simp
                              with_reducible rfl
                            rotate_left
                            · simp only [Act.put, List.setIfInBounds_toArray, List.set_cons_zero, List.set_cons_succ, i64_w, i32_w]
                              rfl
                            refine pure_ (i := 8) (N := some 76) (v := ?_) (a' := ?_) #[true, true, true, true, true, true, true, true, true, false, false, false] rfl rfl (any_of HT_.out (by kernel_rfl)) (fun _ _ _ h => h) (Or.inl ⟨by rfl, ?_⟩) ?_ ?_
                            rotate_left
                            · intro w'
                              go_simp
                              with_reducible rfl
                            rotate_left
                            · simp only [Act.put, List.setIfInBounds_toArray, List.set_cons_zero, List.set_cons_succ, i64_w, i32_w]
                              rfl
                            refine take_ (i := 9) (N := some 77) (v := ?_) (a' := ?_) #[true, true, true, true, true, true, true, true, true, true, false, false] rfl rfl (take_ofW HT_.out HW_.out (by kernel_rfl)) (fun _ _ _ h => h) (Or.inl ⟨by rfl, ?_⟩) hHeld ?_ ?_
                            rotate_left
                            · rintro w' ⟨s0, s1, s2, s3, s4, s5, s6, s7, s8, s9, s10, s11, s12, s13, s14, s15, s16, s17, s18, s19⟩
                              go_simp
                              with_reducible rfl
                            rotate_left
                            · simp only [Act.put, List.setIfInBounds_toArray, List.set_cons_zero, List.set_cons_succ, i64_w, i32_w]
                              rfl
                            refine one_ (i := 10) (N := some 78) #[true, true, true, true, true, true, true, true, true, true, true, false] rfl rfl (one_of HT_.out (by kernel_rfl)) (by decide) (fun K hK => ?_)
                            refine goes_ Try.func14 (by kernel_rfl) rfl #[.agg #[.int .i64 ((rd_T25 l0_4 x65_3).f0), .string ((rd_T25 l0_4 x65_3).f1), .string ((rd_T25 l0_4 x65_3).f2), .slice A155_3 ((rd_T25 l0_4 x65_3).f3).length c155_3, .slice A155_4 ((rd_T25 l0_4 x65_3).f4).length c155_4], .agg #[.int .i64 ((rd_T25 l1_4 x65_3).f0), .string ((rd_T25 l1_4 x65_3).f1), .string ((rd_T25 l1_4 x65_3).f2), .slice A156_3 ((rd_T25 l1_4 x65_3).f3).length c156_3, .slice A156_4 ((rd_T25 l1_4 x65_3).f4).length c156_4]] (by rfl) rfl rfl (by (try simp only [List.map_toArray, List.map_cons, List.map_nil]); first | done | rfl | (simp only [List.length_drop, List.length_take]; rfl)) ?_
                            with_reducible refine (ih k3 (by have := HJ2.out; have := HK2.out; have := HK3.out; omega) ((rd_T25 l0_4 x65_3).f0) ((rd_T25 l0_4 x65_3).f1) ((rd_T25 l0_4 x65_3).f2) _ _ ((rd_T25 l0_4 x65_3).f3) _ _ ((rd_T25 l0_4 x65_3).f4) ((rd_T25 l1_4 x65_3).f0) ((rd_T25 l1_4 x65_3).f1) ((rd_T25 l1_4 x65_3).f2) _ _ ((rd_T25 l1_4 x65_3).f3) _ _ ((rd_T25 l1_4 x65_3).f4) true _ ?side1 ?side2 ?side3 ?side4 ?side5 ?side6 ?side7 ?side8 A41.out).mono ?_
                            (case side1 => repeat (first | exact (Kd.C_below HR155_3.out HB.out) | (with_reducible refine Kd.C_alloc ?_ _) | (with_reducible refine Kd.C_drewN ?_ _) | (with_reducible refine Kd.C_drew ?_)))
                            (case side2 => exact HC155_3.out)
                            (case side3 => repeat (first | exact (Kd.C_below HR155_4.out HB.out) | (with_reducible refine Kd.C_alloc ?_ _) | (with_reducible refine Kd.C_drewN ?_ _) | (with_reducible refine Kd.C_drew ?_)))
                            (case side4 => exact HC155_4.out)
                            (case side5 => repeat (first | exact (Kd.C_below HR156_3.out HB.out) | (with_reducible refine Kd.C_alloc ?_ _) | (with_reducible refine Kd.C_drewN ?_ _) | (with_reducible refine Kd.C_drew ?_)))
                            (case side6 => exact HC156_3.out)
                            (case side7 => repeat (first | exact (Kd.C_below HR156_4.out HB.out) | (with_reducible refine Kd.C_alloc ?_ _) | (with_reducible refine Kd.C_drewN ?_ _) | (with_reducible refine Kd.C_drew ?_)))
                            (case side8 => exact HC156_4.out)
                            rintro e w44 ⟨rfl, hb⟩
                            refine ⟨_, rfl, ?_⟩
                            have n0_ := Aside0.mk (blk_below (g := gb151) (o := .cells #[.int .i64 a0_0, .string a0_1, .string a0_2, .slice A0_3 l0_3.length c0_3, .slice (some ad155) l0_4.length c0_4] 25 (0, 0)) (by (with_reducible repeat (first | refine blk_drewN ?_ _ | refine blk_drew ?_ | refine blk_alloc ?_ _)); exact BK151.out) hb)
                            have n1_ := Aside0.mk (blk_below (g := gb152) (o := .cells #[.int .i64 a1_0, .string a1_1, .string a1_2, .slice A1_3 l1_3.length c1_3, .slice (some ad156) l1_4.length c1_4] 25 (0, 0)) (by (with_reducible repeat (first | refine blk_drewN ?_ _ | refine blk_drew ?_ | refine blk_alloc ?_ _)); exact BK152.out) hb)
                            have n2_ := Aside0.mk (below_step (by repeat (first | (with_reducible first | exact HB.out | apply below_alloc | apply pw_below_drewN | apply below_drew1 | refine below_set ?_ GE151.out | refine below_set ?_ GE152.out) | exact HB.out)) hb)
                            clear BK151
                            clear BK152
                            clear HB
                            have BK151 := n0_
                            have BK152 := n1_
                            have HB := n2_
                            clear n0_ n1_ n2_
                            (try clear hb)
                            (try clear hb2)
                            (try clear hk)
                            (try clear hi)
                            refine hK.out _ _ ⟨(blk_cell BK151.out 0).trans rfl, (blk_cell BK151.out 1).trans rfl, (blk_cell BK151.out 2).trans rfl, (blk_cell BK151.out 3).trans rfl, (blk_cell BK151.out 4).trans rfl, (blk_cell BK152.out 0).trans rfl, (blk_cell BK152.out 1).trans rfl, (blk_cell BK152.out 2).trans rfl, (blk_cell BK152.out 3).trans rfl, (blk_cell BK152.out 4).trans rfl, ((HB.out.cell (World.block_lt_of_cell? w _ hw155_0)).trans hw155_0), ((HB.out.cell (World.block_lt_of_cell? w _ hw155_1)).trans hw155_1), ((HB.out.cell (World.block_lt_of_cell? w _ hw155_2)).trans hw155_2), ((HB.out.cell (World.block_lt_of_cell? w _ hw155_3)).trans hw155_3), ((HB.out.cell (World.block_lt_of_cell? w _ hw155_4)).trans hw155_4), ((HB.out.cell (World.block_lt_of_cell? w _ hw156_0)).trans hw156_0), ((HB.out.cell (World.block_lt_of_cell? w _ hw156_1)).trans hw156_1), ((HB.out.cell (World.block_lt_of_cell? w _ hw156_2)).trans hw156_2), ((HB.out.cell (World.block_lt_of_cell? w _ hw156_3)).trans hw156_3), ((HB.out.cell (World.block_lt_of_cell? w _ hw156_4)).trans hw156_4)⟩ (fun hHeld => ?_)
                            clear hK K
                            refine norm_ (a' := ?_) ?_ ?_
                            rotate_left
                            · show Act.put _ (some 78) _ = _
                              simp only [Act.put, List.setIfInBounds_toArray, List.set_cons_zero, List.set_cons_succ, i64_w, i32_w]
                              rfl
                            refine pure_ (i := 11) (N := some 79) (v := ?_) (a' := ?_) #[true, true, true, true, true, true, true, true, true, true, true, true] rfl rfl (any_of HT_.out (by kernel_rfl)) (fun _ _ _ h => h) (Or.inl ⟨by rfl, ?_⟩) ?_ ?_
                            rotate_left
                            · intro w'
                              go_simp
                              with_reducible rfl
                            rotate_left
                            · simp only [Act.put, List.setIfInBounds_toArray, List.set_cons_zero, List.set_cons_succ, i64_w, i32_w]
                              rfl
                            refine done_ (done_of HT_.out (by kernel_rfl)) ?_
                            try go_wp2
                            go_roundg k3
                            case measure => have := HJ2.out; have := HK2.out; have := HK3.out; omega
                            case rel => exact ⟨(wrap64 (x65_3 + 1)), (by first | rfl | (simp; done) | (simp [*]; done)), H', ⟨by have := HJ2.out; have := HK2.out; have := HK3.out; omega⟩, ⟨by (with_reducible repeat (first | refine blk_drewN ?_ _ | refine blk_drew ?_ | refine blk_alloc ?_ _)); exact BK151.out⟩, ⟨by (with_reducible repeat (first | refine blk_drewN ?_ _ | refine blk_drew ?_ | refine blk_alloc ?_ _)); exact BK152.out⟩, ⟨by repeat (first | (with_reducible first | exact HB.out | apply below_alloc | apply pw_below_drewN | apply below_drew1 | refine below_set ?_ GE151.out | refine below_set ?_ GE152.out) | exact HB.out)⟩⟩
                          · replace c42 := Bool.eq_false_iff.mpr c42
                            subst c42
                            have H1 : (some false) = some r := by rw [if_neg (show ¬ (false = true) by decide)] at H; exact H
                            clear H
                            have H := H1
                            clear H1
                            obtain rfl := Option.some.inj H
                            try go_wp2
                            have n0_ := Aside0.mk (blk_drew BK151.out)
                            have n1_ := Aside0.mk (blk_drew BK152.out)
                            have n2_ := Aside0.mk (below_drew1 HB.out)
                            clear BK151
                            clear BK152
                            clear HB
                            have BK151 := n0_
                            have BK152 := n1_
                            have HB := n2_
                            clear n0_ n1_ n2_
                            have p155 : 0 ≤ (x65_3 : Int) := of_decide_eq_true (by first | (with_reducible assumption) | assumption)
                            have q155 : x65_3 < (l0_4.length : Int) := of_decide_eq_true (by first | (with_reducible assumption) | assumption)
                            obtain ⟨ad155, A155_3, c155_3, A155_4, c155_4, e155, hx155_0, hx155_1, hx155_2, hx155_3, hx155_4, hl155_3, hi155_3, hl155_4, hi155_4⟩ := at_T25 HR0_4.out x65_3 p155 q155
                            have hw155_4 := hx155_4
                            have hw155_3 := hx155_3
                            have hw155_2 := hx155_2
                            have hw155_1 := hx155_1
                            have hw155_0 := hx155_0
                            cases e155
                            replace hx155_0 := (HB.out.cell (World.block_lt_of_cell? w _ hx155_0)).trans hx155_0
                            replace hx155_1 := (HB.out.cell (World.block_lt_of_cell? w _ hx155_1)).trans hx155_1
                            replace hx155_2 := (HB.out.cell (World.block_lt_of_cell? w _ hx155_2)).trans hx155_2
                            replace hx155_3 := (HB.out.cell (World.block_lt_of_cell? w _ hx155_3)).trans hx155_3
                            replace hx155_4 := (HB.out.cell (World.block_lt_of_cell? w _ hx155_4)).trans hx155_4
                            have HR155_3 := Aside0.mk hi155_3
                            have HC155_3 := Aside0.mk hl155_3
                            clear hi155_3 hl155_3
                            have HR155_4 := Aside0.mk hi155_4
                            have HC155_4 := Aside0.mk hl155_4
                            clear hi155_4 hl155_4
                            replace p155 := eq_true p155
                            replace q155 := eq_true q155
                            have p156 : 0 ≤ (x65_3 : Int) := of_decide_eq_true (by first | (with_reducible assumption) | assumption)
                            have q156 : x65_3 < (l1_4.length : Int) := of_decide_eq_true (by first | (with_reducible assumption) | assumption)
                            obtain ⟨ad156, A156_3, c156_3, A156_4, c156_4, e156, hx156_0, hx156_1, hx156_2, hx156_3, hx156_4, hl156_3, hi156_3, hl156_4, hi156_4⟩ := at_T25 HR1_4.out x65_3 p156 q156
                            have hw156_4 := hx156_4
                            have hw156_3 := hx156_3
                            have hw156_2 := hx156_2
                            have hw156_1 := hx156_1
                            have hw156_0 := hx156_0
                            cases e156
                            replace hx156_0 := (HB.out.cell (World.block_lt_of_cell? w _ hx156_0)).trans hx156_0
                            replace hx156_1 := (HB.out.cell (World.block_lt_of_cell? w _ hx156_1)).trans hx156_1
                            replace hx156_2 := (HB.out.cell (World.block_lt_of_cell? w _ hx156_2)).trans hx156_2
                            replace hx156_3 := (HB.out.cell (World.block_lt_of_cell? w _ hx156_3)).trans hx156_3
                            replace hx156_4 := (HB.out.cell (World.block_lt_of_cell? w _ hx156_4)).trans hx156_4
                            have HR156_3 := Aside0.mk hi156_3
                            have HC156_3 := Aside0.mk hl156_3
                            clear hi156_3 hl156_3
                            have HR156_4 := Aside0.mk hi156_4
                            have HC156_4 := Aside0.mk hl156_4
                            clear hi156_4 hl156_4
                            replace p156 := eq_true p156
                            replace q156 := eq_true q156
                            refine start_ (n := 12) (S := fun w' => w'.cell? ⟨gb151, 0, none⟩ = some (.int .i64 a0_0) ∧ w'.cell? ⟨gb151, 1, none⟩ = some (.string a0_1) ∧ w'.cell? ⟨gb151, 2, none⟩ = some (.string a0_2) ∧ w'.cell? ⟨gb151, 3, none⟩ = some (.slice A0_3 l0_3.length c0_3) ∧ w'.cell? ⟨gb151, 4, none⟩ = some (.slice (some ad155) l0_4.length c0_4) ∧ w'.cell? ⟨gb152, 0, none⟩ = some (.int .i64 a1_0) ∧ w'.cell? ⟨gb152, 1, none⟩ = some (.string a1_1) ∧ w'.cell? ⟨gb152, 2, none⟩ = some (.string a1_2) ∧ w'.cell? ⟨gb152, 3, none⟩ = some (.slice A1_3 l1_3.length c1_3) ∧ w'.cell? ⟨gb152, 4, none⟩ = some (.slice (some ad156) l1_4.length c1_4) ∧ w'.cell? (ad155.add ((x65_3).toNat * 5)) = some (.int .i64 ((rd_T25 l0_4 x65_3).f0)) ∧ w'.cell? ⟨(ad155.add ((x65_3).toNat * 5)).block, (ad155.add ((x65_3).toNat * 5)).off + 1, none⟩ = some (.string ((rd_T25 l0_4 x65_3).f1)) ∧ w'.cell? ⟨(ad155.add ((x65_3).toNat * 5)).block, (ad155.add ((x65_3).toNat * 5)).off + 2, none⟩ = some (.string ((rd_T25 l0_4 x65_3).f2)) ∧ w'.cell? ⟨(ad155.add ((x65_3).toNat * 5)).block, (ad155.add ((x65_3).toNat * 5)).off + 3, none⟩ = some (.slice A155_3 ((rd_T25 l0_4 x65_3).f3).length c155_3) ∧ w'.cell? ⟨(ad155.add ((x65_3).toNat * 5)).block, (ad155.add ((x65_3).toNat * 5)).off + 4, none⟩ = some (.slice A155_4 ((rd_T25 l0_4 x65_3).f4).length c155_4) ∧ w'.cell? (ad156.add ((x65_3).toNat * 5)) = some (.int .i64 ((rd_T25 l1_4 x65_3).f0)) ∧ w'.cell? ⟨(ad156.add ((x65_3).toNat * 5)).block, (ad156.add ((x65_3).toNat * 5)).off + 1, none⟩ = some (.string ((rd_T25 l1_4 x65_3).f1)) ∧ w'.cell? ⟨(ad156.add ((x65_3).toNat * 5)).block, (ad156.add ((x65_3).toNat * 5)).off + 2, none⟩ = some (.string ((rd_T25 l1_4 x65_3).f2)) ∧ w'.cell? ⟨(ad156.add ((x65_3).toNat * 5)).block, (ad156.add ((x65_3).toNat * 5)).off + 3, none⟩ = some (.slice A156_3 ((rd_T25 l1_4 x65_3).f3).length c156_3) ∧ w'.cell? ⟨(ad156.add ((x65_3).toNat * 5)).block, (ad156.add ((x65_3).toNat * 5)).off + 4, none⟩ = some (.slice A156_4 ((rd_T25 l1_4 x65_3).f4).length c156_4)) (ds := []) #[false, false, false, false, false, false, false, false, false, false, false, false] (by kernel_rfl) rfl rfl ⟨(blk_cell BK151.out 0).trans rfl, (blk_cell BK151.out 1).trans rfl, (blk_cell BK151.out 2).trans rfl, (blk_cell BK151.out 3).trans rfl, (blk_cell BK151.out 4).trans rfl, (blk_cell BK152.out 0).trans rfl, (blk_cell BK152.out 1).trans rfl, (blk_cell BK152.out 2).trans rfl, (blk_cell BK152.out 3).trans rfl, (blk_cell BK152.out 4).trans rfl, ((HB.out.cell (World.block_lt_of_cell? w _ hw155_0)).trans hw155_0), ((HB.out.cell (World.block_lt_of_cell? w _ hw155_1)).trans hw155_1), ((HB.out.cell (World.block_lt_of_cell? w _ hw155_2)).trans hw155_2), ((HB.out.cell (World.block_lt_of_cell? w _ hw155_3)).trans hw155_3), ((HB.out.cell (World.block_lt_of_cell? w _ hw155_4)).trans hw155_4), ((HB.out.cell (World.block_lt_of_cell? w _ hw156_0)).trans hw156_0), ((HB.out.cell (World.block_lt_of_cell? w _ hw156_1)).trans hw156_1), ((HB.out.cell (World.block_lt_of_cell? w _ hw156_2)).trans hw156_2), ((HB.out.cell (World.block_lt_of_cell? w _ hw156_3)).trans hw156_3), ((HB.out.cell (World.block_lt_of_cell? w _ hw156_4)).trans hw156_4)⟩ (fun hHeld => ?_); refine with_tabW spec_SameTree.tab12 spec_SameTree.bits12 (fun HT_ HW_ => ?_)
                            generalize wr.drew = w45 at BK151 BK152 HB HR155_3 HR155_4 HR156_3 HR156_4 hx155_0 hx155_1 hx155_2 hx155_3 hx155_4 hx156_0 hx156_1 hx156_2 hx156_3 hx156_4 hHeld ⊢
                            refine pure_ (i := 0) (N := some 68) (v := ?_) (a' := ?_) #[true, false, false, false, false, false, false, false, false, false, false, false] rfl rfl (any_of HT_.out (by kernel_rfl)) (fun _ _ _ h => h) (Or.inl ⟨by rfl, ?_⟩) ?_ ?_
                            rotate_left
                            · intro w'
                              go_simp
                              with_reducible rfl
                            rotate_left
                            · simp only [Act.put, List.setIfInBounds_toArray, List.set_cons_zero, List.set_cons_succ, i64_w, i32_w]
                              rfl
                            refine pure_ (i := 2) (N := some 70) (v := ?_) (a' := ?_) #[true, false, true, false, false, false, false, false, false, false, false, false] rfl rfl (any_of HT_.out (by kernel_rfl)) (fun _ _ _ h => h) (Or.inl ⟨by rfl, ?_⟩) ?_ ?_
                            rotate_left
                            · intro w'
                              go_simp
                              with_reducible rfl
                            rotate_left
                            · simp only [Act.put, List.setIfInBounds_toArray, List.set_cons_zero, List.set_cons_succ, i64_w, i32_w]
                              rfl
                            refine pure_ (i := 5) (N := some 73) (v := ?_) (a' := ?_) #[true, false, true, false, false, true, false, false, false, false, false, false] rfl rfl (any_of HT_.out (by kernel_rfl)) (fun _ _ _ h => h) (Or.inl ⟨by rfl, ?_⟩) ?_ ?_
                            rotate_left
                            · intro w'
                              go_simp
                              with_reducible rfl
                            rotate_left
                            · simp only [Act.put, List.setIfInBounds_toArray, List.set_cons_zero, List.set_cons_succ, i64_w, i32_w]
                              rfl
                            refine pure_ (i := 7) (N := some 75) (v := ?_) (a' := ?_) #[true, false, true, false, false, true, false, true, false, false, false, false] rfl rfl (any_of HT_.out (by kernel_rfl)) (fun _ _ _ h => h) (Or.inl ⟨by rfl, ?_⟩) ?_ ?_
                            rotate_left
                            · intro w'
                              go_simp
                              with_reducible rfl
                            rotate_left
                            · simp only [Act.put, List.setIfInBounds_toArray, List.set_cons_zero, List.set_cons_succ, i64_w, i32_w]
                              rfl
                            refine take_ (i := 1) (N := some 69) (v := ?_) (a' := ?_) #[true, true, true, false, false, true, false, true, false, false, false, false] rfl rfl (take_ofW HT_.out HW_.out (by kernel_rfl)) (fun _ _ _ h => h) (Or.inl ⟨by rfl, ?_⟩) hHeld ?_ ?_
                            rotate_left
                            · rintro w' ⟨s0, s1, s2, s3, s4, s5, s6, s7, s8, s9, s10, s11, s12, s13, s14, s15, s16, s17, s18, s19⟩
                              go_simp
                              with_reducible rfl
                            rotate_left
                            · simp only [Act.put, List.setIfInBounds_toArray, List.set_cons_zero, List.set_cons_succ, i64_w, i32_w]
                              rfl
                            refine pure_ (i := 3) (N := some 71) (v := ?_) (a' := ?_) #[true, true, true, true, false, true, false, true, false, false, false, false] rfl rfl (any_of HT_.out (by kernel_rfl)) (fun _ _ _ h => h) (Or.inl ⟨by rfl, ?_⟩) ?_ ?_
                            rotate_left
                            · intro w'
                              go_simp
                              with_reducible rfl
                            rotate_left
                            · simp only [Act.put, List.setIfInBounds_toArray, List.set_cons_zero, List.set_cons_succ, i64_w, i32_w]
                              rfl
                            refine take_ (i := 4) (N := some 72) (v := ?_) (a' := ?_) #[true, true, true, true, true, true, false, true, false, false, false, false] rfl rfl (take_ofW HT_.out HW_.out (by kernel_rfl)) (fun _ _ _ h => h) (Or.inl ⟨by rfl, ?_⟩) hHeld ?_ ?_
                            rotate_left
                            · rintro w' ⟨s0, s1, s2, s3, s4, s5, s6, s7, s8, s9, s10, s11, s12, s13, s14, s15, s16, s17, s18, s19⟩
                              go_simp
                              with_reducible rfl
                            rotate_left
                            · simp only [Act.put, List.setIfInBounds_toArray, List.set_cons_zero, List.set_cons_succ, i64_w, i32_w]
                              rfl
                            refine take_ (i := 6) (N := some 74) (v := ?_) (a' := ?_) #[true, true, true, true, true, true, true, true, false, false, false, false] rfl rfl (take_ofW HT_.out HW_.out (by kernel_rfl)) (fun _ _ _ h => h) (Or.inl ⟨by rfl, ?_⟩) hHeld ?_ ?_
                            rotate_left
                            · rintro w' ⟨s0, s1, s2, s3, s4, s5, s6, s7, s8, s9, s10, s11, s12, s13, s14, s15, s16, s17, s18, s19⟩
                              go_simp
                              with_reducible rfl
                            rotate_left
                            · simp only [Act.put, List.setIfInBounds_toArray, List.set_cons_zero, List.set_cons_succ, i64_w, i32_w]
                              rfl
                            refine pure_ (i := 8) (N := some 76) (v := ?_) (a' := ?_) #[true, true, true, true, true, true, true, true, true, false, false, false] rfl rfl (any_of HT_.out (by kernel_rfl)) (fun _ _ _ h => h) (Or.inl ⟨by rfl, ?_⟩) ?_ ?_
                            rotate_left
                            · intro w'
                              go_simp
                              with_reducible rfl
                            rotate_left
                            · simp only [Act.put, List.setIfInBounds_toArray, List.set_cons_zero, List.set_cons_succ, i64_w, i32_w]
                              rfl
                            refine take_ (i := 9) (N := some 77) (v := ?_) (a' := ?_) #[true, true, true, true, true, true, true, true, true, true, false, false] rfl rfl (take_ofW HT_.out HW_.out (by kernel_rfl)) (fun _ _ _ h => h) (Or.inl ⟨by rfl, ?_⟩) hHeld ?_ ?_
                            rotate_left
                            · rintro w' ⟨s0, s1, s2, s3, s4, s5, s6, s7, s8, s9, s10, s11, s12, s13, s14, s15, s16, s17, s18, s19⟩
                              go_simp
                              with_reducible rfl
                            rotate_left
                            · simp only [Act.put, List.setIfInBounds_toArray, List.set_cons_zero, List.set_cons_succ, i64_w, i32_w]
                              rfl
                            refine one_ (i := 10) (N := some 78) #[true, true, true, true, true, true, true, true, true, true, true, false] rfl rfl (one_of HT_.out (by kernel_rfl)) (by decide) (fun K hK => ?_)
                            refine goes_ Try.func14 (by kernel_rfl) rfl #[.agg #[.int .i64 ((rd_T25 l0_4 x65_3).f0), .string ((rd_T25 l0_4 x65_3).f1), .string ((rd_T25 l0_4 x65_3).f2), .slice A155_3 ((rd_T25 l0_4 x65_3).f3).length c155_3, .slice A155_4 ((rd_T25 l0_4 x65_3).f4).length c155_4], .agg #[.int .i64 ((rd_T25 l1_4 x65_3).f0), .string ((rd_T25 l1_4 x65_3).f1), .string ((rd_T25 l1_4 x65_3).f2), .slice A156_3 ((rd_T25 l1_4 x65_3).f3).length c156_3, .slice A156_4 ((rd_T25 l1_4 x65_3).f4).length c156_4]] (by rfl) rfl rfl (by (try simp only [List.map_toArray, List.map_cons, List.map_nil]); first | done | rfl | (simp only [List.length_drop, List.length_take]; rfl)) ?_
                            with_reducible refine (ih k3 (by have := HJ2.out; have := HK2.out; have := HK3.out; omega) ((rd_T25 l0_4 x65_3).f0) ((rd_T25 l0_4 x65_3).f1) ((rd_T25 l0_4 x65_3).f2) _ _ ((rd_T25 l0_4 x65_3).f3) _ _ ((rd_T25 l0_4 x65_3).f4) ((rd_T25 l1_4 x65_3).f0) ((rd_T25 l1_4 x65_3).f1) ((rd_T25 l1_4 x65_3).f2) _ _ ((rd_T25 l1_4 x65_3).f3) _ _ ((rd_T25 l1_4 x65_3).f4) false _ ?side1 ?side2 ?side3 ?side4 ?side5 ?side6 ?side7 ?side8 A41.out).mono ?_
                            (case side1 => repeat (first | exact (Kd.C_below HR155_3.out HB.out) | (with_reducible refine Kd.C_alloc ?_ _) | (with_reducible refine Kd.C_drewN ?_ _) | (with_reducible refine Kd.C_drew ?_)))
                            (case side2 => exact HC155_3.out)
                            (case side3 => repeat (first | exact (Kd.C_below HR155_4.out HB.out) | (with_reducible refine Kd.C_alloc ?_ _) | (with_reducible refine Kd.C_drewN ?_ _) | (with_reducible refine Kd.C_drew ?_)))
                            (case side4 => exact HC155_4.out)
                            (case side5 => repeat (first | exact (Kd.C_below HR156_3.out HB.out) | (with_reducible refine Kd.C_alloc ?_ _) | (with_reducible refine Kd.C_drewN ?_ _) | (with_reducible refine Kd.C_drew ?_)))
                            (case side6 => exact HC156_3.out)
                            (case side7 => repeat (first | exact (Kd.C_below HR156_4.out HB.out) | (with_reducible refine Kd.C_alloc ?_ _) | (with_reducible refine Kd.C_drewN ?_ _) | (with_reducible refine Kd.C_drew ?_)))
                            (case side8 => exact HC156_4.out)
                            rintro e w46 ⟨rfl, hb⟩
                            refine ⟨_, rfl, ?_⟩
                            have n0_ := Aside0.mk (blk_below (g := gb151) (o := .cells #[.int .i64 a0_0, .string a0_1, .string a0_2, .slice A0_3 l0_3.length c0_3, .slice (some ad155) l0_4.length c0_4] 25 (0, 0)) (by (with_reducible repeat (first | refine blk_drewN ?_ _ | refine blk_drew ?_ | refine blk_alloc ?_ _)); exact BK151.out) hb)
                            have n1_ := Aside0.mk (blk_below (g := gb152) (o := .cells #[.int .i64 a1_0, .string a1_1, .string a1_2, .slice A1_3 l1_3.length c1_3, .slice (some ad156) l1_4.length c1_4] 25 (0, 0)) (by (with_reducible repeat (first | refine blk_drewN ?_ _ | refine blk_drew ?_ | refine blk_alloc ?_ _)); exact BK152.out) hb)
                            have n2_ := Aside0.mk (below_step (by repeat (first | (with_reducible first | exact HB.out | apply below_alloc | apply pw_below_drewN | apply below_drew1 | refine below_set ?_ GE151.out | refine below_set ?_ GE152.out) | exact HB.out)) hb)
                            clear BK151
                            clear BK152
                            clear HB
                            have BK151 := n0_
                            have BK152 := n1_
                            have HB := n2_
                            clear n0_ n1_ n2_
                            (try clear hb)
                            (try clear hb2)
                            (try clear hk)
                            (try clear hi)
                            refine hK.out _ _ ⟨(blk_cell BK151.out 0).trans rfl, (blk_cell BK151.out 1).trans rfl, (blk_cell BK151.out 2).trans rfl, (blk_cell BK151.out 3).trans rfl, (blk_cell BK151.out 4).trans rfl, (blk_cell BK152.out 0).trans rfl, (blk_cell BK152.out 1).trans rfl, (blk_cell BK152.out 2).trans rfl, (blk_cell BK152.out 3).trans rfl, (blk_cell BK152.out 4).trans rfl, ((HB.out.cell (World.block_lt_of_cell? w _ hw155_0)).trans hw155_0), ((HB.out.cell (World.block_lt_of_cell? w _ hw155_1)).trans hw155_1), ((HB.out.cell (World.block_lt_of_cell? w _ hw155_2)).trans hw155_2), ((HB.out.cell (World.block_lt_of_cell? w _ hw155_3)).trans hw155_3), ((HB.out.cell (World.block_lt_of_cell? w _ hw155_4)).trans hw155_4), ((HB.out.cell (World.block_lt_of_cell? w _ hw156_0)).trans hw156_0), ((HB.out.cell (World.block_lt_of_cell? w _ hw156_1)).trans hw156_1), ((HB.out.cell (World.block_lt_of_cell? w _ hw156_2)).trans hw156_2), ((HB.out.cell (World.block_lt_of_cell? w _ hw156_3)).trans hw156_3), ((HB.out.cell (World.block_lt_of_cell? w _ hw156_4)).trans hw156_4)⟩ (fun hHeld => ?_)
                            clear hK K
                            refine norm_ (a' := ?_) ?_ ?_
                            rotate_left
                            · show Act.put _ (some 78) _ = _
                              simp only [Act.put, List.setIfInBounds_toArray, List.set_cons_zero, List.set_cons_succ, i64_w, i32_w]
                              rfl
                            refine pure_ (i := 11) (N := some 79) (v := ?_) (a' := ?_) #[true, true, true, true, true, true, true, true, true, true, true, true] rfl rfl (any_of HT_.out (by kernel_rfl)) (fun _ _ _ h => h) (Or.inl ⟨by rfl, ?_⟩) ?_ ?_
                            rotate_left
                            · intro w'
                              go_simp
                              with_reducible rfl
                            rotate_left
                            · simp only [Act.put, List.setIfInBounds_toArray, List.set_cons_zero, List.set_cons_succ, i64_w, i32_w]
                              rfl
                            refine done_ (done_of HT_.out (by kernel_rfl)) ?_
                            try go_wp2
                            go_ret
                            exact ⟨by first | rfl | (simp [errW_none, errW_some] <;> rfl) | (simp [*, errW_none, errW_some] <;> rfl), by repeat (first | (with_reducible first | exact HB.out | apply below_alloc | apply pw_below_drewN | apply below_drew1 | refine below_set ?_ GE151.out | refine below_set ?_ GE152.out) | exact HB.out)⟩
                        · rw [if_neg c40] at H
                          exact absurd H (by simp)
                      · rw [if_neg c39] at H
                        exact absurd H (by simp)
                    · rw [if_neg c38] at H
                      exact absurd H (by simp)
                  · rw [if_neg c37] at H
                    have c37b0 : decide (x65_3 < (l0_4.length : Int)) = false := decide_eq_false c37
                    clear c37
                    obtain rfl := Option.some.inj H
                    go_wp2
                    go_ret
                    exact ⟨by first | rfl | (simp [errW_none, errW_some] <;> rfl) | (simp [*, errW_none, errW_some] <;> rfl), by repeat (first | (with_reducible first | exact HB.out | apply below_alloc | apply pw_below_drewN | apply below_drew1 | refine below_set ?_ GE151.out | refine below_set ?_ GE152.out) | exact HB.out)⟩
end Go.Proofs.Ytmfjbljdbkmkgaa.PDom

/- What the printed functions on trees tell: the text, what stands within what, that a tree is itself. Plain facts. -/
namespace Go.Proofs.Ytmfjbljdbkmkgaa.PDom
open Go.RowKit Go.Proofs.YtmfjbljdbkmkgaaW.PrintWords Go.Proofs.YtmfjbljdbkmkgaaW.PrintLast Go.Proofs.YtmfjbljdbkmkgaaW.PrintMore Go.Proofs.Ytmfjbljdbkmkgaa.Dom Go.Proofs.Ytmfjbljdbkmkgaa.Txt
set_option linter.unusedVariables false
set_option linter.unusedSimpArgs false

theorem fit_kid {t y : T} (h : Fit t) (hy : y ∈ t.f4) : Fit y := by
  cases h with
  | mk _ _ _ h => exact h y hy
theorem fit_len {t : T} (h : Fit t) : t.f4.length ≤ 4398046510976 := by
  cases h with
  | mk _ _ h _ => exact h
theorem fit_len3 {t : T} (h : Fit t) : t.f3.length ≤ 4398046510976 := by
  cases h with
  | mk _ h _ _ => exact h
theorem fits2_ev (t : T) (ht : Fit t) : ∃ b, Ev (fun k => laws_zzFits2.f k t.f0 t.f1 t.f2 t.f3 t.f4) b := by
  obtain ⟨b, hb⟩ := fits2_tot t.f0 t.f1 t.f2 t.f3 t.f4 (Nat.le_trans (fit_len3 ht) (by decide)) (t.f3.length + 1) (by omega)
  exact ⟨b, Ev.of (fun k => laws_zzFits2.mono _ _ _ _ _ k) hb⟩
/-! ### The text -/
theorem txTL_append (a b : List T) : txTL (a ++ b) = txTL a ++ txTL b := by
  induction a with
  | nil => rfl
  | cons k a ih => rw [List.cons_append, txTL, txTL, ih, List.append_assoc]
theorem arr_app (a b : List UInt8) : (⟨a.toArray⟩ : ByteArray) ++ ⟨b.toArray⟩ = ⟨(a ++ b).toArray⟩ := by
  apply toList_inj
  rw [ByteArray.toList_eq, ByteArray.toList_eq, ByteArray.data_append]
  simp
theorem text_l0 (ks : List T) (hl : ks.length ≤ 4398046510976) (hs : (txTL ks).length ≤ 1099511627776) (ih : ∀ y ∈ ks, Ev (fun k => spec_TextOf.f k y.f0 y.f1 y.f2 y.f3 y.f4) ⟨(txT y).toArray⟩) : ∀ (n j : Nat), j + n = ks.length →
    Ev (fun k => spec_TextOf.l0 k ⟨(txTL (ks.take j)).toArray⟩ ks (ks.length : Int) (j : Int)) ⟨(txTL ks).toArray⟩
  | 0, j, hj => by
    refine Ev.step (f := fun _ => some ⟨(txTL ks).toArray⟩) (fun k => ?_) (Ev.now _)
    rw [spec_TextOf.l0, if_neg (by omega), List.take_of_length_le (by omega)]
  | n + 1, j, hj => by
    have hlt : j < ks.length := by omega
    have ht : ks.take (j + 1) = ks.take j ++ [ks[j]] := List.take_succ_eq_append_getElem hlt
    have e1 : txTL (ks.take (j + 1)) = txTL (ks.take j) ++ txT ks[j] := by rw [ht, txTL_append, txTL, txTL, List.append_nil]
    have hle : (txTL (ks.take j)).length + (txT ks[j]).length ≤ 1099511627776 := by
      have e2 : txTL ks = txTL (ks.take (j + 1)) ++ txTL (ks.drop (j + 1)) := by rw [← txTL_append, List.take_append_drop]
      rw [e2, e1, List.length_append, List.length_append] at hs
      omega
    refine Ev.step (f := fun k => (spec_TextOf.f k ks[j].f0 ks[j].f1 ks[j].f2 ks[j].f3 ks[j].f4).bind fun t150 => if (⟨(txTL (ks.take j)).toArray⟩ : ByteArray).size + t150.size ≤ 9223372036854775807 then spec_TextOf.l0 k (⟨(txTL (ks.take j)).toArray⟩ ++ t150) ks (ks.length : Int) ((j + 1 : Nat) : Int) else none) (fun k => ?_) ?_
    · simp only [spec_TextOf.l0]
      rw [if_pos (by omega), if_pos (by omega), if_pos (by omega), rd_at ks hlt, succ_wrap j (by omega)]
    · refine Ev.bind (ih _ (List.getElem_mem hlt)) ?_
      have hsz : (⟨(txTL (ks.take j)).toArray⟩ : ByteArray).size + (⟨(txT ks[j]).toArray⟩ : ByteArray).size ≤ 9223372036854775807 := by
        show (txTL (ks.take j)).toArray.size + (txT ks[j]).toArray.size ≤ _
        rw [List.size_toArray, List.size_toArray]
        omega
      refine Ev.congr (f := fun k => spec_TextOf.l0 k ⟨(txTL (ks.take (j + 1))).toArray⟩ ks (ks.length : Int) ((j + 1 : Nat) : Int)) (fun k => ?_) (text_l0 ks hl hs ih n (j + 1) (by omega))
      rw [if_pos hsz, arr_app, e1]
theorem txTL_mem {ks : List T} {y : T} (h : y ∈ ks) : (txT y).length ≤ (txTL ks).length := by
  induction ks with
  | nil => simp at h
  | cons k ks ih =>
    rw [txTL, List.length_append]
    rcases List.mem_cons.1 h with e | e
    · rw [e]; omega
    · have := ih e; omega
theorem text_ev (t : T) : Fit t → (txT t).length ≤ 1099511627776 → Ev (fun k => spec_TextOf.f k t.f0 t.f1 t.f2 t.f3 t.f4) ⟨(txT t).toArray⟩ := by
  induction t using T_induct with
  | h t ih =>
    intro hf hs
    rw [txT_eq] at hs ⊢
    by_cases h1 : t.f0 = 1
    · rw [if_pos h1]
      refine Ev.step (f := fun _ => some t.f2) (fun k => ?_) (by
        have : (⟨(t.f2.data.toList).toArray⟩ : ByteArray) = t.f2 := by rw [Array.toArray_toList]
        rw [this]
        exact Ev.now _)
      rw [spec_TextOf.f, if_pos h1]
    · rw [if_neg h1] at hs ⊢
      refine Ev.step (f := fun k => spec_TextOf.l0 k (⟨#[]⟩ : ByteArray) t.f4 (t.f4.length : Int) ((0 : Nat) : Int)) (fun k => ?_) ?_
      · rw [spec_TextOf.f, if_neg h1]
        rfl
      · exact text_l0 t.f4 (fit_len hf) hs (fun y hy => ih y hy (fit_kid hf hy) (Nat.le_trans (txTL_mem hy) hs)) t.f4.length 0 (by omega)
/-! ### A tree is itself -/
theorem same_l1 (u : T) (hk : u.f4.length ≤ 4398046510976) (ih : ∀ y ∈ u.f4, Ev (fun k => spec_SameTree.f k y.f0 y.f1 y.f2 y.f3 y.f4 y.f0 y.f1 y.f2 y.f3 y.f4) true) : ∀ (n j : Nat), u.f4.length = j + n →
    Ev (fun k => spec_SameTree.l1 k (u.f4.length : Int) (j : Int) u.f0 u.f1 u.f2 u.f3 u.f4 u.f0 u.f1 u.f2 u.f3 u.f4) true := by
  intro n
  induction n with
  | zero =>
    intro j hj
    refine Ev.step (f := fun _ => some true) (fun k => ?_) (Ev.now _)
    simp only [spec_SameTree.l1]
    rw [if_neg (by omega)]
  | succ n ihn =>
    intro j hj
    have hlt : j < u.f4.length := by omega
    refine Ev.step (f := fun k => (spec_SameTree.f k u.f4[j].f0 u.f4[j].f1 u.f4[j].f2 u.f4[j].f3 u.f4[j].f4 u.f4[j].f0 u.f4[j].f1 u.f4[j].f2 u.f4[j].f3 u.f4[j].f4).bind fun b => if b = true then spec_SameTree.l1 k (u.f4.length : Int) ((j + 1 : Nat) : Int) u.f0 u.f1 u.f2 u.f3 u.f4 u.f0 u.f1 u.f2 u.f3 u.f4 else some false) (fun k => ?_) ?_
    · simp only [spec_SameTree.l1]
      rw [if_pos (by omega), if_pos (by omega), if_pos (by omega), if_pos (by omega), rd_at u.f4 hlt, succ_wrap j (by omega)]
    · refine Ev.bind (ih _ (List.getElem_mem hlt)) ?_
      simpa using ihn (j + 1) (by omega)
theorem same_l0 (u : T) (ha : u.f3.length ≤ 4398046510976) (h1 : Ev (fun k => spec_SameTree.l1 k (u.f4.length : Int) ((0 : Nat) : Int) u.f0 u.f1 u.f2 u.f3 u.f4 u.f0 u.f1 u.f2 u.f3 u.f4) true) : ∀ (n j : Nat), u.f3.length = j + n →
    Ev (fun k => spec_SameTree.l0 k (u.f3.length : Int) (j : Int) u.f0 u.f1 u.f2 u.f3 u.f4 u.f0 u.f1 u.f2 u.f3 u.f4) true := by
  intro n
  induction n with
  | zero =>
    intro j hj
    refine Ev.step (f := fun k => spec_SameTree.l1 k (u.f4.length : Int) ((0 : Nat) : Int) u.f0 u.f1 u.f2 u.f3 u.f4 u.f0 u.f1 u.f2 u.f3 u.f4) (fun k => ?_) h1
    simp only [spec_SameTree.l0]
    rw [if_neg (by omega)]
    rfl
  | succ n ihn =>
    intro j hj
    refine Ev.step (f := fun k => spec_SameTree.l0 k (u.f3.length : Int) ((j + 1 : Nat) : Int) u.f0 u.f1 u.f2 u.f3 u.f4 u.f0 u.f1 u.f2 u.f3 u.f4) (fun k => ?_) (ihn (j + 1) (by omega))
    simp only [spec_SameTree.l0]
    rw [if_pos (by omega), if_pos (by omega), if_pos (by omega), if_pos (by omega), succ_wrap j (by omega)]
    simp
theorem same_ev (u : T) : Fit u → Ev (fun k => spec_SameTree.f k u.f0 u.f1 u.f2 u.f3 u.f4 u.f0 u.f1 u.f2 u.f3 u.f4) true := by
  induction u using T_induct with
  | h u ih =>
    intro hf
    have h1 := same_l1 u (fit_len hf) (fun y hy => ih y hy (fit_kid hf hy)) u.f4.length 0 (by omega)
    have h0 := same_l0 u (fit_len3 hf) h1 u.f3.length 0 (by omega)
    refine Ev.step (f := fun k => spec_SameTree.j0 k false u.f0 u.f1 u.f2 u.f3 u.f4 u.f0 u.f1 u.f2 u.f3 u.f4) (fun k => ?_) ?_
    · simp [spec_SameTree.f]
    · refine Ev.step (f := fun k => spec_SameTree.l0 k (u.f3.length : Int) ((0 : Nat) : Int) u.f0 u.f1 u.f2 u.f3 u.f4 u.f0 u.f1 u.f2 u.f3 u.f4) (fun k => ?_) h0
      simp only [spec_SameTree.j0]
      rw [if_neg (by simp)]
      rfl
/-! ### What stands within what -/
theorem named_ev (l : List ByteArray) (hl : l.length ≤ 4611686018427387904) (s : ByteArray) : Ev (fun k => spec_Named.f k l s) (l.any fun x => x.toList == s.toList) := ⟨l.length + 1, fun k hk => named_f l hl s k (by omega)⟩
theorem any_swap (l : List ByteArray) (s : ByteArray) : (l.any fun x => x.toList == s.toList) = l.any fun x => s.toList == x.toList := by
  congr 1
  funext x
  exact Bool.eq_iff_iff.2 ⟨fun h => beq_iff_eq.2 (beq_iff_eq.1 h).symm, fun h => beq_iff_eq.2 (beq_iff_eq.1 h).symm⟩
theorem isT_ev (names : List ByteArray) (hl : names.length ≤ 4611686018427387904) (t : T) {α : Type} (g : Nat → Bool → Option α) (r : α) (h : Ev (fun k => g k (isT names t)) r) :
    Ev (fun k => if t.f0 = 0 then (spec_Named.f k names t.f1).bind fun b => g k b else g k false) r := by
  by_cases h0 : t.f0 = 0
  · refine Ev.congr (f := fun k => (spec_Named.f k names t.f1).bind fun b => g k b) (fun k => by rw [if_pos h0]) ?_
    refine Ev.bind (named_ev names hl t.f1) ?_
    have : isT names t = names.any fun x => x.toList == t.f1.toList := by unfold isT; rw [h0, any_swap]; rfl
    rw [← this]
    exact h
  · refine Ev.congr (f := fun k => g k false) (fun k => by rw [if_neg h0]) ?_
    have : isT names t = false := by unfold isT; rw [beq_eq_false_iff_ne.2 h0]; rfl
    rw [← this]
    exact h
theorem within_l0 (names : List ByteArray) (b m : Bool) (ks : List T) (hk : ks.length ≤ 4398046510976) (ih : ∀ y ∈ ks, ∀ b, Ev (fun k => laws_inlineWithin.f k y.f0 y.f1 y.f2 y.f3 y.f4 names b) (withinT names b y)) : ∀ (n j : Nat), j + n = ks.length →
    Ev (fun k => laws_inlineWithin.l0 k names b m ks (ks.length : Int) (j : Int)) (withinTL names (b || m) (ks.drop j))
  | 0, j, hj => by
    rw [List.drop_eq_nil_of_le (by omega)]
    refine Ev.step (f := fun _ => some false) (fun k => ?_) (Ev.now _)
    simp only [laws_inlineWithin.l0]
    rw [if_neg (by omega)]
  | n + 1, j, hj => by
    have hlt : j < ks.length := by omega
    rw [List.drop_eq_getElem_cons hlt, withinTL]
    refine Ev.step (f := fun k => (laws_inlineWithin.f k ks[j].f0 ks[j].f1 ks[j].f2 ks[j].f3 ks[j].f4 names (b || m)).bind fun t => if t = true then some true else laws_inlineWithin.l0 k names b m ks (ks.length : Int) ((j + 1 : Nat) : Int)) (fun k => ?_) ?_
    · simp only [laws_inlineWithin.l0]
      rw [if_pos (by omega), if_pos (by omega), if_pos (by omega), rd_at ks hlt, succ_wrap j (by omega)]
      cases b <;> rfl
    · refine Ev.bind (ih _ (List.getElem_mem hlt) _) ?_
      cases withinT names (b || m) ks[j] with
      | true => exact Ev.now _
      | false => simpa using within_l0 names b m ks hk ih n (j + 1) (by omega)
theorem withinT_eq (names : List ByteArray) (b : Bool) (t : T) : withinT names b t = ((isT names t && b) || withinTL names (b || isT names t) t.f4) := by
  cases t with
  | mk k n x as_ ks => rw [withinT, isT_node names k n x as_ as_ [] ks]
theorem within_ev (names : List ByteArray) (hl : names.length ≤ 4611686018427387904) (t : T) : Fit t → ∀ b, Ev (fun k => laws_inlineWithin.f k t.f0 t.f1 t.f2 t.f3 t.f4 names b) (withinT names b t) := by
  induction t using T_induct with
  | h t ih =>
    intro hf b
    have h0 := fun m => within_l0 names b m t.f4 (fit_len hf) (fun y hy => ih y hy (fit_kid hf hy)) t.f4.length 0 (by omega)
    refine Ev.step (f := fun k => if t.f0 = 0 then (spec_Named.f k names t.f1).bind fun m => laws_inlineWithin.j0 k names b m t.f0 t.f1 t.f2 t.f3 t.f4 else laws_inlineWithin.j0 k names b false t.f0 t.f1 t.f2 t.f3 t.f4) (fun k => by rw [laws_inlineWithin.f]) ?_
    refine isT_ev names hl t (fun k m => laws_inlineWithin.j0 k names b m t.f0 t.f1 t.f2 t.f3 t.f4) _ ?_
    rw [withinT_eq]
    generalize isT names t = m at *
    refine Ev.step (f := fun k => laws_inlineWithin.j1 k names b m (m && b) t.f0 t.f1 t.f2 t.f3 t.f4) (fun k => ?_) ?_
    · simp only [laws_inlineWithin.j0]
      cases m <;> rfl
    · cases hmb : (m && b) with
      | true =>
        rw [Bool.true_or]
        refine Ev.step (f := fun _ => some true) (fun k => ?_) (Ev.now _)
        simp only [laws_inlineWithin.j1]
        rw [if_pos trivial]
      | false =>
        rw [Bool.false_or]
        refine Ev.step (f := fun k => laws_inlineWithin.l0 k names b m t.f4 (t.f4.length : Int) ((0 : Nat) : Int)) (fun k => ?_) (h0 m)
        simp only [laws_inlineWithin.j1]
        rw [if_neg (by simp)]
        rfl
end Go.Proofs.Ytmfjbljdbkmkgaa.PDom

/- domutils.RemoveRedundant: its contract over a tree; impl.Redundant. -/
namespace Go.Proofs.Ytmfjbljdbkmkgaa.Dom
open Go.RowKit Go.Proofs.YtmfjbljdbkmkgaaW.PrintWords Go.Proofs.YtmfjbljdbkmkgaaW.PrintLast Go.Proofs.YtmfjbljdbkmkgaaW.PrintMore Go.Proofs.Ytmfjbljdbkmkgaa.PDom
set_option linter.unusedVariables false
set_option linter.unusedSimpArgs false

structure RedI (w : World) (D : Tab) (r0 : RT) (names : List ByteArray) (wr : World) (Dr : Tab) (r : RT) (j : Nat) : Prop where
  d : Dom wr Dr
  o : Only D w wr
  s : ∀ k, D k = none ↔ Dr k = none
  is : Is Dr none r
  all : RT.All okN r
  red : Red (mt names) r0 r j
  eq : RT.red (mt names) false r = RT.red (mt names) false r0
/-- A function of two nodes that tells whether both are elements of some names, whatever becomes of the tree. -/
def Both (w : World) (D : Tab) (F : Nat) (cap : Array Value) (names : List ByteArray) : Prop := ∀ wr Dr, Dom wr Dr → Only D w wr → (∀ k, D k = none ↔ Dr k = none) → ∀ x y, Dr x ≠ none → Dr y ≠ none →
  Calls Try.prog F (#[ptr (some x), ptr (some y)] ++ cap) wr fun e w' => e = .returned (.bool (elemD Dr names x && elemD Dr names y)) ∧ w' = wr
theorem at_D {D : Tab} {r y : RT} {l : List Int} (hr : Is D none r) (h : r.at_ l = some y) : D y.id ≠ none := by
  obtain ⟨q, hq⟩ := at_is l r y none hr h
  rw [hq.root]
  simp
theorem last_of {l : List Int} (h : l ≠ []) : ∃ n, l.getLast? = some n ∧ l = l.dropLast ++ [n] := by
  refine ⟨l.getLast h, List.getLast?_eq_some_getLast h, (List.dropLast_concat_getLast h).symm⟩
theorem mt_ty {names : List ByteArray} {r : RT} (h : mt names r = true) : r.ty = 3 := by
  unfold mt at h
  rw [Bool.and_eq_true] at h
  exact eq_of_beq h.1
theorem red_round {w : World} {D : Tab} {r0 r : RT} {names : List ByteArray} {wr : World} {Dr : Tab} {j : Nat} {F : Nat} {cap : Array Value} (EF : Enters F) (HB : Both w D F cap names) (h0 : r0.pre.Nodup) (h : RedI w D r0 names wr Dr r j) (hj : j < r0.pre.length) :
    ∃ b : Bool, (Calls Try.prog 68 #[ptr (some r0.pre[j]), .func (Fn.func F) #[] cap] wr fun e w' => e = .returned (.bool b) ∧ w' = wr) ∧
      (b = false → RedI w D r0 names wr Dr r (j + 1)) ∧ (b = true → Calls Try.prog 69 #[ptr (some r0.pre[j])] wr fun e w' => e = .returned (.tuple #[]) ∧ ∃ Dr' r', RedI w D r0 names w' Dr' r' (j + 1)) := by
  have hmem : r0.pre[j] ∈ r0.pre.drop j := by rw [List.drop_eq_getElem_cons hj]; exact List.mem_cons_self
  obtain ⟨p, y, hy, hid⟩ := place_of r _ (h.red.left _ hmem)
  have hn := Is.nodup h.d.wf r h.is
  have hc := above_calls wr Dr h.d r h.is (mt names) F cap EF (fun l1 y1 l2 z e1 e2 => by
    obtain ⟨q1, g1⟩ := at_is l1 r y1 none h.is e1
    obtain ⟨q2, g2⟩ := at_is l2 r z none h.is e2
    rw [← elem_mt names g1, ← elem_mt names g2]
    exact HB wr Dr h.d h.o h.s y1.id z.id (at_D h.is e1) (at_D h.is e2)) p y hy
  rw [hid] at hc
  refine ⟨_, hc, fun hb => ?_, fun hb => ?_⟩
  · exact ⟨h.d, h.o, h.s, h.is, h.all, h.red.keep hj hn hy hid (fun ⟨g1, g2⟩ => by rw [g1, g2] at hb; cases hb), h.eq⟩
  · rw [Bool.and_eq_true] at hb
    obtain ⟨hm, ha⟩ := hb
    have hpne : p ≠ [] := fun e => by rw [e] at ha; simp [RT.anyUp] at ha
    obtain ⟨n, hn1, hn2⟩ := last_of hpne
    obtain ⟨up, k1, k2, hu, hk, hl⟩ := place_parts hy hn1
    have hu2 := unwrap_calls wr Dr h.d r up y p.dropLast k1 k2 h.is hu hk
    rw [hid] at hu2
    refine hu2.mono ?_
    rintro e w' ⟨rfl, D', g1, g2, g3, g4⟩
    have hyall := RT.All.at hy h.all
    have huall := RT.All.at hu h.all
    refine ⟨rfl, D', _, ⟨g1, h.o.trans' g3 h.s, fun k => (h.s k).trans (g4 k), g2, RT.All.mapAt okN_own _ _ _ hu h.all (fun k hk2 => ?_), h.red.unwrap (mt_own names) h.d.wf hj h.is h0 hy hid hm ha (mt_ty hm) hn2 hu hk, ?_⟩⟩
    · rcases List.mem_append.1 hk2 with hk3 | hk3
      · rcases List.mem_append.1 hk3 with hk4 | hk4
        · cases huall with
          | mk _ _ hks => exact hks k (by rw [hk]; simp [hk4])
        · cases hyall with
          | mk _ _ hks => exact hks k hk4
      · cases huall with
        | mk _ _ hks => exact hks k (by rw [hk]; simp [hk3])
    · rw [red_mapAt (mt_own names) (n := n) hm p.dropLast r up false hu hk (by rw [hk, ← hl]; simp) (by rw [← hn2, ha]; rfl)]
      exact h.eq
theorem Only.later {D : Tab} {w w2 wr : World} (hb : Below w.heap.size w w2) (h : Only D w2 wr) : Only D w wr :=
  ⟨h.os.trans hb.os, h.tape.trans hb.tape, h.output.trans hb.output, Nat.le_trans hb.size h.size, fun k hk hd => (h.block k (Nat.lt_of_lt_of_le hk hb.size) hd).trans (hb.block k hk)⟩
theorem Both.later {w w2 : World} {D : Tab} {F : Nat} {cap : Array Value} {names : List ByteArray} (h : Both w D F cap names) (hb : Below w.heap.size w w2) : Both w2 D F cap names := fun wr Dr h1 h2 h3 => h wr Dr h1 (h2.later hb) h3
theorem RedI.early {w w2 : World} {D : Tab} {r0 r : RT} {names : List ByteArray} {wr : World} {Dr : Tab} {j : Nat} (h : RedI w2 D r0 names wr Dr r j) (hb : Below w.heap.size w w2) : RedI w D r0 names wr Dr r j := ⟨h.d, h.o.later hb, h.s, h.is, h.all, h.red, h.eq⟩
theorem Dom.lt_of {w : World} {D : Tab} (h : Dom w D) {k : Nat} (hk : w.heap.size ≤ k) : D k = none := by
  cases hd : D k with
  | none => rfl
  | some i => have := h.lt (by rw [hd]; simp : D k ≠ none); omega
set_option maxHeartbeats 400000 in
theorem remred_calls (w : World) (D : Tab) (hdom : Dom w D) (r0 : RT) (hr : Is D none r0) (names : List ByteArray) (F : Nat) (cap : Array Value) (EF : Enters F) (HB : Both w D F cap names) (hall : RT.All okN r0) (hl : r0.pre.length ≤ 1000000) :
    Calls Try.prog 35 #[ptr (some r0.id), .func (Fn.func F) #[] cap] w fun e w' => e = .returned (.tuple #[]) ∧ ∃ D' r', RedI w D r0 names w' D' r' r0.pre.length := by
  have h0 := Is.nodup hdom.wf r0 hr
  have HA := Aside0.mk (all_calls w D hdom none r0 hr 1000000 (by omega) hl)
  have HRD := Aside0.mk (fun (w2 : World) (hb : Below w.heap.size w w2) j (wr : World) (Dr : Tab) (r : RT) (hj : j < r0.pre.length) (h : RedI w2 D r0 names wr Dr r j) => red_round EF (HB.later hb) h0 h hj)
  have HST := Aside0.mk (fun (w2 : World) (hb : Below w.heap.size w w2) => (show RedI w2 D r0 names w2 D r0 0 from ⟨hdom.below hb, Only.refl _ _, fun k => Iff.rfl, hr, hall, Red.start _ _, rfl⟩))
  have HOUT := Aside0.mk (fun k (hk : w.heap.size ≤ k) => hdom.lt_of hk)
  clear h0 EF HB hdom hr hall
  generalize hlist : r0.pre = l at *
  generalize hrid : r0.id = ri at *
  clear hrid
  have HLI := Aside0.mk hlist
  clear hlist
  simp only [ptr_some] at HA ⊢
  go_enter Try.func35, Try.ntmps35
  go_wp2_with fail
  refine HA.out.mono ?_
  rintro e w2 ⟨v2, rfl, ho2, hb2⟩
  obtain ⟨A2, c2, rfl⟩ := Kd.R_slice ho2
  have HB2 := Aside0.mk hb2
  have HROW := Aside0.mk (Kd.R_F (Kd.R_mono (Kd.R_bound ho2) (fun k hk => hk.2.1)))
  clear ho2 hb2 HA
  go_wp2_with fail
  go_loopw [9] (fun vi wr => ∃ (j : Nat) (Dr : Tab) (r : RT), j ≤ l.length ∧ vi = .int .i64 j ∧ Aside0 (RedI w2 D r0 names wr Dr r j)) (fun vi _ => l.length - (intOf vi).toNat)
  case atStart => exact ⟨0, D, r0, Nat.zero_le _, rfl, ⟨HST.out w2 HB2.out⟩⟩
  case round =>
    obtain ⟨j, Dr, r, hj, rfl, HI⟩ := hrel
    by_cases hlt : j < l.length
    · have hC := Kd.F_now (Kd.F_step HROW.out (fun k hk hk2 => HI.out.o.block k hk2 (HOUT.out k hk)))
      obtain ⟨ad, c, rfl, hcl, hK, hcc⟩ := Kd.C_get hC 0 (j : Int) (by omega) (by omega)
      have hx := hcc 0 (ptr (some (l.getD j 0))) (by rw [hK]; rfl)
      have hsz1 : kP.sz = 1 := rfl
      have he : l.getD j 0 = l[j] := by simp [List.getD_eq_getElem?_getD, List.getElem?_eq_getElem hlt]
      rw [he] at hx
      simp only [Int.toNat_natCast, hsz1, Nat.mul_one, Nat.add_zero] at hx
      obtain ⟨b, c1, n1, n2⟩ := HRD.out w2 HB2.out j wr Dr r hlt HI.out
      have C1 := Aside0.mk c1
      have N1 := Aside0.mk n1
      have N2 := Aside0.mk n2
      clear hC hcl hK hcc he c1 n1 n2
      generalize l[j] = x at *
      simp only [ptr_some] at hx C1 N2
      cases b with
      | false =>
        go_wp2_with (go_at_call 68; go_must (refine C1.out.mono ?_; rintro e w3 ⟨rfl, rfl⟩))
        go_roundw
        case rel => exact ⟨j + 1, Dr, r, hlt, by go_num, ⟨N1.out trivial⟩⟩
        case measure => simp [intOf]; omega
      | true =>
        go_wp2_with (first
          | (go_at_call 68; go_must (refine C1.out.mono ?_; rintro e w3 ⟨rfl, rfl⟩))
          | (go_at_call 69; go_must (refine (N2.out trivial).mono ?_; rintro e w4 ⟨rfl, Dr', r', hI'⟩; have HI' := Aside0.mk hI'; clear hI')))
        go_roundw
        case rel => exact ⟨j + 1, Dr', r', hlt, by go_num, HI'⟩
        case measure => simp [intOf]; omega
    · have hje : j = l.length := by omega
      subst hje
      go_wp2_with fail
      go_end0
      exact ⟨rfl, Dr, r, HI.out.early HB2.out⟩
/-! ### impl.Redundant -/
theorem enters_red1 : ∀ (args : Array Value) (w : World), (callFunc 34 args).run Try.prog w = .ok (.enter 34 args) w := fun _ _ => by kernel_rfl
theorem enters_both : Enters 36 := fun _ _ => by kernel_rfl
theorem Kd.C_only {w wr : World} {D : Tab} (h : Only D w wr) {A : Option Addr} {n : Nat} {xs : List ByteArray} (hc : Kd.F Kd.string w (fun k => D k = none) A n xs) : Kd.C Kd.string wr A n xs :=
  Kd.F_now (Kd.F_step hc (fun k hk hk2 => h.block k hk2 hk))
/-- What becomes of a tree. -/
def redH (names : List ByteArray) (t : T) : T := match redT names false t with
  | u :: _ => u
  | [] => t
theorem red1_calls (w : World) (D : Tab) (hdom : Dom w D) (r : RT) (hr : Is D none r) (t : T) (hto : TellsT t r) (hok : okT t = true) (hct : countT t ≤ 1000000) (names : List ByteArray) (hl : names.length ≤ 4611686018427387904) (bi bn : Nat) (A : Option Addr) (c : Nat)
    (hbi : w.heap[bi]? = some (.cells #[.func (Fn.func 61) #[] #[.pointer (some ⟨bn, 0, none⟩)]] 44 (0, 0))) (hdi : D bi = none)
    (hbn : w.heap[bn]? = some (.cells #[.slice A names.length c] 28 (0, 0))) (hdn : D bn = none) (hC : Kd.F Kd.string w (fun k => D k = none) A names.length names) :
    Calls Try.prog 34 #[ptr (some r.id), .pointer (some ⟨bi, 0, none⟩)] w fun e w' => e = .returned (.tuple #[]) ∧ ∃ u, u = redH names t ∧ Turns w w' D r u := by
  have hmf : ∀ (fn : Fn) (first cap : Array Value) (w : World), (Instr.makeFunc fn first cap).run Try.prog w = .ok (.func fn first cap) w := fun _ _ _ _ => rfl
  have hall := ok_all r t hok hto
  obtain ⟨_, hpl⟩ := told_paths r t false (ok_norm t hok) hto
  have HR := Aside0.mk (remred_calls w D hdom r hr names 36 #[.pointer (some ⟨bi, 0, none⟩)] enters_both
    (fun wr Dr h1 h2 h3 x y hx hy => both_calls wr Dr h1 bi bn A c names ((h2.block bi (blk_lt hbi) hdi).trans hbi) ((h2.block bn (blk_lt hbn) hdn).trans hbn) (Kd.C_only h2 hC) hl x y hx hy) hall (by rw [hpl]; exact hct))
  have HE := Aside0.mk (show ∀ w' D' r', RedI w D r names w' D' r' r.pre.length → Turns w w' D r (redH names t) from fun w' D' r' h => by
    have hw := h.red.finish (mt_own names)
    have h1 := red_none (mt_own names) r' false hw
    rw [h.eq] at h1
    have h2 := red_toT names r false
    rw [h1, toT_norm r t false (ok_norm t hok) hto] at h2
    have hlen := h.red.len
    refine ⟨D', r', h.d, h.is, h.red.id, rfit_all r' h.all (by omega), ?_, h.o, fun k _ hk => (h.s k).1 hk⟩
    unfold redH
    rw [← h2]
    rfl)
  clear hall hpl hbi hdi hbn hdn hC hl hto hok hct hr hdom
  simp only [ptr_some] at HR ⊢
  go_enter Try.func34, Try.ntmps34
  go_wp2_with fail
  refine HR.out.mono ?_
  rintro e w' ⟨rfl, D', r', h⟩
  have H := Aside0.mk (HE.out w' D' r' h)
  clear h HE HR
  go_wp2_with fail
  go_end0
  exact ⟨rfl, _, rfl, H.out⟩
end Go.Proofs.Ytmfjbljdbkmkgaa.Dom

/- impl.Redundant: its contract. -/
namespace Go.Proofs.Ytmfjbljdbkmkgaa.Dom
open Go.RowKit Go.Proofs.YtmfjbljdbkmkgaaW.PrintWords Go.Proofs.YtmfjbljdbkmkgaaW.PrintLast Go.Proofs.YtmfjbljdbkmkgaaW.PrintMore Go.Proofs.Ytmfjbljdbkmkgaa.PDom
set_option linter.unusedVariables false
set_option linter.unusedSimpArgs false

set_option maxHeartbeats 1000000 in
set_option maxRecDepth 100000 in
theorem redundant_calls (t : T) (hok : okT t = true) (hct : countT t ≤ 1000000) (names : List ByteArray) (hl : names.length ≤ 4611686018427387904) (w : World) (A3 : Option Addr) (c3 : Nat) (A4 : Option Addr) (c4 : Nat) (A : Option Addr) (c : Nat)
    (h3 : Kd.C k53 w A3 t.f3.length t.f3) (l3 : t.f3.length ≤ c3) (h4 : Kd.C k25 w A4 t.f4.length t.f4) (l4 : t.f4.length ≤ c4) (hC : Kd.C Kd.string w A names.length names) :
    Calls Try.prog 11 #[.agg #[.int .i64 t.f0, .string t.f1, .string t.f2, .slice A3 t.f3.length c3, .slice A4 t.f4.length c4], .slice A names.length c] w fun e w' => Told w w' (redH names t) e := by
  have hmf : ∀ (fn : Fn) (first cap : Array Value) (w : World), (Instr.makeFunc fn first cap).run Try.prog w = .ok (.func fn first cap) w := fun _ _ _ _ => rfl
  have HN := Aside0.mk (fun wx => named_calls wx A names.length c)
  obtain ⟨W0, hW0⟩ : ∃ W0, W0 = (((w.alloc (.cells #[.int .i64 t.f0, .string t.f1, .string t.f2, .slice A3 t.f3.length c3, .slice A4 t.f4.length c4] 25)).alloc (.cells #[.int .i64 0, .string ⟨#[]⟩, .string ⟨#[]⟩, .slice none 0 0, .slice none 0 0] 25)).alloc (.cells #[.slice A names.length c] 28)).alloc (.cells #[.func (Fn.func 61) #[] #[.pointer (some ⟨w.heap.size + 1 + 1, 0, none⟩)]] 44) := ⟨_, rfl⟩
  obtain ⟨hsz, hB0, hk0, hk1, hk2, hk3⟩ := four_boxes w (.cells #[.int .i64 t.f0, .string t.f1, .string t.f2, .slice A3 t.f3.length c3, .slice A4 t.f4.length c4] 25) (.cells #[.int .i64 0, .string ⟨#[]⟩, .string ⟨#[]⟩, .slice none 0 0, .slice none 0 0] 25) (.cells #[.slice A names.length c] 28) (.cells #[.func (Fn.func 61) #[] #[.pointer (some ⟨w.heap.size + 1 + 1, 0, none⟩)]] 44)
  rw [← hW0] at hsz hB0 hk0 hk1 hk2 hk3
  have HBH := Aside0.mk (behind_calls 34 #[.pointer (some ⟨w.heap.size + 1 + 1 + 1, 0, none⟩)] enters_red1 (fun u => u = redH names t) t (ok_fit t hok) W0 A3 c3 A4 c4 (Kd.C_below h3 hB0) l3 (Kd.C_below h4 hB0) l4
    (fun W D r hW hno hd hr hto => red1_calls W D hd r hr t hto hok hct names hl (w.heap.size + 1 + 1 + 1) (w.heap.size + 1 + 1) A c ((hW.block _ (by omega)).trans hk3) (hno _ (by omega)) ((hW.block _ (by omega)).trans hk2) (hno _ (by omega))
      (Kd.F_mono (Kd.F_step (Kd.C_F Kd.heap_string (Kd.C_below hC hB0)) (fun k hk hk2 => hW.block k hk2)) (fun k hk => hno k hk))))
  have K1 := Aside0.mk hk1
  have HZ := Aside0.mk hsz
  have HB0 := Aside0.mk hB0
  clear h3 h4 l3 l4 hC hok hct hk0 hk1 hk2 hk3 hsz hB0
  go_enter Try.func11, Try.ntmps11
  go_wp2_with (go_at_call 32; go_must (refine (HN.out _).mono ?_; rintro e w1 ⟨rfl, rfl⟩))
  rw [← hW0]
  refine HBH.out.mono ?_
  rintro e w2 ⟨u, hu, A5, c5, A6, c6, rfl, m5, F5, m6, F6, hB, R5, N6⟩
  have hb2 := (hB.block _ (blk_lt K1.out)).trans K1.out
  have hz := HZ.out
  have HU := Aside0.mk hu
  have HTO := Aside0.mk (fun a0 a1 a2 a3 a4 => told_box (b := w.heap.size + 1) HB0.out (by omega) (by omega) m5 F5 m6 F6 hB R5 N6 a0 a1 a2 a3 a4)
  have f0 := blk_frozen hb2 0
  have f1 := blk_frozen hb2 1
  have f2 := blk_frozen hb2 2
  have f3 := blk_frozen hb2 3
  have f4 := blk_frozen hb2 4
  have q0 := blk_cell hb2 0
  have q1 := blk_cell hb2 1
  have q2 := blk_cell hb2 2
  have q3 := blk_cell hb2 3
  have q4 := blk_cell hb2 4
  clear hb2 hz hu m5 F5 m6 F6 hB R5 N6 HBH K1
  go_wp2_with fail
  refine bodyPost_ret (v := .agg #[.int .i64 u.f0, .string u.f1, .string u.f2, .slice A5 u.f3.length c5, .slice A6 u.f4.length c6]) (by simp [results, Try.results11, go_sem, q0, q1, q2, q3, q4]) rfl ?_
  rw [← HU.out]
  exact HTO.out _ _ _ _ _
end Go.Proofs.Ytmfjbljdbkmkgaa.Dom
namespace Go.Proofs.Ytmfjbljdbkmkgaa.PDom
open Go.RowKit Go.Proofs.YtmfjbljdbkmkgaaW.PrintWords Go.Proofs.YtmfjbljdbkmkgaaW.PrintLast Go.Proofs.YtmfjbljdbkmkgaaW.PrintMore Go.Proofs.Ytmfjbljdbkmkgaa.Dom
set_option linter.unusedVariables false
set_option linter.unusedSimpArgs false
/-! ### As the printed walks take it -/
def impl_Redundant.f (_k : Nat) (a0_0 : Int) (a0_1 : ByteArray) (a0_2 : ByteArray) (l0_3 : List (S53)) (l0_4 : List (S25)) (l1 : List ByteArray) : Option (Int × ByteArray × ByteArray × List S53 × List S25) :=
  if (okT ⟨a0_0, a0_1, a0_2, l0_3, l0_4⟩ && (decide (countT ⟨a0_0, a0_1, a0_2, l0_3, l0_4⟩ ≤ 1000000) && decide (l1.length ≤ 4611686018427387904))) = true then some (let u := redH l1 ⟨a0_0, a0_1, a0_2, l0_3, l0_4⟩; (u.f0, u.f1, u.f2, u.f3, u.f4)) else none
theorem impl_Redundant.mono : ∀ a0 a1 a2 a3 a4 a5 k, LeO (impl_Redundant.f k a0 a1 a2 a3 a4 a5) (impl_Redundant.f (k + 1) a0 a1 a2 a3 a4 a5) := fun _ _ _ _ _ _ _ => LeO.refl _
theorem impl_Redundant.calls (k : Nat) (a0_0 : Int) (a0_1 : ByteArray) (a0_2 : ByteArray) (A0_3 : Option Addr) (c0_3 : Nat) (l0_3 : List (S53)) (A0_4 : Option Addr) (c0_4 : Nat) (l0_4 : List (S25)) (A1 : Option Addr) (c1 : Nat) (l1 : List ByteArray) (r1 : Int) (r2 r3 : ByteArray) (r4 : List S53) (r5 : List S25) (w : World)
    (hr0_3 : Kd.C k53 w A0_3 l0_3.length l0_3) (hc0_3 : l0_3.length ≤ c0_3) (hr0_4 : Kd.C k25 w A0_4 l0_4.length l0_4) (hc0_4 : l0_4.length ≤ c0_4) (hr1 : Kd.C Kd.string w A1 l1.length l1) (hc1 : l1.length ≤ c1) (h : impl_Redundant.f k a0_0 a0_1 a0_2 l0_3 l0_4 l1 = some (r1, r2, r3, r4, r5)) :
    Calls Try.prog 11 #[.agg #[.int .i64 a0_0, .string a0_1, .string a0_2, .slice A0_3 l0_3.length c0_3, .slice A0_4 l0_4.length c0_4], .slice A1 l1.length c1] w fun e w' => ∃ v3_ v4_ : Value, e = .returned (.agg #[.int .i64 r1, .string r2, .string r3, v3_, v4_]) ∧ Kd.R k53 53 w' w.heap.size (fun k_ => w.heap.size ≤ k_) v3_ r4 ∧ Kd.N k25 25 w' w.heap.size (fun k_ => w.heap.size ≤ k_ ∧ some k_ ≠ (v3_ : Value).ownBlock) v4_ r5 ∧ Below w.heap.size w w' := by
  unfold impl_Redundant.f at h
  split at h
  · rename_i hg
    simp only [Bool.and_eq_true, decide_eq_true_eq] at hg
    obtain ⟨h1, h2, h3⟩ := hg
    have hh := Option.some.inj h
    simp only [Prod.mk.injEq] at hh
    obtain ⟨rfl, rfl, rfl, rfl, rfl⟩ := hh
    refine (redundant_calls ⟨a0_0, a0_1, a0_2, l0_3, l0_4⟩ h1 h2 l1 h3 w A0_3 c0_3 A0_4 c0_4 A1 c1 hr0_3 hc0_3 hr0_4 hc0_4 hr1).mono ?_
    rintro e w' ⟨A5, c5, A6, c6, rfl, m5, F5, m6, F6, hB, R5, N6⟩
    exact ⟨_, _, rfl, R5, N6, hB⟩
  · cases h
end Go.Proofs.Ytmfjbljdbkmkgaa.PDom

/- An append to a row of the call's own leaves the elder, shorter row as it was, too: its elements can still be read. For rows of one call. -/
namespace Go.Proofs.Ytmfjbljdbkmkgaa.Keep
open Go.RowKit Go.Proofs.YtmfjbljdbkmkgaaW.PrintWords Go.Proofs.YtmfjbljdbkmkgaaW.PrintLast Go.Proofs.YtmfjbljdbkmkgaaW.PrintMore
set_option linter.unusedVariables false
set_option linter.unusedSimpArgs false

theorem run_append_keep {P : Program} (w : World) (base : Nat) (t ty e : TypeId) (i : TypeInfo) (z : Value) (size bytes : Nat) (ht : P.underlying t = some (.slice e)) (hi : P.info? e = some i) (hz : i.zero = some z)
    (hsize : i.size = size) (hby : i.bytes = bytes) (hzs : z.cells.size = size) (hsz : 0 < size)
    (v : Value) (n : Nat) (xs : List Value) (hown : w.ownsRow base e size v n xs)
    (a : Addr) (m c : Nat) (news : List Value) (hl : news.length = m * size) (hnews : ∀ j u, news[j]? = some u → w.cell? (a.add j) = some u) (h1 : ∀ u ∈ news, u.oneCell' = true)
    (h63 : n + m ≤ maxLen) (hbytes : (n + m) * bytes ≤ 140737488355328) (hbase : base ≤ w.heap.size) :
    ∃ v' w', (Builtin.append_ #[t, t] ty #[v, .slice (some a) m c]).run P w = .ok v' w' ∧ w'.ownsRow base e size v' (n + m) (xs ++ news) ∧ w'.ownsRow base e size v n xs ∧ w.grownBy w' v.ownBlock ∧
      (v'.ownBlock = v.ownBlock ∨ v'.ownBlock = some w.heap.size) := by
  obtain ⟨v', w', hr, h2, h3, _, h5⟩ := run_append_own_at (P := P) w base t ty e i z size bytes ht hi hz hsize hby hzs hsz v n xs hown a m c news hl hnews h1 h63 hbytes hbase
  refine ⟨v', w', hr, h2, ?_, h3, h5⟩
  refine ⟨hown.1, ?_⟩
  rcases hown.2 with hn | ⟨g, cap, cur, rfl, hbg, hg, hnc, hcm, hcs, htake⟩
  · exact .inl hn
  · subst hsize
    by_cases hroom : n + m ≤ cap
    · have hfit : n * i.size + news.length ≤ cur.size := by rw [hl, hcs, ← Nat.add_mul]; exact Nat.mul_le_mul_right _ hroom
      have hr2 := run_append_room (P := P) w t ty e i ht hi g n cap cur hg a m c news hl hnews h1 hroom hfit
      rw [hr] at hr2
      injection hr2 with he hw
      subst hw
      refine .inr ⟨g, cap, _, rfl, hbg, setRow_heap w g cur _ e _ hg, hnc, hcm, ?_, ?_⟩
      · simp only [List.size_toArray, List.length_append, List.length_take, List.length_drop, Array.length_toList]
        omega
      · have hlx : (cur.toList.take (n * i.size)).length = n * i.size := by rw [htake]; exact hown.1
        rw [List.append_assoc, List.take_append_of_le_length (by omega), List.take_take, Nat.min_self]
        exact htake
    · have holds : ∀ j u, xs[j]? = some u → w.cell? ((⟨g, 0, none⟩ : Addr).add j) = some u := hown.cells (g := g) rfl
      have hsmall : n + m ≤ 9223372036854775807 := by simp only [maxLen] at h63; omega
      subst hby
      have hr2 := run_append_grow (P := P) w t ty e i z ht hi hz ⟨g, 0, none⟩ n cap xs hown.1 holds a m c news hl hnews (by omega) (by omega) (growslice_fits (by omega) hbytes)
      rw [hr] at hr2
      injection hr2 with he hw
      subst hw
      refine .inr ⟨g, cap, cur, rfl, hbg, ?_, hnc, hcm, hcs, htake⟩
      exact (Below.heap_alloc w.drew _ g (Array.getElem?_eq_some_iff.1 hg).1).trans hg

section
variable {P : Program} {ops : Array Oper} {rest : List Oper} {o : Oper} {a : Act} {Q : Exit → Act → World → Prop}
/-- append(v, ys...) of bytes or other whole numbers: the elder row stays. -/
theorem append_row_keep {w0 W : World} (base : Nat) (hgd : o.guard = none) (s x : Operand) (t e : TypeId) (k : IntKind) (bytes : Nat)
    (ho : o.op = .call { callee := .builtin .append, args := #[s, x], argTypes := #[t, t] })
    (ht : P.underlying t = some (.slice e)) (hinfo : (P.info? e).map (fun i => (i.zero, i.size, i.bytes)) = some (some (.int k 0), 1, bytes)) (hb0 : 0 < bytes)
    (v : Value) (xs ys : List Int) (A : Option Addr) (m c : Nat) (hs : a.eval s = v) (hx : a.eval x = .slice A m c)
    (HO : W.ownsRow base e 1 v xs.length (nums k xs)) (HR : ReadsInt W k A m ys) (HB : Below base w0 W) (hbase : base ≤ W.heap.size) (hl : (xs.length + m) * bytes ≤ 140737488355328)
    (h : ∀ v1 w1, w1.ownsRow base e 1 v1 (xs ++ ys).length (nums k (xs ++ ys)) → w1.ownsRow base e 1 v xs.length (nums k xs) → Below base w0 w1 → W.grownBy w1 v.ownBlock → (v1.ownBlock = v.ownBlock ∨ ∃ b, v1.ownBlock = some b ∧ W.heap.size ≤ b) → wpList P ops Q rest (a.put o.dst v1) w1) :
    wpList P ops Q (o :: rest) a W := by
  obtain ⟨i0, hi, hzz⟩ := Option.map_eq_some_iff.1 hinfo
  simp only [Prod.mk.injEq] at hzz
  obtain ⟨hz0, hz1, hz2⟩ := hzz
  have hm : ys.length = m := HR.1
  have hlen : xs.length + m ≤ 140737488355328 := Nat.le_trans (Nat.le_mul_of_pos_right _ hb0) hl
  have hrun : ∃ v1 w1, (Builtin.append_ #[t, t] o.type #[v, .slice A m c]).run P W = .ok v1 w1 ∧ w1.ownsRow base e 1 v1 (xs ++ ys).length (nums k (xs ++ ys)) ∧ w1.ownsRow base e 1 v xs.length (nums k xs) ∧ W.grownBy w1 v.ownBlock ∧ (v1.ownBlock = v.ownBlock ∨ v1.ownBlock = some W.heap.size) := by
    rcases A with _ | ad
    · have h0 : m = 0 := by
        rcases Nat.eq_zero_or_pos m with h0 | h0
        · exact h0
        · obtain ⟨ad, h, _⟩ := HR.2.2 h0
          cases h
      subst h0
      obtain rfl : ys = [] := List.eq_nil_of_length_eq_zero hm
      refine ⟨v, W, ?_, by simpa using HO, HO, World.grownBy.refl W _, .inl rfl⟩
      rcases HO.2 with ⟨rfl, hn⟩ | ⟨g, cap, cur, rfl, _, _, hnc, _⟩
      · simp [Builtin.append_, run_underlying ht, sizeOf, typeInfo, hi, Builtin.lenOf, Builtin.firstCells]
      · simp [Builtin.append_, run_underlying ht, sizeOf, typeInfo, hi, Builtin.lenOf, Builtin.firstCells, hnc, storeCells]
    · have hcells : ∀ j u, (nums k ys)[j]? = some u → W.cell? (ad.add j) = some u := by
        intro j u hu
        have hj : j < ys.length := by
          rcases Nat.lt_or_ge j ys.length with h | h
          · exact h
          · simp [nums, List.getElem?_eq_none h] at hu
        obtain ⟨ad', h', hc⟩ := HR.2.2 (by omega)
        injection h' with h'
        subst h'
        have hcj := hc j (by omega)
        simp [nums, List.getElem?_eq_getElem hj] at hu
        subst hu
        rw [hcj]
        simp [List.getD_eq_getElem?_getD, List.getElem?_eq_getElem hj]
      obtain ⟨v1, w1, hr, h2, h3, h4, h5⟩ := run_append_keep (P := P) W base t o.type e i0 (.int k 0) 1 bytes ht hi hz0 hz1 hz2 rfl (by omega) v xs.length (nums k xs) HO ad m c (nums k ys) (by simp [nums, hm]) hcells
        (by intro u hu; simp only [nums, List.mem_map] at hu; obtain ⟨q, _, rfl⟩ := hu; rfl) (by simp only [maxLen]; omega) hl hbase
      exact ⟨v1, w1, hr, by simpa [nums, hm] using h2, h3, h4, h5⟩
  obtain ⟨v1, w1, hr, h2, h3, h4, h5⟩ := hrun
  refine wpList_plain hgd fun K hK => ?_
  unfold Oper.wp execOp
  simp only [ho, resolve, invoke, builtin, Sem.run_bind, Sem.run_pure, Result.andThen_ok, List.map_toArray, List.map_cons, List.map_nil, hs, hx, hr]
  refine hK _ _ (h v1 w1 h2 h3 (HB.grown h4 hbase (own_base HO)) h4 ?_)
  rcases h5 with hat | hat
  · exact .inl hat
  · exact .inr ⟨_, hat, Nat.le_refl _⟩
/-- append(v, ys...) where v has no room: v is only read, the row is new. -/
theorem append_new {W : World} (hgd : o.guard = none) (s x : Operand) (t e : TypeId) (k : IntKind) (bytes : Nat)
    (ho : o.op = .call { callee := .builtin .append, args := #[s, x], argTypes := #[t, t] })
    (ht : P.underlying t = some (.slice e)) (hinfo : (P.info? e).map (fun i => (i.zero, i.size, i.bytes)) = some (some (.int k 0), 1, bytes)) (hb0 : 0 < bytes)
    (A B : Option Addr) (n m c c' : Nat) (xs ys : List Int) (hs : a.eval s = .slice A n c') (hx : a.eval x = .slice B m c)
    (HX : ReadsInt W k A n xs) (HR : ReadsInt W k B m ys) (hn : 0 < n) (hm0 : 0 < m) (hc : c' < n + m) (hl : (n + m) * bytes ≤ 140737488355328)
    (h : ∀ v1 w1, w1.ownsRow W.heap.size e 1 v1 (n + m) (nums k (xs ++ ys)) → W.grownBy w1 none → wpList P ops Q rest (a.put o.dst v1) w1) :
    wpList P ops Q (o :: rest) a W := by
  obtain ⟨i0, hi, hzz⟩ := Option.map_eq_some_iff.1 hinfo
  simp only [Prod.mk.injEq] at hzz
  obtain ⟨hz0, hz1, hz2⟩ := hzz
  have hxl : xs.length = n := HX.1
  have hyl : ys.length = m := HR.1
  have hlen : n + m ≤ 140737488355328 := Nat.le_trans (Nat.le_mul_of_pos_right _ hb0) hl
  have cellsOf : ∀ {D : Option Addr} {q : Nat} {zs : List Int}, ReadsInt W k D q zs → 0 < q → ∃ ad, D = some ad ∧ ∀ j u, (nums k zs)[j]? = some u → W.cell? (ad.add j) = some u := by
    intro D q zs H hq
    obtain ⟨ad, rfl, hc⟩ := H.2.2 hq
    refine ⟨ad, rfl, fun j u hu => ?_⟩
    have hj : j < zs.length := by
      rcases Nat.lt_or_ge j zs.length with h | h
      · exact h
      · simp [nums, List.getElem?_eq_none h] at hu
    have hq2 := H.1
    have hcj := hc j (by omega)
    simp [nums, List.getElem?_eq_getElem hj] at hu
    subst hu
    rw [hcj]
    simp [List.getD_eq_getElem?_getD, List.getElem?_eq_getElem hj]
  obtain ⟨ad, rfl, hca⟩ := cellsOf HX hn
  obtain ⟨bd, rfl, hcb⟩ := cellsOf HR hm0
  subst hz2
  have hr := run_append_grow (P := P) W t o.type e i0 (.int k 0) ht hi hz0 ad n c' (nums k xs) (by rw [hz1]; simp [nums, hxl]) hca bd m c (nums k ys) (by rw [hz1]; simp [nums, hyl]) hcb hc (by omega) (growslice_fits hc hl)
  refine wpList_plain hgd fun K hK => ?_
  unfold Oper.wp execOp
  simp only [ho, resolve, invoke, builtin, Sem.run_bind, Sem.run_pure, Result.andThen_ok, List.map_toArray, List.map_cons, List.map_nil, hs, hx, hr]
  refine hK _ _ (h _ _ ?_ ⟨rfl, rfl, rfl, by simp, fun i hi _ => heap_alloc_old W.drew _ hi⟩)
  have hge := grownCap_ge W (n + m) c' e
  have hcm : grownCap W (n + m) c' e ≤ maxLen := grownCap_le_maxLen W (n + m) c' e (by simp only [maxLen]; omega)
  have hlx : (nums k (xs ++ ys)).length = n + m := by simp [nums, hxl, hyl]
  refine ⟨by rw [hlx, Nat.mul_one], .inr ⟨W.heap.size, _, _, rfl, Nat.le_refl _, heap_alloc_new W.drew _, hge, hcm, ?_, ?_⟩⟩
  · simp only [Array.size_append, List.size_toArray, size_zeroCells, nums_length, hxl, hyl, show (Value.int k 0).cells.size = 1 from rfl]
    omega
  · simp only [Array.toList_append, Nat.mul_one, ← nums_append]
    rw [← hlx]
    exact List.take_left
end

end Go.Proofs.Ytmfjbljdbkmkgaa.Keep

/- Printed by the program extprint.py of this session, out of the kit's print and contracts of this session's own; Lean checks it. -/
namespace Go.Proofs.Ytmfjbljdbkmkgaa.PDom
open Go.Proofs.Ytmfjbljdbkmkgaa.Keep Go.RowKit Go.Proofs.YtmfjbljdbkmkgaaW.PrintWords Go.Proofs.YtmfjbljdbkmkgaaW.PrintLast Go.Proofs.YtmfjbljdbkmkgaaW.PrintMore
attribute [local go_sem] max2_int min2_int max_two min_two max_three min_three max_four min_four   -- for this text's walks alone
set_option linter.unusedVariables false
set_option linter.unusedSimpArgs false

-- NOT PRINTED: function 81 (collapse_replaceAnyWhitespaceWithSpace)

-- NOT PRINTED: function 70 (collapse_ZzBlanks)

-- NOT PRINTED: function 38 (impl_Blanks)


/-! ### textutils_zzHas: function 100 -/
def textutils_zzHas.l0 : Nat → List Int → Int → Int → Option (Bool)
  | 0, _, _, _ => none
  | k + 1, x0, x1, x5 => if x5 < (x0.length : Int) then (if 0 ≤ x5 then (if (rd x0 x5) = x1 then (some true) else (textutils_zzHas.l0 k x0 x1 (wrap64 (x5 + 1)))) else (none)) else (some false)
def textutils_zzHas.f (k : Nat) (l0 : List Int) (a1 : Int) : Option (Bool) := textutils_zzHas.l0 k l0 a1 0
theorem textutils_zzHas.mono_l : ∀ k, (∀ y0 y1 y2, LeO (textutils_zzHas.l0 k y0 y1 y2) (textutils_zzHas.l0 (k + 1) y0 y1 y2))
  | 0 => fun _ _ _ r h => by simp [textutils_zzHas.l0] at h
  | k + 1 => by
    have ih0 := textutils_zzHas.mono_l k
    · intro y0 y1 y2
      unfold textutils_zzHas.l0
      repeat' first
      | (with_reducible exact ih0 _ _ _)
      | (with_reducible exact LeO.refl _)
      | (with_reducible exact LeO.none _)
      | (with_reducible refine LeO.ite ?_ ?_)
      | (with_reducible refine LeO.bind ?_ (fun _ => ?_))
      | exact ih0 _ _ _
      | exact LeO.none _
      | refine LeO.ite ?_ ?_
      | refine LeO.bind ?_ (fun _ => ?_)
theorem textutils_zzHas.mono : ∀ a0 a1 k, LeO (textutils_zzHas.f k a0 a1) (textutils_zzHas.f (k + 1) a0 a1) := by
  intro a0 a1 k
  have ih0 := textutils_zzHas.mono_l k
  unfold textutils_zzHas.f
  repeat' first
      | (with_reducible exact ih0 _ _ _)
      | (with_reducible exact LeO.refl _)
      | (with_reducible exact LeO.none _)
      | (with_reducible refine LeO.ite ?_ ?_)
      | (with_reducible refine LeO.bind ?_ (fun _ => ?_))
      | exact ih0 _ _ _
      | exact LeO.none _
      | refine LeO.ite ?_ ?_
      | refine LeO.bind ?_ (fun _ => ?_)
set_option maxHeartbeats 8000000 in
set_option maxRecDepth 100000 in
theorem textutils_zzHas.calls (k : Nat) (A0 : Option Addr) (c0 : Nat) (l0 : List Int) (a1 : Int) (r : Bool) (w : World) (hr0 : Kd.C (Kd.int .u8) w A0 l0.length l0) (hc0 : l0.length ≤ c0) (h : textutils_zzHas.f k l0 a1 = some r) :
    Calls Try.prog 100 #[.slice A0 l0.length c0, .int .u8 a1] w fun e w' => e = .returned (.bool r) ∧ Drawn0 w w' := by
  have HR0 := Aside0.mk hr0
  have HC0 := Aside0.mk hc0
  clear hr0 hc0
  have H : (textutils_zzHas.l0 k l0 a1 0) = some r := h
  clear h
  have H' := Aside0.mk H
  clear H
  go_enter Try.func100, Try.ntmps100
  go_wp2
  go_loopg [5] k (fun kq v5 w' => ∃ (x5_1 : Int), v5 = .int .i64 x5_1 ∧ Aside0 (textutils_zzHas.l0 kq l0 a1 x5_1 = some r) ∧ Aside0 (kq ≤ k) ∧ Drawn0 w w')
  case atStart => exact ⟨(0), (by first | rfl | (simp; done) | (simp [*]; done)), H', ⟨Nat.le_refl _⟩, by repeat (first | exact Drawn0.refl _ | apply Drawn0.step)⟩
  case round =>
    clear H'
    try clear c1
    try clear p2
    obtain ⟨x5_1, rfl, HA, HK1, ⟨m1, rfl⟩⟩ := hrel
    cases gk with
    | zero => exact absurd HA.out (by simp [textutils_zzHas.l0])
    | succ k1 =>
      have H := HA.out
      clear HA
      simp only [textutils_zzHas.l0] at H
      by_cases c3 : x5_1 < (l0.length : Int)
      · rw [if_pos c3] at H
        have c3b0 : decide (x5_1 < (l0.length : Int)) = true := decide_eq_true c3
        clear c3
        by_cases c4 : 0 ≤ x5_1
        · rw [if_pos c4] at H
          have c4b0 : decide (0 ≤ x5_1) = true := decide_eq_true c4
          clear c4
          by_cases c5 : (rd l0 x5_1) = a1
          · rw [if_pos c5] at H
            have c5b0 : ((rd l0 x5_1) == a1) = true := beq_iff_eq.mpr c5
            have c5b1 : ((rd l0 x5_1) != a1) = false := bne_eq_false_iff_eq.mpr c5
            clear c5
            obtain rfl := Option.some.inj H
            have p158 : 0 ≤ (x5_1 : Int) := of_decide_eq_true (by first | (with_reducible assumption) | assumption)
            have q158 : x5_1 < (l0.length : Int) := of_decide_eq_true (by first | (with_reducible assumption) | assumption)
            obtain ⟨ad158, e158, hx158_0⟩ := Kd.at_int HR0.out x5_1 p158 q158
            cases e158
            replace p158 := eq_true p158
            replace q158 := eq_true q158
            go_wp2
            go_ret
            exact ⟨by first | rfl | (simp; done) | (simp [*]; done), by repeat (first | exact Drawn0.refl _ | apply Drawn0.step)⟩
          · rw [if_neg c5] at H
            have c5b0 : ((rd l0 x5_1) == a1) = false := beq_eq_false_iff_ne.mpr c5
            have c5b1 : ((rd l0 x5_1) != a1) = true := bne_iff_ne.mpr c5
            have H' := Aside0.mk H
            clear H
            have p158 : 0 ≤ (x5_1 : Int) := of_decide_eq_true (by first | (with_reducible assumption) | assumption)
            have q158 : x5_1 < (l0.length : Int) := of_decide_eq_true (by first | (with_reducible assumption) | assumption)
            obtain ⟨ad158, e158, hx158_0⟩ := Kd.at_int HR0.out x5_1 p158 q158
            cases e158
            replace p158 := eq_true p158
            replace q158 := eq_true q158
            go_wp2
            go_roundg k1
            case measure => have := HK1.out; omega
            case rel => exact ⟨(wrap64 (x5_1 + 1)), (by first | rfl | (simp; done) | (simp [*]; done)), H', ⟨by have := HK1.out; omega⟩, by repeat (first | exact Drawn0.refl _ | apply Drawn0.step)⟩
        · rw [if_neg c4] at H
          exact absurd H (by simp)
      · rw [if_neg c3] at H
        have c3b0 : decide (x5_1 < (l0.length : Int)) = false := decide_eq_false c3
        clear c3
        obtain rfl := Option.some.inj H
        go_wp2
        go_ret
        exact ⟨by first | rfl | (simp; done) | (simp [*]; done), by repeat (first | exact Drawn0.refl _ | apply Drawn0.step)⟩
/-! ### textutils_zzReplaceAll: function 101 -/
def textutils_zzReplaceAll.l0 : Nat → List Int → ByteArray → ByteArray → List Int → Int → Option (List Int)
  | 0, _, _, _, _, _ => none
  | k + 1, x0, x1, x2, x7, x8 => if x8 < (x0.length : Int) then (if (wrap64 (x8 + (x1.size : Int))) ≤ (x0.length : Int) then (if 0 ≤ x8 then (if x8 ≤ (wrap64 (x8 + (x1.size : Int))) then (if (strOfNums ((x0.take ((wrap64 (x8 + (x1.size : Int))) : Int).toNat).drop (x8 : Int).toNat)).toList = x1.toList then (if x7.length + x2.size < 140737488355328 then (textutils_zzReplaceAll.l0 k x0 x1 x2 (x7 ++ bytesOf x2) (wrap64 (x8 + (x1.size : Int)))) else (none)) else (if x7.length < 140737488355328 then (textutils_zzReplaceAll.l0 k x0 x1 x2 (x7 ++ [rd x0 x8]) (wrap64 (x8 + 1))) else (none))) else (none)) else (none)) else (if 0 ≤ x8 then (if x7.length < 140737488355328 then (textutils_zzReplaceAll.l0 k x0 x1 x2 (x7 ++ [rd x0 x8]) (wrap64 (x8 + 1))) else (none)) else (none))) else (some x7)
def textutils_zzReplaceAll.f (k : Nat) (l0 : List Int) (a1 : ByteArray) (a2 : ByteArray) : Option (List Int) := textutils_zzReplaceAll.l0 k l0 a1 a2 ([] : List Int) 0
theorem textutils_zzReplaceAll.mono_l : ∀ k, (∀ y0 y1 y2 y3 y4, LeO (textutils_zzReplaceAll.l0 k y0 y1 y2 y3 y4) (textutils_zzReplaceAll.l0 (k + 1) y0 y1 y2 y3 y4))
  | 0 => fun _ _ _ _ _ r h => by simp [textutils_zzReplaceAll.l0] at h
  | k + 1 => by
    have ih0 := textutils_zzReplaceAll.mono_l k
    · intro y0 y1 y2 y3 y4
      unfold textutils_zzReplaceAll.l0
      repeat' first
      | (with_reducible exact ih0 _ _ _ _ _)
      | (with_reducible exact LeO.refl _)
      | (with_reducible exact LeO.none _)
      | (with_reducible refine LeO.ite ?_ ?_)
      | (with_reducible refine LeO.bind ?_ (fun _ => ?_))
      | exact ih0 _ _ _ _ _
      | exact LeO.none _
      | refine LeO.ite ?_ ?_
      | refine LeO.bind ?_ (fun _ => ?_)
theorem textutils_zzReplaceAll.mono : ∀ a0 a1 a2 k, LeO (textutils_zzReplaceAll.f k a0 a1 a2) (textutils_zzReplaceAll.f (k + 1) a0 a1 a2) := by
  intro a0 a1 a2 k
  have ih0 := textutils_zzReplaceAll.mono_l k
  unfold textutils_zzReplaceAll.f
  repeat' first
      | (with_reducible exact ih0 _ _ _ _ _)
      | (with_reducible exact LeO.refl _)
      | (with_reducible exact LeO.none _)
      | (with_reducible refine LeO.ite ?_ ?_)
      | (with_reducible refine LeO.bind ?_ (fun _ => ?_))
      | exact ih0 _ _ _ _ _
      | exact LeO.none _
      | refine LeO.ite ?_ ?_
      | refine LeO.bind ?_ (fun _ => ?_)
set_option maxHeartbeats 8000000 in
set_option maxRecDepth 100000 in
theorem textutils_zzReplaceAll.calls (k : Nat) (A0 : Option Addr) (c0 : Nat) (l0 : List Int) (a1 : ByteArray) (a2 : ByteArray) (r : List Int) (w : World) (hr0 : Kd.C (Kd.int .u8) w A0 l0.length l0) (hc0 : l0.length ≤ c0) (h : textutils_zzReplaceAll.f k l0 a1 a2 = some r) :
    Calls Try.prog 101 #[.slice A0 l0.length c0, .string a1, .string a2] w fun e w' => ∃ v0_ : Value, e = .returned (v0_) ∧ Kd.R (Kd.int .u8) 5 w' w.heap.size (fun _ => True) v0_ r ∧ Below w.heap.size w w' := by
  have HR0 := Aside0.mk hr0
  have HC0 := Aside0.mk hc0
  clear hr0 hc0
  have HB := Aside0.mk (Below.refl w.heap.size w)
  have H : (textutils_zzReplaceAll.l0 k l0 a1 a2 ([] : List Int) 0) = some r := h
  clear h
  have H' := Aside0.mk H
  clear H
  go_enter Try.func101, Try.ntmps101
  go_wp2
  go_loopg [7, 8] k (fun kq v7 v8 w' => ∃ (x7_1 : List Int) (x8_1 : Int), v8 = .int .i64 x8_1 ∧ Aside0 (textutils_zzReplaceAll.l0 kq l0 a1 a2 x7_1 x8_1 = some r) ∧ Aside0 (kq ≤ k) ∧ Aside0 (Kd.R (Kd.int .u8) 5 w' w.heap.size (fun _ => True) v7 x7_1) ∧ Aside0 (Below w.heap.size w w'))
  case atStart => exact ⟨(([] : List Int)), (0), (by first | rfl | (simp; done) | (simp [*]; done)), H', ⟨Nat.le_refl _⟩, ⟨by first | exact Kd.R_nil _ _ _ _ _ | exact Kd.N_nil _ _ _ _ _ | exact Kd.V_nil _ _ _ _ _ | exact Kd.Q_nil _ _ _ _ _ | exact Kd.S_nil _ _ _ _ _⟩, ⟨by repeat (first | (with_reducible first | exact HB.out | apply below_alloc | apply pw_below_drewN | apply below_drew1) | exact HB.out)⟩⟩
  case round =>
    clear H'
    try clear c1
    try clear p2
    obtain ⟨x7_1, x8_1, rfl, HA, HK1, HO_7, HB⟩ := hrel
    cases gk with
    | zero => exact absurd HA.out (by simp [textutils_zzReplaceAll.l0])
    | succ k1 =>
      have H := HA.out
      clear HA
      simp only [textutils_zzReplaceAll.l0] at H
      by_cases c4 : x8_1 < (l0.length : Int)
      · rw [if_pos c4] at H
        have c4b0 : decide (x8_1 < (l0.length : Int)) = true := decide_eq_true c4
        clear c4
        by_cases c5 : (wrap64 (x8_1 + (a1.size : Int))) ≤ (l0.length : Int)
        · rw [if_pos c5] at H
          have c5b0 : decide ((wrap64 (x8_1 + (a1.size : Int))) ≤ (l0.length : Int)) = true := decide_eq_true c5
          clear c5
          by_cases c6 : 0 ≤ x8_1
          · rw [if_pos c6] at H
            have c6b0 := eq_true c6
            have c6b1 : decide (0 ≤ x8_1) = true := decide_eq_true c6
            clear c6
            by_cases c7 : x8_1 ≤ (wrap64 (x8_1 + (a1.size : Int)))
            · rw [if_pos c7] at H
              have c7b0 := eq_true c7
              have c7b1 : decide (x8_1 ≤ (wrap64 (x8_1 + (a1.size : Int)))) = true := decide_eq_true c7
              have c8b0 := eq_true (of_decide_eq_true (by first | (with_reducible assumption) | assumption) : (wrap64 (x8_1 + (a1.size : Int))) ≤ (l0.length : Int))
              by_cases c9 : (strOfNums ((l0.take ((wrap64 (x8_1 + (a1.size : Int))) : Int).toNat).drop (x8_1 : Int).toNat)).toList = a1.toList
              · rw [if_pos c9] at H
                have c9b0 : ((strOfNums ((l0.take ((wrap64 (x8_1 + (a1.size : Int))) : Int).toNat).drop (x8_1 : Int).toNat)).toList == a1.toList) = true := beq_iff_eq.mpr c9
                have c9b1 : ((strOfNums ((l0.take ((wrap64 (x8_1 + (a1.size : Int))) : Int).toNat).drop (x8_1 : Int).toNat)).toList != a1.toList) = false := bne_eq_false_iff_eq.mpr c9
                clear c9
                by_cases c10 : x7_1.length + a2.size < 140737488355328
                · rw [if_pos c10] at H
                  have LMc10 := Aside0.mk c10
                  clear c10
                  obtain ⟨y160, hy160⟩ : ∃ y_ : List Int, y_ = (x7_1 ++ bytesOf a2) := ⟨_, rfl⟩
                  replace H : (textutils_zzReplaceAll.l0 k1 l0 a1 a2 y160 (wrap64 (x8_1 + (a1.size : Int)))) = some r := by first | (rw [hy160]; with_reducible exact H) | (have H2_ := (Option.bind_some _ _).symm.trans H; rw [hy160]; with_reducible exact H2_) | (have H2_ := (Option.bind_some _ _).symm.trans H; with_reducible exact H2_) | with_reducible exact H | (rw [hy160]; exact H) | exact H
                  have Ny160 := Aside0.mk hy160
                  clear hy160
                  have H' := Aside0.mk H
                  clear H
                  obtain ⟨i011, hi011, _, hsz11, _⟩ := info_parts info5
                  obtain ⟨A11, hcut11, hA11, hC11⟩ := print_mid_of (P := Try.prog) (Value.int .u8) 0 58 5 .i64 .i64 Try.underlying58 hi011 hsz11 A0 c0 l0 x8_1 (wrap64 (x8_1 + (a1.size : Int))) (of_decide_eq_true (by first | (with_reducible assumption) | assumption)) (by first | omega | exact of_decide_eq_true (by first | (with_reducible assumption) | assumption)) (of_decide_eq_true (by first | (with_reducible assumption) | assumption)) HC0.out
                  have HR159 := Aside0.mk (Kd.C_of_reads (h1 := fun _ => rfl) (hA11 _ (Kd.reads_of_C HR0.out)))
                  have HC159 := Aside0.mk hC11
                  clear hA11 hC11 hi011 hsz11
                  have hcv12 := Kd.C_string (P := Try.prog) (A := A11) (c := (c0 - x8_1.toNat)) Try.underlying58 Try.underlying5 Try.underlying9 (Kd.C_below HR159.out HB.out)
                  have hl12_ : ((l0.take (wrap64 (x8_1 + (a1.size : Int))).toNat).drop x8_1.toNat).length = (wrap64 (x8_1 + (a1.size : Int))).toNat - x8_1.toNat := by
                    have q_ : (wrap64 (x8_1 + (a1.size : Int))) ≤ (l0.length : Int) := of_decide_eq_true (by assumption)
                    rw [List.length_drop, List.length_take]; omega
                  rw [hl12_] at hcv12
                  clear hl12_
                  go_wp2_with (first | (at_builtin; refine print_append_str (w0 := w) w.heap.size rfl (.tmp 32) _ 58 9 5 rfl Try.underlying58 Try.underlying9 info5 u7 x7_1 a2 rfl rfl ?aO ?aB ?aS ?aL ?_; (case aB => exact (by repeat (first | (with_reducible first | exact HB.out | apply below_alloc | apply pw_below_drewN | apply below_drew1) | exact HB.out))); (case aO => exact (Kd.own_of_R (by (with_reducible repeat (first | apply Kd.R_alloc | apply Kd.R_drewN | apply Kd.R_drew)); exact HO_7.out))); (case aS => exact (below_size (by repeat (first | (with_reducible first | exact HB.out | apply below_alloc | apply pw_below_drewN | apply below_drew1) | exact HB.out)))); (case aL => have := LMc10.out; omega); intro v161 w13 ho0 hb hg; have ho := Kd.R_of_own (h1 := fun _ => rfl) (ok := fun _ => True) ho0 (fun _ _ => trivial); clear ho0; have hat := True.intro; rw [← Ny160.out] at ho; change Kd.R (Kd.int .u8) 5 w13 w.heap.size (fun _ => True) v161 y160 at ho; have n0_ := Aside0.mk (hb); have n1_ := Aside0.mk (ho); clear HB; clear HO_7; have HB := n0_; have HO162 := n1_; clear n0_ n1_; clear ho hb hg hat))
                  go_roundg k1
                  case measure => have := HK1.out; omega
                  case rel => exact ⟨(y160), (wrap64 (x8_1 + (a1.size : Int))), (by first | rfl | (simp; done) | (simp [*]; done)), H', ⟨by have := HK1.out; omega⟩, ⟨by (with_reducible repeat (first | apply Kd.R_alloc | apply Kd.R_drewN | apply Kd.R_drew)); exact HO162.out⟩, ⟨by repeat (first | (with_reducible first | exact HB.out | apply below_alloc | apply pw_below_drewN | apply below_drew1) | exact HB.out)⟩⟩
                · rw [if_neg c10] at H
                  exact absurd H (by simp)
              · rw [if_neg c9] at H
                have c9b0 : ((strOfNums ((l0.take ((wrap64 (x8_1 + (a1.size : Int))) : Int).toNat).drop (x8_1 : Int).toNat)).toList == a1.toList) = false := beq_eq_false_iff_ne.mpr c9
                have c9b1 : ((strOfNums ((l0.take ((wrap64 (x8_1 + (a1.size : Int))) : Int).toNat).drop (x8_1 : Int).toNat)).toList != a1.toList) = true := bne_iff_ne.mpr c9
                by_cases c14 : x7_1.length < 140737488355328
                · rw [if_pos c14] at H
                  have LMc14 := Aside0.mk c14
                  clear c14
                  obtain ⟨y164, hy164⟩ : ∃ y_ : List Int, y_ = (x7_1 ++ [rd l0 x8_1]) := ⟨_, rfl⟩
                  replace H : (textutils_zzReplaceAll.l0 k1 l0 a1 a2 y164 (wrap64 (x8_1 + 1))) = some r := by first | (rw [hy164]; with_reducible exact H) | (have H2_ := (Option.bind_some _ _).symm.trans H; rw [hy164]; with_reducible exact H2_) | (have H2_ := (Option.bind_some _ _).symm.trans H; with_reducible exact H2_) | with_reducible exact H | (rw [hy164]; exact H) | exact H
                  have Ny164 := Aside0.mk hy164
                  clear hy164
                  have H' := Aside0.mk H
                  clear H
                  obtain ⟨i015, hi015, _, hsz15, _⟩ := info_parts info5
                  obtain ⟨A15, hcut15, hA15, hC15⟩ := print_mid_of (P := Try.prog) (Value.int .u8) 0 58 5 .i64 .i64 Try.underlying58 hi015 hsz15 A0 c0 l0 x8_1 (wrap64 (x8_1 + (a1.size : Int))) (of_decide_eq_true (by first | (with_reducible assumption) | assumption)) (by first | omega | exact of_decide_eq_true (by first | (with_reducible assumption) | assumption)) (of_decide_eq_true (by first | (with_reducible assumption) | assumption)) HC0.out
                  have HR159 := Aside0.mk (Kd.C_of_reads (h1 := fun _ => rfl) (hA15 _ (Kd.reads_of_C HR0.out)))
                  have HC159 := Aside0.mk hC15
                  clear hA15 hC15 hi015 hsz15
                  have hcv16 := Kd.C_string (P := Try.prog) (A := A15) (c := (c0 - x8_1.toNat)) Try.underlying58 Try.underlying5 Try.underlying9 (Kd.C_below HR159.out HB.out)
                  have hl16_ : ((l0.take (wrap64 (x8_1 + (a1.size : Int))).toNat).drop x8_1.toNat).length = (wrap64 (x8_1 + (a1.size : Int))).toNat - x8_1.toNat := by
                    have q_ : (wrap64 (x8_1 + (a1.size : Int))) ≤ (l0.length : Int) := of_decide_eq_true (by assumption)
                    rw [List.length_drop, List.length_take]; omega
                  rw [hl16_] at hcv16
                  clear hl16_
                  have p163 : 0 ≤ (x8_1 : Int) := of_decide_eq_true (by first | (with_reducible assumption) | assumption)
                  have q163 : x8_1 < (l0.length : Int) := of_decide_eq_true (by first | (with_reducible assumption) | assumption)
                  obtain ⟨ad163, e163, hx163_0⟩ := Kd.at_int HR0.out x8_1 p163 q163
                  cases e163
                  replace hx163_0 := (HB.out.cell (World.block_lt_of_cell? w _ hx163_0)).trans hx163_0
                  replace p163 := eq_true p163
                  replace q163 := eq_true q163
                  go_wp2_with (first | ((with_reducible refine gate_builtin (b := .append) (xs := #[.tmp 39, .tmp 44]) rfl ?_); (try (refine gate_guard (by rfl) ?_; dsimp only)); at_builtin; refine Kd.R_append (Kd.int .u8) (w0 := w) w.heap.size rfl (.tmp 39) (.tmp 44) 58 5 (.int .u8 0) 1 rfl Try.underlying58 info5 rfl (by decide) (by omega) u7 x7_1 (rd l0 x8_1) [.int .u8 (rd l0 x8_1)] (fun _ => True) (fun _ => False) rfl rfl ?aP (fun _ hk => hk.elim) ?aF ?aO ?aB ?aS ?aL ?_; (case aP => exact rfl); (case aB => exact (by repeat (first | (with_reducible first | exact HB.out | apply below_alloc | apply pw_below_drewN | apply below_drew1) | exact HB.out))); (case aF => exact (fun _ _ => trivial)); (case aO => exact (by (with_reducible repeat (first | apply Kd.R_alloc | apply Kd.R_drewN | apply Kd.R_drew)); exact HO_7.out)); (case aS => exact (below_size (by repeat (first | (with_reducible first | exact HB.out | apply below_alloc | apply pw_below_drewN | apply below_drew1) | exact HB.out)))); (case aL => have := LMc14.out; omega); intro v165 w17 ho hb hg hat; rw [← Ny164.out] at ho; have n0_ := Aside0.mk (hb); have n1_ := Aside0.mk (ho); clear HB; clear HO_7; have HB := n0_; have HO166 := n1_; clear n0_ n1_; clear ho hb hg hat))
                  go_roundg k1
                  case measure => have := HK1.out; omega
                  case rel => exact ⟨(y164), (wrap64 (x8_1 + 1)), (by first | rfl | (simp; done) | (simp [*]; done)), H', ⟨by have := HK1.out; omega⟩, ⟨by (with_reducible repeat (first | apply Kd.R_alloc | apply Kd.R_drewN | apply Kd.R_drew)); exact HO166.out⟩, ⟨by repeat (first | (with_reducible first | exact HB.out | apply below_alloc | apply pw_below_drewN | apply below_drew1) | exact HB.out)⟩⟩
                · rw [if_neg c14] at H
                  exact absurd H (by simp)
            · rw [if_neg c7] at H
              exact absurd H (by simp)
          · rw [if_neg c6] at H
            exact absurd H (by simp)
        · rw [if_neg c5] at H
          have c5b0 : decide ((wrap64 (x8_1 + (a1.size : Int))) ≤ (l0.length : Int)) = false := decide_eq_false c5
          clear c5
          by_cases c18 : 0 ≤ x8_1
          · rw [if_pos c18] at H
            have c18b0 : decide (0 ≤ x8_1) = true := decide_eq_true c18
            clear c18
            by_cases c19 : x7_1.length < 140737488355328
            · rw [if_pos c19] at H
              have LMc19 := Aside0.mk c19
              clear c19
              obtain ⟨y168, hy168⟩ : ∃ y_ : List Int, y_ = (x7_1 ++ [rd l0 x8_1]) := ⟨_, rfl⟩
              replace H : (textutils_zzReplaceAll.l0 k1 l0 a1 a2 y168 (wrap64 (x8_1 + 1))) = some r := by first | (rw [hy168]; with_reducible exact H) | (have H2_ := (Option.bind_some _ _).symm.trans H; rw [hy168]; with_reducible exact H2_) | (have H2_ := (Option.bind_some _ _).symm.trans H; with_reducible exact H2_) | with_reducible exact H | (rw [hy168]; exact H) | exact H
              have Ny168 := Aside0.mk hy168
              clear hy168
              have H' := Aside0.mk H
              clear H
              have p167 : 0 ≤ (x8_1 : Int) := of_decide_eq_true (by first | (with_reducible assumption) | assumption)
              have q167 : x8_1 < (l0.length : Int) := of_decide_eq_true (by first | (with_reducible assumption) | assumption)
              obtain ⟨ad167, e167, hx167_0⟩ := Kd.at_int HR0.out x8_1 p167 q167
              cases e167
              replace hx167_0 := (HB.out.cell (World.block_lt_of_cell? w _ hx167_0)).trans hx167_0
              replace p167 := eq_true p167
              replace q167 := eq_true q167
              go_wp2_with (first | ((with_reducible refine gate_builtin (b := .append) (xs := #[.tmp 39, .tmp 44]) rfl ?_); (try (refine gate_guard (by rfl) ?_; dsimp only)); at_builtin; refine Kd.R_append (Kd.int .u8) (w0 := w) w.heap.size rfl (.tmp 39) (.tmp 44) 58 5 (.int .u8 0) 1 rfl Try.underlying58 info5 rfl (by decide) (by omega) u7 x7_1 (rd l0 x8_1) [.int .u8 (rd l0 x8_1)] (fun _ => True) (fun _ => False) rfl rfl ?aP (fun _ hk => hk.elim) ?aF ?aO ?aB ?aS ?aL ?_; (case aP => exact rfl); (case aB => exact (by repeat (first | (with_reducible first | exact HB.out | apply below_alloc | apply pw_below_drewN | apply below_drew1) | exact HB.out))); (case aF => exact (fun _ _ => trivial)); (case aO => exact (by (with_reducible repeat (first | apply Kd.R_alloc | apply Kd.R_drewN | apply Kd.R_drew)); exact HO_7.out)); (case aS => exact (below_size (by repeat (first | (with_reducible first | exact HB.out | apply below_alloc | apply pw_below_drewN | apply below_drew1) | exact HB.out)))); (case aL => have := LMc19.out; omega); intro v169 w20 ho hb hg hat; rw [← Ny168.out] at ho; have n0_ := Aside0.mk (hb); have n1_ := Aside0.mk (ho); clear HB; clear HO_7; have HB := n0_; have HO170 := n1_; clear n0_ n1_; clear ho hb hg hat))
              go_roundg k1
              case measure => have := HK1.out; omega
              case rel => exact ⟨(y168), (wrap64 (x8_1 + 1)), (by first | rfl | (simp; done) | (simp [*]; done)), H', ⟨by have := HK1.out; omega⟩, ⟨by (with_reducible repeat (first | apply Kd.R_alloc | apply Kd.R_drewN | apply Kd.R_drew)); exact HO170.out⟩, ⟨by repeat (first | (with_reducible first | exact HB.out | apply below_alloc | apply pw_below_drewN | apply below_drew1) | exact HB.out)⟩⟩
            · rw [if_neg c19] at H
              exact absurd H (by simp)
          · rw [if_neg c18] at H
            exact absurd H (by simp)
      · rw [if_neg c4] at H
        have c4b0 : decide (x8_1 < (l0.length : Int)) = false := decide_eq_false c4
        clear c4
        obtain rfl := Option.some.inj H
        go_wp2
        go_ret
        exact ⟨_, by first | rfl | (simp [errW_none, errW_some] <;> rfl) | (simp [*, errW_none, errW_some] <;> rfl), by (with_reducible repeat (first | apply Kd.R_alloc | apply Kd.R_drewN | apply Kd.R_drew)); exact HO_7.out, by repeat (first | (with_reducible first | exact HB.out | apply below_alloc | apply pw_below_drewN | apply below_drew1) | exact HB.out)⟩
end Go.Proofs.Ytmfjbljdbkmkgaa.PDom
