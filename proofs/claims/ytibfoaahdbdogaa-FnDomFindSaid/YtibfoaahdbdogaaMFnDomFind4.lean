/- A part of the proof of FnDomFind: SibY, FindN, AllY, FindZ, EDomx5, Paths29, EDomx6, EDomx7, EDomx1, FLiving, At29, NameL, Living, FDomSibling, PureSib, one behind the other. -/
import Derived.Test.YtibfoaahdbdogaaMFnDomFind3
import Derived.Test.YtibfoaahdbdogaaMFnDomFind2
/- impl.Neighbor at the kinds of first children and siblings: its contract. -/
namespace Go.Proofs.Ytibfoaahdbdogaa.PDom
open Go.RowKit Go.Proofs.YtibfoaahdbdogaaW.PrintWords Go.Proofs.YtibfoaahdbdogaaW.PrintLast Go.Proofs.YtibfoaahdbdogaaW.PrintMore Go.Proofs.Ytibfoaahdbdogaa.Dom
set_option linter.unusedVariables false
set_option linter.unusedSimpArgs false

theorem info_kids (p : Option Nat) (r : RT) : (r.info p).kids = r.kids.map RT.id := by cases r; rfl
theorem root_cells {w : World} {D : Tab} (h : Dom w D) {r : RT} (hr : Is D none r) : w.cell? ⟨r.id, 3, none⟩ = some (ptr none) ∧ w.cell? ⟨r.id, 4, none⟩ = some (ptr none) := by
  obtain ⟨v, hv, _⟩ := h.has hr.root
  have hs : sibs D (r.info none) = [] := sibs_none (by cases r; rfl)
  refine ⟨?_, ?_⟩
  · rw [hv.cells10.2.2.2.1]
    show some (ptr (prevIn (sibs D (r.info none)) r.id)) = _
    rw [hs]; rfl
  · rw [hv.cells10.2.2.2.2.1]
    show some (ptr (nextIn (sibs D (r.info none)) r.id)) = _
    rw [hs]; rfl
theorem last_rev (l : List Nat) : l.getLast? = l.reverse[0]? := by rw [← List.head?_reverse]; cases l.reverse <;> rfl
theorem find_all (l : List Nat) (D : Tab) : l.find? (fun c => !false || isE D c) = l[0]? := by cases l <;> rfl
theorem nbr_calls (w : World) (D : Tab) (hdom : Dom w D) (r x : RT) (hr : Is D none r) (t : T) (ht : TellsT t r) (hn : Norm true t) (path : List Int) (hx : r.at_ path = some x) (kind : Int) (hk : 8 ≤ kind ∧ kind ≤ 13) :
    ∃ yo, (Calls Try.prog 49 #[ptr (some x.id), .int .i64 kind] w fun e w' => e = .returned (ptr yo) ∧ w' = w) ∧ Finds r yo (nbrT t path kind) := by
  have hT : ∀ l, r.at_ l ≠ none → ∃ u y, atT t l = some u ∧ r.at_ l = some y ∧ TellsT u y ∧ ∃ root', Norm root' u := by
    intro l hl
    rcases at_told l t r true hn ht with ⟨_, h⟩ | h
    · exact absurd h hl
    · exact h
  obtain ⟨u, x', hu, hx', htx, root', hnx⟩ := hT path (by rw [hx]; simp)
  obtain rfl : x = x' := Option.some.inj (hx.symm.trans hx')
  obtain ⟨q, hxi⟩ := at_is path r x none hr hx
  have hfirst := hxi.first hdom
  have hch : Chain w D 4 (x.kids.map RT.id) := by
    have := chain_next hdom hxi.root 0
    rw [List.drop_zero, info_kids] at this
    exact this
  have h0 : (x.kids[0]?.map RT.id) = (x.kids.map RT.id)[0]? := by rw [List.getElem?_map]
  have nb : ∀ kd, nbrT t path kd = if kd = 8 ∨ kd = 9 then (u.f4.findIdx? (elP (kd == 9))).map fun (i : Nat) => path ++ [(i : Int)]
      else match path.getLast? with
        | none => none
        | some j => (atT t path.dropLast).bind fun up =>
          if kd = 10 ∨ kd = 11 then ((up.f4.take j.toNat).reverse.findIdx? (elP (kd == 11))).map fun (i : Nat) => path.dropLast ++ [j - 1 - (i : Int)]
          else ((up.f4.drop (j.toNat + 1)).findIdx? (elP (kd == 13))).map fun (i : Nat) => path.dropLast ++ [j + 1 + (i : Int)] := by
    intro kd
    unfold nbrT
    rw [hu]
    rfl
  have hcase : kind = 8 ∨ kind = 9 ∨ kind = 10 ∨ kind = 11 ∨ kind = 12 ∨ kind = 13 := by omega
  rcases hcase with rfl | rfl | hcase
  · refine ⟨_, pass8 w x.id ((x.kids.map RT.id).find? (fun c => !false || isE D c)) ?_, ?_⟩
    · rw [find_all, ← h0]
      exact firstN_calls w x.id _ hfirst ⟨_, rfl⟩
    · rw [nb 8, if_pos (by decide)]
      exact first_finds hr hx htx hnx false
  · refine ⟨_, pass9 w x.id ((x.kids.map RT.id).find? (fun c => !true || isE D c)) ?_, ?_⟩
    · exact firstE_calls w D x.id (x.kids.map RT.id) (by rw [← h0]; exact hfirst) hch
    · rw [nb 9, if_pos (by decide)]
      exact first_finds hr hx htx hnx true
  · cases hlast : path.getLast? with
    | none =>
      have hp : path = [] := List.getLast?_eq_none_iff.1 hlast
      subst hp
      obtain rfl : r = x := Option.some.inj hx
      obtain ⟨c3, c4⟩ := root_cells hdom hr
      rcases hcase with rfl | rfl | rfl | rfl
      · exact ⟨none, pass10 w r.id none (prevN_calls w r.id _ c3 ⟨_, rfl⟩), by rw [nb 10]; rfl⟩
      · exact ⟨none, pass11 w r.id none (prevE_calls w D r.id [] c3 (chain_nil w D 3)), by rw [nb 11]; rfl⟩
      · exact ⟨none, pass12 w r.id none (nextN_calls w r.id _ c4 ⟨_, rfl⟩), by rw [nb 12]; rfl⟩
      · exact ⟨none, pass13 w r.id none (nextE_calls w D r.id [] c4 (chain_nil w D 4)), by rw [nb 13]; rfl⟩
    | some j =>
      obtain ⟨up, hup, hj0, hjl, hxe⟩ := at_last hx hlast
      obtain ⟨uu, up', huu, hup', htu, root2, hnu⟩ := hT path.dropLast (by rw [hup]; simp)
      obtain rfl : up = up' := Option.some.inj (hup.symm.trans hup')
      obtain ⟨q2, hupi⟩ := at_is _ r up none hr hup
      have hlen : j.toNat < (up.info q2).kids.length := by rw [info_kids, List.length_map]; exact hjl
      obtain ⟨_, k3, k4⟩ := kid_cells hdom hupi.root hlen
      have hid : (up.info q2).kids[j.toNat] = x.id := by simp only [info_kids, List.getElem_map, hxe]
      rw [hid] at k3 k4
      have hcn := chain_next hdom hupi.root (j.toNat + 1)
      have hcp := chain_prev hdom hupi.root j.toNat (by omega)
      rw [info_kids] at k3 k4 hcn hcp
      have e4 : (up.kids.map RT.id)[j.toNat + 1]? = ((up.kids.map RT.id).drop (j.toNat + 1))[0]? := by rw [List.getElem?_drop]
      have e3 : ((up.kids.map RT.id).take j.toNat).getLast? = ((up.kids.map RT.id).take j.toNat).reverse[0]? := last_rev _
      rw [e4] at k4
      rw [e3] at k3
      rcases hcase with rfl | rfl | rfl | rfl
      · refine ⟨_, pass10 w x.id (((up.kids.map RT.id).take j.toNat).reverse.find? (fun c => !false || isE D c)) ?_, ?_⟩
        · rw [find_all]
          exact prevN_calls w x.id _ k3 ⟨_, rfl⟩
        · rw [nb 10, if_neg (by decide), hlast, huu]
          exact prev_finds hj0 hr hup htu hnu hjl false
      · refine ⟨_, pass11 w x.id (((up.kids.map RT.id).take j.toNat).reverse.find? (fun c => !true || isE D c)) ?_, ?_⟩
        · exact prevE_calls w D x.id _ k3 hcp
        · rw [nb 11, if_neg (by decide), hlast, huu]
          exact prev_finds hj0 hr hup htu hnu hjl true
      · refine ⟨_, pass12 w x.id (((up.kids.map RT.id).drop (j.toNat + 1)).find? (fun c => !false || isE D c)) ?_, ?_⟩
        · rw [find_all]
          exact nextN_calls w x.id _ k4 ⟨_, rfl⟩
        · rw [nb 12, if_neg (by decide), hlast, huu]
          exact next_finds hj0 hr hup htu hnu hjl false
      · refine ⟨_, pass13 w x.id (((up.kids.map RT.id).drop (j.toNat + 1)).find? (fun c => !true || isE D c)) ?_, ?_⟩
        · exact nextE_calls w D x.id _ k4 hcn
        · rw [nb 13, if_neg (by decide), hlast, huu]
          exact next_finds hj0 hr hup htu hnu hjl true

def nbrR (t : T) (path : List Int) (kind : Int) : Option (List Int) := (atT t path).bind fun _ => nbrT t path kind
set_option maxHeartbeats 400000 in
set_option maxRecDepth 100000 in
theorem neighbor_walk (t : T) (hn : Norm true t) (hc : countT t ≤ 300) (ht : Fit t) (path : List Int) (kind : Int) (hk : 8 ≤ kind ∧ kind ≤ 13) (w : World) (A3 : Option Addr) (c3 : Nat) (A4 : Option Addr) (c4 : Nat) (A1 : Option Addr) (c1 : Nat) (h3 : Kd.C k78 w A3 t.f3.length t.f3) (l3 : t.f3.length ≤ c3) (h4 : Kd.C k25 w A4 t.f4.length t.f4) (l4 : t.f4.length ≤ c4) (h1 : (Kd.int .i64).C w A1 path.length path) (hp : path.length ≤ 4398046510976) :
    Calls Try.prog 26 #[.agg #[.int .i64 t.f0, .string t.f1, .string t.f2, .slice A3 t.f3.length c3, .slice A4 t.f4.length c4], .slice A1 path.length c1, .int .i64 kind] w fun e w' => ∃ v : Value, e = .returned (.tuple #[v, .bool (nbrR t path kind).isSome]) ∧ (Kd.int .i64).R 3 w' w.heap.size (fun _ => True) v ((nbrR t path kind).getD []) ∧ Below w.heap.size w w' := by
  have HB0 := Aside0.mk (below_alloc (Below.refl w.heap.size w) (Obj.cells #[Value.int IntKind.i64 t.f0, Value.string t.f1, Value.string t.f2, Value.slice A3 t.f3.length c3, Value.slice A4 t.f4.length c4] 25))
  have HM := Aside0.mk (made_calls _ t (Nat.le_refl _) ht _ A3 c3 A4 c4 (Kd.C_below h3 HB0.out) l3 (Kd.C_below h4 HB0.out) l4)
  clear h3 l3 h4 l4
  have HN := Aside0.mk hn
  have HC := Aside0.mk hc
  have HP := Aside0.mk h1
  have HK := Aside0.mk hk
  have HPL := Aside0.mk hp
  clear hn hc ht h1 hk hp
  go_enter Try.func26, Try.ntmps26
  go_wp2_with fail
  refine HM.out.mono ?_
  rintro e w1 ⟨b, D, rfl, hm⟩
  have hb1 := below_step HB0.out hm.below
  obtain ⟨i0, hi0⟩ : ∃ i, D b = some i := by
    obtain ⟨_, _, i, h, _⟩ := hm.tree
    exact ⟨i, h⟩
  obtain ⟨r, rfl, hr, hto⟩ := hm.tree.rt hm.dom.wf i0 hi0
  have hroot := hm.root i0 hi0
  rw [hroot] at hr
  obtain ⟨_, hpl⟩ := told_paths r t true HN.out hto
  have hsz : r.pre.length ≤ 4398046510976 := by have := HC.out; omega
  have HA := Aside0.mk (at_calls w1 D hm.dom none r hr A1 c1 path (Kd.C_below HP.out hb1) HPL.out hsz)
  have HD := Aside0.mk hm.dom
  have HR := Aside0.mk hr
  have HT := Aside0.mk hto
  have HB1 := Aside0.mk hb1
  have HSZ := Aside0.mk (show r.pre.length ≤ 300 by have := HC.out; omega)
  clear hsz hpl hroot hto hr hi0 hm hb1 HM
  have hcs := at_told path t r true HN.out HT.out
  have HRI := Aside0.mk (fun (y : RT) (q : List Int) (h : r.at_ q = some y) => at_path q r y none [] HR.out (PathTo.root _ HR.out.root (by cases r; rfl)) h)
  rcases hcs with ⟨hc1, hc2⟩ | ⟨u, x, hu, hx, htx, root', hnx⟩
  · have HE := Aside0.mk (show nbrR t path kind = none by unfold nbrR; rw [hc1]; rfl)
    rw [hc2] at HA
    clear hc1 hc2 HRI
    generalize r.id = ri at *
    simp only [Option.map_none, ptr_some, ptr_none] at HA ⊢
    go_wp2_with (go_at_call 41; go_must (refine HA.out.mono ?_; rintro e w2 ⟨rfl, rfl⟩))
    go_ret2
    exact ⟨_, by rw [HE.out]; rfl, by rw [HE.out]; exact Kd.R_nil _ _ _ _ _, HB1.out⟩
  · have HE := Aside0.mk (show nbrR t path kind = nbrT t path kind by unfold nbrR; rw [hu]; rfl)
    obtain ⟨yo, hcall, hfin⟩ := nbr_calls w1 D HD.out r x HR.out t HT.out HN.out path hx kind HK.out
    have HCALL := Aside0.mk hcall
    rw [hx, Option.map_some] at HA
    clear hcall hu hx htx hnx
    generalize hnb : nbrT t path kind = nb at *
    have HNB := Aside0.mk hnb
    clear hnb
    cases nb with
    | none =>
      obtain rfl : yo = none := hfin
      clear HRI
      generalize r.id = ri at *
      generalize x.id = xi at *
      simp only [Option.map_some, ptr_some, ptr_none] at HA HCALL ⊢
      go_wp2_with (first | (go_at_call 41; go_must (refine HA.out.mono ?_; rintro e w2 ⟨rfl, rfl⟩)) | (go_at_call 49; go_must (refine HCALL.out.mono ?_; rintro e w2 ⟨rfl, rfl⟩)))
      go_ret2
      exact ⟨_, by rw [HE.out]; rfl, by rw [HE.out]; exact Kd.R_nil _ _ _ _ _, HB1.out⟩
    | some q =>
      obtain ⟨z, rfl, hz⟩ := hfin
      obtain ⟨_, hz2, hz3⟩ := at_small q r z hz
      have hsz3 := HSZ.out
      have HPC := Aside0.mk (path_calls w1 D r.id z.id q HD.out (HRI.out z q hz) (by omega) (fun y hy => by have := hz3 y hy; omega))
      clear hz hz2 hz3 HRI hsz3
      generalize r.id = ri at *
      generalize x.id = xi at *
      generalize z.id = zi at *
      simp only [Option.map_some, ptr_some, ptr_none] at HA HCALL HPC ⊢
      go_wp2_with (first | (go_at_call 41; go_must (refine HA.out.mono ?_; rintro e w2 ⟨rfl, rfl⟩)) | (go_at_call 49; go_must (refine HCALL.out.mono ?_; rintro e w2 ⟨rfl, rfl⟩)))
      refine HPC.out.mono ?_
      rintro e w3 ⟨v, rfl, hR, hB⟩
      have HR3 := Aside0.mk hR
      have HB3 := Aside0.mk hB
      clear hR hB
      go_wp2
      go_ret2
      exact ⟨_, by rw [HE.out]; rfl, by rw [HE.out]; exact Kd.R_lower HR3.out HB1.out.size, below_step HB1.out HB3.out⟩

def impl_Neighbor.f (k : Nat) (a0_0 : Int) (a0_1 : ByteArray) (a0_2 : ByteArray) (l0_3 : List (S78)) (l0_4 : List (S25)) (l1 : List Int) (a2 : Int) : Option (List Int × Bool) :=
  (laws_tree29.f k a0_0 a0_1 a0_2 l0_3 l0_4).bind fun b => if b = true ∧ fitB k ⟨a0_0, a0_1, a0_2, l0_3, l0_4⟩ = true ∧ l1.length ≤ 4398046510976 ∧ 8 ≤ a2 ∧ a2 ≤ 13 then some ((nbrR ⟨a0_0, a0_1, a0_2, l0_3, l0_4⟩ l1 a2).getD [], (nbrR ⟨a0_0, a0_1, a0_2, l0_3, l0_4⟩ l1 a2).isSome) else none
theorem impl_Neighbor.mono : ∀ a0 a1 a2 a3 a4 a5 a6 k, LeO (impl_Neighbor.f k a0 a1 a2 a3 a4 a5 a6) (impl_Neighbor.f (k + 1) a0 a1 a2 a3 a4 a5 a6) := by
  intro a0 a1 a2 a3 a4 a5 a6 k
  unfold impl_Neighbor.f
  refine LeO.bind (laws_tree29.mono _ _ _ _ _ _) (fun b => ?_)
  by_cases hb : b = true ∧ fitB k ⟨a0, a1, a2, a3, a4⟩ = true ∧ a5.length ≤ 4398046510976 ∧ 8 ≤ a6 ∧ a6 ≤ 13
  · rw [if_pos hb, if_pos ⟨hb.1, fitB_mono _ _ hb.2.1, hb.2.2⟩]
    exact LeO.refl _
  · rw [if_neg hb]
    exact LeO.none _
theorem impl_Neighbor.calls (k : Nat) (a0_0 : Int) (a0_1 : ByteArray) (a0_2 : ByteArray) (A0_3 : Option Addr) (c0_3 : Nat) (l0_3 : List (S78)) (A0_4 : Option Addr) (c0_4 : Nat) (l0_4 : List (S25)) (A1 : Option Addr) (c1 : Nat) (l1 : List Int) (a2 : Int) (r1 : List Int) (r2 : Bool) (w : World) (hr0_3 : Kd.C k78 w A0_3 l0_3.length l0_3) (hc0_3 : l0_3.length ≤ c0_3) (hr0_4 : Kd.C k25 w A0_4 l0_4.length l0_4) (hc0_4 : l0_4.length ≤ c0_4) (hr1 : Kd.C (Kd.int .i64) w A1 l1.length l1) (hc1 : l1.length ≤ c1) (h : impl_Neighbor.f k a0_0 a0_1 a0_2 l0_3 l0_4 l1 a2 = some (r1, r2)) :
    Calls Try.prog 26 #[.agg #[.int .i64 a0_0, .string a0_1, .string a0_2, .slice A0_3 l0_3.length c0_3, .slice A0_4 l0_4.length c0_4], .slice A1 l1.length c1, .int .i64 a2] w fun e w' => ∃ v0_ : Value, e = .returned (.tuple #[v0_, .bool r2]) ∧ Kd.R (Kd.int .i64) 3 w' w.heap.size (fun _ => True) v0_ r1 ∧ Below w.heap.size w w' := by
  obtain ⟨hb, hfit, hl, hk, hr⟩ : laws_tree29.f k a0_0 a0_1 a0_2 l0_3 l0_4 = some true ∧ fitB k ⟨a0_0, a0_1, a0_2, l0_3, l0_4⟩ = true ∧ l1.length ≤ 4398046510976 ∧ (8 ≤ a2 ∧ a2 ≤ 13) ∧ ((nbrR ⟨a0_0, a0_1, a0_2, l0_3, l0_4⟩ l1 a2).getD [], (nbrR ⟨a0_0, a0_1, a0_2, l0_3, l0_4⟩ l1 a2).isSome) = (r1, r2) := by
    unfold impl_Neighbor.f at h
    obtain ⟨b, hb, h2⟩ := Option.bind_eq_some_iff.1 h
    split at h2
    case isFalse => cases h2
    rename_i hbt
    obtain ⟨rfl, h3, h4, h5⟩ := hbt
    exact ⟨hb, h3, h4, h5, Option.some.inj h2⟩
  have ht := fitB_fit _ _ hfit
  obtain ⟨hn, hc, _⟩ := tree_norm (t := ⟨a0_0, a0_1, a0_2, l0_3, l0_4⟩) ht hb
  have hw := neighbor_walk ⟨a0_0, a0_1, a0_2, l0_3, l0_4⟩ hn hc ht l1 a2 hk w A0_3 c0_3 A0_4 c0_4 A1 c1 hr0_3 hc0_3 hr0_4 hc0_4 hr1 hl
  injection hr with h1 h2
  rw [h1, h2] at hw
  exact hw
end Go.Proofs.Ytibfoaahdbdogaa.PDom

/- The nodes of some names below a place, as plain data and among the nodes of a table. Plain facts. -/
namespace Go.Proofs.Ytibfoaahdbdogaa.PDom
open Go.RowKit Go.Proofs.YtibfoaahdbdogaaW.PrintWords Go.Proofs.YtibfoaahdbdogaaW.PrintLast Go.Proofs.YtibfoaahdbdogaaW.PrintMore Go.Proofs.Ytibfoaahdbdogaa.Dom
set_option linter.unusedVariables false
set_option linter.unusedSimpArgs false

def nameT (t : T) : ByteArray := if t.f0 = 0 then t.f1 else if t.f0 = 1 then textName else if t.f0 = 2 then commentName else docName
def matchT (names : List ByteArray) (t : T) : Bool := names.any fun s => (nameT t).toList == s.toList
def matchO (names : List ByteArray) : Option T → Bool
  | some t => matchT names t
  | none => false
/-- The places of the nodes of those names below a tree, seen from it. -/
def belowT (x : T) (names : List ByteArray) : List (List Int) := (pathsTL [] 0 x.f4).filter fun q => matchO names (atT x q)
def foundT (t : T) (path : List Int) (names : List ByteArray) : List (List Int) := match atT t path with
  | some x => (belowT x names).map (path ++ ·)
  | none => []
theorem All2.filter {α β : Type} {R : α → β → Prop} {P : α → Bool} {Q : β → Bool} {l : List α} {m : List β} (h : All2 R l m) (hpq : ∀ a b, R a b → P a = Q b) : All2 R (l.filter P) (m.filter Q) := by
  induction h with
  | nil => exact .nil
  | cons hr _ ih =>
    rename_i a b l m _
    rw [List.filter_cons, List.filter_cons, hpq a b hr]
    cases Q b with
    | true => exact .cons hr ih
    | false => exact ih
theorem All2.map_right {α β γ : Type} {R : α → γ → Prop} {f : β → γ} {l : List α} {m : List β} (h : All2 (fun a b => R a (f b)) l m) : All2 R l (m.map f) := by
  induction h with
  | nil => exact .nil
  | cons hr _ ih => exact .cons hr ih
mutual
theorem rpaths_at (p : List Int) : ∀ r : RT, All2 (fun id q => ∃ l y, q = p ++ l ∧ r.at_ l = some y ∧ y.id = id) r.pre (r.paths p)
  | .node i t a d at_ ks => by
    simp only [RT.pre, RT.paths]
    refine .cons ⟨[], _, by simp, rfl, rfl⟩ ?_
    have := rpathsL_at p 0 ks
    exact this.imp (fun id _ q ⟨j, l, y, k, h1, h2, h3, h4⟩ => ⟨(j : Int) :: l, y, by simpa using h1, by
      simp only [RT.at_, RT.kids]
      rw [if_pos (by omega), Int.toNat_natCast]
      have h5 : ks[j]? = some k := by simpa using h2
      rw [h5]
      exact h3, h4⟩)
theorem rpathsL_at (p : List Int) (n : Nat) : ∀ ks : List RT, All2 (fun id q => ∃ (j : Nat) (l : List Int) (y k : RT), q = p ++ ((j : Int) :: l) ∧ (n ≤ j ∧ ks[j - n]? = some k) ∧ RT.at_ k l = some y ∧ y.id = id) (RT.preL ks) (RT.pathsL p n ks)
  | [] => .nil
  | k :: ks => by
    simp only [RT.preL, RT.pathsL]
    refine All2.append ?_ ?_
    · refine (rpaths_at (p ++ [(n : Int)]) k).imp (fun id _ q ⟨l, y, h1, h2, h3⟩ => ⟨n, l, y, k, by simpa using h1, ⟨Nat.le_refl _, by simp⟩, h2, h3⟩)
    · refine (rpathsL_at p (n + 1) ks).imp (fun id _ q ⟨j, l, y, k', h1, h2, h3, h4⟩ => ⟨j, l, y, k', h1, ⟨by omega, ?_⟩, h3, h4⟩)
      have e : j - n = (j - (n + 1)) + 1 := by omega
      rw [e, List.getElem?_cons_succ]
      exact h2.2
end
theorem name_told {D : Tab} {u : T} {y : RT} {q : Option Nat} {root : Bool} (ht : TellsT u y) (hy : Is D q y) (hn : Norm root u) (names : List ByteArray) : namedD D names y.id = matchT names u := by
  obtain ⟨_, _, hok, _⟩ := hn
  cases ht with
  | mk _ i a ks ha hl hk =>
    have h1 : D i = some _ := hy.root
    unfold namedD
    show (match D i with | some i => _ | none => _) = _
    rw [h1]
    show (names.any fun s => (nameOf (RT.info q (.node i (tyOf u.f0) a (dataOf u) (attrsOf u) ks))).toList == s.toList) = _
    have e : nameOf (RT.info q (.node i (tyOf u.f0) a (dataOf u) (attrsOf u) ks)) = nameT u := by
      unfold nameOf nameT dataOf
      show (if tyOf u.f0 = 0 then _ else _) = _
      rcases hok with ⟨h2 | h2, _⟩ | ⟨h2, _⟩ | ⟨h2, _⟩ <;> (simp only [RT.info, h2]; rfl)
    rw [e]
    rfl
/-- Below the node at a place: the nodes of those names, and their places. -/
theorem found_ids {D : Tab} {t : T} {r x : RT} {path : List Int} (hr : Is D none r) (ht : TellsT t r) (hn : Norm true t) (hx : r.at_ path = some x) (names : List ByteArray) :
    All2 (fun id q => ∃ y, r.at_ q = some y ∧ y.id = id) (x.low.filter (namedD D names)) (foundT t path names) := by
  rcases at_told path t r true hn ht with ⟨_, h⟩ | ⟨u, x', hu, hx', htx, root', hnx⟩
  · rw [hx] at h; cases h
  · obtain rfl : x = x' := Option.some.inj (hx.symm.trans hx')
    have e1 : foundT t path names = (belowT u names).map (path ++ ·) := by unfold foundT; rw [hu]
    rw [e1]
    refine All2.map_right ?_
    unfold belowT
    have hp : x.paths [] = pathsT [] u := (told_paths x u root' hnx htx).1 []
    cases x with
    | node i ty a d at_ ks =>
      have h1 := rpathsL_at [] 0 ks
      have h2 : RT.pathsL [] 0 ks = pathsTL [] 0 u.f4 := by
        rw [pathsT_eq] at hp
        simp only [RT.paths] at hp
        injection hp
      rw [h2] at h1
      have h3 : All2 (fun id q => ∃ y, (RT.node i ty a d at_ ks).at_ q = some y ∧ y.id = id) (RT.preL ks) (pathsTL [] 0 u.f4) := h1.imp (fun id _ q ⟨j, l, y, k, e2, e3, e4, e5⟩ => ⟨y, by
        rw [e2]
        simp only [List.nil_append, RT.at_, RT.kids]
        rw [if_pos (by omega), Int.toNat_natCast]
        have e6 : ks[j]? = some k := by simpa using e3
        rw [e6]
        exact e4, e5⟩)
      have h4 := All2.filter (P := namedD D names) (Q := fun q => matchO names (atT u q)) h3 (fun id q ⟨y, e2, e3⟩ => by
        rcases at_told q u _ root' hnx htx with ⟨_, h⟩ | ⟨v, y', hv, hy', hty, root2, hny⟩
        · rw [e2] at h; cases h
        · obtain rfl : y = y' := Option.some.inj (e2.symm.trans hy')
          obtain ⟨q1, hx1⟩ := at_is path r _ none hr hx
          obtain ⟨q2, hy2⟩ := at_is q _ y q1 hx1 e2
          rw [← e3, name_told hty hy2 hny, hv]
          rfl)
      refine h4.imp (fun id _ q ⟨y, e2, e3⟩ => ⟨y, ?_, e3⟩)
      rw [at_append, hx]
      exact e2
theorem find_filter (l : List Nat) (m : Nat → Bool) : l.find? m = (l.filter m).head? := by
  induction l with
  | nil => rfl
  | cons a l ih =>
    rw [List.find?_cons, List.filter_cons]
    cases m a with
    | true => rfl
    | false => exact ih
end Go.Proofs.Ytibfoaahdbdogaa.PDom

/- impl.AllNodes: its contract. -/
namespace Go.Proofs.Ytibfoaahdbdogaa.PDom
open Go.RowKit Go.Proofs.YtibfoaahdbdogaaW.PrintWords Go.Proofs.YtibfoaahdbdogaaW.PrintLast Go.Proofs.YtibfoaahdbdogaaW.PrintMore Go.Proofs.Ytibfoaahdbdogaa.Dom
set_option linter.unusedVariables false
set_option linter.unusedSimpArgs false

abbrev kI : Kd (List Int) := Kd.slice 3 (Kd.int .i64)
theorem infoI : (Try.prog.info? 32).map (fun i => (i.zero, i.size, i.bytes)) = some (some (.slice none 0 0), 1, 24) := by kernel_rfl
theorem FK_of_R {w : World} {base : Nat} {v : Value} {xs : List Int} (h : (Kd.int .i64).R 3 w base (fun _ => True) v xs) : Kd.FK kI w (fun k => base ≤ k) xs [v] := by
  obtain ⟨_, inner, hown, hr⟩ := h
  have h2 : (Kd.int .i64).R 3 w base (fun k => base ≤ k) v xs := ⟨fun k hk => own_base hown k hk, inner, hown, hr.imp_ (fun _ _ h => h)⟩
  exact Kd.FK_of_M (Kd.M_row h2)
set_option maxHeartbeats 4000000 in
set_option maxRecDepth 100000 in
theorem allnodes_walk (t : T) (hn : Norm true t) (hc : countT t ≤ 300) (ht : Fit t) (w : World) (A3 : Option Addr) (c3 : Nat) (A4 : Option Addr) (c4 : Nat) (h3 : Kd.C k78 w A3 t.f3.length t.f3) (l3 : t.f3.length ≤ c3) (h4 : Kd.C k25 w A4 t.f4.length t.f4) (l4 : t.f4.length ≤ c4) :
    Calls Try.prog 13 #[.agg #[.int .i64 t.f0, .string t.f1, .string t.f2, .slice A3 t.f3.length c3, .slice A4 t.f4.length c4]] w fun e w' => ∃ v : Value, e = .returned v ∧ Kd.N kI 32 w' w.heap.size (fun k => w.heap.size ≤ k) v (pathsT [] t) ∧ Below w.heap.size w w' := by
  have HB0 := Aside0.mk (below_alloc (Below.refl w.heap.size w) (Obj.cells #[Value.int IntKind.i64 t.f0, Value.string t.f1, Value.string t.f2, Value.slice A3 t.f3.length c3, Value.slice A4 t.f4.length c4] 25))
  have HM := Aside0.mk (made_calls _ t (Nat.le_refl _) ht _ A3 c3 A4 c4 (Kd.C_below h3 HB0.out) l3 (Kd.C_below h4 HB0.out) l4)
  clear h3 l3 h4 l4
  have HN := Aside0.mk hn
  have HC := Aside0.mk hc
  clear hn hc ht
  go_enter Try.func13, Try.ntmps13
  go_wp2_with fail
  refine HM.out.mono ?_
  rintro e w1 ⟨b, D, rfl, hm⟩
  have hb1 := below_step HB0.out hm.below
  obtain ⟨i0, hi0⟩ : ∃ i, D b = some i := by
    obtain ⟨_, _, i, h, _⟩ := hm.tree
    exact ⟨i, h⟩
  obtain ⟨r, rfl, hr, hto⟩ := hm.tree.rt hm.dom.wf i0 hi0
  have hroot := hm.root i0 hi0
  rw [hroot] at hr
  obtain ⟨hpa, hpl⟩ := told_paths r t true HN.out hto
  have hall := Is.paths (root := r.id) r none [] hr (PathTo.root _ hr.root (by cases r; rfl))
  rw [hpa] at hall
  have hsm := paths_small r []
  rw [hpa, hpl] at hsm
  have HD := Aside0.mk hm.dom
  have HA := Aside0.mk (all_calls w1 D hm.dom none r hr 300 (by omega) (by rw [hpl]; exact HC.out))
  have HB1 := Aside0.mk hb1
  have HS := Aside0.mk hsm
  have HP := Aside0.mk hall
  have HLN := Aside0.mk (show (pathsT [] t).length ≤ 300 by rw [← HP.out.length, hpl]; exact HC.out)
  clear hsm hall hpa hpl hroot hto hr hi0 hm hb1 HM
  generalize r.id = root at *
  generalize r.pre = l at *
  generalize hpe : pathsT [] t = ps at *
  have HPE := Aside0.mk hpe
  clear hpe
  simp only [ptr_some] at HA ⊢
  go_wp2_with (go_at_call 38; go_must (refine HA.out.mono ?_; rintro e w2 ⟨v2, rfl, ho2, hb2⟩; obtain ⟨A2, c2, rfl, hc2, hC2⟩ := Kd.R_reads ho2; have HC2 := Aside0.mk hC2; have HB2 := Aside0.mk hb2; clear hc2 hC2 ho2 hb2))
  have HBN := Aside0.mk (below_step HB1.out HB2.out)
  have HD2 := Aside0.mk (HD.out.below HB2.out)
  clear HA
  have hlp : l.length ≤ 300 := by rw [HP.out.length]; exact HLN.out
  go_loopw [3, 10] (fun vo vi wr => ∃ j : Nat, j ≤ l.length ∧ vi = .int .i64 j ∧ Aside0 (Kd.N kI 32 wr w2.heap.size (fun k => w2.heap.size ≤ k) vo (ps.take j)) ∧ Aside0 (Below w2.heap.size w2 wr)) (fun _ i _ => l.length - (intOf i).toNat)
  case atStart => exact ⟨0, Nat.zero_le _, rfl, ⟨Kd.N_nil _ _ _ _ _⟩, ⟨Below.refl _ _⟩⟩
  case round =>
    obtain ⟨j, hj, rfl, HO, HB⟩ := hrel
    by_cases hlt : j < l.length
    · obtain ⟨ad, c, rfl, hcl, hK, hcc⟩ := Kd.C_get (Kd.C_below HC2.out HB.out) 0 (j : Int) (by omega) (by omega)
      have hx := hcc 0 (ptr (some (l.getD j 0))) (by rw [hK]; rfl)
      have hsz1 : kP.sz = 1 := rfl
      have he : l.getD j 0 = l[j] := by simp [List.getD_eq_getElem?_getD, List.getElem?_eq_getElem hlt]
      have hjp : j < ps.length := by rw [← HP.out.length]; exact hlt
      rw [he] at hx
      simp only [Int.toNat_natCast, hsz1, Nat.mul_one, Nat.add_zero] at hx
      have hpa := HP.out.get j hlt hjp
      have hq := HS.out ps[j] (List.getElem_mem hjp)
      have hcn := HC.out
      have hps : ps.take (j + 1) = ps.take j ++ [ps[j]] := List.take_succ_eq_append_getElem hjp
      have hlen : (ps.take j).length ≤ 300 := by rw [List.length_take]; omega
      generalize l[j] = x at *
      generalize ps[j] = q at *
      have HPC := Aside0.mk (path_calls wr D root x q (HD2.out.below HB.out) hpa (by have := hq.1; simp at this; omega) (fun y hy => by rcases hq.2 y hy with h | h; cases h; omega))
      have HPS := Aside0.mk hps
      have hlo := Kd.N_lt HO.out
      have HOL := Aside0.mk hlo
      have HSZ := Aside0.mk (show w2.heap.size ≤ wr.heap.size from HB.out.size)
      clear he hcl hK hcc hsz1 hpa hq hps hlo hcn hjp
      simp only [ptr_some] at hx HPC
      go_wp2_with fail
      refine HPC.out.mono ?_
      rintro e w3 ⟨v0, rfl, hR, hB⟩
      have HO1 := Aside0.mk (Kd.N_below HO.out hB)
      have HB3 := Aside0.mk (below_step HB.out hB)
      obtain ⟨A5, c5, rfl, _, _⟩ := Kd.R_reads hR
      have HF := Aside0.mk (FK_of_R hR)
      clear hR hB
      go_wp2_with ((with_reducible refine gate_builtin (b := .append) (xs := #[.tmp 14, .tmp 17]) rfl ?_); at_builtin; go_must (refine Kd.N_append kI (w0 := w2) w2.heap.size rfl (.tmp 14) (.tmp 17) 29 32 (.slice none 0 0) 24 rfl Try.underlying29 infoI rfl (by decide) (by omega) u3 (ps.take j) q [.slice A5 q.length c5] (fun k => w2.heap.size ≤ k) (fun k => wr.heap.size ≤ k) rfl (by go_simp) HF.out (fun k hk => ⟨Nat.le_trans HSZ.out hk, fun e => by have := HOL.out k e.symm; omega⟩) (fun k hk => Nat.le_trans HB3.out.size hk) HO1.out HB3.out HB3.out.size (by omega) ?_))
      intro v1 w4 ho hb hg hat
      have HO2 := Aside0.mk (show Kd.N kI 32 w4 w2.heap.size (fun k => w2.heap.size ≤ k) v1 (ps.take (j + 1)) by rw [HPS.out]; exact ho)
      have HB4 := Aside0.mk hb
      clear ho hb hg hat
      go_wp2
      go_roundw
      case rel => exact ⟨j + 1, by omega, by go_num, HO2, HB4⟩
      case measure => simp [intOf]; omega
    · have hje : j = l.length := by omega
      subst hje
      have hO := HO.out
      rw [List.take_of_length_le (by rw [← HP.out.length]; exact Nat.le_refl _)] at hO
      go_wp2
      go_ret
      exact ⟨_, rfl, by rw [HPE.out]; exact Kd.N_mono (Kd.N_lower hO HBN.out.size) (fun k hk => Nat.le_trans HBN.out.size hk), below_step HBN.out HB.out⟩

def impl_AllNodes.f (k : Nat) (a0_0 : Int) (a0_1 : ByteArray) (a0_2 : ByteArray) (l0_3 : List (S78)) (l0_4 : List (S25)) : Option (List (List Int)) :=
  (laws_tree29.f k a0_0 a0_1 a0_2 l0_3 l0_4).bind fun b => if b = true then (if fitB k ⟨a0_0, a0_1, a0_2, l0_3, l0_4⟩ = true then some (pathsT [] ⟨a0_0, a0_1, a0_2, l0_3, l0_4⟩) else none) else none
theorem impl_AllNodes.mono : ∀ a0 a1 a2 a3 a4 k, LeO (impl_AllNodes.f k a0 a1 a2 a3 a4) (impl_AllNodes.f (k + 1) a0 a1 a2 a3 a4) := by
  intro a0 a1 a2 a3 a4 k
  unfold impl_AllNodes.f
  refine LeO.bind (laws_tree29.mono _ _ _ _ _ _) (fun b => ?_)
  by_cases hb : b = true
  · rw [if_pos hb, if_pos hb]
    by_cases hf : fitB k ⟨a0, a1, a2, a3, a4⟩ = true
    · rw [if_pos hf, if_pos (fitB_mono _ _ hf)]
      exact LeO.refl _
    · rw [if_neg hf]
      exact LeO.none _
  · rw [if_neg hb]
    exact LeO.none _
theorem impl_AllNodes.calls (k : Nat) (a0_0 : Int) (a0_1 : ByteArray) (a0_2 : ByteArray) (A0_3 : Option Addr) (c0_3 : Nat) (l0_3 : List (S78)) (A0_4 : Option Addr) (c0_4 : Nat) (l0_4 : List (S25)) (r : List (List Int)) (w : World) (hr0_3 : Kd.C k78 w A0_3 l0_3.length l0_3) (hc0_3 : l0_3.length ≤ c0_3) (hr0_4 : Kd.C k25 w A0_4 l0_4.length l0_4) (hc0_4 : l0_4.length ≤ c0_4) (h : impl_AllNodes.f k a0_0 a0_1 a0_2 l0_3 l0_4 = some r) :
    Calls Try.prog 13 #[.agg #[.int .i64 a0_0, .string a0_1, .string a0_2, .slice A0_3 l0_3.length c0_3, .slice A0_4 l0_4.length c0_4]] w fun e w' => ∃ v0_ : Value, e = .returned (v0_) ∧ Kd.N (Kd.slice 3 (Kd.int .i64)) 32 w' w.heap.size (fun k_ => w.heap.size ≤ k_) v0_ r ∧ Below w.heap.size w w' := by
  obtain ⟨hb, hfit, hr⟩ : laws_tree29.f k a0_0 a0_1 a0_2 l0_3 l0_4 = some true ∧ fitB k ⟨a0_0, a0_1, a0_2, l0_3, l0_4⟩ = true ∧ pathsT [] ⟨a0_0, a0_1, a0_2, l0_3, l0_4⟩ = r := by
    unfold impl_AllNodes.f at h
    obtain ⟨b, hb, h2⟩ := Option.bind_eq_some_iff.1 h
    split at h2
    case isFalse => cases h2
    rename_i hbt
    subst hbt
    split at h2
    case isFalse => cases h2
    rename_i hf
    exact ⟨hb, hf, Option.some.inj h2⟩
  have ht := fitB_fit _ _ hfit
  obtain ⟨hn, hc, _⟩ := tree_norm (t := ⟨a0_0, a0_1, a0_2, l0_3, l0_4⟩) ht hb
  have hw := allnodes_walk ⟨a0_0, a0_1, a0_2, l0_3, l0_4⟩ hn hc ht w A0_3 c0_3 A0_4 c0_4 hr0_3 hc0_3 hr0_4 hc0_4
  rw [hr] at hw
  exact hw
end Go.Proofs.Ytibfoaahdbdogaa.PDom

/- impl.FindFirst, FindAll, Contains: their contracts. Printed in part by the program gen_findz.py of this session. -/
namespace Go.Proofs.Ytibfoaahdbdogaa.PDom
open Go.RowKit Go.Proofs.YtibfoaahdbdogaaW.PrintWords Go.Proofs.YtibfoaahdbdogaaW.PrintLast Go.Proofs.YtibfoaahdbdogaaW.PrintMore Go.Proofs.Ytibfoaahdbdogaa.Dom
set_option linter.unusedVariables false
set_option linter.unusedSimpArgs false
theorem all2_head {α β : Type} {R : α → β → Prop} {l : List α} {m : List β} (h : All2 R l m) : l.head?.isSome = m.head?.isSome := by cases h <;> rfl

set_option maxHeartbeats 1000000 in
set_option maxRecDepth 100000 in
theorem ffirst_walk (t : T) (hn : Norm true t) (hc : countT t ≤ 300) (ht : Fit t) (path : List Int) (names : List ByteArray) (w : World) (A3 : Option Addr) (c3 : Nat) (A4 : Option Addr) (c4 : Nat) (A1 : Option Addr) (c1 : Nat) (A2 : Option Addr) (c2 : Nat) (h3 : Kd.C k78 w A3 t.f3.length t.f3) (l3 : t.f3.length ≤ c3) (h4 : Kd.C k25 w A4 t.f4.length t.f4) (l4 : t.f4.length ≤ c4) (h1 : (Kd.int .i64).C w A1 path.length path) (hp : path.length ≤ 4398046510976) (h2 : Kd.string.C w A2 names.length names) (hnm : names.length ≤ 4398046510976) :
    Calls Try.prog 20 #[.agg #[.int .i64 t.f0, .string t.f1, .string t.f2, .slice A3 t.f3.length c3, .slice A4 t.f4.length c4], .slice A1 path.length c1, .slice A2 names.length c2] w fun e w' => ∃ v : Value, e = .returned (.tuple #[v, .bool (foundT t path names).head?.isSome]) ∧ (Kd.int .i64).R 3 w' w.heap.size (fun _ => True) v ((foundT t path names).head?.getD []) ∧ Below w.heap.size w w' := by
  have HB0 := Aside0.mk (below_alloc (Below.refl w.heap.size w) (Obj.cells #[Value.int IntKind.i64 t.f0, Value.string t.f1, Value.string t.f2, Value.slice A3 t.f3.length c3, Value.slice A4 t.f4.length c4] 25))
  have HM := Aside0.mk (made_calls _ t (Nat.le_refl _) ht _ A3 c3 A4 c4 (Kd.C_below h3 HB0.out) l3 (Kd.C_below h4 HB0.out) l4)
  have HN := Aside0.mk hn
  have HC := Aside0.mk hc
  have HP := Aside0.mk h1
  have HPL := Aside0.mk hp
  have HNM := Aside0.mk h2
  have HNL := Aside0.mk hnm
  clear h3 l3 h4 l4 hn hc ht h1 hp h2 hnm
  go_enter Try.func20, Try.ntmps20
  go_wp2_with fail
  refine HM.out.mono ?_
  rintro e w1 ⟨b, D, rfl, hm⟩
  have hb1 := below_step HB0.out hm.below
  obtain ⟨i0, hi0⟩ : ∃ i, D b = some i := by
    obtain ⟨_, _, i, h, _⟩ := hm.tree
    exact ⟨i, h⟩
  obtain ⟨r, rfl, hr, hto⟩ := hm.tree.rt hm.dom.wf i0 hi0
  have hroot := hm.root i0 hi0
  rw [hroot] at hr
  obtain ⟨_, hpl⟩ := told_paths r t true HN.out hto
  have hsz : r.pre.length ≤ 4398046510976 := by have := HC.out; omega
  have HA := Aside0.mk (at_calls w1 D hm.dom none r hr A1 c1 path (Kd.C_below HP.out hb1) HPL.out hsz)
  have HD := Aside0.mk hm.dom
  have HR := Aside0.mk hr
  have HT := Aside0.mk hto
  have HB1 := Aside0.mk hb1
  have HSZ := Aside0.mk (show r.pre.length ≤ 300 by have := HC.out; omega)
  clear hsz hpl hroot hto hr hi0 hm hb1 HM
  have hcs := at_told path t r true HN.out HT.out
  have HRI := Aside0.mk (fun (y : RT) (q : List Int) (h : r.at_ q = some y) => at_path q r y none [] HR.out (PathTo.root _ HR.out.root (by cases r; rfl)) h)
  rcases hcs with ⟨hc1, hc2⟩ | ⟨u, x, hu, hx, htx, root', hnx⟩
  · have HE := Aside0.mk hc1
    rw [hc2] at HA
    clear hc1 hc2 HRI
    generalize r.id = ri at *
    simp only [Option.map_none, ptr_some, ptr_none] at HA ⊢
    go_wp2_with (go_at_call 41; go_must (refine HA.out.mono ?_; rintro e w2 ⟨rfl, rfl⟩))
    have hf0 : foundT t path names = [] := by unfold foundT; rw [HE.out]
    have HF0 := Aside0.mk hf0
    clear hf0
    go_ret2
    exact ⟨_, by rw [HF0.out]; rfl, by rw [HF0.out]; exact Kd.R_nil _ _ _ _ _, HB1.out⟩
  · have HE := Aside0.mk hu
    obtain ⟨q0, hxi⟩ := at_is path r x none HR.out hx
    have HXI := Aside0.mk hxi
    have HF := Aside0.mk (found_ids HR.out HT.out HN.out hx names)
    have HCD := Aside0.mk (called_calls w1 A2 names.length c2)
    have HBC := Aside0.mk (below_alloc (Below.refl w1.heap.size w1) (.cells #[.slice A2 names.length c2] 33))
    have HW := Aside0.mk (blk_new w1 (.cells #[.slice A2 names.length c2] 33))
    have hxs := (at_small path r x hx).1
    have HXS := Aside0.mk (show x.low.length ≤ 300 by have h5 := HSZ.out; have h6 := pre_low x; rw [h6, List.length_cons] at hxs; omega)
    rw [hx, Option.map_some] at HA
    have HTB := Aside0.mk (fun w' (hb : Below (w1.alloc (.cells #[.slice A2 names.length c2] 33)).heap.size (w1.alloc (.cells #[.slice A2 names.length c2] 33)) w') =>
      called1_calls w' D (HD.out.below (below_step HBC.out hb)) w1.heap.size A2 c2 names (blk_below HW.out hb) (Kd.C_below (Kd.C_below HNM.out HB1.out) (below_step HBC.out hb)) (by have := HNL.out; omega))
    have hdc := HD.out.below HBC.out
    clear hu hx htx hnx hxs
    generalize w1.alloc (.cells #[.slice A2 names.length c2] 33) = wc at *
    have hff := findfirst_calls wc D hdc q0 x HXI.out 64 #[.pointer (some ⟨w1.heap.size, 0, none⟩)] (namedD D names) enters_called1 HTB.out
    rw [find_filter] at hff
    have HFF := Aside0.mk hff
    have HDC := Aside0.mk hdc
    clear hff hdc HTB HXI HW hxi
    generalize x.low.filter (namedD D names) = l at *
    generalize hft : foundT t path names = ft at *
    have HFT := Aside0.mk hft
    clear hft
    cases l with
    | nil =>
      have e0 : ft = [] := by have := HF.out; cases this; rfl
      subst e0
      clear HRI HF
      generalize r.id = ri at *
      generalize x.id = xi at *
      simp only [List.head?_nil, ptr_some, ptr_none] at HA HFF ⊢
      go_wp2_with (first | (go_at_call 41; go_must (refine HA.out.mono ?_; rintro e w2 ⟨rfl, rfl⟩)) | (go_at_call 43; go_must (refine HCD.out.mono ?_; rintro e w2 ⟨rfl, rfl⟩)) | (go_at_call 44; go_must (refine HFF.out.mono ?_; rintro e w2 ⟨rfl, hb2⟩; have HB2 := Aside0.mk hb2; clear hb2)))
      go_ret2
      exact ⟨_, by rw [HFT.out]; rfl, by rw [HFT.out]; exact Kd.R_nil _ _ _ _ _, below_step HB1.out (below_step HBC.out HB2.out)⟩
    | cons z l =>
      obtain ⟨q, ft2, rfl, hq⟩ : ∃ q ft2, ft = q :: ft2 ∧ ∃ y, r.at_ q = some y ∧ y.id = z := by
        have h8 := HF.out
        cases h8 with
        | cons h9 _ => exact ⟨_, _, rfl, h9⟩
      obtain ⟨y, hy, rfl⟩ := hq
      obtain ⟨_, hz2, hz3⟩ := at_small q r y hy
      have hsz3 := HSZ.out
      have HPC := Aside0.mk (fun wx (hb : Below wc.heap.size wc wx) => path_calls wx D r.id y.id q (HDC.out.below hb) (HRI.out y q hy) (by omega) (fun y hy => by have := hz3 y hy; omega))
      clear hy hz2 hz3 HRI hsz3 HF
      generalize r.id = ri at *
      generalize x.id = xi at *
      generalize y.id = zi at *
      simp only [List.head?_cons, ptr_some, ptr_none] at HA HFF HPC ⊢
      go_wp2_with (first | (go_at_call 41; go_must (refine HA.out.mono ?_; rintro e w2 ⟨rfl, rfl⟩)) | (go_at_call 43; go_must (refine HCD.out.mono ?_; rintro e w2 ⟨rfl, rfl⟩)) | (go_at_call 44; go_must (refine HFF.out.mono ?_; rintro e w2 ⟨rfl, hb2⟩; have HB2 := Aside0.mk hb2; have HPC2 := Aside0.mk (HPC.out _ hb2); clear hb2)))
      refine HPC2.out.mono ?_
      rintro e w3 ⟨v, rfl, hR, hB⟩
      have HR3 := Aside0.mk hR
      have HB3 := Aside0.mk (below_step HB1.out (below_step HBC.out (below_step HB2.out hB)))
      have HSZ2 := Aside0.mk (below_step HB1.out (below_step HBC.out HB2.out)).size
      clear hR hB
      go_wp2
      go_ret2
      exact ⟨_, by rw [HFT.out]; rfl, by rw [HFT.out]; exact Kd.R_lower HR3.out HSZ2.out, HB3.out⟩

set_option maxHeartbeats 1000000 in
set_option maxRecDepth 100000 in
theorem contains_walk (t : T) (hn : Norm true t) (hc : countT t ≤ 300) (ht : Fit t) (path : List Int) (names : List ByteArray) (w : World) (A3 : Option Addr) (c3 : Nat) (A4 : Option Addr) (c4 : Nat) (A1 : Option Addr) (c1 : Nat) (A2 : Option Addr) (c2 : Nat) (h3 : Kd.C k78 w A3 t.f3.length t.f3) (l3 : t.f3.length ≤ c3) (h4 : Kd.C k25 w A4 t.f4.length t.f4) (l4 : t.f4.length ≤ c4) (h1 : (Kd.int .i64).C w A1 path.length path) (hp : path.length ≤ 4398046510976) (h2 : Kd.string.C w A2 names.length names) (hnm : names.length ≤ 4398046510976) :
    Calls Try.prog 21 #[.agg #[.int .i64 t.f0, .string t.f1, .string t.f2, .slice A3 t.f3.length c3, .slice A4 t.f4.length c4], .slice A1 path.length c1, .slice A2 names.length c2] w fun e w' => e = .returned (.bool (foundT t path names).head?.isSome) ∧ Below w.heap.size w w' := by
  have HB0 := Aside0.mk (below_alloc (Below.refl w.heap.size w) (Obj.cells #[Value.int IntKind.i64 t.f0, Value.string t.f1, Value.string t.f2, Value.slice A3 t.f3.length c3, Value.slice A4 t.f4.length c4] 25))
  have HM := Aside0.mk (made_calls _ t (Nat.le_refl _) ht _ A3 c3 A4 c4 (Kd.C_below h3 HB0.out) l3 (Kd.C_below h4 HB0.out) l4)
  have HN := Aside0.mk hn
  have HC := Aside0.mk hc
  have HP := Aside0.mk h1
  have HPL := Aside0.mk hp
  have HNM := Aside0.mk h2
  have HNL := Aside0.mk hnm
  clear h3 l3 h4 l4 hn hc ht h1 hp h2 hnm
  go_enter Try.func21, Try.ntmps21
  go_wp2_with fail
  refine HM.out.mono ?_
  rintro e w1 ⟨b, D, rfl, hm⟩
  have hb1 := below_step HB0.out hm.below
  obtain ⟨i0, hi0⟩ : ∃ i, D b = some i := by
    obtain ⟨_, _, i, h, _⟩ := hm.tree
    exact ⟨i, h⟩
  obtain ⟨r, rfl, hr, hto⟩ := hm.tree.rt hm.dom.wf i0 hi0
  have hroot := hm.root i0 hi0
  rw [hroot] at hr
  obtain ⟨_, hpl⟩ := told_paths r t true HN.out hto
  have hsz : r.pre.length ≤ 4398046510976 := by have := HC.out; omega
  have HA := Aside0.mk (at_calls w1 D hm.dom none r hr A1 c1 path (Kd.C_below HP.out hb1) HPL.out hsz)
  have HD := Aside0.mk hm.dom
  have HR := Aside0.mk hr
  have HT := Aside0.mk hto
  have HB1 := Aside0.mk hb1
  have HSZ := Aside0.mk (show r.pre.length ≤ 300 by have := HC.out; omega)
  clear hsz hpl hroot hto hr hi0 hm hb1 HM
  have hcs := at_told path t r true HN.out HT.out
  have HRI := Aside0.mk (fun (y : RT) (q : List Int) (h : r.at_ q = some y) => at_path q r y none [] HR.out (PathTo.root _ HR.out.root (by cases r; rfl)) h)
  rcases hcs with ⟨hc1, hc2⟩ | ⟨u, x, hu, hx, htx, root', hnx⟩
  · have HE := Aside0.mk hc1
    rw [hc2] at HA
    clear hc1 hc2 HRI
    generalize r.id = ri at *
    simp only [Option.map_none, ptr_some, ptr_none] at HA ⊢
    go_wp2_with (go_at_call 41; go_must (refine HA.out.mono ?_; rintro e w2 ⟨rfl, rfl⟩))
    have hf0 : foundT t path names = [] := by unfold foundT; rw [HE.out]
    have HF0 := Aside0.mk hf0
    clear hf0
    go_ret
    exact ⟨by rw [HF0.out]; rfl, HB1.out⟩
  · have HE := Aside0.mk hu
    obtain ⟨q0, hxi⟩ := at_is path r x none HR.out hx
    have HXI := Aside0.mk hxi
    have HF := Aside0.mk (found_ids HR.out HT.out HN.out hx names)
    have HCD := Aside0.mk (called_calls w1 A2 names.length c2)
    have HBC := Aside0.mk (below_alloc (Below.refl w1.heap.size w1) (.cells #[.slice A2 names.length c2] 33))
    have HW := Aside0.mk (blk_new w1 (.cells #[.slice A2 names.length c2] 33))
    have hxs := (at_small path r x hx).1
    have HXS := Aside0.mk (show x.low.length ≤ 300 by have h5 := HSZ.out; have h6 := pre_low x; rw [h6, List.length_cons] at hxs; omega)
    rw [hx, Option.map_some] at HA
    have HTB := Aside0.mk (fun w' (hb : Below (w1.alloc (.cells #[.slice A2 names.length c2] 33)).heap.size (w1.alloc (.cells #[.slice A2 names.length c2] 33)) w') =>
      called1_calls w' D (HD.out.below (below_step HBC.out hb)) w1.heap.size A2 c2 names (blk_below HW.out hb) (Kd.C_below (Kd.C_below HNM.out HB1.out) (below_step HBC.out hb)) (by have := HNL.out; omega))
    have hdc := HD.out.below HBC.out
    clear hu hx htx hnx hxs
    generalize w1.alloc (.cells #[.slice A2 names.length c2] 33) = wc at *
    have hff := findfirst_calls wc D hdc q0 x HXI.out 64 #[.pointer (some ⟨w1.heap.size, 0, none⟩)] (namedD D names) enters_called1 HTB.out
    rw [find_filter] at hff
    have hcn := contains_calls wc x.id _ _ _ hff
    have hss : (x.low.filter (namedD D names)).head?.isSome = (foundT t path names).head?.isSome := by
      exact all2_head HF.out
    rw [hss] at hcn
    have HCN := Aside0.mk hcn
    clear hff hdc HTB HXI HW hxi HRI HF hcn hss
    generalize r.id = ri at *
    generalize x.id = xi at *
    simp only [ptr_some, ptr_none] at HA HCN ⊢
    go_wp2_with (first | (go_at_call 41; go_must (refine HA.out.mono ?_; rintro e w2 ⟨rfl, rfl⟩)) | (go_at_call 43; go_must (refine HCD.out.mono ?_; rintro e w2 ⟨rfl, rfl⟩)) | (go_at_call 45; go_must (refine HCN.out.mono ?_; rintro e w2 ⟨rfl, hb2⟩; have HB2 := Aside0.mk hb2; clear hb2)))
    go_ret
    exact ⟨rfl, below_step HB1.out (below_step HBC.out HB2.out)⟩

set_option maxHeartbeats 1000000 in
set_option maxRecDepth 100000 in
theorem fall_walk (t : T) (hn : Norm true t) (hc : countT t ≤ 300) (ht : Fit t) (path : List Int) (names : List ByteArray) (w : World) (A3 : Option Addr) (c3 : Nat) (A4 : Option Addr) (c4 : Nat) (A1 : Option Addr) (c1 : Nat) (A2 : Option Addr) (c2 : Nat) (h3 : Kd.C k78 w A3 t.f3.length t.f3) (l3 : t.f3.length ≤ c3) (h4 : Kd.C k25 w A4 t.f4.length t.f4) (l4 : t.f4.length ≤ c4) (h1 : (Kd.int .i64).C w A1 path.length path) (hp : path.length ≤ 4398046510976) (h2 : Kd.string.C w A2 names.length names) (hnm : names.length ≤ 4398046510976) :
    Calls Try.prog 19 #[.agg #[.int .i64 t.f0, .string t.f1, .string t.f2, .slice A3 t.f3.length c3, .slice A4 t.f4.length c4], .slice A1 path.length c1, .slice A2 names.length c2] w fun e w' => ∃ v : Value, e = .returned (.tuple #[v, .bool (atT t path).isSome]) ∧ Kd.N kI 32 w' w.heap.size (fun k => w.heap.size ≤ k) v (foundT t path names) ∧ Below w.heap.size w w' := by
  have HB0 := Aside0.mk (below_alloc (Below.refl w.heap.size w) (Obj.cells #[Value.int IntKind.i64 t.f0, Value.string t.f1, Value.string t.f2, Value.slice A3 t.f3.length c3, Value.slice A4 t.f4.length c4] 25))
  have HM := Aside0.mk (made_calls _ t (Nat.le_refl _) ht _ A3 c3 A4 c4 (Kd.C_below h3 HB0.out) l3 (Kd.C_below h4 HB0.out) l4)
  have HN := Aside0.mk hn
  have HC := Aside0.mk hc
  have HP := Aside0.mk h1
  have HPL := Aside0.mk hp
  have HNM := Aside0.mk h2
  have HNL := Aside0.mk hnm
  clear h3 l3 h4 l4 hn hc ht h1 hp h2 hnm
  go_enter Try.func19, Try.ntmps19
  go_wp2_with fail
  refine HM.out.mono ?_
  rintro e w1 ⟨b, D, rfl, hm⟩
  have hb1 := below_step HB0.out hm.below
  obtain ⟨i0, hi0⟩ : ∃ i, D b = some i := by
    obtain ⟨_, _, i, h, _⟩ := hm.tree
    exact ⟨i, h⟩
  obtain ⟨r, rfl, hr, hto⟩ := hm.tree.rt hm.dom.wf i0 hi0
  have hroot := hm.root i0 hi0
  rw [hroot] at hr
  obtain ⟨_, hpl⟩ := told_paths r t true HN.out hto
  have hsz : r.pre.length ≤ 4398046510976 := by have := HC.out; omega
  have HA := Aside0.mk (at_calls w1 D hm.dom none r hr A1 c1 path (Kd.C_below HP.out hb1) HPL.out hsz)
  have HD := Aside0.mk hm.dom
  have HR := Aside0.mk hr
  have HT := Aside0.mk hto
  have HB1 := Aside0.mk hb1
  have HSZ := Aside0.mk (show r.pre.length ≤ 300 by have := HC.out; omega)
  clear hsz hpl hroot hto hr hi0 hm hb1 HM
  have hcs := at_told path t r true HN.out HT.out
  have HRI := Aside0.mk (fun (y : RT) (q : List Int) (h : r.at_ q = some y) => at_path q r y none [] HR.out (PathTo.root _ HR.out.root (by cases r; rfl)) h)
  rcases hcs with ⟨hc1, hc2⟩ | ⟨u, x, hu, hx, htx, root', hnx⟩
  · have HE := Aside0.mk hc1
    rw [hc2] at HA
    clear hc1 hc2 HRI
    generalize r.id = ri at *
    simp only [Option.map_none, ptr_some, ptr_none] at HA ⊢
    go_wp2_with (go_at_call 41; go_must (refine HA.out.mono ?_; rintro e w2 ⟨rfl, rfl⟩))
    have hf0 : foundT t path names = [] := by unfold foundT; rw [HE.out]
    have HF0 := Aside0.mk hf0
    clear hf0
    go_ret2
    exact ⟨_, by rw [HE.out]; rfl, by rw [HF0.out]; exact Kd.N_nil _ _ _ _ _, HB1.out⟩
  · have HE := Aside0.mk hu
    obtain ⟨q0, hxi⟩ := at_is path r x none HR.out hx
    have HXI := Aside0.mk hxi
    have HF := Aside0.mk (found_ids HR.out HT.out HN.out hx names)
    have HCD := Aside0.mk (called_calls w1 A2 names.length c2)
    have HBC := Aside0.mk (below_alloc (Below.refl w1.heap.size w1) (.cells #[.slice A2 names.length c2] 33))
    have HW := Aside0.mk (blk_new w1 (.cells #[.slice A2 names.length c2] 33))
    have hxs := (at_small path r x hx).1
    have HXS := Aside0.mk (show x.low.length ≤ 300 by have h5 := HSZ.out; have h6 := pre_low x; rw [h6, List.length_cons] at hxs; omega)
    rw [hx, Option.map_some] at HA
    have HTB := Aside0.mk (fun w' (hb : Below (w1.alloc (.cells #[.slice A2 names.length c2] 33)).heap.size (w1.alloc (.cells #[.slice A2 names.length c2] 33)) w') =>
      called1_calls w' D (HD.out.below (below_step HBC.out hb)) w1.heap.size A2 c2 names (blk_below HW.out hb) (Kd.C_below (Kd.C_below HNM.out HB1.out) (below_step HBC.out hb)) (by have := HNL.out; omega))
    have hdc := HD.out.below HBC.out
    clear hu hx htx hnx hxs
    generalize w1.alloc (.cells #[.slice A2 names.length c2] 33) = wc at *
    have hff := findall_calls wc D hdc q0 x HXI.out 64 #[.pointer (some ⟨w1.heap.size, 0, none⟩)] (namedD D names) (by have := HXS.out; omega) enters_called1 HTB.out
    have hll : (x.low.filter (namedD D names)).length ≤ 300 := Nat.le_trans (List.length_filter_le _ _) HXS.out
    have HFF := Aside0.mk hff
    have HDC := Aside0.mk hdc
    have HBW := Aside0.mk (below_step HB1.out HBC.out)
    clear hff hdc HTB HXI HW hxi
    generalize x.low.filter (namedD D names) = l at *
    generalize hft : foundT t path names = ps at *
    have HFT := Aside0.mk hft
    clear hft
    have HPC := Aside0.mk (fun wx (hb : Below wc.heap.size wc wx) (j : Nat) (hj : j < l.length) (hj2 : j < ps.length) => show Calls _ _ #[ptr (some l[j])] _ _ from by
      obtain ⟨y, hy, hid⟩ := HF.out.get j hj hj2
      obtain ⟨_, hz2, hz3⟩ := at_small ps[j] r y hy
      have hsz3 := HSZ.out
      rw [← hid]
      exact path_calls wx D r.id y.id ps[j] (HDC.out.below hb) (HRI.out y ps[j] hy) (by omega) (fun y hy => by have := hz3 y hy; omega))
    have HLP := Aside0.mk (HF.out.length)
    clear HRI HF
    generalize r.id = ri at *
    generalize x.id = xi at *
    simp only [ptr_some, ptr_none] at HA HFF HPC ⊢
    go_wp2_with (first | (go_at_call 41; go_must (refine HA.out.mono ?_; rintro e w2 ⟨rfl, rfl⟩)) | (go_at_call 43; go_must (refine HCD.out.mono ?_; rintro e w2 ⟨rfl, rfl⟩)) | (go_at_call 42; go_must (refine HFF.out.mono ?_; rintro e w2 ⟨v2, rfl, ho2, hb2⟩; obtain ⟨AL, cL, rfl, hcL, hCL⟩ := Kd.R_reads ho2; have HC2 := Aside0.mk hCL; have HB2 := Aside0.mk hb2; clear hcL hCL ho2 hb2)))
    have HBN := Aside0.mk (below_step HBW.out HB2.out)
    go_loopw [9, 23] (fun vo vi wr => ∃ j : Nat, j ≤ l.length ∧ vi = .int .i64 j ∧ Aside0 (Kd.N kI 32 wr w2.heap.size (fun k => w2.heap.size ≤ k) vo (ps.take j)) ∧ Aside0 (Below w2.heap.size w2 wr)) (fun _ i _ => l.length - (intOf i).toNat)
    case atStart => exact ⟨0, Nat.zero_le _, rfl, ⟨Kd.N_nil _ _ _ _ _⟩, ⟨Below.refl _ _⟩⟩
    case round =>
      obtain ⟨j, hj, rfl, HO, HB⟩ := hrel
      by_cases hlt : j < l.length
      · obtain ⟨ad, c, rfl, hcl, hK, hcc⟩ := Kd.C_get (Kd.C_below HC2.out HB.out) 0 (j : Int) (by omega) (by omega)
        have hx := hcc 0 (ptr (some (l.getD j 0))) (by rw [hK]; rfl)
        have hsz1 : kP.sz = 1 := rfl
        have he : l.getD j 0 = l[j] := by simp [List.getD_eq_getElem?_getD, List.getElem?_eq_getElem hlt]
        have hjp : j < ps.length := by rw [← HLP.out]; exact hlt
        rw [he] at hx
        simp only [Int.toNat_natCast, hsz1, Nat.mul_one, Nat.add_zero] at hx
        have hpc := HPC.out wr (below_step HB2.out HB.out) j hlt hjp
        have hps : ps.take (j + 1) = ps.take j ++ [ps[j]] := List.take_succ_eq_append_getElem hjp
        have hlen : (ps.take j).length ≤ 300 := by rw [List.length_take]; omega
        generalize l[j] = xj at *
        generalize ps[j] = q at *
        have HPC1 := Aside0.mk hpc
        have HPS := Aside0.mk hps
        have hlo := Kd.N_lt HO.out
        have HOL := Aside0.mk hlo
        have HSZ2 := Aside0.mk (show w2.heap.size ≤ wr.heap.size from HB.out.size)
        clear he hcl hK hcc hsz1 hpc hps hlo hjp
        simp only [ptr_some] at hx HPC1
        go_wp2_with fail
        refine HPC1.out.mono ?_
        rintro e w3 ⟨v0, rfl, hR, hB⟩
        have HO1 := Aside0.mk (Kd.N_below HO.out hB)
        have HB3 := Aside0.mk (below_step HB.out hB)
        obtain ⟨A5, c5, rfl, _, _⟩ := Kd.R_reads hR
        have HFK := Aside0.mk (FK_of_R hR)
        clear hR hB
        go_wp2_with ((with_reducible refine gate_builtin (b := .append) (xs := #[.tmp 27, .tmp 30]) rfl ?_); at_builtin; go_must (refine Kd.N_append kI (w0 := w2) w2.heap.size rfl (.tmp 27) (.tmp 30) 29 32 (.slice none 0 0) 24 rfl Try.underlying29 infoI rfl (by decide) (by omega) u9 (ps.take j) q [.slice A5 q.length c5] (fun k => w2.heap.size ≤ k) (fun k => wr.heap.size ≤ k) rfl (by go_simp) HFK.out (fun k hk => ⟨Nat.le_trans HSZ2.out hk, fun e => by have := HOL.out k e.symm; omega⟩) (fun k hk => Nat.le_trans HB3.out.size hk) HO1.out HB3.out HB3.out.size (by omega) ?_))
        intro v1 w4 ho hb hg hat
        have HO2 := Aside0.mk (show Kd.N kI 32 w4 w2.heap.size (fun k => w2.heap.size ≤ k) v1 (ps.take (j + 1)) by rw [HPS.out]; exact ho)
        have HB4 := Aside0.mk hb
        clear ho hb hg hat
        go_wp2
        go_roundw
        case rel => exact ⟨j + 1, by omega, by go_num, HO2, HB4⟩
        case measure => simp [intOf]; omega
      · have hje : j = l.length := by omega
        subst hje
        have hO := HO.out
        rw [List.take_of_length_le (by rw [← HLP.out]; exact Nat.le_refl _)] at hO
        go_wp2
        go_ret2
        exact ⟨_, by rw [HE.out]; rfl, by rw [HFT.out]; exact Kd.N_mono (Kd.N_lower hO HBN.out.size) (fun k hk => Nat.le_trans HBN.out.size hk), below_step HBN.out HB.out⟩

def impl_FindFirst.f (k : Nat) (a0_0 : Int) (a0_1 : ByteArray) (a0_2 : ByteArray) (l0_3 : List (S78)) (l0_4 : List (S25)) (l1 : List Int) (l2 : List ByteArray) : Option (List Int × Bool) :=
  (laws_tree29.f k a0_0 a0_1 a0_2 l0_3 l0_4).bind fun b => if b = true ∧ fitB k ⟨a0_0, a0_1, a0_2, l0_3, l0_4⟩ = true ∧ l1.length ≤ 4398046510976 ∧ l2.length ≤ 4398046510976 then some ((foundT ⟨a0_0, a0_1, a0_2, l0_3, l0_4⟩ l1 l2).head?.getD [], (foundT ⟨a0_0, a0_1, a0_2, l0_3, l0_4⟩ l1 l2).head?.isSome) else none
theorem impl_FindFirst.mono : ∀ a0 a1 a2 a3 a4 a5 a6 k, LeO (impl_FindFirst.f k a0 a1 a2 a3 a4 a5 a6) (impl_FindFirst.f (k + 1) a0 a1 a2 a3 a4 a5 a6) := by
  intro a0 a1 a2 a3 a4 a5 a6 k
  unfold impl_FindFirst.f
  refine LeO.bind (laws_tree29.mono _ _ _ _ _ _) (fun b => ?_)
  by_cases hb : b = true ∧ fitB k ⟨a0, a1, a2, a3, a4⟩ = true ∧ a5.length ≤ 4398046510976 ∧ a6.length ≤ 4398046510976
  · rw [if_pos hb, if_pos ⟨hb.1, fitB_mono _ _ hb.2.1, hb.2.2⟩]
    exact LeO.refl _
  · rw [if_neg hb]
    exact LeO.none _
theorem impl_FindFirst.calls (k : Nat) (a0_0 : Int) (a0_1 : ByteArray) (a0_2 : ByteArray) (A0_3 : Option Addr) (c0_3 : Nat) (l0_3 : List (S78)) (A0_4 : Option Addr) (c0_4 : Nat) (l0_4 : List (S25)) (A1 : Option Addr) (c1 : Nat) (l1 : List Int) (A2 : Option Addr) (c2 : Nat) (l2 : List ByteArray) (r1 : List Int) (r2 : Bool) (w : World) (hr0_3 : Kd.C k78 w A0_3 l0_3.length l0_3) (hc0_3 : l0_3.length ≤ c0_3) (hr0_4 : Kd.C k25 w A0_4 l0_4.length l0_4) (hc0_4 : l0_4.length ≤ c0_4) (hr1 : Kd.C (Kd.int .i64) w A1 l1.length l1) (hc1 : l1.length ≤ c1) (hr2 : Kd.C Kd.string w A2 l2.length l2) (hc2 : l2.length ≤ c2) (h : impl_FindFirst.f k a0_0 a0_1 a0_2 l0_3 l0_4 l1 l2 = some (r1, r2)) :
    Calls Try.prog 20 #[.agg #[.int .i64 a0_0, .string a0_1, .string a0_2, .slice A0_3 l0_3.length c0_3, .slice A0_4 l0_4.length c0_4], .slice A1 l1.length c1, .slice A2 l2.length c2] w fun e w' => ∃ v0_ : Value, e = .returned (.tuple #[v0_, .bool r2]) ∧ Kd.R (Kd.int .i64) 3 w' w.heap.size (fun _ => True) v0_ r1 ∧ Below w.heap.size w w' := by
  obtain ⟨hb, hfit, hl, hk, hr⟩ : laws_tree29.f k a0_0 a0_1 a0_2 l0_3 l0_4 = some true ∧ fitB k ⟨a0_0, a0_1, a0_2, l0_3, l0_4⟩ = true ∧ l1.length ≤ 4398046510976 ∧ l2.length ≤ 4398046510976 ∧ ((foundT ⟨a0_0, a0_1, a0_2, l0_3, l0_4⟩ l1 l2).head?.getD [], (foundT ⟨a0_0, a0_1, a0_2, l0_3, l0_4⟩ l1 l2).head?.isSome) = (r1, r2) := by
    unfold impl_FindFirst.f at h
    obtain ⟨b, hb, h2⟩ := Option.bind_eq_some_iff.1 h
    split at h2
    case isFalse => cases h2
    rename_i hbt
    obtain ⟨rfl, h3, h4, h5⟩ := hbt
    exact ⟨hb, h3, h4, h5, Option.some.inj h2⟩
  have ht := fitB_fit _ _ hfit
  obtain ⟨hn, hc, _⟩ := tree_norm (t := ⟨a0_0, a0_1, a0_2, l0_3, l0_4⟩) ht hb
  have hw := ffirst_walk ⟨a0_0, a0_1, a0_2, l0_3, l0_4⟩ hn hc ht l1 l2 w A0_3 c0_3 A0_4 c0_4 A1 c1 A2 c2 hr0_3 hc0_3 hr0_4 hc0_4 hr1 hl hr2 hk
  injection hr with e1 e2
  rw [e1, e2] at hw
  exact hw

def impl_FindAll.f (k : Nat) (a0_0 : Int) (a0_1 : ByteArray) (a0_2 : ByteArray) (l0_3 : List (S78)) (l0_4 : List (S25)) (l1 : List Int) (l2 : List ByteArray) : Option (List (List Int) × Bool) :=
  (laws_tree29.f k a0_0 a0_1 a0_2 l0_3 l0_4).bind fun b => if b = true ∧ fitB k ⟨a0_0, a0_1, a0_2, l0_3, l0_4⟩ = true ∧ l1.length ≤ 4398046510976 ∧ l2.length ≤ 4398046510976 then some (foundT ⟨a0_0, a0_1, a0_2, l0_3, l0_4⟩ l1 l2, (atT ⟨a0_0, a0_1, a0_2, l0_3, l0_4⟩ l1).isSome) else none
theorem impl_FindAll.mono : ∀ a0 a1 a2 a3 a4 a5 a6 k, LeO (impl_FindAll.f k a0 a1 a2 a3 a4 a5 a6) (impl_FindAll.f (k + 1) a0 a1 a2 a3 a4 a5 a6) := by
  intro a0 a1 a2 a3 a4 a5 a6 k
  unfold impl_FindAll.f
  refine LeO.bind (laws_tree29.mono _ _ _ _ _ _) (fun b => ?_)
  by_cases hb : b = true ∧ fitB k ⟨a0, a1, a2, a3, a4⟩ = true ∧ a5.length ≤ 4398046510976 ∧ a6.length ≤ 4398046510976
  · rw [if_pos hb, if_pos ⟨hb.1, fitB_mono _ _ hb.2.1, hb.2.2⟩]
    exact LeO.refl _
  · rw [if_neg hb]
    exact LeO.none _
theorem impl_FindAll.calls (k : Nat) (a0_0 : Int) (a0_1 : ByteArray) (a0_2 : ByteArray) (A0_3 : Option Addr) (c0_3 : Nat) (l0_3 : List (S78)) (A0_4 : Option Addr) (c0_4 : Nat) (l0_4 : List (S25)) (A1 : Option Addr) (c1 : Nat) (l1 : List Int) (A2 : Option Addr) (c2 : Nat) (l2 : List ByteArray) (r1 : List (List Int)) (r2 : Bool) (w : World) (hr0_3 : Kd.C k78 w A0_3 l0_3.length l0_3) (hc0_3 : l0_3.length ≤ c0_3) (hr0_4 : Kd.C k25 w A0_4 l0_4.length l0_4) (hc0_4 : l0_4.length ≤ c0_4) (hr1 : Kd.C (Kd.int .i64) w A1 l1.length l1) (hc1 : l1.length ≤ c1) (hr2 : Kd.C Kd.string w A2 l2.length l2) (hc2 : l2.length ≤ c2) (h : impl_FindAll.f k a0_0 a0_1 a0_2 l0_3 l0_4 l1 l2 = some (r1, r2)) :
    Calls Try.prog 19 #[.agg #[.int .i64 a0_0, .string a0_1, .string a0_2, .slice A0_3 l0_3.length c0_3, .slice A0_4 l0_4.length c0_4], .slice A1 l1.length c1, .slice A2 l2.length c2] w fun e w' => ∃ v0_ : Value, e = .returned (.tuple #[v0_, .bool r2]) ∧ Kd.N (Kd.slice 3 (Kd.int .i64)) 32 w' w.heap.size (fun k_ => w.heap.size ≤ k_) v0_ r1 ∧ Below w.heap.size w w' := by
  obtain ⟨hb, hfit, hl, hk, hr⟩ : laws_tree29.f k a0_0 a0_1 a0_2 l0_3 l0_4 = some true ∧ fitB k ⟨a0_0, a0_1, a0_2, l0_3, l0_4⟩ = true ∧ l1.length ≤ 4398046510976 ∧ l2.length ≤ 4398046510976 ∧ (foundT ⟨a0_0, a0_1, a0_2, l0_3, l0_4⟩ l1 l2, (atT ⟨a0_0, a0_1, a0_2, l0_3, l0_4⟩ l1).isSome) = (r1, r2) := by
    unfold impl_FindAll.f at h
    obtain ⟨b, hb, h2⟩ := Option.bind_eq_some_iff.1 h
    split at h2
    case isFalse => cases h2
    rename_i hbt
    obtain ⟨rfl, h3, h4, h5⟩ := hbt
    exact ⟨hb, h3, h4, h5, Option.some.inj h2⟩
  have ht := fitB_fit _ _ hfit
  obtain ⟨hn, hc, _⟩ := tree_norm (t := ⟨a0_0, a0_1, a0_2, l0_3, l0_4⟩) ht hb
  have hw := fall_walk ⟨a0_0, a0_1, a0_2, l0_3, l0_4⟩ hn hc ht l1 l2 w A0_3 c0_3 A0_4 c0_4 A1 c1 A2 c2 hr0_3 hc0_3 hr0_4 hc0_4 hr1 hl hr2 hk
  injection hr with e1 e2
  rw [e1, e2] at hw
  exact hw

def impl_Contains.f (k : Nat) (a0_0 : Int) (a0_1 : ByteArray) (a0_2 : ByteArray) (l0_3 : List (S78)) (l0_4 : List (S25)) (l1 : List Int) (l2 : List ByteArray) : Option (Bool) :=
  (laws_tree29.f k a0_0 a0_1 a0_2 l0_3 l0_4).bind fun b => if b = true ∧ fitB k ⟨a0_0, a0_1, a0_2, l0_3, l0_4⟩ = true ∧ l1.length ≤ 4398046510976 ∧ l2.length ≤ 4398046510976 then some ((foundT ⟨a0_0, a0_1, a0_2, l0_3, l0_4⟩ l1 l2).head?.isSome) else none
theorem impl_Contains.mono : ∀ a0 a1 a2 a3 a4 a5 a6 k, LeO (impl_Contains.f k a0 a1 a2 a3 a4 a5 a6) (impl_Contains.f (k + 1) a0 a1 a2 a3 a4 a5 a6) := by
  intro a0 a1 a2 a3 a4 a5 a6 k
  unfold impl_Contains.f
  refine LeO.bind (laws_tree29.mono _ _ _ _ _ _) (fun b => ?_)
  by_cases hb : b = true ∧ fitB k ⟨a0, a1, a2, a3, a4⟩ = true ∧ a5.length ≤ 4398046510976 ∧ a6.length ≤ 4398046510976
  · rw [if_pos hb, if_pos ⟨hb.1, fitB_mono _ _ hb.2.1, hb.2.2⟩]
    exact LeO.refl _
  · rw [if_neg hb]
    exact LeO.none _
theorem impl_Contains.calls (k : Nat) (a0_0 : Int) (a0_1 : ByteArray) (a0_2 : ByteArray) (A0_3 : Option Addr) (c0_3 : Nat) (l0_3 : List (S78)) (A0_4 : Option Addr) (c0_4 : Nat) (l0_4 : List (S25)) (A1 : Option Addr) (c1 : Nat) (l1 : List Int) (A2 : Option Addr) (c2 : Nat) (l2 : List ByteArray) (r1 : Bool) (w : World) (hr0_3 : Kd.C k78 w A0_3 l0_3.length l0_3) (hc0_3 : l0_3.length ≤ c0_3) (hr0_4 : Kd.C k25 w A0_4 l0_4.length l0_4) (hc0_4 : l0_4.length ≤ c0_4) (hr1 : Kd.C (Kd.int .i64) w A1 l1.length l1) (hc1 : l1.length ≤ c1) (hr2 : Kd.C Kd.string w A2 l2.length l2) (hc2 : l2.length ≤ c2) (h : impl_Contains.f k a0_0 a0_1 a0_2 l0_3 l0_4 l1 l2 = some r1) :
    Calls Try.prog 21 #[.agg #[.int .i64 a0_0, .string a0_1, .string a0_2, .slice A0_3 l0_3.length c0_3, .slice A0_4 l0_4.length c0_4], .slice A1 l1.length c1, .slice A2 l2.length c2] w fun e w' => e = .returned (.bool r1) ∧ Below w.heap.size w w' := by
  obtain ⟨hb, hfit, hl, hk, hr⟩ : laws_tree29.f k a0_0 a0_1 a0_2 l0_3 l0_4 = some true ∧ fitB k ⟨a0_0, a0_1, a0_2, l0_3, l0_4⟩ = true ∧ l1.length ≤ 4398046510976 ∧ l2.length ≤ 4398046510976 ∧ ((foundT ⟨a0_0, a0_1, a0_2, l0_3, l0_4⟩ l1 l2).head?.isSome) = r1 := by
    unfold impl_Contains.f at h
    obtain ⟨b, hb, h2⟩ := Option.bind_eq_some_iff.1 h
    split at h2
    case isFalse => cases h2
    rename_i hbt
    obtain ⟨rfl, h3, h4, h5⟩ := hbt
    exact ⟨hb, h3, h4, h5, Option.some.inj h2⟩
  have ht := fitB_fit _ _ hfit
  obtain ⟨hn, hc, _⟩ := tree_norm (t := ⟨a0_0, a0_1, a0_2, l0_3, l0_4⟩) ht hb
  have hw := contains_walk ⟨a0_0, a0_1, a0_2, l0_3, l0_4⟩ hn hc ht l1 l2 w A0_3 c0_3 A0_4 c0_4 A1 c1 A2 c2 hr0_3 hc0_3 hr0_4 hc0_4 hr1 hl hr2 hk
  rw [hr] at hw
  exact hw
end Go.Proofs.Ytibfoaahdbdogaa.PDom

/- Printed by the program extprint.py of this session, out of the kit's print and contracts of this session's own; Lean checks it. -/
namespace Go.Proofs.Ytibfoaahdbdogaa.PDom
open Go.RowKit Go.Proofs.YtibfoaahdbdogaaW.PrintWords Go.Proofs.YtibfoaahdbdogaaW.PrintLast Go.Proofs.YtibfoaahdbdogaaW.PrintMore
attribute [local go_sem] max2_int min2_int max_two min_two max_three min_three max_four min_four   -- for this text's walks alone
set_option linter.unusedVariables false
set_option linter.unusedSimpArgs false


/-! ### spec_Walk29: function 14 -/
mutual
def spec_Walk29.l0 : Nat → List Int → List (List Int) → List (S25) → Int → Int → Option ((List (List Int)))
  | 0, _, _, _, _, _ => none
  | k + 1, x1, x5, x11, x12, x13 => if x13 < x12 then (if 0 ≤ x13 then (if x13 < (x11.length : Int) then ((spec_Under29.f x1 x13).bind fun t154 => ((spec_Walk29.f k ((rd_T25 x11 x13).f0) ((rd_T25 x11 x13).f1) ((rd_T25 x11 x13).f2) ((rd_T25 x11 x13).f3) ((rd_T25 x11 x13).f4) t154).bind fun t157 => (if x5.length + t157.length < 5864062014805 then (spec_Walk29.l0 k x1 (x5 ++ t157) x11 x12 (wrap64 (x13 + 1))) else (none)))) else (none)) else (none)) else (some x5)
def spec_Walk29.f : Nat → Int → ByteArray → ByteArray → List (S78) → List (S25) → List Int → Option ((List (List Int)))
  | 0, _, _, _, _, _, _ => none
  | k + 1, a0_0, a0_1, a0_2, l0_3, l0_4, l1 => spec_Walk29.l0 k l1 (([l1] : List (List Int))) l0_4 (l0_4.length : Int) 0
end
theorem spec_Walk29.mono_l : ∀ k, (∀ y0 y1 y2 y3 y4 y5, LeO (spec_Walk29.f k y0 y1 y2 y3 y4 y5) (spec_Walk29.f (k + 1) y0 y1 y2 y3 y4 y5)) ∧ (∀ y0 y1 y2 y3 y4, LeO (spec_Walk29.l0 k y0 y1 y2 y3 y4) (spec_Walk29.l0 (k + 1) y0 y1 y2 y3 y4))
  | 0 => ⟨fun _ _ _ _ _ _ r h => by simp [spec_Walk29.f] at h, fun _ _ _ _ _ r h => by simp [spec_Walk29.l0] at h⟩
  | k + 1 => by
    obtain ⟨ih0, ih1⟩ := spec_Walk29.mono_l k
    refine ⟨?_, ?_⟩
    · intro y0 y1 y2 y3 y4 y5
      unfold spec_Walk29.f
      repeat' first
      | (with_reducible exact ih0 _ _ _ _ _ _)
      | (with_reducible exact ih1 _ _ _ _ _)
      | (with_reducible exact LeO.refl _)
      | (with_reducible exact LeO.none _)
      | (with_reducible refine LeO.ite ?_ ?_)
      | (with_reducible refine LeO.bind ?_ (fun _ => ?_))
      | exact ih0 _ _ _ _ _ _
      | exact ih1 _ _ _ _ _
      | exact LeO.none _
      | refine LeO.ite ?_ ?_
      | refine LeO.bind ?_ (fun _ => ?_)
    · intro y0 y1 y2 y3 y4
      unfold spec_Walk29.l0
      repeat' first
      | (with_reducible exact ih0 _ _ _ _ _ _)
      | (with_reducible exact ih1 _ _ _ _ _)
      | (with_reducible exact LeO.refl _)
      | (with_reducible exact LeO.none _)
      | (with_reducible refine LeO.ite ?_ ?_)
      | (with_reducible refine LeO.bind ?_ (fun _ => ?_))
      | exact ih0 _ _ _ _ _ _
      | exact ih1 _ _ _ _ _
      | exact LeO.none _
      | refine LeO.ite ?_ ?_
      | refine LeO.bind ?_ (fun _ => ?_)
theorem spec_Walk29.mono : ∀ a0 a1 a2 a3 a4 a5 k, LeO (spec_Walk29.f k a0 a1 a2 a3 a4 a5) (spec_Walk29.f (k + 1) a0 a1 a2 a3 a4 a5) := by
  intro a0 a1 a2 a3 a4 a5 k
  obtain ⟨ih0, ih1⟩ := spec_Walk29.mono_l k
  exact ih0 a0 a1 a2 a3 a4 a5
def spec_Walk29.T5 : Bool × List (List Nat × List Nat) := (true, [([], []), ([], []), ([], []), ([], []), ([2, 3], [2, 3]), ([1, 4, 4], [1, 4]), ([0, 5, 5], [0, 5]), ([6, 6, 0, 1, 2, 3, 4, 5, 6], [0, 6])])
def spec_Walk29.B5 : List Nat := [0, 0, 0, 0, 12, 30, 63, 127]
theorem spec_Walk29.tab5 : rtab .any (opsOf Try.f14 5) = spec_Walk29.T5 := by kernel_rfl
theorem spec_Walk29.bits5 : waitsOk spec_Walk29.T5.2 spec_Walk29.B5 = true := by kernel_rfl
set_option maxHeartbeats 8000000 in
set_option maxRecDepth 100000 in
theorem spec_Walk29.calls (k : Nat) : ∀ (a0_0 : Int) (a0_1 : ByteArray) (a0_2 : ByteArray) (A0_3 : Option Addr) (c0_3 : Nat) (l0_3 : List (S78)) (A0_4 : Option Addr) (c0_4 : Nat) (l0_4 : List (S25)) (P1_ : Nat → Prop) (A1 : Option Addr) (c1 : Nat) (l1 : List Int) (r : List (List Int)) (w : World) (hr0_3 : Kd.C k78 w A0_3 l0_3.length l0_3) (hc0_3 : l0_3.length ≤ c0_3) (hr0_4 : Kd.C k25 w A0_4 l0_4.length l0_4) (hc0_4 : l0_4.length ≤ c0_4) (hs1 : Kd.V (Kd.int .i64) 3 w w.heap.size (fun k_ => P1_ k_) (.slice A1 l1.length c1) l1) (h : spec_Walk29.f k a0_0 a0_1 a0_2 l0_3 l0_4 l1 = some r),
    Calls Try.prog 14 #[.agg #[.int .i64 a0_0, .string a0_1, .string a0_2, .slice A0_3 l0_3.length c0_3, .slice A0_4 l0_4.length c0_4], .slice A1 l1.length c1] w fun e w' => ∃ v0_ : Value, e = .returned (v0_) ∧ Kd.N (Kd.slice 3 (Kd.int .i64)) 32 w' w.heap.size (fun k_ => (P1_ k_ ∨ w.heap.size ≤ k_)) v0_ r ∧ Below w.heap.size w w' := by
  induction k using Nat.strongRecOn with
  | _ k ih =>
  intro a0_0 a0_1 a0_2 A0_3 c0_3 l0_3 A0_4 c0_4 l0_4 P1_ A1 c1 l1 r w hr0_3 hc0_3 hr0_4 hc0_4 hs1 h
  cases k with
  | zero => exact absurd h (by simp [spec_Walk29.f])
  | succ k =>
  simp only [spec_Walk29.f] at h
  have hu25 := Try.underlying25
  have HR0_3 := Aside0.mk hr0_3
  have HC0_3 := Aside0.mk hc0_3
  clear hr0_3 hc0_3
  have HR0_4 := Aside0.mk hr0_4
  have HC0_4 := Aside0.mk hc0_4
  clear hr0_4 hc0_4
  have HO1 := Aside0.mk (show Kd.V (Kd.int .i64) 3 w w.heap.size (fun k_ => (P1_ k_ ∨ w.heap.size ≤ k_)) (.slice A1 l1.length c1) l1 from Kd.V_mono hs1 (fun k_ hk => .inl hk))
  have HB := Aside0.mk (Below.refl w.heap.size w)
  have H : (spec_Walk29.l0 k l1 (([l1] : List (List Int))) l0_4 (l0_4.length : Int) 0) = some r := h
  clear h
  obtain ⟨y149, hy149⟩ : ∃ y_ : List (List Int), y_ = (([l1] : List (List Int))) := ⟨_, rfl⟩
  replace H : (spec_Walk29.l0 k l1 y149 l0_4 (l0_4.length : Int) 0) = some r := by first | (rw [hy149]; with_reducible exact H) | (have H2_ := (Option.bind_some _ _).symm.trans H; rw [hy149]; with_reducible exact H2_) | (have H2_ := (Option.bind_some _ _).symm.trans H; with_reducible exact H2_) | with_reducible exact H | (rw [hy149]; exact H) | exact H
  have Ny149 := Aside0.mk hy149
  clear hy149
  have H' := Aside0.mk H
  clear H
  go_enter Try.func14, Try.ntmps14
  go_wp2_with (first | ((with_reducible refine gate_dst (N := 2) rfl ?_); refine box_event ?hg (N := 2) ?hd (cs := #[.int .i64 a0_0, .string a0_1, .string a0_2, .slice A0_3 l0_3.length c0_3, .slice A0_4 l0_4.length c0_4]) (t := 25) ?hr ?_; (case hd => rfl); (case hg => rfl); (case hr => first | (go_simp; done) | (go_simp; rfl)); intro gb148 hg w3 hbox hb; have n0_ := Aside0.mk (Kd.V_below (Kd.V_elderB (by (with_reducible repeat (first | apply Kd.V_alloc | apply Kd.V_drewN | apply Kd.V_drew)); exact HO1.out) gb148 (Nat.le_of_eq hg.symm)) hb); have n1_ := Aside0.mk (below_step (by repeat (first | (with_reducible first | exact HB.out | apply below_alloc | apply pw_below_drewN | apply below_drew1) | exact HB.out)) hb); have n2_ := Aside0.mk (hbox); have n3_ := Aside0.mk ((by rw [hg]; exact (below_size (by repeat (first | (with_reducible first | exact HB.out | apply below_alloc | apply pw_below_drewN | apply below_drew1) | exact HB.out))) : w.heap.size ≤ gb148)); have n4_ := Aside0.mk ((by rw [hg]; exact (below_size (by repeat (first | (with_reducible first | exact HB.out | apply below_alloc | apply pw_below_drewN | apply below_drew1) | exact HB.out))) : w.heap.size ≤ gb148)); clear HO1; clear HB; have HO1 := n0_; have HB := n1_; have BK148 := n2_; have GW148 := n3_; have GE148 := n4_; clear n0_ n1_ n2_ n3_ n4_; clear hb hbox hg) | ((with_reducible refine gate_dst (N := 9) rfl ?_); refine Kd.N_lit (Kd.slice 3 (Kd.int .i64)) _ 32 ?hg (N' := 9) ?hd (xs := ([l1] : List (List Int))) (inner := [.slice A1 l1.length c1]) (ok := (fun k_ => (P1_ k_ ∨ w.heap.size ≤ k_) ∧ k_ ≠ gb148)) (okp := (fun k_ => (P1_ k_ ∨ w.heap.size ≤ k_) ∧ k_ ≠ gb148)) ?hr ?hp (fun _ hk => hk) ((show ∀ k_, w3.heap.size ≤ k_ → (fun k_ => (P1_ k_ ∨ w.heap.size ≤ k_) ∧ k_ ≠ gb148) k_ from fun k_ hk => ⟨(.inr (Nat.le_trans (below_size (by repeat (first | (with_reducible first | exact HB.out | apply below_alloc | apply pw_below_drewN | apply below_drew1 | refine below_set ?_ GE148.out) | exact HB.out))) hk)), Kd.freshB (g := gb148) (o := .cells #[.int .i64 a0_0, .string a0_1, .string a0_2, .slice A0_3 l0_3.length c0_3, .slice A0_4 l0_4.length c0_4] 25 (0, 0)) (by (with_reducible repeat (first | refine blk_drewN ?_ _ | refine blk_drew ?_ | refine blk_alloc ?_ _)); exact BK148.out) k_ hk⟩) _ (Nat.le_refl _)) (Below.refl _ _) (Nat.le_refl _) (by simp) ?_; (case hd => rfl); (case hg => rfl); (case hr => first | (go_simp; done) | (go_simp; rfl)); (case hp => exact (Reps.one (show Kd.FK (Kd.slice 3 (Kd.int .i64)) _ _ l1 [.slice A1 l1.length c1] from (Kd.FK_slice_mk (Kd.V_reads' (Kd.V_mono (ok' := (fun k_ => (P1_ k_ ∨ w.heap.size ≤ k_) ∧ k_ ≠ gb148)) (HO1.out) (fun k_ hk => ⟨hk.1, hk.2⟩))).2.1 (Kd.V_F (Kd.V_mono (ok' := (fun k_ => (P1_ k_ ∨ w.heap.size ≤ k_) ∧ k_ ≠ gb148)) (HO1.out) (fun k_ hk => ⟨hk.1, hk.2⟩))))) (Reps.none _ _))); intro v150 w4 ho5 hb hg_ hnew_; clear hg_ hnew_; (first | rw [← Ny149.out] at ho5 | (simp only [Int.reduceToNat] at ho5; rw [← Ny149.out] at ho5)); have n0_ := Aside0.mk (Kd.V_elder' (by (with_reducible repeat (first | apply Kd.V_alloc | apply Kd.V_drewN | apply Kd.V_drew)); exact HO1.out) (Kd.N_base ho5) hb); have n1_ := Aside0.mk (Kd.N_lower ho5 (below_size (by repeat (first | (with_reducible first | exact HB.out | apply below_alloc | apply pw_below_drewN | apply below_drew1 | refine below_set ?_ GE148.out) | exact HB.out)))); have n2_ := Aside0.mk (blk_below (g := gb148) (o := .cells #[.int .i64 a0_0, .string a0_1, .string a0_2, .slice A0_3 l0_3.length c0_3, .slice A0_4 l0_4.length c0_4] 25 (0, 0)) (by (with_reducible repeat (first | refine blk_drewN ?_ _ | refine blk_drew ?_ | refine blk_alloc ?_ _)); exact BK148.out) hb); have n3_ := Aside0.mk (below_step (by repeat (first | (with_reducible first | exact HB.out | apply below_alloc | apply pw_below_drewN | apply below_drew1 | refine below_set ?_ GE148.out) | exact HB.out)) hb); clear HO1; clear BK148; clear HB; have HO1 := n0_; have HO151 := n1_; have BK148 := n2_; have HB := n3_; clear n0_ n1_ n2_ n3_; clear hb ho5; have hcz6_0 : w4.cell? ⟨gb148, 0, none⟩ = some (.int .i64 a0_0) := (blk_cell BK148.out 0).trans rfl; have hcz6_1 : w4.cell? ⟨gb148, 1, none⟩ = some (.string a0_1) := (blk_cell BK148.out 1).trans rfl; have hcz6_2 : w4.cell? ⟨gb148, 2, none⟩ = some (.string a0_2) := (blk_cell BK148.out 2).trans rfl; have hcz6_3 : w4.cell? ⟨gb148, 3, none⟩ = some (.slice A0_3 l0_3.length c0_3) := (blk_cell BK148.out 3).trans rfl; have hcz6_4 : w4.cell? ⟨gb148, 4, none⟩ = some (.slice A0_4 l0_4.length c0_4) := (blk_cell BK148.out 4).trans rfl; have hfz6_0 := blk_frozen BK148.out 0; have hfz6_1 := blk_frozen BK148.out 1; have hfz6_2 := blk_frozen BK148.out 2; have hfz6_3 := blk_frozen BK148.out 3; have hfz6_4 := blk_frozen BK148.out 4))
  go_loopg [5, 13] k (fun kq v5 v13 w' => ∃ (x5_1 : List (List Int)) (x13_1 : Int), v13 = .int .i64 x13_1 ∧ Aside0 (spec_Walk29.l0 kq l1 x5_1 l0_4 (l0_4.length : Int) x13_1 = some r) ∧ Aside0 (kq ≤ k) ∧ Aside0 (Kd.V (Kd.int .i64) 3 w' w.heap.size (fun k_ => (P1_ k_ ∨ w.heap.size ≤ k_) ∧ some k_ ≠ (v5 : Value).ownBlock ∧ k_ ≠ gb148) (.slice A1 l1.length c1) l1) ∧ Aside0 (Kd.N (Kd.slice 3 (Kd.int .i64)) 32 w' w.heap.size (fun k_ => (P1_ k_ ∨ w.heap.size ≤ k_) ∧ k_ ≠ gb148) v5 x5_1) ∧ Aside0 (w'.heap[gb148]? = some (.cells #[.int .i64 a0_0, .string a0_1, .string a0_2, (.slice A0_3 l0_3.length c0_3), (.slice A0_4 l0_4.length c0_4)] 25 (0, 0))) ∧ Aside0 (Below w.heap.size w w'))
  case atStart => exact ⟨(y149), (0), (by first | rfl | (simp; done) | (simp [*]; done)), H', ⟨Nat.le_refl _⟩, ⟨by (with_reducible repeat (first | apply Kd.V_alloc | apply Kd.V_drewN | apply Kd.V_drew)); exact Kd.V_mono HO1.out (fun _ hk => ⟨hk.1.1, ⟨hk.2, hk.1.2⟩⟩)⟩, ⟨by (with_reducible repeat (first | apply Kd.N_alloc | apply Kd.N_drewN | apply Kd.N_drew)); exact HO151.out⟩, ⟨by (with_reducible repeat (first | refine blk_drewN ?_ _ | refine blk_drew ?_ | refine blk_alloc ?_ _)); exact BK148.out⟩, ⟨by repeat (first | (with_reducible first | exact HB.out | apply below_alloc | apply pw_below_drewN | apply below_drew1 | refine below_set ?_ GE148.out) | exact HB.out)⟩⟩
  case round =>
    clear H'
    try clear c1
    try clear p2
    try clear hcz6_0
    try clear hcz6_1
    try clear hcz6_2
    try clear hcz6_3
    try clear hcz6_4
    try clear hfz6_0
    try clear hfz6_1
    try clear hfz6_2
    try clear hfz6_3
    try clear hfz6_4
    obtain ⟨x5_1, x13_1, rfl, HA, HK1, HO_1, HO_5, BK148, HB⟩ := hrel
    cases gk with
    | zero => exact absurd HA.out (by simp [spec_Walk29.l0])
    | succ k1 =>
      have H := HA.out
      clear HA
      simp only [spec_Walk29.l0] at H
      by_cases c7 : x13_1 < (l0_4.length : Int)
      · rw [if_pos c7] at H
        have c7b0 : decide (x13_1 < (l0_4.length : Int)) = true := decide_eq_true c7
        clear c7
        by_cases c8 : 0 ≤ x13_1
        · rw [if_pos c8] at H
          have c8b0 : decide (0 ≤ x13_1) = true := decide_eq_true c8
          clear c8
          by_cases c9 : x13_1 < (l0_4.length : Int)
          · rw [if_pos c9] at H
            have c9b0 : decide (x13_1 < (l0_4.length : Int)) = true := decide_eq_true c9
            clear c9
            replace H := Option.bind_eq_some_iff.mp H
            obtain ⟨t154, A100, H⟩ := H
            replace H : ((spec_Walk29.f k1 ((rd_T25 l0_4 x13_1).f0) ((rd_T25 l0_4 x13_1).f1) ((rd_T25 l0_4 x13_1).f2) ((rd_T25 l0_4 x13_1).f3) ((rd_T25 l0_4 x13_1).f4) t154).bind fun t157 => (if x5_1.length + t157.length < 5864062014805 then (spec_Walk29.l0 k1 l1 (x5_1 ++ t157) l0_4 (l0_4.length : Int) (wrap64 (x13_1 + 1))) else (none))) = some r := H
            have A10 := Aside0.mk A100
            clear A100
            replace H := Option.bind_eq_some_iff.mp H
            obtain ⟨t157, A110, H⟩ := H
            replace H : (if x5_1.length + t157.length < 5864062014805 then (spec_Walk29.l0 k1 l1 (x5_1 ++ t157) l0_4 (l0_4.length : Int) (wrap64 (x13_1 + 1))) else (none)) = some r := H
            have A11 := Aside0.mk A110
            clear A110
            by_cases c12 : x5_1.length + t157.length < 5864062014805
            · rw [if_pos c12] at H
              have LMc12 := Aside0.mk c12
              clear c12
              obtain ⟨y160, hy160⟩ : ∃ y_ : List (List Int), y_ = (x5_1 ++ t157) := ⟨_, rfl⟩
              replace H : (spec_Walk29.l0 k1 l1 y160 l0_4 (l0_4.length : Int) (wrap64 (x13_1 + 1))) = some r := by first | (rw [hy160]; with_reducible exact H) | (have H2_ := (Option.bind_some _ _).symm.trans H; rw [hy160]; with_reducible exact H2_) | (have H2_ := (Option.bind_some _ _).symm.trans H; with_reducible exact H2_) | with_reducible exact H | (rw [hy160]; exact H) | exact H
              have Ny160 := Aside0.mk hy160
              clear hy160
              have H' := Aside0.mk H
              clear H
              have p152 : 0 ≤ (x13_1 : Int) := of_decide_eq_true (by first | (with_reducible assumption) | assumption)
              have q152 : x13_1 < (l0_4.length : Int) := of_decide_eq_true (by first | (with_reducible assumption) | assumption)
              obtain ⟨ad152, A152_3, c152_3, A152_4, c152_4, e152, hx152_0, hx152_1, hx152_2, hx152_3, hx152_4, hl152_3, hi152_3, hl152_4, hi152_4⟩ := at_T25 HR0_4.out x13_1 p152 q152
              cases e152
              replace hx152_0 := (HB.out.cell (World.block_lt_of_cell? w _ hx152_0)).trans hx152_0
              replace hx152_1 := (HB.out.cell (World.block_lt_of_cell? w _ hx152_1)).trans hx152_1
              replace hx152_2 := (HB.out.cell (World.block_lt_of_cell? w _ hx152_2)).trans hx152_2
              replace hx152_3 := (HB.out.cell (World.block_lt_of_cell? w _ hx152_3)).trans hx152_3
              replace hx152_4 := (HB.out.cell (World.block_lt_of_cell? w _ hx152_4)).trans hx152_4
              have HR152_3 := Aside0.mk hi152_3
              have HC152_3 := Aside0.mk hl152_3
              clear hi152_3 hl152_3
              have HR152_4 := Aside0.mk hi152_4
              have HC152_4 := Aside0.mk hl152_4
              clear hi152_4 hl152_4
              replace p152 := eq_true p152
              replace q152 := eq_true q152
              try go_wp2_with (first | ((with_reducible refine gate_dst (N := 7) rfl ?_); refine box_event ?hg (N := 7) ?hd (cs := #[.int .i64 0, .string (⟨#[]⟩ : ByteArray), .string (⟨#[]⟩ : ByteArray), .slice none 0 0, .slice none 0 0]) (t := 25) ?hr ?_; (case hd => rfl); (case hg => rfl); (case hr => first | (go_simp; done) | (go_simp; rfl)); intro gb153 hg w13 hbox hb; have n0_ := Aside0.mk (Kd.V_below (Kd.V_elderB (by (with_reducible repeat (first | apply Kd.V_alloc | apply Kd.V_drewN | apply Kd.V_drew)); exact HO_1.out) gb153 (Nat.le_of_eq hg.symm)) hb); have n1_ := Aside0.mk (Kd.N_below (Kd.N_elderB (by (with_reducible repeat (first | apply Kd.N_alloc | apply Kd.N_drewN | apply Kd.N_drew)); exact HO_5.out) gb153 (Nat.le_of_eq hg.symm)) hb); have n2_ := Aside0.mk (blk_below (g := gb148) (o := .cells #[.int .i64 a0_0, .string a0_1, .string a0_2, .slice A0_3 l0_3.length c0_3, .slice (some ad152) l0_4.length c0_4] 25 (0, 0)) (by (with_reducible repeat (first | refine blk_drewN ?_ _ | refine blk_drew ?_ | refine blk_alloc ?_ _)); exact BK148.out) hb); have n3_ := Aside0.mk (below_step (by repeat (first | (with_reducible first | exact HB.out | apply below_alloc | apply pw_below_drewN | apply below_drew1 | refine below_set ?_ GE148.out) | exact HB.out)) hb); have n4_ := Aside0.mk (hbox); have n5_ := Aside0.mk ((by rw [hg]; exact (below_size (by repeat (first | (with_reducible first | exact HB.out | apply below_alloc | apply pw_below_drewN | apply below_drew1 | refine below_set ?_ GE148.out) | exact HB.out))) : w.heap.size ≤ gb153)); have n6_ := Aside0.mk ((by rw [hg]; exact (below_size (by repeat (first | (with_reducible first | exact HB.out | apply below_alloc | apply pw_below_drewN | apply below_drew1 | refine below_set ?_ GE148.out) | exact HB.out))) : w.heap.size ≤ gb153)); have n7_ := Aside0.mk ((by rw [hg]; exact Nat.ne_of_lt (blk_lt (g := gb148) (o := .cells #[.int .i64 a0_0, .string a0_1, .string a0_2, .slice A0_3 l0_3.length c0_3, .slice (some ad152) l0_4.length c0_4] 25 (0, 0)) (by (with_reducible repeat (first | refine blk_drewN ?_ _ | refine blk_drew ?_ | refine blk_alloc ?_ _)); exact BK148.out)) : gb148 ≠ gb153)); have n8_ := Aside0.mk ((by rw [hg]; exact Nat.ne_of_gt (blk_lt (g := gb148) (o := .cells #[.int .i64 a0_0, .string a0_1, .string a0_2, .slice A0_3 l0_3.length c0_3, .slice (some ad152) l0_4.length c0_4] 25 (0, 0)) (by (with_reducible repeat (first | refine blk_drewN ?_ _ | refine blk_drew ?_ | refine blk_alloc ?_ _)); exact BK148.out)) : gb153 ≠ gb148)); clear HO_1; clear HO_5; clear BK148; clear HB; have HO_1 := n0_; have HO_5 := n1_; have BK148 := n2_; have HB := n3_; have BK153 := n4_; have GW153 := n5_; have GE153 := n6_; have NB148_153 := n7_; have NB153_148 := n8_; clear n0_ n1_ n2_ n3_ n4_ n5_ n6_ n7_ n8_; clear hb hbox hg; have hnb14 := NB153_148.out; have hnc14 := NB148_153.out; have hcz15_0 : w13.cell? ⟨gb153, 0, none⟩ = some (.int .i64 0) := (blk_cell BK153.out 0).trans rfl; have hcz15_1 : w13.cell? ⟨gb153, 1, none⟩ = some (.string (⟨#[]⟩ : ByteArray)) := (blk_cell BK153.out 1).trans rfl; have hcz15_2 : w13.cell? ⟨gb153, 2, none⟩ = some (.string (⟨#[]⟩ : ByteArray)) := (blk_cell BK153.out 2).trans rfl; have hcz15_3 : w13.cell? ⟨gb153, 3, none⟩ = some (.slice none 0 0) := (blk_cell BK153.out 3).trans rfl; have hcz15_4 : w13.cell? ⟨gb153, 4, none⟩ = some (.slice none 0 0) := (blk_cell BK153.out 4).trans rfl; have hfz15_0 := blk_frozen BK153.out 0; have hfz15_1 := blk_frozen BK153.out 1; have hfz15_2 := blk_frozen BK153.out 2; have hfz15_3 := blk_frozen BK153.out 3; have hfz15_4 := blk_frozen BK153.out 4))
              have n0_ : Aside0 (Kd.V (Kd.int .i64) 3 (((((w13.setCell ⟨gb153, 0, none⟩ (.int .i64 ((rd_T25 l0_4 x13_1).f0))).setCell ⟨gb153, 1, none⟩ (.string ((rd_T25 l0_4 x13_1).f1))).setCell ⟨gb153, 2, none⟩ (.string ((rd_T25 l0_4 x13_1).f2))).setCell ⟨gb153, 3, none⟩ (.slice A152_3 ((rd_T25 l0_4 x13_1).f3).length c152_3)).setCell ⟨gb153, 4, none⟩ (.slice A152_4 ((rd_T25 l0_4 x13_1).f4).length c152_4)) w.heap.size (fun k_ => (P1_ k_ ∨ w.heap.size ≤ k_) ∧ some k_ ≠ (u5 : Value).ownBlock ∧ k_ ≠ gb148 ∧ k_ ≠ gb153) (.slice A1 l1.length c1) l1) := ⟨by (with_reducible repeat (first | apply Kd.V_alloc | apply Kd.V_drewN | apply Kd.V_drew)); exact Kd.V_mono (Kd.V_far (p := ⟨gb153, 4, none⟩) (Kd.V_far (p := ⟨gb153, 3, none⟩) (Kd.V_far (p := ⟨gb153, 2, none⟩) (Kd.V_far (p := ⟨gb153, 1, none⟩) (Kd.V_far (p := ⟨gb153, 0, none⟩) (Kd.V_mono HO_1.out (fun k_ hk => (⟨hk, hk.2⟩ : _ ∧ k_ ≠ gb153))) (fun _ hk => hk.2) (.int .i64 ((rd_T25 l0_4 x13_1).f0))) (fun _ hk => hk.2) (.string ((rd_T25 l0_4 x13_1).f1))) (fun _ hk => hk.2) (.string ((rd_T25 l0_4 x13_1).f2))) (fun _ hk => hk.2) (.slice A152_3 ((rd_T25 l0_4 x13_1).f3).length c152_3)) (fun _ hk => hk.2) (.slice A152_4 ((rd_T25 l0_4 x13_1).f4).length c152_4)) (fun _ hk => ⟨hk.1.1.1, ⟨hk.1.1.2.1, ⟨hk.1.1.2.2, hk.1.2⟩⟩⟩)⟩
              have n1_ : Aside0 (Kd.N (Kd.slice 3 (Kd.int .i64)) 32 (((((w13.setCell ⟨gb153, 0, none⟩ (.int .i64 ((rd_T25 l0_4 x13_1).f0))).setCell ⟨gb153, 1, none⟩ (.string ((rd_T25 l0_4 x13_1).f1))).setCell ⟨gb153, 2, none⟩ (.string ((rd_T25 l0_4 x13_1).f2))).setCell ⟨gb153, 3, none⟩ (.slice A152_3 ((rd_T25 l0_4 x13_1).f3).length c152_3)).setCell ⟨gb153, 4, none⟩ (.slice A152_4 ((rd_T25 l0_4 x13_1).f4).length c152_4)) w.heap.size (fun k_ => (P1_ k_ ∨ w.heap.size ≤ k_) ∧ k_ ≠ gb148 ∧ k_ ≠ gb153) u5 x5_1) := ⟨by (with_reducible repeat (first | apply Kd.N_alloc | apply Kd.N_drewN | apply Kd.N_drew)); exact Kd.N_mono (Kd.N_far (p := ⟨gb153, 4, none⟩) (Kd.N_far (p := ⟨gb153, 3, none⟩) (Kd.N_far (p := ⟨gb153, 2, none⟩) (Kd.N_far (p := ⟨gb153, 1, none⟩) (Kd.N_far (p := ⟨gb153, 0, none⟩) (Kd.N_mono HO_5.out (fun k_ hk => (⟨hk, hk.2⟩ : _ ∧ k_ ≠ gb153))) (fun _ hk => hk.2) (.int .i64 ((rd_T25 l0_4 x13_1).f0))) (fun _ hk => hk.2) (.string ((rd_T25 l0_4 x13_1).f1))) (fun _ hk => hk.2) (.string ((rd_T25 l0_4 x13_1).f2))) (fun _ hk => hk.2) (.slice A152_3 ((rd_T25 l0_4 x13_1).f3).length c152_3)) (fun _ hk => hk.2) (.slice A152_4 ((rd_T25 l0_4 x13_1).f4).length c152_4)) (fun _ hk => ⟨hk.1.1.1, ⟨hk.1.1.2, hk.1.2⟩⟩)⟩
              have n2_ : Aside0 ((((((w13.setCell ⟨gb153, 0, none⟩ (.int .i64 ((rd_T25 l0_4 x13_1).f0))).setCell ⟨gb153, 1, none⟩ (.string ((rd_T25 l0_4 x13_1).f1))).setCell ⟨gb153, 2, none⟩ (.string ((rd_T25 l0_4 x13_1).f2))).setCell ⟨gb153, 3, none⟩ (.slice A152_3 ((rd_T25 l0_4 x13_1).f3).length c152_3)).setCell ⟨gb153, 4, none⟩ (.slice A152_4 ((rd_T25 l0_4 x13_1).f4).length c152_4)).heap[gb148]? = some (.cells #[.int .i64 a0_0, .string a0_1, .string a0_2, .slice A0_3 l0_3.length c0_3, .slice (some ad152) l0_4.length c0_4] 25 (0, 0))) := ⟨by (with_reducible repeat (first | refine blk_drewN ?_ _ | refine blk_drew ?_ | refine blk_alloc ?_ _)); refine blk_far ?_ NB148_153.out _; (with_reducible repeat (first | refine blk_drewN ?_ _ | refine blk_drew ?_ | refine blk_alloc ?_ _)); refine blk_far ?_ NB148_153.out _; (with_reducible repeat (first | refine blk_drewN ?_ _ | refine blk_drew ?_ | refine blk_alloc ?_ _)); refine blk_far ?_ NB148_153.out _; (with_reducible repeat (first | refine blk_drewN ?_ _ | refine blk_drew ?_ | refine blk_alloc ?_ _)); refine blk_far ?_ NB148_153.out _; (with_reducible repeat (first | refine blk_drewN ?_ _ | refine blk_drew ?_ | refine blk_alloc ?_ _)); refine blk_far ?_ NB148_153.out _; (with_reducible repeat (first | refine blk_drewN ?_ _ | refine blk_drew ?_ | refine blk_alloc ?_ _)); exact BK148.out⟩
              have n3_ : Aside0 ((((((w13.setCell ⟨gb153, 0, none⟩ (.int .i64 ((rd_T25 l0_4 x13_1).f0))).setCell ⟨gb153, 1, none⟩ (.string ((rd_T25 l0_4 x13_1).f1))).setCell ⟨gb153, 2, none⟩ (.string ((rd_T25 l0_4 x13_1).f2))).setCell ⟨gb153, 3, none⟩ (.slice A152_3 ((rd_T25 l0_4 x13_1).f3).length c152_3)).setCell ⟨gb153, 4, none⟩ (.slice A152_4 ((rd_T25 l0_4 x13_1).f4).length c152_4)).heap[gb153]? = some (.cells #[.int .i64 ((rd_T25 l0_4 x13_1).f0), .string ((rd_T25 l0_4 x13_1).f1), .string ((rd_T25 l0_4 x13_1).f2), .slice A152_3 ((rd_T25 l0_4 x13_1).f3).length c152_3, .slice A152_4 ((rd_T25 l0_4 x13_1).f4).length c152_4] 25 (0, 0))) := ⟨by (with_reducible repeat (first | refine blk_drewN ?_ _ | refine blk_drew ?_ | refine blk_alloc ?_ _)); refine blk_put (cs := #[.int .i64 ((rd_T25 l0_4 x13_1).f0), .string ((rd_T25 l0_4 x13_1).f1), .string ((rd_T25 l0_4 x13_1).f2), .slice A152_3 ((rd_T25 l0_4 x13_1).f3).length c152_3, .slice none 0 0]) ?_ 4 _ rfl; (with_reducible repeat (first | refine blk_drewN ?_ _ | refine blk_drew ?_ | refine blk_alloc ?_ _)); refine blk_put (cs := #[.int .i64 ((rd_T25 l0_4 x13_1).f0), .string ((rd_T25 l0_4 x13_1).f1), .string ((rd_T25 l0_4 x13_1).f2), .slice none 0 0, .slice none 0 0]) ?_ 3 _ rfl; (with_reducible repeat (first | refine blk_drewN ?_ _ | refine blk_drew ?_ | refine blk_alloc ?_ _)); refine blk_put (cs := #[.int .i64 ((rd_T25 l0_4 x13_1).f0), .string ((rd_T25 l0_4 x13_1).f1), .string (⟨#[]⟩ : ByteArray), .slice none 0 0, .slice none 0 0]) ?_ 2 _ rfl; (with_reducible repeat (first | refine blk_drewN ?_ _ | refine blk_drew ?_ | refine blk_alloc ?_ _)); refine blk_put (cs := #[.int .i64 ((rd_T25 l0_4 x13_1).f0), .string (⟨#[]⟩ : ByteArray), .string (⟨#[]⟩ : ByteArray), .slice none 0 0, .slice none 0 0]) ?_ 1 _ rfl; (with_reducible repeat (first | refine blk_drewN ?_ _ | refine blk_drew ?_ | refine blk_alloc ?_ _)); refine blk_put (cs := #[.int .i64 0, .string (⟨#[]⟩ : ByteArray), .string (⟨#[]⟩ : ByteArray), .slice none 0 0, .slice none 0 0]) ?_ 0 _ rfl; (with_reducible repeat (first | refine blk_drewN ?_ _ | refine blk_drew ?_ | refine blk_alloc ?_ _)); exact BK153.out⟩
              have n4_ : Aside0 (Below w.heap.size w (((((w13.setCell ⟨gb153, 0, none⟩ (.int .i64 ((rd_T25 l0_4 x13_1).f0))).setCell ⟨gb153, 1, none⟩ (.string ((rd_T25 l0_4 x13_1).f1))).setCell ⟨gb153, 2, none⟩ (.string ((rd_T25 l0_4 x13_1).f2))).setCell ⟨gb153, 3, none⟩ (.slice A152_3 ((rd_T25 l0_4 x13_1).f3).length c152_3)).setCell ⟨gb153, 4, none⟩ (.slice A152_4 ((rd_T25 l0_4 x13_1).f4).length c152_4))) := ⟨by repeat (first | (with_reducible first | exact HB.out | apply below_alloc | apply pw_below_drewN | apply below_drew1 | refine below_set ?_ GE148.out | refine below_set ?_ GE153.out) | exact HB.out)⟩
              (try clear HO_1)
              (try clear HO_5)
              (try clear BK148)
              (try clear BK153)
              (try clear HB)
              generalize (((((w13.setCell ⟨gb153, 0, none⟩ (.int .i64 ((rd_T25 l0_4 x13_1).f0))).setCell ⟨gb153, 1, none⟩ (.string ((rd_T25 l0_4 x13_1).f1))).setCell ⟨gb153, 2, none⟩ (.string ((rd_T25 l0_4 x13_1).f2))).setCell ⟨gb153, 3, none⟩ (.slice A152_3 ((rd_T25 l0_4 x13_1).f3).length c152_3)).setCell ⟨gb153, 4, none⟩ (.slice A152_4 ((rd_T25 l0_4 x13_1).f4).length c152_4)) = w16 at n0_ n1_ n2_ n3_ n4_ ⊢
              have HO_1 := n0_
              have HO_5 := n1_
              have BK148 := n2_
              have BK153 := n3_
              have HB := n4_
              clear n0_ n1_ n2_ n3_ n4_
              have n0_ := Aside0.mk (Kd.V_drew HO_1.out)
              have n1_ := Aside0.mk (Kd.N_drew HO_5.out)
              have n2_ := Aside0.mk (blk_drew BK148.out)
              have n3_ := Aside0.mk (blk_drew BK153.out)
              have n4_ := Aside0.mk (below_drew1 HB.out)
              clear HO_1
              clear HO_5
              clear BK148
              clear BK153
              clear HB
              have HO_1 := n0_
              have HO_5 := n1_
              have BK148 := n2_
              have BK153 := n3_
              have HB := n4_
              clear n0_ n1_ n2_ n3_ n4_
              refine start_ (n := 8) (S := fun w' => w'.cell? ⟨gb153, 0, none⟩ = some (.int .i64 ((rd_T25 l0_4 x13_1).f0)) ∧ w'.cell? ⟨gb153, 1, none⟩ = some (.string ((rd_T25 l0_4 x13_1).f1)) ∧ w'.cell? ⟨gb153, 2, none⟩ = some (.string ((rd_T25 l0_4 x13_1).f2)) ∧ w'.cell? ⟨gb153, 3, none⟩ = some (.slice A152_3 ((rd_T25 l0_4 x13_1).f3).length c152_3) ∧ w'.cell? ⟨gb153, 4, none⟩ = some (.slice A152_4 ((rd_T25 l0_4 x13_1).f4).length c152_4)) (ds := []) #[false, false, false, false, false, false, false, false] (by kernel_rfl) rfl rfl ⟨(blk_cell BK153.out 0).trans rfl, (blk_cell BK153.out 1).trans rfl, (blk_cell BK153.out 2).trans rfl, (blk_cell BK153.out 3).trans rfl, (blk_cell BK153.out 4).trans rfl⟩ (fun hHeld => ?_); refine with_tabW spec_Walk29.tab5 spec_Walk29.bits5 (fun HT_ HW_ => ?_)
              generalize w16.drew = w17 at HO_1 HO_5 BK148 BK153 HB hHeld ⊢
              refine pure_ (i := 0) (N := some 18) (v := ?_) (a' := ?_) #[true, false, false, false, false, false, false, false] rfl rfl (any_of HT_.out (by kernel_rfl)) (fun _ _ _ h => h) (Or.inl ⟨by rfl, ?_⟩) ?_ ?_
              rotate_left
              · intro w'
                go_simp
                with_reducible rfl
              rotate_left
              · simp only [Act.put, List.setIfInBounds_toArray, List.set_cons_zero, List.set_cons_succ, i64_w, i32_w]
                rfl
              refine pure_ (i := 2) (N := some 20) (v := ?_) (a' := ?_) #[true, false, true, false, false, false, false, false] rfl rfl (any_of HT_.out (by kernel_rfl)) (fun _ _ _ h => h) (Or.inl ⟨by rfl, ?_⟩) ?_ ?_
              rotate_left
              · intro w'
                go_simp
                with_reducible rfl
              rotate_left
              · simp only [Act.put, List.setIfInBounds_toArray, List.set_cons_zero, List.set_cons_succ, i64_w, i32_w]
                rfl
              refine pure_ (i := 3) (N := some 21) (v := ?_) (a' := ?_) #[true, false, true, true, false, false, false, false] rfl rfl (any_of HT_.out (by kernel_rfl)) (fun _ _ _ h => h) (Or.inl ⟨by rfl, ?_⟩) ?_ ?_
              rotate_left
              · intro w'
                go_simp
                with_reducible rfl
              rotate_left
              · simp only [Act.put, List.setIfInBounds_toArray, List.set_cons_zero, List.set_cons_succ, i64_w, i32_w]
                rfl
              refine take_ (i := 1) (N := some 19) (v := ?_) (a' := ?_) #[true, true, true, true, false, false, false, false] rfl rfl (take_ofW HT_.out HW_.out (by kernel_rfl)) (fun _ _ _ h => h) (Or.inl ⟨by rfl, ?_⟩) hHeld ?_ ?_
              rotate_left
              · rintro w' ⟨s0, s1, s2, s3, s4⟩
                go_simp
                with_reducible rfl
              rotate_left
              · simp only [Act.put, List.setIfInBounds_toArray, List.set_cons_zero, List.set_cons_succ, i64_w, i32_w]
                rfl
              refine one_ (i := 4) (N := some 22) #[true, true, true, true, true, false, false, false] rfl rfl (one_of HT_.out (by kernel_rfl)) (by decide) (fun K hK => ?_)
              refine goes_ Try.func40 (by kernel_rfl) rfl #[.slice A1 l1.length c1, .int .i64 x13_1] (by rfl) rfl rfl (by (try simp only [List.map_toArray, List.map_cons, List.map_nil]); first | done | rfl | (simp only [List.length_drop, List.length_take]; rfl)) ?_
              with_reducible refine (spec_Under29.calls _ _ l1 x13_1 t154 _ ?side1 ?side2 A10.out).mono ?_
              (case side1 => repeat (first | exact (Kd.V_reads' HO_1.out).2.2 | (with_reducible refine Kd.C_alloc ?_ _) | (with_reducible refine Kd.C_drewN ?_ _) | (with_reducible refine Kd.C_drew ?_)))
              (case side2 => exact (Kd.V_reads' HO_1.out).2.1)
              rintro e w18 ⟨v155, rfl, ho0, hb⟩
              refine ⟨_, rfl, ?_⟩
              have n0_ := Aside0.mk (Kd.V_elder' (by (with_reducible repeat (first | apply Kd.V_alloc | apply Kd.V_drewN | apply Kd.V_drew)); exact HO_1.out) (Kd.R_base ho0) hb)
              have n1_ := Aside0.mk (Kd.N_elder' (by (with_reducible repeat (first | apply Kd.N_alloc | apply Kd.N_drewN | apply Kd.N_drew)); exact HO_5.out) (Kd.R_base ho0) hb)
              have n2_ := Aside0.mk (Kd.R_lower (Kd.R_newM (M := fun k_ => (w.heap.size ≤ k_)) ho0 (below_size (by repeat (first | (with_reducible first | exact HB.out | apply below_alloc | apply pw_below_drewN | apply below_drew1 | refine below_set ?_ GE148.out | refine below_set ?_ GE153.out) | exact HB.out))) (fun k_ h_ => h_)) (below_size (by repeat (first | (with_reducible first | exact HB.out | apply below_alloc | apply pw_below_drewN | apply below_drew1 | refine below_set ?_ GE148.out | refine below_set ?_ GE153.out) | exact HB.out))))
              have n3_ := Aside0.mk (blk_below (g := gb148) (o := .cells #[.int .i64 a0_0, .string a0_1, .string a0_2, .slice A0_3 l0_3.length c0_3, .slice (some ad152) l0_4.length c0_4] 25 (0, 0)) (by (with_reducible repeat (first | refine blk_drewN ?_ _ | refine blk_drew ?_ | refine blk_alloc ?_ _)); exact BK148.out) hb)
              have n4_ := Aside0.mk (blk_below (g := gb153) (o := .cells #[.int .i64 ((rd_T25 l0_4 x13_1).f0), .string ((rd_T25 l0_4 x13_1).f1), .string ((rd_T25 l0_4 x13_1).f2), .slice A152_3 ((rd_T25 l0_4 x13_1).f3).length c152_3, .slice A152_4 ((rd_T25 l0_4 x13_1).f4).length c152_4] 25 (0, 0)) (by (with_reducible repeat (first | refine blk_drewN ?_ _ | refine blk_drew ?_ | refine blk_alloc ?_ _)); exact BK153.out) hb)
              have n5_ := Aside0.mk (below_step (by repeat (first | (with_reducible first | exact HB.out | apply below_alloc | apply pw_below_drewN | apply below_drew1 | refine below_set ?_ GE148.out | refine below_set ?_ GE153.out) | exact HB.out)) hb)
              clear HO_1
              clear HO_5
              clear BK148
              clear BK153
              clear HB
              have HO_1 := n0_
              have HO_5 := n1_
              have HO156 := n2_
              have BK148 := n3_
              have BK153 := n4_
              have HB := n5_
              clear n0_ n1_ n2_ n3_ n4_ n5_
              (try clear hb)
              (try clear hb2)
              (try clear hk)
              (try clear hi)
              (try clear ho0)
              obtain ⟨Ao19, co19, eo19⟩ := Kd.R_slice HO156.out
              (first | subst eo19 | (injection eo19 with f1_ f2_ f3_; have f4_ := f1_.symm; have f5_ := f3_.symm; clear f1_ f2_ f3_; subst f4_; subst f5_))
              refine hK.out _ _ ⟨(blk_cell BK153.out 0).trans rfl, (blk_cell BK153.out 1).trans rfl, (blk_cell BK153.out 2).trans rfl, (blk_cell BK153.out 3).trans rfl, (blk_cell BK153.out 4).trans rfl⟩ (fun hHeld => ?_)
              clear hK K
              refine norm_ (a' := ?_) ?_ ?_
              rotate_left
              · show Act.put _ (some 22) _ = _
                simp only [Act.put, List.setIfInBounds_toArray, List.set_cons_zero, List.set_cons_succ, i64_w, i32_w]
                rfl
              refine one_ (i := 5) (N := some 23) #[true, true, true, true, true, true, false, false] rfl rfl (one_of HT_.out (by kernel_rfl)) (by decide) (fun K hK => ?_)
              refine goes_ Try.func14 (by kernel_rfl) rfl #[.agg #[.int .i64 ((rd_T25 l0_4 x13_1).f0), .string ((rd_T25 l0_4 x13_1).f1), .string ((rd_T25 l0_4 x13_1).f2), .slice A152_3 ((rd_T25 l0_4 x13_1).f3).length c152_3, .slice A152_4 ((rd_T25 l0_4 x13_1).f4).length c152_4], .slice Ao19 t154.length co19] (by rfl) rfl rfl (by (try simp only [List.map_toArray, List.map_cons, List.map_nil]); first | done | rfl | (simp only [List.length_drop, List.length_take]; rfl)) ?_
              with_reducible refine (ih k1 (by have := HK1.out; omega) ((rd_T25 l0_4 x13_1).f0) ((rd_T25 l0_4 x13_1).f1) ((rd_T25 l0_4 x13_1).f2) _ _ ((rd_T25 l0_4 x13_1).f3) _ _ ((rd_T25 l0_4 x13_1).f4) (fun k_ => some k_ = (.slice Ao19 t154.length co19 : Value).ownBlock) _ _ t154 t157 _ ?side1 ?side2 ?side3 ?side4 ?side5 A11.out).mono ?_
              (case side1 => repeat (first | exact (Kd.C_below HR152_3.out HB.out) | (with_reducible refine Kd.C_alloc ?_ _) | (with_reducible refine Kd.C_drewN ?_ _) | (with_reducible refine Kd.C_drew ?_)))
              (case side2 => exact HC152_3.out)
              (case side3 => repeat (first | exact (Kd.C_below HR152_4.out HB.out) | (with_reducible refine Kd.C_alloc ?_ _) | (with_reducible refine Kd.C_drewN ?_ _) | (with_reducible refine Kd.C_drew ?_)))
              (case side4 => exact HC152_4.out)
              (case side5 => exact Kd.R_V (Kd.R_tight rfl (Kd.R_types (Kd.R_types (Kd.R_apart' (HO156.out) (Kd.N_typed HO_5.out) (by decide)) BK148.out (by decide)) BK153.out (by decide))))
              rintro e w20 ⟨v158, rfl, ho0, hb⟩
              refine ⟨_, rfl, ?_⟩
              have n0_ := Aside0.mk (Kd.V_elder' (by (with_reducible repeat (first | apply Kd.V_alloc | apply Kd.V_drewN | apply Kd.V_drew)); exact HO_1.out) (Kd.N_base ho0) hb)
              have n1_ := Aside0.mk (Kd.N_elder' (by (with_reducible repeat (first | apply Kd.N_alloc | apply Kd.N_drewN | apply Kd.N_drew)); exact HO_5.out) (Kd.N_base ho0) hb)
              have n2_ := Aside0.mk (Kd.R_below (by (with_reducible repeat (first | apply Kd.R_alloc | apply Kd.R_drewN | apply Kd.R_drew)); exact HO156.out) hb)
              have n3_ := Aside0.mk (Kd.N_lower (Kd.N_mono (ok' := fun k_ => (P1_ k_ ∨ w.heap.size ≤ k_) ∧ some k_ ≠ (u5 : Value).ownBlock ∧ k_ ≠ gb148 ∧ k_ ≠ gb153) ho0 (fun k_ hk_ => ⟨Or.elim hk_ (fun hs_ => (.inr (((Kd.R_types (Kd.R_types (Kd.R_apart' (HO156.out) (Kd.N_typed HO_5.out) (by decide)) BK148.out (by decide)) BK153.out (by decide)).1 k_ hs_.symm).1.1.1.1))) (fun hn_ => (.inr (Nat.le_trans (below_size (by repeat (first | (with_reducible first | exact HB.out | apply below_alloc | apply pw_below_drewN | apply below_drew1 | refine below_set ?_ GE148.out | refine below_set ?_ GE153.out) | exact HB.out))) hn_))), Or.elim hk_ (fun hs_ => ((Kd.R_types (Kd.R_types (Kd.R_apart' (HO156.out) (Kd.N_typed HO_5.out) (by decide)) BK148.out (by decide)) BK153.out (by decide)).1 k_ hs_.symm).1.1.2) (fun hn_ => (Kd.fresh' (Kd.N_lt (by (with_reducible repeat (first | apply Kd.N_alloc | apply Kd.N_drewN | apply Kd.N_drew)); exact HO_5.out)) k_ hn_)), Or.elim hk_ (fun hs_ => ((Kd.R_types (Kd.R_types (Kd.R_apart' (HO156.out) (Kd.N_typed HO_5.out) (by decide)) BK148.out (by decide)) BK153.out (by decide)).1 k_ hs_.symm).1.2) (fun hn_ => (Kd.freshB (g := gb148) (o := .cells #[.int .i64 a0_0, .string a0_1, .string a0_2, .slice A0_3 l0_3.length c0_3, .slice (some ad152) l0_4.length c0_4] 25 (0, 0)) (by (with_reducible repeat (first | refine blk_drewN ?_ _ | refine blk_drew ?_ | refine blk_alloc ?_ _)); exact BK148.out) k_ hn_)), Or.elim hk_ (fun hs_ => ((Kd.R_types (Kd.R_types (Kd.R_apart' (HO156.out) (Kd.N_typed HO_5.out) (by decide)) BK148.out (by decide)) BK153.out (by decide)).1 k_ hs_.symm).2) (fun hn_ => (Kd.freshB (g := gb153) (o := .cells #[.int .i64 ((rd_T25 l0_4 x13_1).f0), .string ((rd_T25 l0_4 x13_1).f1), .string ((rd_T25 l0_4 x13_1).f2), .slice A152_3 ((rd_T25 l0_4 x13_1).f3).length c152_3, .slice A152_4 ((rd_T25 l0_4 x13_1).f4).length c152_4] 25 (0, 0)) (by (with_reducible repeat (first | refine blk_drewN ?_ _ | refine blk_drew ?_ | refine blk_alloc ?_ _)); exact BK153.out) k_ hn_))⟩)) (below_size (by repeat (first | (with_reducible first | exact HB.out | apply below_alloc | apply pw_below_drewN | apply below_drew1 | refine below_set ?_ GE148.out | refine below_set ?_ GE153.out) | exact HB.out))))
              have n4_ := Aside0.mk (blk_below (g := gb148) (o := .cells #[.int .i64 a0_0, .string a0_1, .string a0_2, .slice A0_3 l0_3.length c0_3, .slice (some ad152) l0_4.length c0_4] 25 (0, 0)) (by (with_reducible repeat (first | refine blk_drewN ?_ _ | refine blk_drew ?_ | refine blk_alloc ?_ _)); exact BK148.out) hb)
              have n5_ := Aside0.mk (blk_below (g := gb153) (o := .cells #[.int .i64 ((rd_T25 l0_4 x13_1).f0), .string ((rd_T25 l0_4 x13_1).f1), .string ((rd_T25 l0_4 x13_1).f2), .slice A152_3 ((rd_T25 l0_4 x13_1).f3).length c152_3, .slice A152_4 ((rd_T25 l0_4 x13_1).f4).length c152_4] 25 (0, 0)) (by (with_reducible repeat (first | refine blk_drewN ?_ _ | refine blk_drew ?_ | refine blk_alloc ?_ _)); exact BK153.out) hb)
              have n6_ := Aside0.mk (below_step (by repeat (first | (with_reducible first | exact HB.out | apply below_alloc | apply pw_below_drewN | apply below_drew1 | refine below_set ?_ GE148.out | refine below_set ?_ GE153.out) | exact HB.out)) hb)
              clear HO_1
              clear HO_5
              clear HO156
              clear BK148
              clear BK153
              clear HB
              have HO_1 := n0_
              have HO_5 := n1_
              have HO156 := n2_
              have HO159 := n3_
              have BK148 := n4_
              have BK153 := n5_
              have HB := n6_
              clear n0_ n1_ n2_ n3_ n4_ n5_ n6_
              (try clear hb)
              (try clear hb2)
              (try clear hk)
              (try clear hi)
              (try clear ho0)
              obtain ⟨Ao22, co22, eo22⟩ := Kd.N_slice HO159.out
              (first | subst eo22 | (injection eo22 with f1_ f2_ f3_; have f4_ := f1_.symm; have f5_ := f3_.symm; clear f1_ f2_ f3_; subst f4_; subst f5_))
              refine hK.out _ _ ⟨(blk_cell BK153.out 0).trans rfl, (blk_cell BK153.out 1).trans rfl, (blk_cell BK153.out 2).trans rfl, (blk_cell BK153.out 3).trans rfl, (blk_cell BK153.out 4).trans rfl⟩ (fun hHeld => ?_)
              clear hK K
              refine norm_ (a' := ?_) ?_ ?_
              rotate_left
              · show Act.put _ (some 23) _ = _
                simp only [Act.put, List.setIfInBounds_toArray, List.set_cons_zero, List.set_cons_succ, i64_w, i32_w]
                rfl
              refine one_ (i := 6) (N := some 24) #[true, true, true, true, true, true, true, false] rfl rfl (one_of HT_.out (by kernel_rfl)) (by decide) (fun K hK => ?_)
              refine Kd.N_append_rows_step (Kd.slice 3 (Kd.int .i64)) (w0 := w) w.heap.size (by rfl) (.tmp 18) (.tmp 23) 29 32 (.slice none 0 0) 24 rfl Try.underlying29 info32 rfl (by decide) (by omega) u5 x5_1 t157 _ _ _ (fun k_ => (P1_ k_ ∨ w.heap.size ≤ k_) ∧ k_ ≠ gb148 ∧ k_ ≠ gb153) (fun k_ => ((fun k_ => (P1_ k_ ∨ w.heap.size ≤ k_) ∧ k_ ≠ gb148 ∧ k_ ≠ gb153)) k_ ∧ some k_ ≠ (u5 : Value).ownBlock) rfl rfl ?aO ?aR (fun _ hk => hk) ?aF ?aB ?aS ?aL ?_
              (case aR => exact (by skip; exact Kd.N_F (Kd.N_mono (ok' := (fun k_ => ((fun k_ => (P1_ k_ ∨ w.heap.size ≤ k_) ∧ k_ ≠ gb148 ∧ k_ ≠ gb153)) k_ ∧ some k_ ≠ (u5 : Value).ownBlock)) (HO159.out) (fun k_ hk => ⟨⟨hk.1, ⟨hk.2.2.1, hk.2.2.2⟩⟩, hk.2.1⟩))))
              (case aB => exact (by repeat (first | (with_reducible first | exact HB.out | apply below_alloc | apply pw_below_drewN | apply below_drew1 | refine below_set ?_ GE148.out | refine below_set ?_ GE153.out) | exact HB.out)))
              (case aF => exact (fun k_ hk => ⟨(.inr (Nat.le_trans (below_size (by repeat (first | (with_reducible first | exact HB.out | apply below_alloc | apply pw_below_drewN | apply below_drew1 | refine below_set ?_ GE148.out | refine below_set ?_ GE153.out) | exact HB.out))) hk)), Kd.freshB (g := gb148) (o := .cells #[.int .i64 a0_0, .string a0_1, .string a0_2, .slice A0_3 l0_3.length c0_3, .slice (some ad152) l0_4.length c0_4] 25 (0, 0)) (by (with_reducible repeat (first | refine blk_drewN ?_ _ | refine blk_drew ?_ | refine blk_alloc ?_ _)); exact BK148.out) k_ hk, Kd.freshB (g := gb153) (o := .cells #[.int .i64 ((rd_T25 l0_4 x13_1).f0), .string ((rd_T25 l0_4 x13_1).f1), .string ((rd_T25 l0_4 x13_1).f2), .slice A152_3 ((rd_T25 l0_4 x13_1).f3).length c152_3, .slice A152_4 ((rd_T25 l0_4 x13_1).f4).length c152_4] 25 (0, 0)) (by (with_reducible repeat (first | refine blk_drewN ?_ _ | refine blk_drew ?_ | refine blk_alloc ?_ _)); exact BK153.out) k_ hk⟩))
              (case aO => exact (by (with_reducible repeat (first | apply Kd.N_alloc | apply Kd.N_drewN | apply Kd.N_drew)); exact Kd.N_mono HO_5.out (fun _ hk => ⟨hk.1.1.1, ⟨hk.1.1.2.1, hk.1.1.2.2⟩⟩)))
              (case aS => exact (below_size (by repeat (first | (with_reducible first | exact HB.out | apply below_alloc | apply pw_below_drewN | apply below_drew1 | refine below_set ?_ GE148.out | refine below_set ?_ GE153.out) | exact HB.out))))
              (case aL => have := LMc12.out; omega)
              intro v161 w21 ho hb hg hat
              rw [← Ny160.out] at ho
              have n0_ := Aside0.mk (Kd.V_afterv (ok := (fun k_ => (P1_ k_ ∨ w.heap.size ≤ k_) ∧ some k_ ≠ (.slice Ao19 t154.length co19 : Value).ownBlock ∧ some k_ ≠ (.slice Ao22 t157.length co22 : Value).ownBlock ∧ k_ ≠ gb148 ∧ k_ ≠ gb153)) (by (with_reducible repeat (first | apply Kd.V_alloc | apply Kd.V_drewN | apply Kd.V_drew)); exact Kd.V_mono HO_1.out (fun _ hk => ⟨⟨hk.1.1.1, ⟨hk.1.2, ⟨hk.2, ⟨hk.1.1.2.2.1, hk.1.1.2.2.2⟩⟩⟩⟩, hk.1.1.2.1⟩)) hg hat)
              have n1_ := Aside0.mk (blk_grown (g := gb148) (o := .cells #[.int .i64 a0_0, .string a0_1, .string a0_2, .slice A0_3 l0_3.length c0_3, .slice (some ad152) l0_4.length c0_4] 25 (0, 0)) (by (with_reducible repeat (first | refine blk_drewN ?_ _ | refine blk_drew ?_ | refine blk_alloc ?_ _)); exact BK148.out) hg (Kd.N_ne HO_5.out BK148.out (by decide)))
              have n2_ := Aside0.mk (blk_grown (g := gb153) (o := .cells #[.int .i64 ((rd_T25 l0_4 x13_1).f0), .string ((rd_T25 l0_4 x13_1).f1), .string ((rd_T25 l0_4 x13_1).f2), .slice A152_3 ((rd_T25 l0_4 x13_1).f3).length c152_3, .slice A152_4 ((rd_T25 l0_4 x13_1).f4).length c152_4] 25 (0, 0)) (by (with_reducible repeat (first | refine blk_drewN ?_ _ | refine blk_drew ?_ | refine blk_alloc ?_ _)); exact BK153.out) hg (Kd.N_ne HO_5.out BK153.out (by decide)))
              have n3_ := Aside0.mk (Kd.R_over' (by (with_reducible repeat (first | apply Kd.R_alloc | apply Kd.R_drewN | apply Kd.R_drew)); exact HO156.out) (Kd.N_typed (by (with_reducible repeat (first | apply Kd.N_alloc | apply Kd.N_drewN | apply Kd.N_drew)); exact HO_5.out)) (by decide) hg)
              have n4_ := Aside0.mk (Kd.N_afterv (ok := (fun k_ => (P1_ k_ ∨ w.heap.size ≤ k_) ∧ k_ ≠ gb148 ∧ k_ ≠ gb153)) (by (with_reducible repeat (first | apply Kd.N_alloc | apply Kd.N_drewN | apply Kd.N_drew)); exact Kd.N_mono HO159.out (fun _ hk => ⟨⟨hk.1, ⟨hk.2.2.1, hk.2.2.2⟩⟩, hk.2.1⟩)) hg hat)
              have n5_ := Aside0.mk (hb)
              have n6_ := Aside0.mk (ho)
              clear HO_1
              clear BK148
              clear BK153
              clear HO156
              clear HO159
              clear HB
              clear HO_5
              have HO_1 := n0_
              have BK148 := n1_
              have BK153 := n2_
              have HO156 := n3_
              have HO159 := n4_
              have HB := n5_
              have HO162 := n6_
              clear n0_ n1_ n2_ n3_ n4_ n5_ n6_
              clear ho hb hg hat
              refine hK.out _ _ ⟨(blk_cell BK153.out 0).trans rfl, (blk_cell BK153.out 1).trans rfl, (blk_cell BK153.out 2).trans rfl, (blk_cell BK153.out 3).trans rfl, (blk_cell BK153.out 4).trans rfl⟩ (fun hHeld => ?_)
              clear hK K
              refine norm_ (a' := ?_) ?_ ?_
              rotate_left
              · show Act.put _ (some 24) _ = _
                simp only [Act.put, List.setIfInBounds_toArray, List.set_cons_zero, List.set_cons_succ, i64_w, i32_w]
                rfl
              refine pure_ (i := 7) (N := some 5) (v := ?_) (a' := ?_) #[true, true, true, true, true, true, true, true] rfl rfl (any_of HT_.out (by kernel_rfl)) (fun _ _ _ h => h) (Or.inl ⟨by rfl, ?_⟩) ?_ ?_
              rotate_left
              · intro w'
                go_simp
                with_reducible rfl
              rotate_left
              · simp only [Act.put, List.setIfInBounds_toArray, List.set_cons_zero, List.set_cons_succ, i64_w, i32_w]
                rfl
              refine done_ (done_of HT_.out (by kernel_rfl)) ?_
              try go_wp2
              go_roundg k1
              case measure => have := HK1.out; omega
              case rel => exact ⟨(y160), (wrap64 (x13_1 + 1)), (by first | rfl | (simp; done) | (simp [*]; done)), H', ⟨by have := HK1.out; omega⟩, ⟨by (with_reducible repeat (first | apply Kd.V_alloc | apply Kd.V_drewN | apply Kd.V_drew)); exact Kd.V_mono HO_1.out (fun _ hk => ⟨hk.1.1, ⟨hk.2, hk.1.2.2.2.1⟩⟩)⟩, ⟨by (with_reducible repeat (first | apply Kd.N_alloc | apply Kd.N_drewN | apply Kd.N_drew)); exact Kd.N_mono HO162.out (fun _ hk => ⟨hk.1, hk.2.1⟩)⟩, ⟨by (with_reducible repeat (first | refine blk_drewN ?_ _ | refine blk_drew ?_ | refine blk_alloc ?_ _)); exact BK148.out⟩, ⟨by repeat (first | (with_reducible first | exact HB.out | apply below_alloc | apply pw_below_drewN | apply below_drew1 | refine below_set ?_ GE148.out | refine below_set ?_ GE153.out) | exact HB.out)⟩⟩
            · rw [if_neg c12] at H
              exact absurd H (by simp)
          · rw [if_neg c9] at H
            exact absurd H (by simp)
        · rw [if_neg c8] at H
          exact absurd H (by simp)
      · rw [if_neg c7] at H
        have c7b0 : decide (x13_1 < (l0_4.length : Int)) = false := decide_eq_false c7
        clear c7
        obtain rfl := Option.some.inj H
        go_wp2
        go_ret
        exact ⟨_, by first | rfl | (simp [errW_none, errW_some] <;> rfl) | (simp [*, errW_none, errW_some] <;> rfl), by (with_reducible repeat (first | apply Kd.N_alloc | apply Kd.N_drewN | apply Kd.N_drew)); exact Kd.N_mono HO_5.out (fun _ hk => hk.1), by repeat (first | (with_reducible first | exact HB.out | apply below_alloc | apply pw_below_drewN | apply below_drew1 | refine below_set ?_ GE148.out) | exact HB.out)⟩

-- NOT PRINTED: function 4 (laws_FnDomAll)
/-! ### laws_zzFits5: function 15 -/
def laws_zzFits5.l0 : Nat → List ByteArray → Int → Int → Option (Bool)
  | 0, _, _, _ => none
  | k + 1, x8, x9, x10 => if x10 < x9 then (if 0 ≤ x10 then (if x10 < (x8.length : Int) then (if ((rdOf ByteArray.empty x8 x10).size : Int) > 2147483647 then (some false) else (laws_zzFits5.l0 k x8 x9 (wrap64 (x10 + 1)))) else (none)) else (none)) else (some true)
def laws_zzFits5.f (k : Nat) (l0 : List ByteArray) : Option (Bool) := if (l0.length : Int) > 2147483647 then (some false) else (laws_zzFits5.l0 k l0 (l0.length : Int) 0)
theorem laws_zzFits5.mono_l : ∀ k, (∀ y0 y1 y2, LeO (laws_zzFits5.l0 k y0 y1 y2) (laws_zzFits5.l0 (k + 1) y0 y1 y2))
  | 0 => fun _ _ _ r h => by simp [laws_zzFits5.l0] at h
  | k + 1 => by
    have ih0 := laws_zzFits5.mono_l k
    · intro y0 y1 y2
      unfold laws_zzFits5.l0
      repeat' first
      | (with_reducible exact ih0 _ _ _)
      | (with_reducible exact LeO.refl _)
      | (with_reducible exact LeO.none _)
      | (with_reducible refine LeO.ite ?_ ?_)
      | (with_reducible refine LeO.bind ?_ (fun _ => ?_))
      | exact ih0 _ _ _
      | exact LeO.none _
      | refine LeO.ite ?_ ?_
      | refine LeO.bind ?_ (fun _ => ?_)
theorem laws_zzFits5.mono : ∀ a0 k, LeO (laws_zzFits5.f k a0) (laws_zzFits5.f (k + 1) a0) := by
  intro a0 k
  have ih0 := laws_zzFits5.mono_l k
  unfold laws_zzFits5.f
  repeat' first
      | (with_reducible exact ih0 _ _ _)
      | (with_reducible exact LeO.refl _)
      | (with_reducible exact LeO.none _)
      | (with_reducible refine LeO.ite ?_ ?_)
      | (with_reducible refine LeO.bind ?_ (fun _ => ?_))
      | exact ih0 _ _ _
      | exact LeO.none _
      | refine LeO.ite ?_ ?_
      | refine LeO.bind ?_ (fun _ => ?_)
set_option maxHeartbeats 8000000 in
set_option maxRecDepth 100000 in
theorem laws_zzFits5.calls (k : Nat) (A0 : Option Addr) (c0 : Nat) (l0 : List ByteArray) (r : Bool) (w : World) (hr0 : Kd.C Kd.string w A0 l0.length l0) (hc0 : l0.length ≤ c0) (h : laws_zzFits5.f k l0 = some r) :
    Calls Try.prog 15 #[.slice A0 l0.length c0] w fun e w' => e = .returned (.bool r) ∧ Drawn0 w w' := by
  have HR0 := Aside0.mk hr0
  have HC0 := Aside0.mk hc0
  clear hr0 hc0
  have H : (if (l0.length : Int) > 2147483647 then (some false) else (laws_zzFits5.l0 k l0 (l0.length : Int) 0)) = some r := h
  clear h
  by_cases c2 : (l0.length : Int) > 2147483647
  · rw [if_pos c2] at H
    have c2b0 : decide (2147483647 < (l0.length : Int)) = true := decide_eq_true c2
    have c2b1 : decide (2147483647 < l0.length) = true := decide_eq_true (by omega)
    clear c2
    obtain rfl := Option.some.inj H
    go_enter Try.func15, Try.ntmps15
    go_wp2
    go_ret
    exact ⟨by first | rfl | (simp; done) | (simp [*]; done), by repeat (first | exact Drawn0.refl _ | apply Drawn0.step)⟩
  · rw [if_neg c2] at H
    have c2b0 : decide (2147483647 < (l0.length : Int)) = false := decide_eq_false c2
    have c2b1 : decide (2147483647 < l0.length) = false := decide_eq_false (by omega)
    clear c2
    have H' := Aside0.mk H
    clear H
    go_enter Try.func15, Try.ntmps15
    go_wp2
    go_loopg [10] k (fun kq v10 w' => ∃ (x10_1 : Int), v10 = .int .i64 x10_1 ∧ Aside0 (laws_zzFits5.l0 kq l0 (l0.length : Int) x10_1 = some r) ∧ Aside0 (kq ≤ k) ∧ Drawn0 w w')
    case atStart => exact ⟨(0), (by first | rfl | (simp; done) | (simp [*]; done)), H', ⟨Nat.le_refl _⟩, by repeat (first | exact Drawn0.refl _ | apply Drawn0.step)⟩
    case round =>
      clear H'
      try clear c1
      try clear c2
      try clear c2b0
      try clear c2b1
      try clear p2
      obtain ⟨x10_1, rfl, HA, HK1, ⟨m1, rfl⟩⟩ := hrel
      cases gk with
      | zero => exact absurd HA.out (by simp [laws_zzFits5.l0])
      | succ k1 =>
        have H := HA.out
        clear HA
        simp only [laws_zzFits5.l0] at H
        by_cases c3 : x10_1 < (l0.length : Int)
        · rw [if_pos c3] at H
          have c3b0 : decide (x10_1 < (l0.length : Int)) = true := decide_eq_true c3
          clear c3
          by_cases c4 : 0 ≤ x10_1
          · rw [if_pos c4] at H
            have c4b0 : decide (0 ≤ x10_1) = true := decide_eq_true c4
            clear c4
            by_cases c5 : x10_1 < (l0.length : Int)
            · rw [if_pos c5] at H
              have c5b0 : decide (x10_1 < (l0.length : Int)) = true := decide_eq_true c5
              clear c5
              by_cases c6 : ((rdOf ByteArray.empty l0 x10_1).size : Int) > 2147483647
              · rw [if_pos c6] at H
                have c6b0 : decide (2147483647 < ((rdOf ByteArray.empty l0 x10_1).size : Int)) = true := decide_eq_true c6
                have c6b1 : decide (2147483647 < (rdOf ByteArray.empty l0 x10_1).size) = true := decide_eq_true (by omega)
                clear c6
                obtain rfl := Option.some.inj H
                have p166 : 0 ≤ (x10_1 : Int) := of_decide_eq_true (by first | (with_reducible assumption) | assumption)
                have q166 : x10_1 < (l0.length : Int) := of_decide_eq_true (by first | (with_reducible assumption) | assumption)
                obtain ⟨ad166, e166, hx166_0⟩ := Kd.at_string HR0.out x10_1 p166 q166
                cases e166
                replace p166 := eq_true p166
                replace q166 := eq_true q166
                go_wp2
                go_ret
                exact ⟨by first | rfl | (simp; done) | (simp [*]; done), by repeat (first | exact Drawn0.refl _ | apply Drawn0.step)⟩
              · rw [if_neg c6] at H
                have c6b0 : decide (2147483647 < ((rdOf ByteArray.empty l0 x10_1).size : Int)) = false := decide_eq_false c6
                have c6b1 : decide (2147483647 < (rdOf ByteArray.empty l0 x10_1).size) = false := decide_eq_false (by omega)
                clear c6
                have H' := Aside0.mk H
                clear H
                have p166 : 0 ≤ (x10_1 : Int) := of_decide_eq_true (by first | (with_reducible assumption) | assumption)
                have q166 : x10_1 < (l0.length : Int) := of_decide_eq_true (by first | (with_reducible assumption) | assumption)
                obtain ⟨ad166, e166, hx166_0⟩ := Kd.at_string HR0.out x10_1 p166 q166
                cases e166
                replace p166 := eq_true p166
                replace q166 := eq_true q166
                go_wp2
                go_roundg k1
                case measure => have := HK1.out; omega
                case rel => exact ⟨(wrap64 (x10_1 + 1)), (by first | rfl | (simp; done) | (simp [*]; done)), H', ⟨by have := HK1.out; omega⟩, by repeat (first | exact Drawn0.refl _ | apply Drawn0.step)⟩
            · rw [if_neg c5] at H
              exact absurd H (by simp)
          · rw [if_neg c4] at H
            exact absurd H (by simp)
        · rw [if_neg c3] at H
          have c3b0 : decide (x10_1 < (l0.length : Int)) = false := decide_eq_false c3
          clear c3
          obtain rfl := Option.some.inj H
          go_wp2
          go_ret
          exact ⟨by first | rfl | (simp; done) | (simp [*]; done), by repeat (first | exact Drawn0.refl _ | apply Drawn0.step)⟩
/-! ### spec_At29: function 17 -/
def spec_At29.l0 : Nat → List Int → Int → Int → Int → ByteArray → ByteArray → List (S78) → List (S25) → Option (Int × ByteArray × ByteArray × (List (S78)) × (List (S25)) × Bool)
  | 0, _, _, _, _, _, _, _, _ => none
  | k + 1, x8, x9, x10, x168000, x168001, x168002, x168003, x168004 => if x10 < x9 then (if 0 ≤ x10 then (if x10 < (x8.length : Int) then (if (rd x8 x10) < 0 then (some (0, (⟨#[]⟩ : ByteArray), (⟨#[]⟩ : ByteArray), ([] : List (S78)), ([] : List (S25)), false)) else (if (rd x8 x10) ≥ (x168004.length : Int) then (some (0, (⟨#[]⟩ : ByteArray), (⟨#[]⟩ : ByteArray), ([] : List (S78)), ([] : List (S25)), false)) else (if 0 ≤ (rd x8 x10) then (if (rd x8 x10) < (x168004.length : Int) then (spec_At29.l0 k x8 x9 (wrap64 (x10 + 1)) ((rd_T25 x168004 (rd x8 x10)).f0) ((rd_T25 x168004 (rd x8 x10)).f1) ((rd_T25 x168004 (rd x8 x10)).f2) ((rd_T25 x168004 (rd x8 x10)).f3) ((rd_T25 x168004 (rd x8 x10)).f4)) else (none)) else (none)))) else (none)) else (none)) else (some (x168000, x168001, x168002, x168003, x168004, true))
def spec_At29.f (k : Nat) (a0_0 : Int) (a0_1 : ByteArray) (a0_2 : ByteArray) (l0_3 : List (S78)) (l0_4 : List (S25)) (l1 : List Int) : Option (Int × ByteArray × ByteArray × (List (S78)) × (List (S25)) × Bool) := spec_At29.l0 k l1 (l1.length : Int) 0 a0_0 a0_1 a0_2 l0_3 l0_4
theorem spec_At29.mono_l : ∀ k, (∀ y0 y1 y2 y3 y4 y5 y6 y7, LeO (spec_At29.l0 k y0 y1 y2 y3 y4 y5 y6 y7) (spec_At29.l0 (k + 1) y0 y1 y2 y3 y4 y5 y6 y7))
  | 0 => fun _ _ _ _ _ _ _ _ r h => by simp [spec_At29.l0] at h
  | k + 1 => by
    have ih0 := spec_At29.mono_l k
    · intro y0 y1 y2 y3 y4 y5 y6 y7
      unfold spec_At29.l0
      repeat' first
      | (with_reducible exact ih0 _ _ _ _ _ _ _ _)
      | (with_reducible exact LeO.refl _)
      | (with_reducible exact LeO.none _)
      | (with_reducible refine LeO.ite ?_ ?_)
      | (with_reducible refine LeO.bind ?_ (fun _ => ?_))
      | exact ih0 _ _ _ _ _ _ _ _
      | exact LeO.none _
      | refine LeO.ite ?_ ?_
      | refine LeO.bind ?_ (fun _ => ?_)
theorem spec_At29.mono : ∀ a0 a1 a2 a3 a4 a5 k, LeO (spec_At29.f k a0 a1 a2 a3 a4 a5) (spec_At29.f (k + 1) a0 a1 a2 a3 a4 a5) := by
  intro a0 a1 a2 a3 a4 a5 k
  have ih0 := spec_At29.mono_l k
  unfold spec_At29.f
  repeat' first
      | (with_reducible exact ih0 _ _ _ _ _ _ _ _)
      | (with_reducible exact LeO.refl _)
      | (with_reducible exact LeO.none _)
      | (with_reducible refine LeO.ite ?_ ?_)
      | (with_reducible refine LeO.bind ?_ (fun _ => ?_))
      | exact ih0 _ _ _ _ _ _ _ _
      | exact LeO.none _
      | refine LeO.ite ?_ ?_
      | refine LeO.bind ?_ (fun _ => ?_)
set_option maxHeartbeats 8000000 in
set_option maxRecDepth 100000 in
theorem spec_At29.calls (k : Nat) (a0_0 : Int) (a0_1 : ByteArray) (a0_2 : ByteArray) (P0_3_ : Nat → Prop) (A0_3 : Option Addr) (c0_3 : Nat) (l0_3 : List (S78)) (P0_4_ : Nat → Prop) (A0_4 : Option Addr) (c0_4 : Nat) (l0_4 : List (S25)) (A1 : Option Addr) (c1 : Nat) (l1 : List Int) (r1 : Int) (r2 : ByteArray) (r3 : ByteArray) (r4 : List (S78)) (r5 : List (S25)) (r6 : Bool) (w : World) (hs0_3 : Kd.V k78 78 w w.heap.size (fun k_ => P0_3_ k_) (.slice A0_3 l0_3.length c0_3) l0_3) (hs0_4 : Kd.V k25 25 w w.heap.size (fun k_ => P0_4_ k_) (.slice A0_4 l0_4.length c0_4) l0_4) (hr1 : Kd.C (Kd.int .i64) w A1 l1.length l1) (hc1 : l1.length ≤ c1) (h : spec_At29.f k a0_0 a0_1 a0_2 l0_3 l0_4 l1 = some (r1, r2, r3, r4, r5, r6)) :
    Calls Try.prog 17 #[.agg #[.int .i64 a0_0, .string a0_1, .string a0_2, .slice A0_3 l0_3.length c0_3, .slice A0_4 l0_4.length c0_4], .slice A1 l1.length c1] w fun e w' => ∃ v3_ v4_ : Value, e = .returned (.tuple #[.agg #[.int .i64 r1, .string r2, .string r3, v3_, v4_], .bool r6]) ∧ Kd.V k78 78 w' w.heap.size (fun k_ => ((P0_3_ k_ ∨ P0_4_ k_) ∨ w.heap.size ≤ k_)) v3_ r4 ∧ Kd.V k25 25 w' w.heap.size (fun k_ => ((P0_3_ k_ ∨ P0_4_ k_) ∨ w.heap.size ≤ k_)) v4_ r5 ∧ Below w.heap.size w w' := by
  have hu25 := Try.underlying25
  have HO0_3 := Aside0.mk (show Kd.V k78 78 w w.heap.size (fun k_ => ((P0_3_ k_ ∨ P0_4_ k_) ∨ w.heap.size ≤ k_)) (.slice A0_3 l0_3.length c0_3) l0_3 from Kd.V_mono hs0_3 (fun k_ hk => .inl (.inl hk)))
  have HO0_4 := Aside0.mk (show Kd.V k25 25 w w.heap.size (fun k_ => ((P0_3_ k_ ∨ P0_4_ k_) ∨ w.heap.size ≤ k_)) (.slice A0_4 l0_4.length c0_4) l0_4 from Kd.V_mono hs0_4 (fun k_ hk => .inl (.inr hk)))
  have HR1 := Aside0.mk hr1
  have HC1 := Aside0.mk hc1
  clear hr1 hc1
  have HB := Aside0.mk (Below.refl w.heap.size w)
  have H : (spec_At29.l0 k l1 (l1.length : Int) 0 a0_0 a0_1 a0_2 l0_3 l0_4) = some (r1, r2, r3, r4, r5, r6) := h
  clear h
  have H' := Aside0.mk H
  clear H
  go_enter Try.func17, Try.ntmps17
  go_wp2_with (first | ((with_reducible refine gate_dst (N := 2) rfl ?_); (try (refine gate_guard (by rfl) ?_; dsimp only)); refine box_event ?hg (N := 2) ?hd (cs := #[.int .i64 a0_0, .string a0_1, .string a0_2, .slice A0_3 l0_3.length c0_3, .slice A0_4 l0_4.length c0_4]) (t := 25) ?hr ?_; (case hd => rfl); (case hg => rfl); (case hr => first | (go_simp; done) | (go_simp; rfl)); intro gb167 hg w3 hbox hb; have n0_ := Aside0.mk (Kd.V_below (Kd.V_elderB (by (with_reducible repeat (first | apply Kd.V_alloc | apply Kd.V_drewN | apply Kd.V_drew)); exact HO0_3.out) gb167 (Nat.le_of_eq hg.symm)) hb); have n1_ := Aside0.mk (Kd.V_below (Kd.V_elderB (by (with_reducible repeat (first | apply Kd.V_alloc | apply Kd.V_drewN | apply Kd.V_drew)); exact HO0_4.out) gb167 (Nat.le_of_eq hg.symm)) hb); have n2_ := Aside0.mk (below_step (by repeat (first | (with_reducible first | exact HB.out | apply below_alloc | apply pw_below_drewN | apply below_drew1) | exact HB.out)) hb); have n3_ := Aside0.mk (hbox); have n4_ := Aside0.mk ((by rw [hg]; exact (below_size (by repeat (first | (with_reducible first | exact HB.out | apply below_alloc | apply pw_below_drewN | apply below_drew1) | exact HB.out))) : w.heap.size ≤ gb167)); have n5_ := Aside0.mk ((by rw [hg]; exact (below_size (by repeat (first | (with_reducible first | exact HB.out | apply below_alloc | apply pw_below_drewN | apply below_drew1) | exact HB.out))) : w.heap.size ≤ gb167)); clear HO0_3; clear HO0_4; clear HB; have HO0_3 := n0_; have HO0_4 := n1_; have HB := n2_; have BK167 := n3_; have GW167 := n4_; have GE167 := n5_; clear n0_ n1_ n2_ n3_ n4_ n5_; clear hb hbox hg) | ((with_reducible refine gate_dst (N := 4) rfl ?_); (try (refine gate_guard (by rfl) ?_; dsimp only)); refine box_event ?hg (N := 4) ?hd (cs := #[.int .i64 0, .string (⟨#[]⟩ : ByteArray), .string (⟨#[]⟩ : ByteArray), .slice none 0 0, .slice none 0 0]) (t := 25) ?hr ?_; (case hd => rfl); (case hg => rfl); (case hr => first | (go_simp; done) | (go_simp; rfl)); intro gb168 hg w4 hbox hb; have n0_ := Aside0.mk (Kd.V_below (Kd.V_elderB (by (with_reducible repeat (first | apply Kd.V_alloc | apply Kd.V_drewN | apply Kd.V_drew)); exact HO0_3.out) gb168 (Nat.le_of_eq hg.symm)) hb); have n1_ := Aside0.mk (Kd.V_below (Kd.V_elderB (by (with_reducible repeat (first | apply Kd.V_alloc | apply Kd.V_drewN | apply Kd.V_drew)); exact HO0_4.out) gb168 (Nat.le_of_eq hg.symm)) hb); have n2_ := Aside0.mk (blk_below (g := gb167) (o := .cells #[.int .i64 a0_0, .string a0_1, .string a0_2, .slice A0_3 l0_3.length c0_3, .slice A0_4 l0_4.length c0_4] 25 (0, 0)) (by (with_reducible repeat (first | refine blk_drewN ?_ _ | refine blk_drew ?_ | refine blk_alloc ?_ _)); exact BK167.out) hb); have n3_ := Aside0.mk (below_step (by repeat (first | (with_reducible first | exact HB.out | apply below_alloc | apply pw_below_drewN | apply below_drew1 | refine below_set ?_ GE167.out) | exact HB.out)) hb); have n4_ := Aside0.mk (hbox); have n5_ := Aside0.mk ((by rw [hg]; exact (below_size (by repeat (first | (with_reducible first | exact HB.out | apply below_alloc | apply pw_below_drewN | apply below_drew1 | refine below_set ?_ GE167.out) | exact HB.out))) : w.heap.size ≤ gb168)); have n6_ := Aside0.mk ((by rw [hg]; exact (below_size (by repeat (first | (with_reducible first | exact HB.out | apply below_alloc | apply pw_below_drewN | apply below_drew1 | refine below_set ?_ GE167.out) | exact HB.out))) : w.heap.size ≤ gb168)); have n7_ := Aside0.mk ((by rw [hg]; exact Nat.ne_of_lt (blk_lt (g := gb167) (o := .cells #[.int .i64 a0_0, .string a0_1, .string a0_2, .slice A0_3 l0_3.length c0_3, .slice A0_4 l0_4.length c0_4] 25 (0, 0)) (by (with_reducible repeat (first | refine blk_drewN ?_ _ | refine blk_drew ?_ | refine blk_alloc ?_ _)); exact BK167.out)) : gb167 ≠ gb168)); have n8_ := Aside0.mk ((by rw [hg]; exact Nat.ne_of_gt (blk_lt (g := gb167) (o := .cells #[.int .i64 a0_0, .string a0_1, .string a0_2, .slice A0_3 l0_3.length c0_3, .slice A0_4 l0_4.length c0_4] 25 (0, 0)) (by (with_reducible repeat (first | refine blk_drewN ?_ _ | refine blk_drew ?_ | refine blk_alloc ?_ _)); exact BK167.out)) : gb168 ≠ gb167)); clear HO0_3; clear HO0_4; clear BK167; clear HB; have HO0_3 := n0_; have HO0_4 := n1_; have BK167 := n2_; have HB := n3_; have BK168 := n4_; have GW168 := n5_; have GE168 := n6_; have NB167_168 := n7_; have NB168_167 := n8_; clear n0_ n1_ n2_ n3_ n4_ n5_ n6_ n7_ n8_; clear hb hbox hg))
  go_loopg [10] k (fun kq v10 w' => ∃ (x10_1 : Int) (x168000_1 : Int) (x168001_1 : ByteArray) (x168002_1 : ByteArray) (x168003_1 : List (S78)) (x168004_1 : List (S25)) (x169000_1 : Int) (x169001_1 : ByteArray) (x169002_1 : ByteArray) (u168003 : Value) (u168004 : Value), v10 = .int .i64 x10_1 ∧ Aside0 (spec_At29.l0 kq l1 (l1.length : Int) x10_1 x168000_1 x168001_1 x168002_1 x168003_1 x168004_1 = some (r1, r2, r3, r4, r5, r6)) ∧ Aside0 (kq ≤ k) ∧ Aside0 (Kd.V k78 78 w' w.heap.size (fun k_ => ((P0_3_ k_ ∨ P0_4_ k_) ∨ w.heap.size ≤ k_) ∧ k_ ≠ gb167 ∧ k_ ≠ gb168) u168003 x168003_1) ∧ Aside0 (Kd.V k25 25 w' w.heap.size (fun k_ => ((P0_3_ k_ ∨ P0_4_ k_) ∨ w.heap.size ≤ k_) ∧ k_ ≠ gb167 ∧ k_ ≠ gb168) u168004 x168004_1) ∧ Aside0 (w'.heap[gb167]? = some (.cells #[.int .i64 x168000_1, .string x168001_1, .string x168002_1, u168003, u168004] 25 (0, 0))) ∧ Aside0 (w'.heap[gb168]? = some (.cells #[.int .i64 x169000_1, .string x169001_1, .string x169002_1, (.slice none 0 0), (.slice none 0 0)] 25 (0, 0))) ∧ Aside0 (Below w.heap.size w w'))
  case atStart => exact ⟨(0), (a0_0), (a0_1), (a0_2), (l0_3), (l0_4), (0), ((⟨#[]⟩ : ByteArray)), ((⟨#[]⟩ : ByteArray)), (.slice A0_3 l0_3.length c0_3), (.slice A0_4 l0_4.length c0_4), (by first | rfl | (simp; done) | (simp [*]; done)), H', ⟨Nat.le_refl _⟩, ⟨by (with_reducible repeat (first | apply Kd.V_alloc | apply Kd.V_drewN | apply Kd.V_drew)); exact Kd.V_mono HO0_3.out (fun _ hk => ⟨hk.1.1, ⟨hk.1.2, hk.2⟩⟩)⟩, ⟨by (with_reducible repeat (first | apply Kd.V_alloc | apply Kd.V_drewN | apply Kd.V_drew)); exact Kd.V_mono HO0_4.out (fun _ hk => ⟨hk.1.1, ⟨hk.1.2, hk.2⟩⟩)⟩, ⟨by (with_reducible repeat (first | refine blk_drewN ?_ _ | refine blk_drew ?_ | refine blk_alloc ?_ _)); exact BK167.out⟩, ⟨by (with_reducible repeat (first | refine blk_drewN ?_ _ | refine blk_drew ?_ | refine blk_alloc ?_ _)); exact BK168.out⟩, ⟨by repeat (first | (with_reducible first | exact HB.out | apply below_alloc | apply pw_below_drewN | apply below_drew1 | refine below_set ?_ GE167.out | refine below_set ?_ GE168.out) | exact HB.out)⟩⟩
  case round =>
    clear H'
    try clear c1
    try clear p2
    obtain ⟨x10_1, x168000_1, x168001_1, x168002_1, x168003_1, x168004_1, x169000_1, x169001_1, x169002_1, u168003, u168004, rfl, HA, HK1, HO_168003, HO_168004, BK167, BK168, HB⟩ := hrel
    cases gk with
    | zero => exact absurd HA.out (by simp [spec_At29.l0])
    | succ k1 =>
      have H := HA.out
      clear HA
      simp only [spec_At29.l0] at H
      by_cases c5 : x10_1 < (l1.length : Int)
      · rw [if_pos c5] at H
        have c5b0 : decide (x10_1 < (l1.length : Int)) = true := decide_eq_true c5
        clear c5
        by_cases c6 : 0 ≤ x10_1
        · rw [if_pos c6] at H
          have c6b0 : decide (0 ≤ x10_1) = true := decide_eq_true c6
          clear c6
          by_cases c7 : x10_1 < (l1.length : Int)
          · rw [if_pos c7] at H
            have c7b0 : decide (x10_1 < (l1.length : Int)) = true := decide_eq_true c7
            clear c7
            by_cases c8 : (rd l1 x10_1) < 0
            · rw [if_pos c8] at H
              have c8b0 : decide ((rd l1 x10_1) < 0) = true := decide_eq_true c8
              clear c8
              simp only [Option.some.injEq, Prod.mk.injEq] at H
              obtain ⟨rfl, rfl, rfl, rfl, rfl, rfl⟩ := H
              have p169 : 0 ≤ (x10_1 : Int) := of_decide_eq_true (by first | (with_reducible assumption) | assumption)
              have q169 : x10_1 < (l1.length : Int) := of_decide_eq_true (by first | (with_reducible assumption) | assumption)
              obtain ⟨ad169, e169, hx169_0⟩ := Kd.at_int HR1.out x10_1 p169 q169
              cases e169
              replace hx169_0 := (HB.out.cell (World.block_lt_of_cell? w _ hx169_0)).trans hx169_0
              replace p169 := eq_true p169
              replace q169 := eq_true q169
              have hnb9 := NB168_167.out
              have hnc9 := NB167_168.out
              have hcz10_0 : wr.cell? ⟨gb168, 0, none⟩ = some (.int .i64 x169000_1) := (blk_cell BK168.out 0).trans rfl
              have hcz10_1 : wr.cell? ⟨gb168, 1, none⟩ = some (.string x169001_1) := (blk_cell BK168.out 1).trans rfl
              have hcz10_2 : wr.cell? ⟨gb168, 2, none⟩ = some (.string x169002_1) := (blk_cell BK168.out 2).trans rfl
              have hcz10_3 : wr.cell? ⟨gb168, 3, none⟩ = some (.slice none 0 0) := (blk_cell BK168.out 3).trans rfl
              have hcz10_4 : wr.cell? ⟨gb168, 4, none⟩ = some (.slice none 0 0) := (blk_cell BK168.out 4).trans rfl
              have hfz10_0 := blk_frozen BK168.out 0
              have hfz10_1 := blk_frozen BK168.out 1
              have hfz10_2 := blk_frozen BK168.out 2
              have hfz10_3 := blk_frozen BK168.out 3
              have hfz10_4 := blk_frozen BK168.out 4
              go_wp2
              refine bodyPost_ret (results_ct rfl _ _ gb168 25 #[.int .i64 0, .string (⟨#[]⟩ : ByteArray), .string (⟨#[]⟩ : ByteArray), .slice none 0 0, .slice none 0 0] (0, 0) _ rfl (by (with_reducible repeat (first | refine blk_drewN ?_ _ | refine blk_drew ?_ | refine blk_alloc ?_ _)); refine blk_put (cs := #[.int .i64 0, .string (⟨#[]⟩ : ByteArray), .string (⟨#[]⟩ : ByteArray), .slice none 0 0, .slice none 0 0]) ?_ 4 _ rfl; (with_reducible repeat (first | refine blk_drewN ?_ _ | refine blk_drew ?_ | refine blk_alloc ?_ _)); refine blk_put (cs := #[.int .i64 0, .string (⟨#[]⟩ : ByteArray), .string (⟨#[]⟩ : ByteArray), .slice none 0 0, .slice none 0 0]) ?_ 3 _ rfl; (with_reducible repeat (first | refine blk_drewN ?_ _ | refine blk_drew ?_ | refine blk_alloc ?_ _)); refine blk_put (cs := #[.int .i64 0, .string (⟨#[]⟩ : ByteArray), .string x169002_1, .slice none 0 0, .slice none 0 0]) ?_ 2 _ rfl; (with_reducible repeat (first | refine blk_drewN ?_ _ | refine blk_drew ?_ | refine blk_alloc ?_ _)); refine blk_put (cs := #[.int .i64 0, .string x169001_1, .string x169002_1, .slice none 0 0, .slice none 0 0]) ?_ 1 _ rfl; (with_reducible repeat (first | refine blk_drewN ?_ _ | refine blk_drew ?_ | refine blk_alloc ?_ _)); refine blk_put (cs := #[.int .i64 x169000_1, .string x169001_1, .string x169002_1, .slice none 0 0, .slice none 0 0]) ?_ 0 _ rfl; (with_reducible repeat (first | refine blk_drewN ?_ _ | refine blk_drew ?_ | refine blk_alloc ?_ _)); exact BK168.out) Try.underlying25 rfl (by kernel_rfl)) rfl ?_
              exact ⟨_, _, by first | rfl | (simp [errW_none, errW_some] <;> rfl) | (simp [*, errW_none, errW_some] <;> rfl), Kd.V_nil _ _ _ _ _, Kd.V_nil _ _ _ _ _, by repeat (first | (with_reducible first | exact HB.out | apply below_alloc | apply pw_below_drewN | apply below_drew1 | refine below_set ?_ GE167.out | refine below_set ?_ GE168.out) | exact HB.out)⟩
            · rw [if_neg c8] at H
              have c8b0 : decide ((rd l1 x10_1) < 0) = false := decide_eq_false c8
              clear c8
              by_cases c11 : (rd l1 x10_1) ≥ (x168004_1.length : Int)
              · rw [if_pos c11] at H
                have c11b0 : decide ((x168004_1.length : Int) ≤ (rd l1 x10_1)) = true := decide_eq_true c11
                clear c11
                simp only [Option.some.injEq, Prod.mk.injEq] at H
                obtain ⟨rfl, rfl, rfl, rfl, rfl, rfl⟩ := H
                have p169 : 0 ≤ (x10_1 : Int) := of_decide_eq_true (by first | (with_reducible assumption) | assumption)
                have q169 : x10_1 < (l1.length : Int) := of_decide_eq_true (by first | (with_reducible assumption) | assumption)
                obtain ⟨ad169, e169, hx169_0⟩ := Kd.at_int HR1.out x10_1 p169 q169
                cases e169
                replace hx169_0 := (HB.out.cell (World.block_lt_of_cell? w _ hx169_0)).trans hx169_0
                replace p169 := eq_true p169
                replace q169 := eq_true q169
                have hnb12 := NB167_168.out
                have hnc12 := NB168_167.out
                have hcz13_0 : wr.cell? ⟨gb167, 0, none⟩ = some (.int .i64 x168000_1) := (blk_cell BK167.out 0).trans rfl
                have hcz13_1 : wr.cell? ⟨gb167, 1, none⟩ = some (.string x168001_1) := (blk_cell BK167.out 1).trans rfl
                have hcz13_2 : wr.cell? ⟨gb167, 2, none⟩ = some (.string x168002_1) := (blk_cell BK167.out 2).trans rfl
                have hcz13_3 : wr.cell? ⟨gb167, 3, none⟩ = some (u168003) := (blk_cell BK167.out 3).trans rfl
                have hcz13_4 : wr.cell? ⟨gb167, 4, none⟩ = some (u168004) := (blk_cell BK167.out 4).trans rfl
                have hfz13_0 := blk_frozen BK167.out 0
                have hfz13_1 := blk_frozen BK167.out 1
                have hfz13_2 := blk_frozen BK167.out 2
                have hfz13_3 := blk_frozen BK167.out 3
                have hfz13_4 := blk_frozen BK167.out 4
                obtain ⟨Ao14, co14, eo14⟩ := Kd.V_slice HO_168004.out
                subst eo14
                have hcz15_0 : wr.cell? ⟨gb168, 0, none⟩ = some (.int .i64 x169000_1) := (blk_cell BK168.out 0).trans rfl
                have hcz15_1 : wr.cell? ⟨gb168, 1, none⟩ = some (.string x169001_1) := (blk_cell BK168.out 1).trans rfl
                have hcz15_2 : wr.cell? ⟨gb168, 2, none⟩ = some (.string x169002_1) := (blk_cell BK168.out 2).trans rfl
                have hcz15_3 : wr.cell? ⟨gb168, 3, none⟩ = some (.slice none 0 0) := (blk_cell BK168.out 3).trans rfl
                have hcz15_4 : wr.cell? ⟨gb168, 4, none⟩ = some (.slice none 0 0) := (blk_cell BK168.out 4).trans rfl
                have hfz15_0 := blk_frozen BK168.out 0
                have hfz15_1 := blk_frozen BK168.out 1
                have hfz15_2 := blk_frozen BK168.out 2
                have hfz15_3 := blk_frozen BK168.out 3
                have hfz15_4 := blk_frozen BK168.out 4
                go_wp2
                refine bodyPost_ret (results_ct rfl _ _ gb168 25 #[.int .i64 0, .string (⟨#[]⟩ : ByteArray), .string (⟨#[]⟩ : ByteArray), .slice none 0 0, .slice none 0 0] (0, 0) _ rfl (by (with_reducible repeat (first | refine blk_drewN ?_ _ | refine blk_drew ?_ | refine blk_alloc ?_ _)); refine blk_put (cs := #[.int .i64 0, .string (⟨#[]⟩ : ByteArray), .string (⟨#[]⟩ : ByteArray), .slice none 0 0, .slice none 0 0]) ?_ 4 _ rfl; (with_reducible repeat (first | refine blk_drewN ?_ _ | refine blk_drew ?_ | refine blk_alloc ?_ _)); refine blk_put (cs := #[.int .i64 0, .string (⟨#[]⟩ : ByteArray), .string (⟨#[]⟩ : ByteArray), .slice none 0 0, .slice none 0 0]) ?_ 3 _ rfl; (with_reducible repeat (first | refine blk_drewN ?_ _ | refine blk_drew ?_ | refine blk_alloc ?_ _)); refine blk_put (cs := #[.int .i64 0, .string (⟨#[]⟩ : ByteArray), .string x169002_1, .slice none 0 0, .slice none 0 0]) ?_ 2 _ rfl; (with_reducible repeat (first | refine blk_drewN ?_ _ | refine blk_drew ?_ | refine blk_alloc ?_ _)); refine blk_put (cs := #[.int .i64 0, .string x169001_1, .string x169002_1, .slice none 0 0, .slice none 0 0]) ?_ 1 _ rfl; (with_reducible repeat (first | refine blk_drewN ?_ _ | refine blk_drew ?_ | refine blk_alloc ?_ _)); refine blk_put (cs := #[.int .i64 x169000_1, .string x169001_1, .string x169002_1, .slice none 0 0, .slice none 0 0]) ?_ 0 _ rfl; (with_reducible repeat (first | refine blk_drewN ?_ _ | refine blk_drew ?_ | refine blk_alloc ?_ _)); exact BK168.out) Try.underlying25 rfl (by kernel_rfl)) rfl ?_
                exact ⟨_, _, by first | rfl | (simp [errW_none, errW_some] <;> rfl) | (simp [*, errW_none, errW_some] <;> rfl), Kd.V_nil _ _ _ _ _, Kd.V_nil _ _ _ _ _, by repeat (first | (with_reducible first | exact HB.out | apply below_alloc | apply pw_below_drewN | apply below_drew1 | refine below_set ?_ GE167.out | refine below_set ?_ GE168.out) | exact HB.out)⟩
              · rw [if_neg c11] at H
                have c11b0 : decide ((x168004_1.length : Int) ≤ (rd l1 x10_1)) = false := decide_eq_false c11
                clear c11
                by_cases c16 : 0 ≤ (rd l1 x10_1)
                · rw [if_pos c16] at H
                  have c16b0 : decide (0 ≤ (rd l1 x10_1)) = true := decide_eq_true c16
                  clear c16
                  by_cases c17 : (rd l1 x10_1) < (x168004_1.length : Int)
                  · rw [if_pos c17] at H
                    have c17b0 : decide ((rd l1 x10_1) < (x168004_1.length : Int)) = true := decide_eq_true c17
                    clear c17
                    have H' := Aside0.mk H
                    clear H
                    have p169 : 0 ≤ (x10_1 : Int) := of_decide_eq_true (by first | (with_reducible assumption) | assumption)
                    have q169 : x10_1 < (l1.length : Int) := of_decide_eq_true (by first | (with_reducible assumption) | assumption)
                    obtain ⟨ad169, e169, hx169_0⟩ := Kd.at_int HR1.out x10_1 p169 q169
                    cases e169
                    replace hx169_0 := (HB.out.cell (World.block_lt_of_cell? w _ hx169_0)).trans hx169_0
                    replace p169 := eq_true p169
                    replace q169 := eq_true q169
                    have hnb18 := NB167_168.out
                    have hnc18 := NB168_167.out
                    have hcz19_0 : wr.cell? ⟨gb167, 0, none⟩ = some (.int .i64 x168000_1) := (blk_cell BK167.out 0).trans rfl
                    have hcz19_1 : wr.cell? ⟨gb167, 1, none⟩ = some (.string x168001_1) := (blk_cell BK167.out 1).trans rfl
                    have hcz19_2 : wr.cell? ⟨gb167, 2, none⟩ = some (.string x168002_1) := (blk_cell BK167.out 2).trans rfl
                    have hcz19_3 : wr.cell? ⟨gb167, 3, none⟩ = some (u168003) := (blk_cell BK167.out 3).trans rfl
                    have hcz19_4 : wr.cell? ⟨gb167, 4, none⟩ = some (u168004) := (blk_cell BK167.out 4).trans rfl
                    have hfz19_0 := blk_frozen BK167.out 0
                    have hfz19_1 := blk_frozen BK167.out 1
                    have hfz19_2 := blk_frozen BK167.out 2
                    have hfz19_3 := blk_frozen BK167.out 3
                    have hfz19_4 := blk_frozen BK167.out 4
                    obtain ⟨Ao20, co20, eo20⟩ := Kd.V_slice HO_168004.out
                    subst eo20
                    have p170 : 0 ≤ ((rd l1 x10_1) : Int) := of_decide_eq_true (by first | (with_reducible assumption) | assumption)
                    have q170 : (rd l1 x10_1) < (x168004_1.length : Int) := of_decide_eq_true (by first | (with_reducible assumption) | assumption)
                    obtain ⟨ad170, A170_3, c170_3, A170_4, c170_4, e170, hx170_0, hx170_1, hx170_2, hx170_3, hx170_4, hl170_3, hi170_3, hl170_4, hi170_4⟩ := at_T25 (Kd.V_reads' HO_168004.out).2.2 (rd l1 x10_1) p170 q170
                    cases e170
                    obtain ⟨ce170, hce170, hMe170, hcc170⟩ := Kd.V_get HO_168004.out z25 (rd l1 x10_1) p170 (by first | exact q170 | exact of_decide_eq_true (by first | (with_reducible assumption) | assumption) | (have e_ := (Kd.V_reads' HO_168004.out).1; omega))
                    obtain ⟨ua170_3, uc170_3, ua170_4, uc170_4, rfl, ul170_3, ge170_3, ul170_4, ge170_4⟩ := k25_openF hMe170
                    have hv170_3 := hcc170 3 _ rfl
                    rw [add_field _ _ 3 (by omega)] at hv170_3
                    replace hv170_3 := Option.some.inj (hv170_3.symm.trans hx170_3)
                    injection hv170_3 with hva_ hvn_ hvc_
                    rw [hva_] at ge170_3
                    rw [hvc_] at ul170_3
                    have HL170_3 := Aside0.mk (show Kd.V k78 78 _ w.heap.size _ _ ((rd_T25 x168004_1 (rd l1 x10_1)).f3) from Kd.V_mk ul170_3 ge170_3)
                    clear hva_ hvn_ hvc_ ge170_3 ul170_3
                    have hv170_4 := hcc170 4 _ rfl
                    rw [add_field _ _ 4 (by omega)] at hv170_4
                    replace hv170_4 := Option.some.inj (hv170_4.symm.trans hx170_4)
                    injection hv170_4 with hva_ hvn_ hvc_
                    rw [hva_] at ge170_4
                    rw [hvc_] at ul170_4
                    have HL170_4 := Aside0.mk (show Kd.V k25 25 _ w.heap.size _ _ ((rd_T25 x168004_1 (rd l1 x10_1)).f4) from Kd.V_mk ul170_4 ge170_4)
                    clear hva_ hvn_ hvc_ ge170_4 ul170_4
                    clear hcc170 hce170
                    have HR170_3 := Aside0.mk hi170_3
                    have HC170_3 := Aside0.mk hl170_3
                    clear hi170_3 hl170_3
                    have HR170_4 := Aside0.mk hi170_4
                    have HC170_4 := Aside0.mk hl170_4
                    clear hi170_4 hl170_4
                    replace p170 := eq_true p170
                    replace q170 := eq_true q170
                    go_wp2
                    go_roundg k1
                    case measure => have := HK1.out; omega
                    case rel => exact ⟨(wrap64 (x10_1 + 1)), ((rd_T25 x168004_1 (rd l1 x10_1)).f0), ((rd_T25 x168004_1 (rd l1 x10_1)).f1), ((rd_T25 x168004_1 (rd l1 x10_1)).f2), ((rd_T25 x168004_1 (rd l1 x10_1)).f3), ((rd_T25 x168004_1 (rd l1 x10_1)).f4), (x169000_1), (x169001_1), (x169002_1), (.slice A170_3 ((rd_T25 x168004_1 (rd l1 x10_1)).f3).length c170_3), (.slice A170_4 ((rd_T25 x168004_1 (rd l1 x10_1)).f4).length c170_4), (by first | rfl | (simp; done) | (simp [*]; done)), H', ⟨by have := HK1.out; omega⟩, ⟨by (with_reducible repeat (first | apply Kd.V_alloc | apply Kd.V_drewN | apply Kd.V_drew)); exact Kd.V_mono (Kd.V_far (p := ⟨gb167, 4, none⟩) (Kd.V_far (p := ⟨gb167, 3, none⟩) (Kd.V_far (p := ⟨gb167, 2, none⟩) (Kd.V_far (p := ⟨gb167, 1, none⟩) (Kd.V_far (p := ⟨gb167, 0, none⟩) (Kd.V_mono HL170_3.out (fun k_ hk => (⟨hk, hk.2.1⟩ : _ ∧ k_ ≠ gb167))) (fun _ hk => hk.2) (.int .i64 ((rd_T25 x168004_1 (rd l1 x10_1)).f0))) (fun _ hk => hk.2) (.string ((rd_T25 x168004_1 (rd l1 x10_1)).f1))) (fun _ hk => hk.2) (.string ((rd_T25 x168004_1 (rd l1 x10_1)).f2))) (fun _ hk => hk.2) (.slice A170_3 ((rd_T25 x168004_1 (rd l1 x10_1)).f3).length c170_3)) (fun _ hk => hk.2) (.slice A170_4 ((rd_T25 x168004_1 (rd l1 x10_1)).f4).length c170_4)) (fun _ hk => ⟨hk.1.1, ⟨hk.1.2.1, hk.1.2.2⟩⟩)⟩, ⟨by (with_reducible repeat (first | apply Kd.V_alloc | apply Kd.V_drewN | apply Kd.V_drew)); exact Kd.V_mono (Kd.V_far (p := ⟨gb167, 4, none⟩) (Kd.V_far (p := ⟨gb167, 3, none⟩) (Kd.V_far (p := ⟨gb167, 2, none⟩) (Kd.V_far (p := ⟨gb167, 1, none⟩) (Kd.V_far (p := ⟨gb167, 0, none⟩) (Kd.V_mono HL170_4.out (fun k_ hk => (⟨hk, hk.2.1⟩ : _ ∧ k_ ≠ gb167))) (fun _ hk => hk.2) (.int .i64 ((rd_T25 x168004_1 (rd l1 x10_1)).f0))) (fun _ hk => hk.2) (.string ((rd_T25 x168004_1 (rd l1 x10_1)).f1))) (fun _ hk => hk.2) (.string ((rd_T25 x168004_1 (rd l1 x10_1)).f2))) (fun _ hk => hk.2) (.slice A170_3 ((rd_T25 x168004_1 (rd l1 x10_1)).f3).length c170_3)) (fun _ hk => hk.2) (.slice A170_4 ((rd_T25 x168004_1 (rd l1 x10_1)).f4).length c170_4)) (fun _ hk => ⟨hk.1.1, ⟨hk.1.2.1, hk.1.2.2⟩⟩)⟩, ⟨by (with_reducible repeat (first | refine blk_drewN ?_ _ | refine blk_drew ?_ | refine blk_alloc ?_ _)); refine blk_put (cs := #[.int .i64 ((rd_T25 x168004_1 (rd l1 x10_1)).f0), .string ((rd_T25 x168004_1 (rd l1 x10_1)).f1), .string ((rd_T25 x168004_1 (rd l1 x10_1)).f2), .slice A170_3 ((rd_T25 x168004_1 (rd l1 x10_1)).f3).length c170_3, .slice (some ad170) x168004_1.length co20]) ?_ 4 _ rfl; (with_reducible repeat (first | refine blk_drewN ?_ _ | refine blk_drew ?_ | refine blk_alloc ?_ _)); refine blk_put (cs := #[.int .i64 ((rd_T25 x168004_1 (rd l1 x10_1)).f0), .string ((rd_T25 x168004_1 (rd l1 x10_1)).f1), .string ((rd_T25 x168004_1 (rd l1 x10_1)).f2), u168003, .slice (some ad170) x168004_1.length co20]) ?_ 3 _ rfl; (with_reducible repeat (first | refine blk_drewN ?_ _ | refine blk_drew ?_ | refine blk_alloc ?_ _)); refine blk_put (cs := #[.int .i64 ((rd_T25 x168004_1 (rd l1 x10_1)).f0), .string ((rd_T25 x168004_1 (rd l1 x10_1)).f1), .string x168002_1, u168003, .slice (some ad170) x168004_1.length co20]) ?_ 2 _ rfl; (with_reducible repeat (first | refine blk_drewN ?_ _ | refine blk_drew ?_ | refine blk_alloc ?_ _)); refine blk_put (cs := #[.int .i64 ((rd_T25 x168004_1 (rd l1 x10_1)).f0), .string x168001_1, .string x168002_1, u168003, .slice (some ad170) x168004_1.length co20]) ?_ 1 _ rfl; (with_reducible repeat (first | refine blk_drewN ?_ _ | refine blk_drew ?_ | refine blk_alloc ?_ _)); refine blk_put (cs := #[.int .i64 x168000_1, .string x168001_1, .string x168002_1, u168003, .slice (some ad170) x168004_1.length co20]) ?_ 0 _ rfl; (with_reducible repeat (first | refine blk_drewN ?_ _ | refine blk_drew ?_ | refine blk_alloc ?_ _)); exact BK167.out⟩, ⟨by (with_reducible repeat (first | refine blk_drewN ?_ _ | refine blk_drew ?_ | refine blk_alloc ?_ _)); refine blk_far ?_ NB168_167.out _; (with_reducible repeat (first | refine blk_drewN ?_ _ | refine blk_drew ?_ | refine blk_alloc ?_ _)); refine blk_far ?_ NB168_167.out _; (with_reducible repeat (first | refine blk_drewN ?_ _ | refine blk_drew ?_ | refine blk_alloc ?_ _)); refine blk_far ?_ NB168_167.out _; (with_reducible repeat (first | refine blk_drewN ?_ _ | refine blk_drew ?_ | refine blk_alloc ?_ _)); refine blk_far ?_ NB168_167.out _; (with_reducible repeat (first | refine blk_drewN ?_ _ | refine blk_drew ?_ | refine blk_alloc ?_ _)); refine blk_far ?_ NB168_167.out _; (with_reducible repeat (first | refine blk_drewN ?_ _ | refine blk_drew ?_ | refine blk_alloc ?_ _)); exact BK168.out⟩, ⟨by repeat (first | (with_reducible first | exact HB.out | apply below_alloc | apply pw_below_drewN | apply below_drew1 | refine below_set ?_ GE167.out | refine below_set ?_ GE168.out) | exact HB.out)⟩⟩
                  · rw [if_neg c17] at H
                    exact absurd H (by simp)
                · rw [if_neg c16] at H
                  exact absurd H (by simp)
          · rw [if_neg c7] at H
            exact absurd H (by simp)
        · rw [if_neg c6] at H
          exact absurd H (by simp)
      · rw [if_neg c5] at H
        have c5b0 : decide (x10_1 < (l1.length : Int)) = false := decide_eq_false c5
        clear c5
        simp only [Option.some.injEq, Prod.mk.injEq] at H
        obtain ⟨rfl, rfl, rfl, rfl, rfl, rfl⟩ := H
        have hnb21 := NB167_168.out
        have hnc21 := NB168_167.out
        have hcz22_0 : wr.cell? ⟨gb167, 0, none⟩ = some (.int .i64 x168000_1) := (blk_cell BK167.out 0).trans rfl
        have hcz22_1 : wr.cell? ⟨gb167, 1, none⟩ = some (.string x168001_1) := (blk_cell BK167.out 1).trans rfl
        have hcz22_2 : wr.cell? ⟨gb167, 2, none⟩ = some (.string x168002_1) := (blk_cell BK167.out 2).trans rfl
        have hcz22_3 : wr.cell? ⟨gb167, 3, none⟩ = some (u168003) := (blk_cell BK167.out 3).trans rfl
        have hcz22_4 : wr.cell? ⟨gb167, 4, none⟩ = some (u168004) := (blk_cell BK167.out 4).trans rfl
        have hfz22_0 := blk_frozen BK167.out 0
        have hfz22_1 := blk_frozen BK167.out 1
        have hfz22_2 := blk_frozen BK167.out 2
        have hfz22_3 := blk_frozen BK167.out 3
        have hfz22_4 := blk_frozen BK167.out 4
        have hcz23_0 : wr.cell? ⟨gb168, 0, none⟩ = some (.int .i64 x169000_1) := (blk_cell BK168.out 0).trans rfl
        have hcz23_1 : wr.cell? ⟨gb168, 1, none⟩ = some (.string x169001_1) := (blk_cell BK168.out 1).trans rfl
        have hcz23_2 : wr.cell? ⟨gb168, 2, none⟩ = some (.string x169002_1) := (blk_cell BK168.out 2).trans rfl
        have hcz23_3 : wr.cell? ⟨gb168, 3, none⟩ = some (.slice none 0 0) := (blk_cell BK168.out 3).trans rfl
        have hcz23_4 : wr.cell? ⟨gb168, 4, none⟩ = some (.slice none 0 0) := (blk_cell BK168.out 4).trans rfl
        have hfz23_0 := blk_frozen BK168.out 0
        have hfz23_1 := blk_frozen BK168.out 1
        have hfz23_2 := blk_frozen BK168.out 2
        have hfz23_3 := blk_frozen BK168.out 3
        have hfz23_4 := blk_frozen BK168.out 4
        obtain ⟨Ao24, co24, eo24⟩ := Kd.V_slice HO_168003.out
        subst eo24
        obtain ⟨Ao25, co25, eo25⟩ := Kd.V_slice HO_168004.out
        subst eo25
        go_wp2
        refine bodyPost_ret (results_ct rfl _ _ gb168 25 #[.int .i64 x168000_1, .string x168001_1, .string x168002_1, .slice Ao24 x168003_1.length co24, .slice Ao25 x168004_1.length co25] (0, 0) _ rfl (by (with_reducible repeat (first | refine blk_drewN ?_ _ | refine blk_drew ?_ | refine blk_alloc ?_ _)); refine blk_put (cs := #[.int .i64 x168000_1, .string x168001_1, .string x168002_1, .slice Ao24 x168003_1.length co24, .slice none 0 0]) ?_ 4 _ rfl; (with_reducible repeat (first | refine blk_drewN ?_ _ | refine blk_drew ?_ | refine blk_alloc ?_ _)); refine blk_put (cs := #[.int .i64 x168000_1, .string x168001_1, .string x168002_1, .slice none 0 0, .slice none 0 0]) ?_ 3 _ rfl; (with_reducible repeat (first | refine blk_drewN ?_ _ | refine blk_drew ?_ | refine blk_alloc ?_ _)); refine blk_put (cs := #[.int .i64 x168000_1, .string x168001_1, .string x169002_1, .slice none 0 0, .slice none 0 0]) ?_ 2 _ rfl; (with_reducible repeat (first | refine blk_drewN ?_ _ | refine blk_drew ?_ | refine blk_alloc ?_ _)); refine blk_put (cs := #[.int .i64 x168000_1, .string x169001_1, .string x169002_1, .slice none 0 0, .slice none 0 0]) ?_ 1 _ rfl; (with_reducible repeat (first | refine blk_drewN ?_ _ | refine blk_drew ?_ | refine blk_alloc ?_ _)); refine blk_put (cs := #[.int .i64 x169000_1, .string x169001_1, .string x169002_1, .slice none 0 0, .slice none 0 0]) ?_ 0 _ rfl; (with_reducible repeat (first | refine blk_drewN ?_ _ | refine blk_drew ?_ | refine blk_alloc ?_ _)); exact BK168.out) Try.underlying25 rfl (by kernel_rfl)) rfl ?_
        exact ⟨_, _, by first | rfl | (simp [errW_none, errW_some] <;> rfl) | (simp [*, errW_none, errW_some] <;> rfl), by (with_reducible repeat (first | apply Kd.V_alloc | apply Kd.V_drewN | apply Kd.V_drew)); exact Kd.V_mono (Kd.V_far (p := ⟨gb168, 4, none⟩) (Kd.V_far (p := ⟨gb168, 3, none⟩) (Kd.V_far (p := ⟨gb168, 2, none⟩) (Kd.V_far (p := ⟨gb168, 1, none⟩) (Kd.V_far (p := ⟨gb168, 0, none⟩) (Kd.V_mono HO_168003.out (fun k_ hk => (⟨hk, hk.2.2⟩ : _ ∧ k_ ≠ gb168))) (fun _ hk => hk.2) (.int .i64 x168000_1)) (fun _ hk => hk.2) (.string x168001_1)) (fun _ hk => hk.2) (.string x168002_1)) (fun _ hk => hk.2) (.slice Ao24 x168003_1.length co24)) (fun _ hk => hk.2) (.slice Ao25 x168004_1.length co25)) (fun _ hk => hk.1.1), by (with_reducible repeat (first | apply Kd.V_alloc | apply Kd.V_drewN | apply Kd.V_drew)); exact Kd.V_mono (Kd.V_far (p := ⟨gb168, 4, none⟩) (Kd.V_far (p := ⟨gb168, 3, none⟩) (Kd.V_far (p := ⟨gb168, 2, none⟩) (Kd.V_far (p := ⟨gb168, 1, none⟩) (Kd.V_far (p := ⟨gb168, 0, none⟩) (Kd.V_mono HO_168004.out (fun k_ hk => (⟨hk, hk.2.2⟩ : _ ∧ k_ ≠ gb168))) (fun _ hk => hk.2) (.int .i64 x168000_1)) (fun _ hk => hk.2) (.string x168001_1)) (fun _ hk => hk.2) (.string x168002_1)) (fun _ hk => hk.2) (.slice Ao24 x168003_1.length co24)) (fun _ hk => hk.2) (.slice Ao25 x168004_1.length co25)) (fun _ hk => hk.1.1), by repeat (first | (with_reducible first | exact HB.out | apply below_alloc | apply pw_below_drewN | apply below_drew1 | refine below_set ?_ GE167.out | refine below_set ?_ GE168.out) | exact HB.out)⟩
end Go.Proofs.Ytibfoaahdbdogaa.PDom

/- What the reference tells of paths: Walk29, and that a list of paths is itself. Plain facts. -/
namespace Go.Proofs.Ytibfoaahdbdogaa.PDom
open Go.RowKit Go.Proofs.YtibfoaahdbdogaaW.PrintWords Go.Proofs.YtibfoaahdbdogaaW.PrintLast Go.Proofs.YtibfoaahdbdogaaW.PrintMore Go.Proofs.Ytibfoaahdbdogaa.Dom
set_option linter.unusedVariables false
set_option linter.unusedSimpArgs false

mutual
theorem pathsT_len (p : List Int) : ∀ t : T, (pathsT p t).length = countT t
  | ⟨_, _, _, _, ks⟩ => by
    simp only [pathsT, countT, List.length_cons]
    have := pathsTL_len p 0 ks
    omega
theorem pathsTL_len (p : List Int) (j : Nat) : ∀ l : List T, (pathsTL p j l).length = countTL l
  | [] => rfl
  | k :: ks => by
    simp only [pathsTL, countTL, List.length_append]
    rw [pathsT_len, pathsTL_len]
end
theorem Ev.some {α : Type} {g : Nat → Option α} {r : α} (h : ∀ k, g k = some r) : Ev g r := ⟨0, fun k _ => h k⟩
theorem Ev.next {α : Type} {g f : Nat → Option α} {r : α} (h : ∀ k, g (k + 1) = f k) (hf : Ev f r) : Ev g r := Ev.step h hf
theorem under_eq (p : List Int) (j : Int) (hp : p.length < 10000) : spec_Under29.f p j = some (p ++ [j]) := by
  unfold spec_Under29.f
  rw [Option.bind_some, if_pos (by simp; omega), Option.bind_some, if_pos (by simp; omega)]
  rfl
theorem walk_ev {t : T} (ht : Fit t) : ∀ (p : List Int), p.length + countT t ≤ 1000 → Ev (fun k => spec_Walk29.f k t.f0 t.f1 t.f2 t.f3 t.f4 p) (pathsT p t) := by
  induction ht with
  | mk t ha hk hall ih =>
    intro p hc
    rw [countT_eq] at hc
    refine Ev.step (f := fun k => spec_Walk29.l0 k p [p] t.f4 (t.f4.length : Int) ((0 : Nat) : Int)) (fun k => rfl) ?_
    have key : ∀ (n j : Nat) (acc : List (List Int)), t.f4.length = j + n → acc.length + countTL (t.f4.drop j) ≤ 1000 → Ev (fun k => spec_Walk29.l0 k p acc t.f4 (t.f4.length : Int) (j : Int)) (acc ++ pathsTL p j (t.f4.drop j)) := by
      intro n
      induction n with
      | zero =>
        intro j acc hj _
        rw [List.drop_eq_nil_of_le (by omega)]
        refine Ev.step (f := fun _ => some acc) (fun k => ?_) (by simpa [pathsTL] using Ev.now acc)
        simp only [spec_Walk29.l0]
        rw [if_neg (by omega)]
      | succ n ihn =>
        intro j acc hj hac
        have hlt : j < t.f4.length := by omega
        have hd : t.f4.drop j = t.f4[j] :: t.f4.drop (j + 1) := List.drop_eq_getElem_cons hlt
        have hcl : countTL (t.f4.drop j) = countT t.f4[j] + countTL (t.f4.drop (j + 1)) := by rw [hd]; rfl
        have hle : countTL (t.f4.drop j) ≤ countTL t.f4 := by
          have := congrArg countTL (List.take_append_drop j t.f4)
          rw [countTL_append] at this
          omega
        have e1 := ih _ (List.getElem_mem hlt) (p ++ [(j : Int)]) (by rw [List.length_append, List.length_singleton]; omega)
        have hpl : (pathsT (p ++ [(j : Int)]) t.f4[j]).length = countT t.f4[j] := pathsT_len _ _
        have e2 := ihn (j + 1) (acc ++ pathsT (p ++ [(j : Int)]) t.f4[j]) (by omega) (by rw [List.length_append, hpl]; omega)
        rw [hd]
        simp only [pathsTL]
        rw [← List.append_assoc]
        refine Ev.step (f := fun k => (spec_Walk29.f k t.f4[j].f0 t.f4[j].f1 t.f4[j].f2 t.f4[j].f3 t.f4[j].f4 (p ++ [(j : Int)])).bind fun y => if acc.length + y.length < 5864062014805 then spec_Walk29.l0 k p (acc ++ y) t.f4 (t.f4.length : Int) ((j + 1 : Nat) : Int) else none) (fun k => ?_) ?_
        · simp only [spec_Walk29.l0]
          rw [if_pos (by omega), if_pos (by omega), if_pos (by omega), rd_at t.f4 hlt, under_eq p _ (by omega), Option.bind_some, succ_wrap j (by omega)]
        · refine Ev.bind e1 ?_
          have h3 : acc.length + (pathsT (p ++ [(j : Int)]) t.f4[j]).length < 5864062014805 := by rw [hpl]; omega
          simp only [if_pos h3]
          exact e2
    have := key t.f4.length 0 [p] (by omega) (by simp; omega)
    rw [pathsT_eq]
    simpa using this
theorem path_self (l : List Int) (hl : l.length ≤ 4398046510976) : Ev (fun k => laws_path29.f k l l) true := by
  have key : ∀ (n j : Nat), l.length = j + n → Ev (fun k => laws_path29.l0 k l l (l.length : Int) (j : Int)) true := by
    intro n
    induction n with
    | zero =>
      intro j hj
      refine Ev.step (f := fun _ => some true) (fun k => ?_) (Ev.now _)
      simp only [laws_path29.l0]
      rw [if_neg (by omega)]
    | succ n ih =>
      intro j hj
      refine Ev.step (f := fun k => laws_path29.l0 k l l (l.length : Int) ((j + 1 : Nat) : Int)) (fun k => ?_) (ih (j + 1) (by omega))
      simp only [laws_path29.l0]
      rw [if_pos (by omega), if_pos (by omega), if_pos (by omega), if_pos (by omega), succ_wrap j (by omega)]
      simp
  have := key l.length 0 (by omega)
  refine Ev.congr (f := fun k => laws_path29.l0 k l l (l.length : Int) ((0 : Nat) : Int)) (fun k => ?_) this
  unfold laws_path29.f
  rw [if_pos rfl]
  rfl
theorem paths_self (l : List (List Int)) (hl : l.length ≤ 4398046510976) (hq : ∀ q ∈ l, q.length ≤ 4398046510976) : Ev (fun k => laws_paths29.f k l l) true := by
  have key : ∀ (n j : Nat), l.length = j + n → Ev (fun k => laws_paths29.l0 k l l (l.length : Int) (j : Int)) true := by
    intro n
    induction n with
    | zero =>
      intro j hj
      refine Ev.step (f := fun _ => some true) (fun k => ?_) (Ev.now _)
      simp only [laws_paths29.l0]
      rw [if_neg (by omega)]
    | succ n ih =>
      intro j hj
      have hlt : j < l.length := by omega
      have he : rd_L5 l (j : Int) = l[j] := by simp [rd_L5, List.getD_eq_getElem?_getD, List.getElem?_eq_getElem hlt]
      refine Ev.step (f := fun k => (laws_path29.f k l[j] l[j]).bind fun b => if b = true then laws_paths29.l0 k l l (l.length : Int) ((j + 1 : Nat) : Int) else some false) (fun k => ?_) ?_
      · simp only [laws_paths29.l0]
        rw [if_pos (by omega), if_pos (by omega), if_pos (by omega), if_pos (by omega), succ_wrap j (by omega), he]
      · refine Ev.bind (path_self _ (hq _ (List.getElem_mem hlt))) ?_
        simpa using ih (j + 1) (by omega)
  have := key l.length 0 (by omega)
  refine Ev.congr (f := fun k => laws_paths29.l0 k l l (l.length : Int) ((0 : Nat) : Int)) (fun k => ?_) this
  unfold laws_paths29.f
  rw [if_pos rfl]
  rfl
mutual
theorem pathsT_small (p : List Int) : ∀ t : T, ∀ q ∈ pathsT p t, q.length ≤ p.length + countT t
  | ⟨_, _, _, _, ks⟩, q, h => by
    simp only [pathsT, List.mem_cons] at h
    simp only [countT]
    rcases h with rfl | h
    · omega
    · have := pathsTL_small p 0 ks q h
      omega
theorem pathsTL_small (p : List Int) (j : Nat) : ∀ l : List T, ∀ q ∈ pathsTL p j l, q.length ≤ p.length + 1 + countTL l
  | [], q, h => by simp [pathsTL] at h
  | k :: ks, q, h => by
    simp only [pathsTL, List.mem_append] at h
    simp only [countTL]
    rcases h with h | h
    · have := pathsT_small (p ++ [(j : Int)]) k q h
      rw [List.length_append, List.length_singleton] at this
      omega
    · have := pathsTL_small p (j + 1) ks q h
      omega
end
/-- The guards of all these laws tell something, in the end always the same. -/
theorem fits2_ev (t : T) (ht : Fit t) : ∃ b, Ev (fun k => laws_zzFits2.f k t.f0 t.f1 t.f2 t.f3 t.f4) b := by
  obtain ⟨_, ha, _, _⟩ := ht
  obtain ⟨b, hb⟩ := fits2_tot t.f0 t.f1 t.f2 t.f3 t.f4 (by omega) (t.f3.length + 1) (by omega)
  exact ⟨b, Ev.of (fun k => laws_zzFits2.mono _ _ _ _ _ k) hb⟩
theorem tree_ev (t : T) (ht : FitS t) : ∃ b, Ev (fun k => laws_tree29.f k t.f0 t.f1 t.f2 t.f3 t.f4) b := by
  obtain ⟨k, b, hb⟩ := tree_tot ht
  exact ⟨b, Ev.of (fun k => laws_tree29.mono _ _ _ _ _ k) hb⟩
theorem fitB_ev (t : T) (ht : Fit t) : ∃ K, ∀ k, K ≤ k → fitB k ⟨t.f0, t.f1, t.f2, t.f3, t.f4⟩ = true := by
  obtain ⟨n, h⟩ := fit_fitB ht
  exact ⟨n, fun k hk => by have := fitB_le hk h; cases t; exact this⟩
end Go.Proofs.Ytibfoaahdbdogaa.PDom

/- Printed by the program extprint.py of this session, out of the kit's print and contracts of this session's own; Lean checks it. -/
namespace Go.Proofs.Ytibfoaahdbdogaa.PDom
open Go.RowKit Go.Proofs.YtibfoaahdbdogaaW.PrintWords Go.Proofs.YtibfoaahdbdogaaW.PrintLast Go.Proofs.YtibfoaahdbdogaaW.PrintMore
attribute [local go_sem] max2_int min2_int max_two min_two max_three min_three max_four min_four   -- for this text's walks alone
set_option linter.unusedVariables false
set_option linter.unusedSimpArgs false


/-! ### laws_among29: function 18 -/
def laws_among29.l0 : Nat → List ByteArray → Int → Int → Int → ByteArray → ByteArray → List (S78) → List (S25) → Option (Bool)
  | 0, _, _, _, _, _, _, _, _ => none
  | k + 1, x7, x8, x9, x172000, x172001, x172002, x172003, x172004 => if x9 < x8 then (if 0 ≤ x9 then (if x9 < (x7.length : Int) then (if x172000 = 0 then (if x172001.toList = (rdOf ByteArray.empty x7 x9).toList then (some true) else (laws_among29.l0 k x7 x8 (wrap64 (x9 + 1)) x172000 x172001 x172002 x172003 x172004)) else (laws_among29.l0 k x7 x8 (wrap64 (x9 + 1)) x172000 x172001 x172002 x172003 x172004)) else (none)) else (none)) else (some false)
def laws_among29.f (k : Nat) (a0_0 : Int) (a0_1 : ByteArray) (a0_2 : ByteArray) (l0_3 : List (S78)) (l0_4 : List (S25)) (l1 : List ByteArray) : Option (Bool) := laws_among29.l0 k l1 (l1.length : Int) 0 a0_0 a0_1 a0_2 l0_3 l0_4
theorem laws_among29.mono_l : ∀ k, (∀ y0 y1 y2 y3 y4 y5 y6 y7, LeO (laws_among29.l0 k y0 y1 y2 y3 y4 y5 y6 y7) (laws_among29.l0 (k + 1) y0 y1 y2 y3 y4 y5 y6 y7))
  | 0 => fun _ _ _ _ _ _ _ _ r h => by simp [laws_among29.l0] at h
  | k + 1 => by
    have ih0 := laws_among29.mono_l k
    · intro y0 y1 y2 y3 y4 y5 y6 y7
      unfold laws_among29.l0
      repeat' first
      | (with_reducible exact ih0 _ _ _ _ _ _ _ _)
      | (with_reducible exact LeO.refl _)
      | (with_reducible exact LeO.none _)
      | (with_reducible refine LeO.ite ?_ ?_)
      | (with_reducible refine LeO.bind ?_ (fun _ => ?_))
      | exact ih0 _ _ _ _ _ _ _ _
      | exact LeO.none _
      | refine LeO.ite ?_ ?_
      | refine LeO.bind ?_ (fun _ => ?_)
theorem laws_among29.mono : ∀ a0 a1 a2 a3 a4 a5 k, LeO (laws_among29.f k a0 a1 a2 a3 a4 a5) (laws_among29.f (k + 1) a0 a1 a2 a3 a4 a5) := by
  intro a0 a1 a2 a3 a4 a5 k
  have ih0 := laws_among29.mono_l k
  unfold laws_among29.f
  repeat' first
      | (with_reducible exact ih0 _ _ _ _ _ _ _ _)
      | (with_reducible exact LeO.refl _)
      | (with_reducible exact LeO.none _)
      | (with_reducible refine LeO.ite ?_ ?_)
      | (with_reducible refine LeO.bind ?_ (fun _ => ?_))
      | exact ih0 _ _ _ _ _ _ _ _
      | exact LeO.none _
      | refine LeO.ite ?_ ?_
      | refine LeO.bind ?_ (fun _ => ?_)
set_option maxHeartbeats 8000000 in
set_option maxRecDepth 100000 in
theorem laws_among29.calls (k : Nat) (a0_0 : Int) (a0_1 : ByteArray) (a0_2 : ByteArray) (A0_3 : Option Addr) (c0_3 : Nat) (l0_3 : List (S78)) (A0_4 : Option Addr) (c0_4 : Nat) (l0_4 : List (S25)) (A1 : Option Addr) (c1 : Nat) (l1 : List ByteArray) (r : Bool) (w : World) (hr0_3 : Kd.C k78 w A0_3 l0_3.length l0_3) (hc0_3 : l0_3.length ≤ c0_3) (hr0_4 : Kd.C k25 w A0_4 l0_4.length l0_4) (hc0_4 : l0_4.length ≤ c0_4) (hr1 : Kd.C Kd.string w A1 l1.length l1) (hc1 : l1.length ≤ c1) (h : laws_among29.f k a0_0 a0_1 a0_2 l0_3 l0_4 l1 = some r) :
    Calls Try.prog 18 #[.agg #[.int .i64 a0_0, .string a0_1, .string a0_2, .slice A0_3 l0_3.length c0_3, .slice A0_4 l0_4.length c0_4], .slice A1 l1.length c1] w fun e w' => e = .returned (.bool r) ∧ Below w.heap.size w w' := by
  have hu25 := Try.underlying25
  have HR0_3 := Aside0.mk hr0_3
  have HC0_3 := Aside0.mk hc0_3
  clear hr0_3 hc0_3
  have HR0_4 := Aside0.mk hr0_4
  have HC0_4 := Aside0.mk hc0_4
  clear hr0_4 hc0_4
  have HR1 := Aside0.mk hr1
  have HC1 := Aside0.mk hc1
  clear hr1 hc1
  have HB := Aside0.mk (Below.refl w.heap.size w)
  have H : (laws_among29.l0 k l1 (l1.length : Int) 0 a0_0 a0_1 a0_2 l0_3 l0_4) = some r := h
  clear h
  have H' := Aside0.mk H
  clear H
  go_enter Try.func18, Try.ntmps18
  go_wp2_with (first | ((with_reducible refine gate_dst (N := 2) rfl ?_); refine box_event ?hg (N := 2) ?hd (cs := #[.int .i64 a0_0, .string a0_1, .string a0_2, .slice A0_3 l0_3.length c0_3, .slice A0_4 l0_4.length c0_4]) (t := 25) ?hr ?_; (case hd => rfl); (case hg => rfl); (case hr => first | (go_simp; done) | (go_simp; rfl)); intro gb171 hg w3 hbox hb; have n0_ := Aside0.mk (below_step (by repeat (first | (with_reducible first | exact HB.out | apply below_alloc | apply pw_below_drewN | apply below_drew1) | exact HB.out)) hb); have n1_ := Aside0.mk (hbox); have n2_ := Aside0.mk ((by rw [hg]; exact (below_size (by repeat (first | (with_reducible first | exact HB.out | apply below_alloc | apply pw_below_drewN | apply below_drew1) | exact HB.out))) : w.heap.size ≤ gb171)); have n3_ := Aside0.mk ((by rw [hg]; exact (below_size (by repeat (first | (with_reducible first | exact HB.out | apply below_alloc | apply pw_below_drewN | apply below_drew1) | exact HB.out))) : w.heap.size ≤ gb171)); clear HB; have HB := n0_; have BK171 := n1_; have GW171 := n2_; have GE171 := n3_; clear n0_ n1_ n2_ n3_; clear hb hbox hg))
  go_loopg [9] k (fun kq v9 w' => ∃ (x9_1 : Int), v9 = .int .i64 x9_1 ∧ Aside0 (laws_among29.l0 kq l1 (l1.length : Int) x9_1 a0_0 a0_1 a0_2 l0_3 l0_4 = some r) ∧ Aside0 (kq ≤ k) ∧ Aside0 (w'.heap[gb171]? = some (.cells #[.int .i64 a0_0, .string a0_1, .string a0_2, (.slice A0_3 l0_3.length c0_3), (.slice A0_4 l0_4.length c0_4)] 25 (0, 0))) ∧ Aside0 (Below w.heap.size w w'))
  case atStart => exact ⟨(0), (by first | rfl | (simp; done) | (simp [*]; done)), H', ⟨Nat.le_refl _⟩, ⟨by (with_reducible repeat (first | refine blk_drewN ?_ _ | refine blk_drew ?_ | refine blk_alloc ?_ _)); exact BK171.out⟩, ⟨by repeat (first | (with_reducible first | exact HB.out | apply below_alloc | apply pw_below_drewN | apply below_drew1 | refine below_set ?_ GE171.out) | exact HB.out)⟩⟩
  case round =>
    clear H'
    try clear c1
    try clear p2
    obtain ⟨x9_1, rfl, HA, HK1, BK171, HB⟩ := hrel
    cases gk with
    | zero => exact absurd HA.out (by simp [laws_among29.l0])
    | succ k1 =>
      have H := HA.out
      clear HA
      simp only [laws_among29.l0] at H
      by_cases c4 : x9_1 < (l1.length : Int)
      · rw [if_pos c4] at H
        have c4b0 : decide (x9_1 < (l1.length : Int)) = true := decide_eq_true c4
        clear c4
        by_cases c5 : 0 ≤ x9_1
        · rw [if_pos c5] at H
          have c5b0 : decide (0 ≤ x9_1) = true := decide_eq_true c5
          clear c5
          by_cases c6 : x9_1 < (l1.length : Int)
          · rw [if_pos c6] at H
            have c6b0 : decide (x9_1 < (l1.length : Int)) = true := decide_eq_true c6
            clear c6
            by_cases c7 : a0_0 = 0
            · rw [if_pos c7] at H
              have c7b0 : (a0_0 == 0) = true := beq_iff_eq.mpr c7
              have c7b1 : (a0_0 != 0) = false := bne_eq_false_iff_eq.mpr c7
              clear c7
              by_cases c8 : a0_1.toList = (rdOf ByteArray.empty l1 x9_1).toList
              · rw [if_pos c8] at H
                have c8b0 : (a0_1.toList == (rdOf ByteArray.empty l1 x9_1).toList) = true := beq_iff_eq.mpr c8
                have c8b1 : (a0_1.toList != (rdOf ByteArray.empty l1 x9_1).toList) = false := bne_eq_false_iff_eq.mpr c8
                clear c8
                obtain rfl := Option.some.inj H
                have p172 : 0 ≤ (x9_1 : Int) := of_decide_eq_true (by first | (with_reducible assumption) | assumption)
                have q172 : x9_1 < (l1.length : Int) := of_decide_eq_true (by first | (with_reducible assumption) | assumption)
                obtain ⟨ad172, e172, hx172_0⟩ := Kd.at_string HR1.out x9_1 p172 q172
                cases e172
                replace hx172_0 := (HB.out.cell (World.block_lt_of_cell? w _ hx172_0)).trans hx172_0
                replace p172 := eq_true p172
                replace q172 := eq_true q172
                have hcz9_0 : wr.cell? ⟨gb171, 0, none⟩ = some (.int .i64 a0_0) := (blk_cell BK171.out 0).trans rfl
                have hcz9_1 : wr.cell? ⟨gb171, 1, none⟩ = some (.string a0_1) := (blk_cell BK171.out 1).trans rfl
                have hcz9_2 : wr.cell? ⟨gb171, 2, none⟩ = some (.string a0_2) := (blk_cell BK171.out 2).trans rfl
                have hcz9_3 : wr.cell? ⟨gb171, 3, none⟩ = some (.slice A0_3 l0_3.length c0_3) := (blk_cell BK171.out 3).trans rfl
                have hcz9_4 : wr.cell? ⟨gb171, 4, none⟩ = some (.slice A0_4 l0_4.length c0_4) := (blk_cell BK171.out 4).trans rfl
                have hfz9_0 := blk_frozen BK171.out 0
                have hfz9_1 := blk_frozen BK171.out 1
                have hfz9_2 := blk_frozen BK171.out 2
                have hfz9_3 := blk_frozen BK171.out 3
                have hfz9_4 := blk_frozen BK171.out 4
                go_wp2
                go_ret
                exact ⟨by first | rfl | (simp [errW_none, errW_some] <;> rfl) | (simp [*, errW_none, errW_some] <;> rfl), by repeat (first | (with_reducible first | exact HB.out | apply below_alloc | apply pw_below_drewN | apply below_drew1 | refine below_set ?_ GE171.out) | exact HB.out)⟩
              · rw [if_neg c8] at H
                have c8b0 : (a0_1.toList == (rdOf ByteArray.empty l1 x9_1).toList) = false := beq_eq_false_iff_ne.mpr c8
                have c8b1 : (a0_1.toList != (rdOf ByteArray.empty l1 x9_1).toList) = true := bne_iff_ne.mpr c8
                have H' := Aside0.mk H
                clear H
                have p172 : 0 ≤ (x9_1 : Int) := of_decide_eq_true (by first | (with_reducible assumption) | assumption)
                have q172 : x9_1 < (l1.length : Int) := of_decide_eq_true (by first | (with_reducible assumption) | assumption)
                obtain ⟨ad172, e172, hx172_0⟩ := Kd.at_string HR1.out x9_1 p172 q172
                cases e172
                replace hx172_0 := (HB.out.cell (World.block_lt_of_cell? w _ hx172_0)).trans hx172_0
                replace p172 := eq_true p172
                replace q172 := eq_true q172
                have hcz10_0 : wr.cell? ⟨gb171, 0, none⟩ = some (.int .i64 a0_0) := (blk_cell BK171.out 0).trans rfl
                have hcz10_1 : wr.cell? ⟨gb171, 1, none⟩ = some (.string a0_1) := (blk_cell BK171.out 1).trans rfl
                have hcz10_2 : wr.cell? ⟨gb171, 2, none⟩ = some (.string a0_2) := (blk_cell BK171.out 2).trans rfl
                have hcz10_3 : wr.cell? ⟨gb171, 3, none⟩ = some (.slice A0_3 l0_3.length c0_3) := (blk_cell BK171.out 3).trans rfl
                have hcz10_4 : wr.cell? ⟨gb171, 4, none⟩ = some (.slice A0_4 l0_4.length c0_4) := (blk_cell BK171.out 4).trans rfl
                have hfz10_0 := blk_frozen BK171.out 0
                have hfz10_1 := blk_frozen BK171.out 1
                have hfz10_2 := blk_frozen BK171.out 2
                have hfz10_3 := blk_frozen BK171.out 3
                have hfz10_4 := blk_frozen BK171.out 4
                go_wp2
                go_roundg k1
                case measure => have := HK1.out; omega
                case rel => exact ⟨(wrap64 (x9_1 + 1)), (by first | rfl | (simp; done) | (simp [*]; done)), H', ⟨by have := HK1.out; omega⟩, ⟨by (with_reducible repeat (first | refine blk_drewN ?_ _ | refine blk_drew ?_ | refine blk_alloc ?_ _)); exact BK171.out⟩, ⟨by repeat (first | (with_reducible first | exact HB.out | apply below_alloc | apply pw_below_drewN | apply below_drew1 | refine below_set ?_ GE171.out) | exact HB.out)⟩⟩
            · rw [if_neg c7] at H
              have c7b0 : (a0_0 == 0) = false := beq_eq_false_iff_ne.mpr c7
              have c7b1 : (a0_0 != 0) = true := bne_iff_ne.mpr c7
              have H' := Aside0.mk H
              clear H
              have p172 : 0 ≤ (x9_1 : Int) := of_decide_eq_true (by first | (with_reducible assumption) | assumption)
              have q172 : x9_1 < (l1.length : Int) := of_decide_eq_true (by first | (with_reducible assumption) | assumption)
              obtain ⟨ad172, e172, hx172_0⟩ := Kd.at_string HR1.out x9_1 p172 q172
              cases e172
              replace hx172_0 := (HB.out.cell (World.block_lt_of_cell? w _ hx172_0)).trans hx172_0
              replace p172 := eq_true p172
              replace q172 := eq_true q172
              have hcz11_0 : wr.cell? ⟨gb171, 0, none⟩ = some (.int .i64 a0_0) := (blk_cell BK171.out 0).trans rfl
              have hcz11_1 : wr.cell? ⟨gb171, 1, none⟩ = some (.string a0_1) := (blk_cell BK171.out 1).trans rfl
              have hcz11_2 : wr.cell? ⟨gb171, 2, none⟩ = some (.string a0_2) := (blk_cell BK171.out 2).trans rfl
              have hcz11_3 : wr.cell? ⟨gb171, 3, none⟩ = some (.slice A0_3 l0_3.length c0_3) := (blk_cell BK171.out 3).trans rfl
              have hcz11_4 : wr.cell? ⟨gb171, 4, none⟩ = some (.slice A0_4 l0_4.length c0_4) := (blk_cell BK171.out 4).trans rfl
              have hfz11_0 := blk_frozen BK171.out 0
              have hfz11_1 := blk_frozen BK171.out 1
              have hfz11_2 := blk_frozen BK171.out 2
              have hfz11_3 := blk_frozen BK171.out 3
              have hfz11_4 := blk_frozen BK171.out 4
              go_wp2
              go_roundg k1
              case measure => have := HK1.out; omega
              case rel => exact ⟨(wrap64 (x9_1 + 1)), (by first | rfl | (simp; done) | (simp [*]; done)), H', ⟨by have := HK1.out; omega⟩, ⟨by (with_reducible repeat (first | refine blk_drewN ?_ _ | refine blk_drew ?_ | refine blk_alloc ?_ _)); exact BK171.out⟩, ⟨by repeat (first | (with_reducible first | exact HB.out | apply below_alloc | apply pw_below_drewN | apply below_drew1 | refine below_set ?_ GE171.out) | exact HB.out)⟩⟩
          · rw [if_neg c6] at H
            exact absurd H (by simp)
        · rw [if_neg c5] at H
          exact absurd H (by simp)
      · rw [if_neg c4] at H
        have c4b0 : decide (x9_1 < (l1.length : Int)) = false := decide_eq_false c4
        clear c4
        obtain rfl := Option.some.inj H
        go_wp2
        go_ret
        exact ⟨by first | rfl | (simp [errW_none, errW_some] <;> rfl) | (simp [*, errW_none, errW_some] <;> rfl), by repeat (first | (with_reducible first | exact HB.out | apply below_alloc | apply pw_below_drewN | apply below_drew1 | refine below_set ?_ GE171.out) | exact HB.out)⟩

-- NOT PRINTED: function 41 (impl_at)

-- NOT PRINTED: function 60 (dom_UNSTABLE_initGetNeighbor)

-- NOT PRINTED: function 61 (dom_FirstChildNode)

-- NOT PRINTED: function 62 (dom_NextSiblingNode)

-- NOT PRINTED: function 42 (dom_FindAllNodes)

-- NOT PRINTED: function 43 (impl_called)

-- NOT PRINTED: function 19 (impl_FindAll)

-- NOT PRINTED: function 44 (dom_FindFirstNode)

-- NOT PRINTED: function 20 (impl_FindFirst)

-- NOT PRINTED: function 45 (dom_ContainsNode)

-- NOT PRINTED: function 21 (impl_Contains)
/-! ### laws_tag29: function 46 -/
def laws_tag29.f (a0 : ByteArray) (l1 : List (S25)) : Option (Int × ByteArray × ByteArray × (List (S78)) × (List (S25))) := some (0, a0, (⟨#[]⟩ : ByteArray), ([] : List (S78)), l1)
set_option maxHeartbeats 8000000 in
set_option maxRecDepth 100000 in
theorem laws_tag29.calls (a0 : ByteArray) (P1_ : Nat → Prop) (A1 : Option Addr) (c1 : Nat) (l1 : List (S25)) (r1 : Int) (r2 : ByteArray) (r3 : ByteArray) (r4 : List (S78)) (r5 : List (S25)) (w : World) (hs1 : Kd.V k25 25 w w.heap.size (fun k_ => P1_ k_) (.slice A1 l1.length c1) l1) (h : laws_tag29.f a0 l1 = some (r1, r2, r3, r4, r5)) :
    Calls Try.prog 46 #[.string a0, .slice A1 l1.length c1] w fun e w' => ∃ v3_ v4_ : Value, e = .returned (.agg #[.int .i64 r1, .string r2, .string r3, v3_, v4_]) ∧ Kd.R k78 78 w' w.heap.size (fun k_ => (w.heap.size ≤ k_)) v3_ r4 ∧ Kd.V k25 25 w' w.heap.size (fun k_ => (P1_ k_ ∨ w.heap.size ≤ k_) ∧ some k_ ≠ (v3_ : Value).ownBlock) v4_ r5 ∧ Below w.heap.size w w' := by
  have hu25 := Try.underlying25
  have HO1 := Aside0.mk (show Kd.V k25 25 w w.heap.size (fun k_ => (P1_ k_ ∨ w.heap.size ≤ k_)) (.slice A1 l1.length c1) l1 from Kd.V_mono hs1 (fun k_ hk => .inl hk))
  have HB := Aside0.mk (Below.refl w.heap.size w)
  have H : (some (0, a0, (⟨#[]⟩ : ByteArray), ([] : List (S78)), l1)) = some (r1, r2, r3, r4, r5) := h
  clear h
  simp only [Option.some.injEq, Prod.mk.injEq] at H
  obtain ⟨rfl, rfl, rfl, rfl, rfl⟩ := H
  go_enter Try.func46, Try.ntmps46
  go_wp2_with (first | ((with_reducible refine gate_dst (N := 4) rfl ?_); refine box_event ?hg (N := 4) ?hd (cs := #[.int .i64 0, .string (⟨#[]⟩ : ByteArray), .string (⟨#[]⟩ : ByteArray), .slice none 0 0, .slice none 0 0]) (t := 25) ?hr ?_; (case hd => rfl); (case hg => rfl); (case hr => first | (go_simp; done) | (go_simp; rfl)); intro gb176 hg w3 hbox hb; have n0_ := Aside0.mk (Kd.V_below (Kd.V_elderB (by (with_reducible repeat (first | apply Kd.V_alloc | apply Kd.V_drewN | apply Kd.V_drew)); exact HO1.out) gb176 (Nat.le_of_eq hg.symm)) hb); have n1_ := Aside0.mk (below_step (by repeat (first | (with_reducible first | exact HB.out | apply below_alloc | apply pw_below_drewN | apply below_drew1) | exact HB.out)) hb); have n2_ := Aside0.mk (hbox); have n3_ := Aside0.mk ((by rw [hg]; exact (below_size (by repeat (first | (with_reducible first | exact HB.out | apply below_alloc | apply pw_below_drewN | apply below_drew1) | exact HB.out))) : w.heap.size ≤ gb176)); have n4_ := Aside0.mk ((by rw [hg]; exact (below_size (by repeat (first | (with_reducible first | exact HB.out | apply below_alloc | apply pw_below_drewN | apply below_drew1) | exact HB.out))) : w.heap.size ≤ gb176)); clear HO1; clear HB; have HO1 := n0_; have HB := n1_; have BK176 := n2_; have GW176 := n3_; have GE176 := n4_; clear n0_ n1_ n2_ n3_ n4_; clear hb hbox hg; have hcz4_0 : w3.cell? ⟨gb176, 0, none⟩ = some (.int .i64 0) := (blk_cell BK176.out 0).trans rfl; have hcz4_1 : w3.cell? ⟨gb176, 1, none⟩ = some (.string (⟨#[]⟩ : ByteArray)) := (blk_cell BK176.out 1).trans rfl; have hcz4_2 : w3.cell? ⟨gb176, 2, none⟩ = some (.string (⟨#[]⟩ : ByteArray)) := (blk_cell BK176.out 2).trans rfl; have hcz4_3 : w3.cell? ⟨gb176, 3, none⟩ = some (.slice none 0 0) := (blk_cell BK176.out 3).trans rfl; have hcz4_4 : w3.cell? ⟨gb176, 4, none⟩ = some (.slice none 0 0) := (blk_cell BK176.out 4).trans rfl; have hfz4_0 := blk_frozen BK176.out 0; have hfz4_1 := blk_frozen BK176.out 1; have hfz4_2 := blk_frozen BK176.out 2; have hfz4_3 := blk_frozen BK176.out 3; have hfz4_4 := blk_frozen BK176.out 4))
  refine bodyPost_ret (results_cell_row rfl _ _ gb176 25 #[.int .i64 0, .string a0, .string (⟨#[]⟩ : ByteArray), .slice none 0 0, .slice A1 l1.length c1] (0, 0) _ rfl (by (with_reducible repeat (first | refine blk_drewN ?_ _ | refine blk_drew ?_ | refine blk_alloc ?_ _)); refine blk_put (cs := #[.int .i64 0, .string a0, .string (⟨#[]⟩ : ByteArray), .slice none 0 0, .slice none 0 0]) ?_ 4 _ rfl; (with_reducible repeat (first | refine blk_drewN ?_ _ | refine blk_drew ?_ | refine blk_alloc ?_ _)); refine blk_put (cs := #[.int .i64 0, .string a0, .string (⟨#[]⟩ : ByteArray), .slice none 0 0, .slice none 0 0]) ?_ 3 _ rfl; (with_reducible repeat (first | refine blk_drewN ?_ _ | refine blk_drew ?_ | refine blk_alloc ?_ _)); refine blk_put (cs := #[.int .i64 0, .string a0, .string (⟨#[]⟩ : ByteArray), .slice none 0 0, .slice none 0 0]) ?_ 2 _ rfl; (with_reducible repeat (first | refine blk_drewN ?_ _ | refine blk_drew ?_ | refine blk_alloc ?_ _)); refine blk_put (cs := #[.int .i64 0, .string (⟨#[]⟩ : ByteArray), .string (⟨#[]⟩ : ByteArray), .slice none 0 0, .slice none 0 0]) ?_ 1 _ rfl; (with_reducible repeat (first | refine blk_drewN ?_ _ | refine blk_drew ?_ | refine blk_alloc ?_ _)); refine blk_put (cs := #[.int .i64 0, .string (⟨#[]⟩ : ByteArray), .string (⟨#[]⟩ : ByteArray), .slice none 0 0, .slice none 0 0]) ?_ 0 _ rfl; (with_reducible repeat (first | refine blk_drewN ?_ _ | refine blk_drew ?_ | refine blk_alloc ?_ _)); exact BK176.out) Try.underlying25 rfl (by kernel_rfl)) rfl ?_
  exact ⟨_, _, by first | rfl | (simp [errW_none, errW_some] <;> rfl) | (simp [*, errW_none, errW_some] <;> rfl), by first | exact Kd.R_nil _ _ _ _ _ | exact Kd.N_nil _ _ _ _ _ | exact Kd.V_nil _ _ _ _ _ | exact Kd.Q_nil _ _ _ _ _ | exact Kd.S_nil _ _ _ _ _, by (with_reducible repeat (first | apply Kd.V_alloc | apply Kd.V_drewN | apply Kd.V_drew)); exact Kd.V_mono (Kd.V_far (p := ⟨gb176, 4, none⟩) (Kd.V_far (p := ⟨gb176, 3, none⟩) (Kd.V_far (p := ⟨gb176, 2, none⟩) (Kd.V_far (p := ⟨gb176, 1, none⟩) (Kd.V_far (p := ⟨gb176, 0, none⟩) (Kd.V_mono HO1.out (fun k_ hk => (⟨hk, hk.2⟩ : _ ∧ k_ ≠ gb176))) (fun _ hk => hk.2) (.int .i64 0)) (fun _ hk => hk.2) (.string a0)) (fun _ hk => hk.2) (.string (⟨#[]⟩ : ByteArray))) (fun _ hk => hk.2) (.slice none 0 0)) (fun _ hk => hk.2) (.slice A1 l1.length c1)) (fun _ hk => ⟨hk.1.1, (by simp [Value.ownBlock])⟩), by repeat (first | (with_reducible first | exact HB.out | apply below_alloc | apply pw_below_drewN | apply below_drew1 | refine below_set ?_ GE176.out) | exact HB.out)⟩
/-! ### laws_text29: function 47 -/
def laws_text29.f (a0 : ByteArray) : Option (Int × ByteArray × ByteArray × (List (S78)) × (List (S25))) := some (1, (⟨#[]⟩ : ByteArray), a0, ([] : List (S78)), ([] : List (S25)))
set_option maxHeartbeats 8000000 in
set_option maxRecDepth 100000 in
theorem laws_text29.calls (a0 : ByteArray) (r1 : Int) (r2 : ByteArray) (r3 : ByteArray) (r4 : List (S78)) (r5 : List (S25)) (w : World) (h : laws_text29.f a0 = some (r1, r2, r3, r4, r5)) :
    Calls Try.prog 47 #[.string a0] w fun e w' => ∃ v3_ v4_ : Value, e = .returned (.agg #[.int .i64 r1, .string r2, .string r3, v3_, v4_]) ∧ Kd.R k78 78 w' w.heap.size (fun _ => True) v3_ r4 ∧ Kd.R k25 25 w' w.heap.size (fun k_ => some k_ ≠ (v3_ : Value).ownBlock) v4_ r5 ∧ Below w.heap.size w w' := by
  have hu25 := Try.underlying25
  have HB := Aside0.mk (Below.refl w.heap.size w)
  have H : (some (1, (⟨#[]⟩ : ByteArray), a0, ([] : List (S78)), ([] : List (S25)))) = some (r1, r2, r3, r4, r5) := h
  clear h
  simp only [Option.some.injEq, Prod.mk.injEq] at H
  obtain ⟨rfl, rfl, rfl, rfl, rfl⟩ := H
  go_enter Try.func47, Try.ntmps47
  go_wp2_with (first | ((with_reducible refine gate_dst (N := 2) rfl ?_); refine box_event ?hg (N := 2) ?hd (cs := #[.int .i64 0, .string (⟨#[]⟩ : ByteArray), .string (⟨#[]⟩ : ByteArray), .slice none 0 0, .slice none 0 0]) (t := 25) ?hr ?_; (case hd => rfl); (case hg => rfl); (case hr => first | (go_simp; done) | (go_simp; rfl)); intro gb177 hg w2 hbox hb; have n0_ := Aside0.mk (below_step (by repeat (first | (with_reducible first | exact HB.out | apply below_alloc | apply pw_below_drewN | apply below_drew1) | exact HB.out)) hb); have n1_ := Aside0.mk (hbox); have n2_ := Aside0.mk ((by rw [hg]; exact (below_size (by repeat (first | (with_reducible first | exact HB.out | apply below_alloc | apply pw_below_drewN | apply below_drew1) | exact HB.out))) : w.heap.size ≤ gb177)); have n3_ := Aside0.mk ((by rw [hg]; exact (below_size (by repeat (first | (with_reducible first | exact HB.out | apply below_alloc | apply pw_below_drewN | apply below_drew1) | exact HB.out))) : w.heap.size ≤ gb177)); clear HB; have HB := n0_; have BK177 := n1_; have GW177 := n2_; have GE177 := n3_; clear n0_ n1_ n2_ n3_; clear hb hbox hg; have hcz3_0 : w2.cell? ⟨gb177, 0, none⟩ = some (.int .i64 0) := (blk_cell BK177.out 0).trans rfl; have hcz3_1 : w2.cell? ⟨gb177, 1, none⟩ = some (.string (⟨#[]⟩ : ByteArray)) := (blk_cell BK177.out 1).trans rfl; have hcz3_2 : w2.cell? ⟨gb177, 2, none⟩ = some (.string (⟨#[]⟩ : ByteArray)) := (blk_cell BK177.out 2).trans rfl; have hcz3_3 : w2.cell? ⟨gb177, 3, none⟩ = some (.slice none 0 0) := (blk_cell BK177.out 3).trans rfl; have hcz3_4 : w2.cell? ⟨gb177, 4, none⟩ = some (.slice none 0 0) := (blk_cell BK177.out 4).trans rfl; have hfz3_0 := blk_frozen BK177.out 0; have hfz3_1 := blk_frozen BK177.out 1; have hfz3_2 := blk_frozen BK177.out 2; have hfz3_3 := blk_frozen BK177.out 3; have hfz3_4 := blk_frozen BK177.out 4))
  refine bodyPost_ret (results_cell_row rfl _ _ gb177 25 #[.int .i64 1, .string (⟨#[]⟩ : ByteArray), .string a0, .slice none 0 0, .slice none 0 0] (0, 0) _ rfl (by (with_reducible repeat (first | refine blk_drewN ?_ _ | refine blk_drew ?_ | refine blk_alloc ?_ _)); refine blk_put (cs := #[.int .i64 1, .string (⟨#[]⟩ : ByteArray), .string a0, .slice none 0 0, .slice none 0 0]) ?_ 4 _ rfl; (with_reducible repeat (first | refine blk_drewN ?_ _ | refine blk_drew ?_ | refine blk_alloc ?_ _)); refine blk_put (cs := #[.int .i64 1, .string (⟨#[]⟩ : ByteArray), .string a0, .slice none 0 0, .slice none 0 0]) ?_ 3 _ rfl; (with_reducible repeat (first | refine blk_drewN ?_ _ | refine blk_drew ?_ | refine blk_alloc ?_ _)); refine blk_put (cs := #[.int .i64 1, .string (⟨#[]⟩ : ByteArray), .string (⟨#[]⟩ : ByteArray), .slice none 0 0, .slice none 0 0]) ?_ 2 _ rfl; (with_reducible repeat (first | refine blk_drewN ?_ _ | refine blk_drew ?_ | refine blk_alloc ?_ _)); refine blk_put (cs := #[.int .i64 1, .string (⟨#[]⟩ : ByteArray), .string (⟨#[]⟩ : ByteArray), .slice none 0 0, .slice none 0 0]) ?_ 1 _ rfl; (with_reducible repeat (first | refine blk_drewN ?_ _ | refine blk_drew ?_ | refine blk_alloc ?_ _)); refine blk_put (cs := #[.int .i64 0, .string (⟨#[]⟩ : ByteArray), .string (⟨#[]⟩ : ByteArray), .slice none 0 0, .slice none 0 0]) ?_ 0 _ rfl; (with_reducible repeat (first | refine blk_drewN ?_ _ | refine blk_drew ?_ | refine blk_alloc ?_ _)); exact BK177.out) Try.underlying25 rfl (by kernel_rfl)) rfl ?_
  exact ⟨_, _, by first | rfl | (simp [errW_none, errW_some] <;> rfl) | (simp [*, errW_none, errW_some] <;> rfl), by first | exact Kd.R_nil _ _ _ _ _ | exact Kd.N_nil _ _ _ _ _ | exact Kd.V_nil _ _ _ _ _ | exact Kd.Q_nil _ _ _ _ _ | exact Kd.S_nil _ _ _ _ _, by first | exact Kd.R_nil _ _ _ _ _ | exact Kd.N_nil _ _ _ _ _ | exact Kd.V_nil _ _ _ _ _ | exact Kd.Q_nil _ _ _ _ _ | exact Kd.S_nil _ _ _ _ _, by repeat (first | (with_reducible first | exact HB.out | apply below_alloc | apply pw_below_drewN | apply below_drew1 | refine below_set ?_ GE177.out) | exact HB.out)⟩

-- NOT PRINTED: function 23 (laws_living29)

-- NOT PRINTED: function 5 (laws_FnDomFind)
end Go.Proofs.Ytibfoaahdbdogaa.PDom

/- Printed by the program extprint.py of this session, out of the kit's print and contracts of this session's own; Lean checks it. -/
namespace Go.Proofs.Ytibfoaahdbdogaa.PDom
open Go.RowKit Go.Proofs.YtibfoaahdbdogaaW.PrintWords Go.Proofs.YtibfoaahdbdogaaW.PrintLast Go.Proofs.YtibfoaahdbdogaaW.PrintMore
attribute [local go_sem] max2_int min2_int max_two min_two max_three min_three max_four min_four   -- for this text's walks alone
set_option linter.unusedVariables false
set_option linter.unusedSimpArgs false


end Go.Proofs.Ytibfoaahdbdogaa.PDom

/- Printed by the program extprint.py of this session, out of the kit's print and contracts of this session's own; Lean checks it. -/
namespace Go.Proofs.Ytibfoaahdbdogaa.PDom
open Go.RowKit Go.Proofs.YtibfoaahdbdogaaW.PrintWords Go.Proofs.YtibfoaahdbdogaaW.PrintLast Go.Proofs.YtibfoaahdbdogaaW.PrintMore
attribute [local go_sem] max2_int min2_int max_two min_two max_three min_three max_four min_four   -- for this text's walks alone
set_option linter.unusedVariables false
set_option linter.unusedSimpArgs false

end Go.Proofs.Ytibfoaahdbdogaa.PDom

/- Printed by the program extprint.py of this session, out of the kit's print and contracts of this session's own; Lean checks it. -/
namespace Go.Proofs.Ytibfoaahdbdogaa.PDom
open Go.RowKit Go.Proofs.YtibfoaahdbdogaaW.PrintWords Go.Proofs.YtibfoaahdbdogaaW.PrintLast Go.Proofs.YtibfoaahdbdogaaW.PrintMore
attribute [local go_sem] max2_int min2_int max_two min_two max_three min_three max_four min_four   -- for this text's walks alone
set_option linter.unusedVariables false
set_option linter.unusedSimpArgs false

-- NOT PRINTED: function 36 (dom_NodeName)


-- NOT PRINTED: function 58 (html_Node_AppendChild)

-- NOT PRINTED: function 37 (impl_made)


-- NOT PRINTED: function 38 (dom_AllNodes)

-- NOT PRINTED: function 39 (impl_pathOf)





/-! ### laws_living29: function 23 -/
def laws_living29.f (k : Nat)  : Option (Bool) := (laws_text29.f (⟨#[97]⟩ : ByteArray)).bind fun bt103 => ((laws_tag29.f (⟨#[112]⟩ : ByteArray) (([(⟨bt103.1, bt103.2.1, bt103.2.2.1, bt103.2.2.2.1, bt103.2.2.2.2⟩ : S25)] : List (S25)))).bind fun bt115 => ((impl_NameOf.f k bt115.1 bt115.2.1 bt115.2.2.1 bt115.2.2.2.1 bt115.2.2.2.2).bind fun t125 => (if t125.toList = ([112] : List UInt8) then ((impl_AllNodes.f k bt115.1 bt115.2.1 bt115.2.2.1 bt115.2.2.2.1 bt115.2.2.2.2).bind fun t126 => (some ((t126.length : Int) == 2))) else (some false))))
theorem laws_living29.mono : ∀ k, LeO (laws_living29.f k ) (laws_living29.f (k + 1) ) := by
  intro  k
  unfold laws_living29.f
  repeat' first
      | (with_reducible exact impl_AllNodes.mono _ _ _ _ _ _)
      | (with_reducible exact impl_NameOf.mono _ _ _ _ _ _)
      | (with_reducible exact LeO.refl _)
      | (with_reducible exact LeO.none _)
      | (with_reducible refine LeO.ite ?_ ?_)
      | (with_reducible refine LeO.bind ?_ (fun _ => ?_))
      | exact impl_AllNodes.mono _ _ _ _ _ _
      | exact impl_NameOf.mono _ _ _ _ _ _
      | exact LeO.none _
      | refine LeO.ite ?_ ?_
      | refine LeO.bind ?_ (fun _ => ?_)
set_option maxHeartbeats 8000000 in
set_option maxRecDepth 100000 in
theorem laws_living29.calls (k : Nat)  (r : Bool) (w : World) (h : laws_living29.f k  = some r) :
    Calls Try.prog 23 #[] w fun e w' => e = .returned (.bool r) ∧ Below w.heap.size w w' := by
  have hu25 := Try.underlying25
  have HB := Aside0.mk (Below.refl w.heap.size w)
  have H : ((laws_text29.f (⟨#[97]⟩ : ByteArray)).bind fun bt103 => ((laws_tag29.f (⟨#[112]⟩ : ByteArray) (([(⟨bt103.1, bt103.2.1, bt103.2.2.1, bt103.2.2.2.1, bt103.2.2.2.2⟩ : S25)] : List (S25)))).bind fun bt115 => ((impl_NameOf.f k bt115.1 bt115.2.1 bt115.2.2.1 bt115.2.2.2.1 bt115.2.2.2.2).bind fun t125 => (if t125.toList = ([112] : List UInt8) then ((impl_AllNodes.f k bt115.1 bt115.2.1 bt115.2.2.1 bt115.2.2.2.1 bt115.2.2.2.2).bind fun t126 => (some ((t126.length : Int) == 2))) else (some false))))) = some r := h
  clear h
  replace H := Option.bind_eq_some_iff.mp H
  obtain ⟨⟨t103, t104, t105, t106, t109⟩, A10, H⟩ := H
  replace H : ((laws_tag29.f (⟨#[112]⟩ : ByteArray) (([(⟨t103, t104, t105, t106, t109⟩ : S25)] : List (S25)))).bind fun bt115 => ((impl_NameOf.f k bt115.1 bt115.2.1 bt115.2.2.1 bt115.2.2.2.1 bt115.2.2.2.2).bind fun t125 => (if t125.toList = ([112] : List UInt8) then ((impl_AllNodes.f k bt115.1 bt115.2.1 bt115.2.2.1 bt115.2.2.2.1 bt115.2.2.2.2).bind fun t126 => (some ((t126.length : Int) == 2))) else (some false)))) = some r := H
  have A1 := Aside0.mk A10
  clear A10
  obtain ⟨y112, hy112⟩ : ∃ y_ : List (S25), y_ = (([(⟨t103, t104, t105, t106, t109⟩ : S25)] : List (S25))) := ⟨_, rfl⟩
  replace H : ((laws_tag29.f (⟨#[112]⟩ : ByteArray) y112).bind fun bt115 => ((impl_NameOf.f k bt115.1 bt115.2.1 bt115.2.2.1 bt115.2.2.2.1 bt115.2.2.2.2).bind fun t125 => (if t125.toList = ([112] : List UInt8) then ((impl_AllNodes.f k bt115.1 bt115.2.1 bt115.2.2.1 bt115.2.2.2.1 bt115.2.2.2.2).bind fun t126 => (some ((t126.length : Int) == 2))) else (some false)))) = some r := by first | (rw [hy112]; with_reducible exact H) | (have H2_ := (Option.bind_some _ _).symm.trans H; rw [hy112]; with_reducible exact H2_) | (have H2_ := (Option.bind_some _ _).symm.trans H; with_reducible exact H2_) | with_reducible exact H | (rw [hy112]; exact H) | exact H
  have Ny112 := Aside0.mk hy112
  clear hy112
  replace H := Option.bind_eq_some_iff.mp H
  obtain ⟨⟨t115, t116, t117, t118, t121⟩, A20, H⟩ := H
  replace H : ((impl_NameOf.f k t115 t116 t117 t118 t121).bind fun t125 => (if t125.toList = ([112] : List UInt8) then ((impl_AllNodes.f k t115 t116 t117 t118 t121).bind fun t126 => (some ((t126.length : Int) == 2))) else (some false))) = some r := H
  have A2 := Aside0.mk A20
  clear A20
  replace H := Option.bind_eq_some_iff.mp H
  obtain ⟨t125, A30, H⟩ := H
  replace H : (if t125.toList = ([112] : List UInt8) then ((impl_AllNodes.f k t115 t116 t117 t118 t121).bind fun t126 => (some ((t126.length : Int) == 2))) else (some false)) = some r := H
  have A3 := Aside0.mk A30
  clear A30
  by_cases c4 : t125.toList = ([112] : List UInt8)
  · rw [if_pos c4] at H
    have c4b0 : (t125.toList == ([112] : List UInt8)) = true := beq_iff_eq.mpr c4
    have c4b1 : (t125.toList != ([112] : List UInt8)) = false := bne_eq_false_iff_eq.mpr c4
    clear c4
    replace H := Option.bind_eq_some_iff.mp H
    obtain ⟨t126, A50, H⟩ := H
    replace H : (some ((t126.length : Int) == 2)) = some r := H
    have A5 := Aside0.mk A50
    clear A50
    obtain rfl := Option.some.inj H
    go_enter Try.func23, Try.ntmps23
    go_wp2_with (first | ((with_reducible refine gate_callee (f := 47) rfl ?_); refine goesL_ (some 2) rfl rfl Try.func47 (by kernel_rfl) rfl #[.string (⟨#[97]⟩ : ByteArray)] rfl (by (try simp only [List.map_toArray, List.map_cons, List.map_nil]); first | done | rfl | (simp only [List.length_drop, List.length_take]; rfl)) ?_; (with_reducible refine (laws_text29.calls (⟨#[97]⟩ : ByteArray) t103 t104 t105 t106 t109 _ A1.out).mono ?_); rintro e w6 ⟨v107, v110, rfl, ho0, ho1, hb⟩; refine ⟨_, rfl, ?_⟩; have n0_ := Aside0.mk (Kd.R_lower ho0 (below_size (by repeat (first | (with_reducible first | exact HB.out | apply below_alloc | apply pw_below_drewN | apply below_drew1) | exact HB.out)))); have n1_ := Aside0.mk (Kd.N_lower (Kd.N_mono (ok' := fun k_ => some k_ ≠ (v107 : Value).ownBlock) (Kd.R_N (Kd.R_bound ho1)) (fun k_ hk_ => hk_.1)) (below_size (by repeat (first | (with_reducible first | exact HB.out | apply below_alloc | apply pw_below_drewN | apply below_drew1) | exact HB.out)))); have n2_ := Aside0.mk (below_step (by repeat (first | (with_reducible first | exact HB.out | apply below_alloc | apply pw_below_drewN | apply below_drew1) | exact HB.out)) hb); clear HB; have HO108 := n0_; have HO111 := n1_; have HB := n2_; clear n0_ n1_ n2_; (try clear hb); (try clear hb2); (try clear hk); (try clear hi); (try clear ho0); (try clear ho1); obtain ⟨Ao7, co7, eo7⟩ := Kd.R_slice HO108.out; subst eo7; obtain ⟨Ao8, co8, eo8⟩ := Kd.N_slice HO111.out; subst eo8) | ((with_reducible refine gate_dst (N := 3) rfl ?_); (try (refine gate_guard (by rfl) ?_; dsimp only)); refine Kd.N_lit k25 _ 25 ?hg (N' := 3) ?hd (xs := ([(⟨t103, t104, t105, t106, t109⟩ : S25)] : List (S25))) (inner := [.int .i64 t103, .string t104, .string t105, .slice Ao7 t106.length co7, .slice Ao8 t109.length co8]) (ok := (fun _ => True)) (okp := (fun _ => True)) ?hr ?hp (fun _ hk => hk) ((show ∀ k_, w6.heap.size ≤ k_ → (fun _ => True) k_ from fun k_ hk => trivial) _ (Nat.le_refl _)) (Below.refl _ _) (Nat.le_refl _) (by simp) ?_; (case hd => rfl); (case hg => rfl); (case hr => first | (go_simp; done) | (go_simp; rfl)); (case hp => exact (Reps.c5 (show Kd.FK k25 _ _ (⟨t103, t104, t105, t106, t109⟩ : S25) [.int .i64 t103, .string t104, .string t105, .slice Ao7 t106.length co7, .slice Ao8 t109.length co8] from (k25_mkF _ _ (⟨t103, t104, t105, t106, t109⟩ : S25) (Kd.R_reads' (Kd.R_mono (ok' := (fun _ => True)) (HO108.out) (fun k_ hk => trivial))).2.1 (Kd.R_F (Kd.R_mono (ok' := (fun _ => True)) (HO108.out) (fun k_ hk => trivial))) (Kd.N_reads' (Kd.N_mono (ok' := (fun _ => True)) (HO111.out) (fun k_ hk => trivial))).2.1 (Kd.N_F (Kd.N_mono (ok' := (fun _ => True)) (HO111.out) (fun k_ hk => trivial))))) (Reps.none _ _))); intro v113 w9 ho10 hb hg_ hnew_; clear hg_ hnew_; (first | rw [← Ny112.out] at ho10 | (simp only [Int.reduceToNat] at ho10; rw [← Ny112.out] at ho10)); have n0_ := Aside0.mk (Kd.N_lower ho10 (below_size (by repeat (first | (with_reducible first | exact HB.out | apply below_alloc | apply pw_below_drewN | apply below_drew1) | exact HB.out)))); have n1_ := Aside0.mk (below_step (by repeat (first | (with_reducible first | exact HB.out | apply below_alloc | apply pw_below_drewN | apply below_drew1) | exact HB.out)) hb); clear HB; clear HO108; clear HO111; have HO114 := n0_; have HB := n1_; clear n0_ n1_; clear hb ho10; obtain ⟨Ao11, co11, eo11⟩ := Kd.N_slice HO114.out; subst eo11) | ((with_reducible refine gate_callee (f := 46) rfl ?_); refine goesL_ (some 4) rfl rfl Try.func46 (by kernel_rfl) rfl #[.string (⟨#[112]⟩ : ByteArray), .slice Ao11 y112.length co11] rfl (by (try simp only [List.map_toArray, List.map_cons, List.map_nil]); first | done | rfl | (simp only [List.length_drop, List.length_take]; rfl)) ?_; (with_reducible refine (laws_tag29.calls (⟨#[112]⟩ : ByteArray) (fun k_ => True) _ _ y112 t115 t116 t117 t118 t121 _ ?side1 A2.out).mono ?_); (case side1 => exact Kd.N_V (HO114.out)); rintro e w12 ⟨v119, v122, rfl, ho0, ho1, hb⟩; refine ⟨_, rfl, ?_⟩; have n0_ := Aside0.mk (Kd.N_elder' (by (with_reducible repeat (first | apply Kd.N_alloc | apply Kd.N_drewN | apply Kd.N_drew)); exact HO114.out) (Kd.R_base ho0) hb); have n1_ := Aside0.mk (Kd.R_lower (Kd.R_mono (ok' := fun k_ => True) ho0 (fun _ hk_ => trivial)) (below_size (by repeat (first | (with_reducible first | exact HB.out | apply below_alloc | apply pw_below_drewN | apply below_drew1) | exact HB.out)))); have n2_ := Aside0.mk (Kd.V_lower (Kd.V_mono (ok' := fun k_ => some k_ ≠ (v119 : Value).ownBlock) ho1 (fun k_ hk_ => hk_.2)) (below_size (by repeat (first | (with_reducible first | exact HB.out | apply below_alloc | apply pw_below_drewN | apply below_drew1) | exact HB.out)))); have n3_ := Aside0.mk (below_step (by repeat (first | (with_reducible first | exact HB.out | apply below_alloc | apply pw_below_drewN | apply below_drew1) | exact HB.out)) hb); clear HO114; clear HB; have HO114 := n0_; have HO120 := n1_; have HO123 := n2_; have HB := n3_; clear n0_ n1_ n2_ n3_; (try clear hb); (try clear hb2); (try clear hk); (try clear hi); (try clear ho0); (try clear ho1)) | ((with_reducible refine gate_dst (N := 1) rfl ?_); (try (refine gate_guard (by rfl) ?_; dsimp only)); refine box_event ?hg (N := 1) ?hd (cs := #[.int .i64 0, .string (⟨#[]⟩ : ByteArray), .string (⟨#[]⟩ : ByteArray), .slice none 0 0, .slice none 0 0]) (t := 25) ?hr ?_; (case hd => rfl); (case hg => rfl); (case hr => first | (go_simp; done) | (go_simp; rfl)); intro gb124 hg w13 hbox hb; have n0_ := Aside0.mk (Kd.N_below (Kd.N_elderB (by (with_reducible repeat (first | apply Kd.N_alloc | apply Kd.N_drewN | apply Kd.N_drew)); exact HO114.out) gb124 (Nat.le_of_eq hg.symm)) hb); have n1_ := Aside0.mk (Kd.R_below (by (with_reducible repeat (first | apply Kd.R_alloc | apply Kd.R_drewN | apply Kd.R_drew)); exact HO120.out) hb); have n2_ := Aside0.mk (Kd.V_below (Kd.V_elderB (by (with_reducible repeat (first | apply Kd.V_alloc | apply Kd.V_drewN | apply Kd.V_drew)); exact HO123.out) gb124 (Nat.le_of_eq hg.symm)) hb); have n3_ := Aside0.mk (below_step (by repeat (first | (with_reducible first | exact HB.out | apply below_alloc | apply pw_below_drewN | apply below_drew1) | exact HB.out)) hb); have n4_ := Aside0.mk (hbox); have n5_ := Aside0.mk ((by rw [hg]; exact (below_size (by repeat (first | (with_reducible first | exact HB.out | apply below_alloc | apply pw_below_drewN | apply below_drew1) | exact HB.out))) : w.heap.size ≤ gb124)); have n6_ := Aside0.mk ((by rw [hg]; exact (below_size (by repeat (first | (with_reducible first | exact HB.out | apply below_alloc | apply pw_below_drewN | apply below_drew1) | exact HB.out))) : w.heap.size ≤ gb124)); clear HO114; clear HO120; clear HO123; clear HB; have HO114 := n0_; have HO120 := n1_; have HO123 := n2_; have HB := n3_; have BK124 := n4_; have GW124 := n5_; have GE124 := n6_; clear n0_ n1_ n2_ n3_ n4_ n5_ n6_; clear hb hbox hg; have hcz14_0 : w13.cell? ⟨gb124, 0, none⟩ = some (.int .i64 0) := (blk_cell BK124.out 0).trans rfl; have hcz14_1 : w13.cell? ⟨gb124, 1, none⟩ = some (.string (⟨#[]⟩ : ByteArray)) := (blk_cell BK124.out 1).trans rfl; have hcz14_2 : w13.cell? ⟨gb124, 2, none⟩ = some (.string (⟨#[]⟩ : ByteArray)) := (blk_cell BK124.out 2).trans rfl; have hcz14_3 : w13.cell? ⟨gb124, 3, none⟩ = some (.slice none 0 0) := (blk_cell BK124.out 3).trans rfl; have hcz14_4 : w13.cell? ⟨gb124, 4, none⟩ = some (.slice none 0 0) := (blk_cell BK124.out 4).trans rfl; have hfz14_0 := blk_frozen BK124.out 0; have hfz14_1 := blk_frozen BK124.out 1; have hfz14_2 := blk_frozen BK124.out 2; have hfz14_3 := blk_frozen BK124.out 3; have hfz14_4 := blk_frozen BK124.out 4; obtain ⟨Ao15, co15, eo15⟩ := Kd.R_slice HO120.out; subst eo15; obtain ⟨Ao16, co16, eo16⟩ := Kd.V_slice HO123.out; subst eo16) | ((with_reducible refine gate_callee (f := 11) rfl ?_); refine goesL_ (some 6) rfl rfl Try.func11 (by kernel_rfl) rfl #[.agg #[.int .i64 t115, .string t116, .string t117, .slice Ao15 t118.length co15, .slice Ao16 t121.length co16]] rfl (by (try simp only [List.map_toArray, List.map_cons, List.map_nil]); first | done | rfl | (simp only [List.length_drop, List.length_take]; rfl)) ?_; (with_reducible refine (impl_NameOf.calls k t115 t116 t117 _ _ t118 _ _ t121 t125 _ ?side1 ?side2 ?side3 ?side4 A3.out).mono ?_); (case side1 => refine (Kd.R_reads' (e := 78) (base := w.heap.size) (ok := fun k_ => True) (n := t118.length) (c := co15) ?_).2.2; exact (by (with_reducible repeat (first | apply Kd.R_alloc | apply Kd.R_drewN | apply Kd.R_drew)); exact (Kd.R_mono (Kd.R_far (p := ⟨gb124, 4, none⟩) (Kd.R_far (p := ⟨gb124, 3, none⟩) (Kd.R_far (p := ⟨gb124, 2, none⟩) (Kd.R_far (p := ⟨gb124, 1, none⟩) (Kd.R_far (p := ⟨gb124, 0, none⟩) (Kd.R_types HO120.out BK124.out (by decide)) (fun _ hk => hk.2) (.int .i64 t115)) (fun _ hk => hk.2) (.string t116)) (fun _ hk => hk.2) (.string t117)) (fun _ hk => hk.2) (.slice Ao15 t118.length co15)) (fun _ hk => hk.2) (.slice Ao16 t121.length co16)) (fun _ h_ => h_.1)))); (case side2 => exact (Kd.R_reads' HO120.out).2.1); (case side3 => refine (Kd.V_reads' (e := 25) (base := w.heap.size) (ok := fun k_ => (some k_ ≠ (.slice Ao15 t118.length co15 : Value).ownBlock ∧ k_ ≠ gb124)) (n := t121.length) (c := co16) ?_).2.2; exact (by (with_reducible repeat (first | apply Kd.V_alloc | apply Kd.V_drewN | apply Kd.V_drew)); exact (Kd.V_mono (Kd.V_far (p := ⟨gb124, 4, none⟩) (Kd.V_far (p := ⟨gb124, 3, none⟩) (Kd.V_far (p := ⟨gb124, 2, none⟩) (Kd.V_far (p := ⟨gb124, 1, none⟩) (Kd.V_far (p := ⟨gb124, 0, none⟩) (Kd.V_mono HO123.out (fun k_ hk => (⟨hk, hk.2⟩ : _ ∧ k_ ≠ gb124))) (fun _ hk => hk.2) (.int .i64 t115)) (fun _ hk => hk.2) (.string t116)) (fun _ hk => hk.2) (.string t117)) (fun _ hk => hk.2) (.slice Ao15 t118.length co15)) (fun _ hk => hk.2) (.slice Ao16 t121.length co16)) (fun _ h_ => h_.1)))); (case side4 => exact (Kd.V_reads' HO123.out).2.1); rintro e w17 ⟨rfl, hb⟩; refine ⟨_, rfl, ?_⟩; have n0_ := Aside0.mk (Kd.N_below (by (with_reducible repeat (first | apply Kd.N_alloc | apply Kd.N_drewN | apply Kd.N_drew)); exact (Kd.N_mono (Kd.N_far (p := ⟨gb124, 4, none⟩) (Kd.N_far (p := ⟨gb124, 3, none⟩) (Kd.N_far (p := ⟨gb124, 2, none⟩) (Kd.N_far (p := ⟨gb124, 1, none⟩) (Kd.N_far (p := ⟨gb124, 0, none⟩) (Kd.N_mono HO114.out (fun k_ hk => (⟨hk, hk.2⟩ : _ ∧ k_ ≠ gb124))) (fun _ hk => hk.2) (.int .i64 t115)) (fun _ hk => hk.2) (.string t116)) (fun _ hk => hk.2) (.string t117)) (fun _ hk => hk.2) (.slice Ao15 t118.length co15)) (fun _ hk => hk.2) (.slice Ao16 t121.length co16)) (fun _ h_ => h_.1))) hb); have n1_ := Aside0.mk (Kd.R_below (by (with_reducible repeat (first | apply Kd.R_alloc | apply Kd.R_drewN | apply Kd.R_drew)); exact (Kd.R_mono (Kd.R_far (p := ⟨gb124, 4, none⟩) (Kd.R_far (p := ⟨gb124, 3, none⟩) (Kd.R_far (p := ⟨gb124, 2, none⟩) (Kd.R_far (p := ⟨gb124, 1, none⟩) (Kd.R_far (p := ⟨gb124, 0, none⟩) (Kd.R_types HO120.out BK124.out (by decide)) (fun _ hk => hk.2) (.int .i64 t115)) (fun _ hk => hk.2) (.string t116)) (fun _ hk => hk.2) (.string t117)) (fun _ hk => hk.2) (.slice Ao15 t118.length co15)) (fun _ hk => hk.2) (.slice Ao16 t121.length co16)) (fun _ h_ => h_.1))) hb); have n2_ := Aside0.mk (Kd.V_below (by (with_reducible repeat (first | apply Kd.V_alloc | apply Kd.V_drewN | apply Kd.V_drew)); exact (Kd.V_mono (Kd.V_far (p := ⟨gb124, 4, none⟩) (Kd.V_far (p := ⟨gb124, 3, none⟩) (Kd.V_far (p := ⟨gb124, 2, none⟩) (Kd.V_far (p := ⟨gb124, 1, none⟩) (Kd.V_far (p := ⟨gb124, 0, none⟩) (Kd.V_mono HO123.out (fun k_ hk => (⟨hk, hk.2⟩ : _ ∧ k_ ≠ gb124))) (fun _ hk => hk.2) (.int .i64 t115)) (fun _ hk => hk.2) (.string t116)) (fun _ hk => hk.2) (.string t117)) (fun _ hk => hk.2) (.slice Ao15 t118.length co15)) (fun _ hk => hk.2) (.slice Ao16 t121.length co16)) (fun _ h_ => h_.1))) hb); have n3_ := Aside0.mk (blk_below (g := gb124) (o := .cells #[.int .i64 t115, .string t116, .string t117, .slice Ao15 t118.length co15, .slice Ao16 t121.length co16] 25 (0, 0)) (by (with_reducible repeat (first | refine blk_drewN ?_ _ | refine blk_drew ?_ | refine blk_alloc ?_ _)); refine blk_put (cs := #[.int .i64 t115, .string t116, .string t117, .slice Ao15 t118.length co15, .slice none 0 0]) ?_ 4 _ rfl; (with_reducible repeat (first | refine blk_drewN ?_ _ | refine blk_drew ?_ | refine blk_alloc ?_ _)); refine blk_put (cs := #[.int .i64 t115, .string t116, .string t117, .slice none 0 0, .slice none 0 0]) ?_ 3 _ rfl; (with_reducible repeat (first | refine blk_drewN ?_ _ | refine blk_drew ?_ | refine blk_alloc ?_ _)); refine blk_put (cs := #[.int .i64 t115, .string t116, .string (⟨#[]⟩ : ByteArray), .slice none 0 0, .slice none 0 0]) ?_ 2 _ rfl; (with_reducible repeat (first | refine blk_drewN ?_ _ | refine blk_drew ?_ | refine blk_alloc ?_ _)); refine blk_put (cs := #[.int .i64 t115, .string (⟨#[]⟩ : ByteArray), .string (⟨#[]⟩ : ByteArray), .slice none 0 0, .slice none 0 0]) ?_ 1 _ rfl; (with_reducible repeat (first | refine blk_drewN ?_ _ | refine blk_drew ?_ | refine blk_alloc ?_ _)); refine blk_put (cs := #[.int .i64 0, .string (⟨#[]⟩ : ByteArray), .string (⟨#[]⟩ : ByteArray), .slice none 0 0, .slice none 0 0]) ?_ 0 _ rfl; (with_reducible repeat (first | refine blk_drewN ?_ _ | refine blk_drew ?_ | refine blk_alloc ?_ _)); exact BK124.out) hb); have n4_ := Aside0.mk (below_step (by repeat (first | (with_reducible first | exact HB.out | apply below_alloc | apply pw_below_drewN | apply below_drew1 | refine below_set ?_ GE124.out) | exact HB.out)) hb); clear HO114; clear HO120; clear HO123; clear BK124; clear HB; have HO114 := n0_; have HO120 := n1_; have HO123 := n2_; have BK124 := n3_; have HB := n4_; clear n0_ n1_ n2_ n3_ n4_; (try clear hb); (try clear hb2); (try clear hk); (try clear hi); have hcz18_0 : w17.cell? ⟨gb124, 0, none⟩ = some (.int .i64 t115) := (blk_cell BK124.out 0).trans rfl; have hcz18_1 : w17.cell? ⟨gb124, 1, none⟩ = some (.string t116) := (blk_cell BK124.out 1).trans rfl; have hcz18_2 : w17.cell? ⟨gb124, 2, none⟩ = some (.string t117) := (blk_cell BK124.out 2).trans rfl; have hcz18_3 : w17.cell? ⟨gb124, 3, none⟩ = some (.slice Ao15 t118.length co15) := (blk_cell BK124.out 3).trans rfl; have hcz18_4 : w17.cell? ⟨gb124, 4, none⟩ = some (.slice Ao16 t121.length co16) := (blk_cell BK124.out 4).trans rfl; have hfz18_0 := blk_frozen BK124.out 0; have hfz18_1 := blk_frozen BK124.out 1; have hfz18_2 := blk_frozen BK124.out 2; have hfz18_3 := blk_frozen BK124.out 3; have hfz18_4 := blk_frozen BK124.out 4) | (go_at_call 13; (with_reducible refine (impl_AllNodes.calls k t115 t116 t117 _ _ t118 _ _ t121 t126 _ ?side1 ?side2 ?side3 ?side4 A5.out).mono ?_); (case side1 => repeat (first | exact (Kd.R_reads' HO120.out).2.2 | (with_reducible refine Kd.C_alloc ?_ _) | (with_reducible refine Kd.C_drewN ?_ _) | (with_reducible refine Kd.C_drew ?_))); (case side2 => exact (Kd.R_reads' HO120.out).2.1); (case side3 => repeat (first | exact (Kd.V_reads' HO123.out).2.2 | (with_reducible refine Kd.C_alloc ?_ _) | (with_reducible refine Kd.C_drewN ?_ _) | (with_reducible refine Kd.C_drew ?_))); (case side4 => exact (Kd.V_reads' HO123.out).2.1); rintro e w19 ⟨v127, rfl, ho0, hb⟩; have n0_ := Aside0.mk (Kd.N_elder' (by (with_reducible repeat (first | apply Kd.N_alloc | apply Kd.N_drewN | apply Kd.N_drew)); exact HO114.out) (Kd.N_base ho0) hb); have n1_ := Aside0.mk (Kd.R_below (by (with_reducible repeat (first | apply Kd.R_alloc | apply Kd.R_drewN | apply Kd.R_drew)); exact HO120.out) hb); have n2_ := Aside0.mk (Kd.V_elder' (by (with_reducible repeat (first | apply Kd.V_alloc | apply Kd.V_drewN | apply Kd.V_drew)); exact HO123.out) (Kd.N_base ho0) hb); have n3_ := Aside0.mk (Kd.N_lower (Kd.N_mono (ok' := fun k_ => some k_ ≠ (.slice Ao11 y112.length co11 : Value).ownBlock ∧ some k_ ≠ (.slice Ao15 t118.length co15 : Value).ownBlock ∧ k_ ≠ gb124) ho0 (fun k_ hk_ => ⟨(Kd.fresh' (Kd.N_lt (by (with_reducible repeat (first | apply Kd.N_alloc | apply Kd.N_drewN | apply Kd.N_drew)); exact HO114.out)) k_ hk_), (Kd.fresh' (Kd.R_lt (by (with_reducible repeat (first | apply Kd.R_alloc | apply Kd.R_drewN | apply Kd.R_drew)); exact HO120.out)) k_ hk_), (Kd.freshB (g := gb124) (o := .cells #[.int .i64 t115, .string t116, .string t117, .slice Ao15 t118.length co15, .slice Ao16 t121.length co16] 25 (0, 0)) (by (with_reducible repeat (first | refine blk_drewN ?_ _ | refine blk_drew ?_ | refine blk_alloc ?_ _)); exact BK124.out) k_ hk_)⟩)) (below_size (by repeat (first | (with_reducible first | exact HB.out | apply below_alloc | apply pw_below_drewN | apply below_drew1 | refine below_set ?_ GE124.out) | exact HB.out)))); have n4_ := Aside0.mk (blk_below (g := gb124) (o := .cells #[.int .i64 t115, .string t116, .string t117, .slice Ao15 t118.length co15, .slice Ao16 t121.length co16] 25 (0, 0)) (by (with_reducible repeat (first | refine blk_drewN ?_ _ | refine blk_drew ?_ | refine blk_alloc ?_ _)); exact BK124.out) hb); have n5_ := Aside0.mk (below_step (by repeat (first | (with_reducible first | exact HB.out | apply below_alloc | apply pw_below_drewN | apply below_drew1 | refine below_set ?_ GE124.out) | exact HB.out)) hb); clear HO114; clear HO120; clear HO123; clear BK124; clear HB; have HO114 := n0_; have HO120 := n1_; have HO123 := n2_; have HO128 := n3_; have BK124 := n4_; have HB := n5_; clear n0_ n1_ n2_ n3_ n4_ n5_; (try clear hb); (try clear hb2); (try clear hk); (try clear hi); (try clear ho0); obtain ⟨Ao20, co20, eo20⟩ := Kd.N_slice HO128.out; subst eo20))
    go_ret
    exact ⟨by first | rfl | (simp [errW_none, errW_some] <;> rfl) | (simp [*, errW_none, errW_some] <;> rfl), by repeat (first | (with_reducible first | exact HB.out | apply below_alloc | apply pw_below_drewN | apply below_drew1 | refine below_set ?_ GE124.out) | exact HB.out)⟩
  · rw [if_neg c4] at H
    have c4b0 : (t125.toList == ([112] : List UInt8)) = false := beq_eq_false_iff_ne.mpr c4
    have c4b1 : (t125.toList != ([112] : List UInt8)) = true := bne_iff_ne.mpr c4
    obtain rfl := Option.some.inj H
    go_enter Try.func23, Try.ntmps23
    go_wp2_with (first | ((with_reducible refine gate_callee (f := 47) rfl ?_); refine goesL_ (some 2) rfl rfl Try.func47 (by kernel_rfl) rfl #[.string (⟨#[97]⟩ : ByteArray)] rfl (by (try simp only [List.map_toArray, List.map_cons, List.map_nil]); first | done | rfl | (simp only [List.length_drop, List.length_take]; rfl)) ?_; (with_reducible refine (laws_text29.calls (⟨#[97]⟩ : ByteArray) t103 t104 t105 t106 t109 _ A1.out).mono ?_); rintro e w21 ⟨v107, v110, rfl, ho0, ho1, hb⟩; refine ⟨_, rfl, ?_⟩; have n0_ := Aside0.mk (Kd.R_lower ho0 (below_size (by repeat (first | (with_reducible first | exact HB.out | apply below_alloc | apply pw_below_drewN | apply below_drew1) | exact HB.out)))); have n1_ := Aside0.mk (Kd.N_lower (Kd.N_mono (ok' := fun k_ => some k_ ≠ (v107 : Value).ownBlock) (Kd.R_N (Kd.R_bound ho1)) (fun k_ hk_ => hk_.1)) (below_size (by repeat (first | (with_reducible first | exact HB.out | apply below_alloc | apply pw_below_drewN | apply below_drew1) | exact HB.out)))); have n2_ := Aside0.mk (below_step (by repeat (first | (with_reducible first | exact HB.out | apply below_alloc | apply pw_below_drewN | apply below_drew1) | exact HB.out)) hb); clear HB; have HO108 := n0_; have HO111 := n1_; have HB := n2_; clear n0_ n1_ n2_; (try clear hb); (try clear hb2); (try clear hk); (try clear hi); (try clear ho0); (try clear ho1); obtain ⟨Ao22, co22, eo22⟩ := Kd.R_slice HO108.out; subst eo22; obtain ⟨Ao23, co23, eo23⟩ := Kd.N_slice HO111.out; subst eo23) | ((with_reducible refine gate_dst (N := 3) rfl ?_); (try (refine gate_guard (by rfl) ?_; dsimp only)); refine Kd.N_lit k25 _ 25 ?hg (N' := 3) ?hd (xs := ([(⟨t103, t104, t105, t106, t109⟩ : S25)] : List (S25))) (inner := [.int .i64 t103, .string t104, .string t105, .slice Ao22 t106.length co22, .slice Ao23 t109.length co23]) (ok := (fun _ => True)) (okp := (fun _ => True)) ?hr ?hp (fun _ hk => hk) ((show ∀ k_, w21.heap.size ≤ k_ → (fun _ => True) k_ from fun k_ hk => trivial) _ (Nat.le_refl _)) (Below.refl _ _) (Nat.le_refl _) (by simp) ?_; (case hd => rfl); (case hg => rfl); (case hr => first | (go_simp; done) | (go_simp; rfl)); (case hp => exact (Reps.c5 (show Kd.FK k25 _ _ (⟨t103, t104, t105, t106, t109⟩ : S25) [.int .i64 t103, .string t104, .string t105, .slice Ao22 t106.length co22, .slice Ao23 t109.length co23] from (k25_mkF _ _ (⟨t103, t104, t105, t106, t109⟩ : S25) (Kd.R_reads' (Kd.R_mono (ok' := (fun _ => True)) (HO108.out) (fun k_ hk => trivial))).2.1 (Kd.R_F (Kd.R_mono (ok' := (fun _ => True)) (HO108.out) (fun k_ hk => trivial))) (Kd.N_reads' (Kd.N_mono (ok' := (fun _ => True)) (HO111.out) (fun k_ hk => trivial))).2.1 (Kd.N_F (Kd.N_mono (ok' := (fun _ => True)) (HO111.out) (fun k_ hk => trivial))))) (Reps.none _ _))); intro v113 w24 ho25 hb hg_ hnew_; clear hg_ hnew_; (first | rw [← Ny112.out] at ho25 | (simp only [Int.reduceToNat] at ho25; rw [← Ny112.out] at ho25)); have n0_ := Aside0.mk (Kd.N_lower ho25 (below_size (by repeat (first | (with_reducible first | exact HB.out | apply below_alloc | apply pw_below_drewN | apply below_drew1) | exact HB.out)))); have n1_ := Aside0.mk (below_step (by repeat (first | (with_reducible first | exact HB.out | apply below_alloc | apply pw_below_drewN | apply below_drew1) | exact HB.out)) hb); clear HB; clear HO108; clear HO111; have HO114 := n0_; have HB := n1_; clear n0_ n1_; clear hb ho25; obtain ⟨Ao26, co26, eo26⟩ := Kd.N_slice HO114.out; subst eo26) | ((with_reducible refine gate_callee (f := 46) rfl ?_); refine goesL_ (some 4) rfl rfl Try.func46 (by kernel_rfl) rfl #[.string (⟨#[112]⟩ : ByteArray), .slice Ao26 y112.length co26] rfl (by (try simp only [List.map_toArray, List.map_cons, List.map_nil]); first | done | rfl | (simp only [List.length_drop, List.length_take]; rfl)) ?_; (with_reducible refine (laws_tag29.calls (⟨#[112]⟩ : ByteArray) (fun k_ => True) _ _ y112 t115 t116 t117 t118 t121 _ ?side1 A2.out).mono ?_); (case side1 => exact Kd.N_V (HO114.out)); rintro e w27 ⟨v119, v122, rfl, ho0, ho1, hb⟩; refine ⟨_, rfl, ?_⟩; have n0_ := Aside0.mk (Kd.N_elder' (by (with_reducible repeat (first | apply Kd.N_alloc | apply Kd.N_drewN | apply Kd.N_drew)); exact HO114.out) (Kd.R_base ho0) hb); have n1_ := Aside0.mk (Kd.R_lower (Kd.R_mono (ok' := fun k_ => True) ho0 (fun _ hk_ => trivial)) (below_size (by repeat (first | (with_reducible first | exact HB.out | apply below_alloc | apply pw_below_drewN | apply below_drew1) | exact HB.out)))); have n2_ := Aside0.mk (Kd.V_lower (Kd.V_mono (ok' := fun k_ => some k_ ≠ (v119 : Value).ownBlock) ho1 (fun k_ hk_ => hk_.2)) (below_size (by repeat (first | (with_reducible first | exact HB.out | apply below_alloc | apply pw_below_drewN | apply below_drew1) | exact HB.out)))); have n3_ := Aside0.mk (below_step (by repeat (first | (with_reducible first | exact HB.out | apply below_alloc | apply pw_below_drewN | apply below_drew1) | exact HB.out)) hb); clear HO114; clear HB; have HO114 := n0_; have HO120 := n1_; have HO123 := n2_; have HB := n3_; clear n0_ n1_ n2_ n3_; (try clear hb); (try clear hb2); (try clear hk); (try clear hi); (try clear ho0); (try clear ho1)) | ((with_reducible refine gate_dst (N := 1) rfl ?_); (try (refine gate_guard (by rfl) ?_; dsimp only)); refine box_event ?hg (N := 1) ?hd (cs := #[.int .i64 0, .string (⟨#[]⟩ : ByteArray), .string (⟨#[]⟩ : ByteArray), .slice none 0 0, .slice none 0 0]) (t := 25) ?hr ?_; (case hd => rfl); (case hg => rfl); (case hr => first | (go_simp; done) | (go_simp; rfl)); intro gb124 hg w28 hbox hb; have n0_ := Aside0.mk (Kd.N_below (Kd.N_elderB (by (with_reducible repeat (first | apply Kd.N_alloc | apply Kd.N_drewN | apply Kd.N_drew)); exact HO114.out) gb124 (Nat.le_of_eq hg.symm)) hb); have n1_ := Aside0.mk (Kd.R_below (by (with_reducible repeat (first | apply Kd.R_alloc | apply Kd.R_drewN | apply Kd.R_drew)); exact HO120.out) hb); have n2_ := Aside0.mk (Kd.V_below (Kd.V_elderB (by (with_reducible repeat (first | apply Kd.V_alloc | apply Kd.V_drewN | apply Kd.V_drew)); exact HO123.out) gb124 (Nat.le_of_eq hg.symm)) hb); have n3_ := Aside0.mk (below_step (by repeat (first | (with_reducible first | exact HB.out | apply below_alloc | apply pw_below_drewN | apply below_drew1) | exact HB.out)) hb); have n4_ := Aside0.mk (hbox); have n5_ := Aside0.mk ((by rw [hg]; exact (below_size (by repeat (first | (with_reducible first | exact HB.out | apply below_alloc | apply pw_below_drewN | apply below_drew1) | exact HB.out))) : w.heap.size ≤ gb124)); have n6_ := Aside0.mk ((by rw [hg]; exact (below_size (by repeat (first | (with_reducible first | exact HB.out | apply below_alloc | apply pw_below_drewN | apply below_drew1) | exact HB.out))) : w.heap.size ≤ gb124)); clear HO114; clear HO120; clear HO123; clear HB; have HO114 := n0_; have HO120 := n1_; have HO123 := n2_; have HB := n3_; have BK124 := n4_; have GW124 := n5_; have GE124 := n6_; clear n0_ n1_ n2_ n3_ n4_ n5_ n6_; clear hb hbox hg; have hcz29_0 : w28.cell? ⟨gb124, 0, none⟩ = some (.int .i64 0) := (blk_cell BK124.out 0).trans rfl; have hcz29_1 : w28.cell? ⟨gb124, 1, none⟩ = some (.string (⟨#[]⟩ : ByteArray)) := (blk_cell BK124.out 1).trans rfl; have hcz29_2 : w28.cell? ⟨gb124, 2, none⟩ = some (.string (⟨#[]⟩ : ByteArray)) := (blk_cell BK124.out 2).trans rfl; have hcz29_3 : w28.cell? ⟨gb124, 3, none⟩ = some (.slice none 0 0) := (blk_cell BK124.out 3).trans rfl; have hcz29_4 : w28.cell? ⟨gb124, 4, none⟩ = some (.slice none 0 0) := (blk_cell BK124.out 4).trans rfl; have hfz29_0 := blk_frozen BK124.out 0; have hfz29_1 := blk_frozen BK124.out 1; have hfz29_2 := blk_frozen BK124.out 2; have hfz29_3 := blk_frozen BK124.out 3; have hfz29_4 := blk_frozen BK124.out 4; obtain ⟨Ao30, co30, eo30⟩ := Kd.R_slice HO120.out; subst eo30; obtain ⟨Ao31, co31, eo31⟩ := Kd.V_slice HO123.out; subst eo31) | ((with_reducible refine gate_callee (f := 11) rfl ?_); refine goesL_ (some 6) rfl rfl Try.func11 (by kernel_rfl) rfl #[.agg #[.int .i64 t115, .string t116, .string t117, .slice Ao30 t118.length co30, .slice Ao31 t121.length co31]] rfl (by (try simp only [List.map_toArray, List.map_cons, List.map_nil]); first | done | rfl | (simp only [List.length_drop, List.length_take]; rfl)) ?_; (with_reducible refine (impl_NameOf.calls k t115 t116 t117 _ _ t118 _ _ t121 t125 _ ?side1 ?side2 ?side3 ?side4 A3.out).mono ?_); (case side1 => refine (Kd.R_reads' (e := 78) (base := w.heap.size) (ok := fun k_ => True) (n := t118.length) (c := co30) ?_).2.2; exact (by (with_reducible repeat (first | apply Kd.R_alloc | apply Kd.R_drewN | apply Kd.R_drew)); exact (Kd.R_mono (Kd.R_far (p := ⟨gb124, 4, none⟩) (Kd.R_far (p := ⟨gb124, 3, none⟩) (Kd.R_far (p := ⟨gb124, 2, none⟩) (Kd.R_far (p := ⟨gb124, 1, none⟩) (Kd.R_far (p := ⟨gb124, 0, none⟩) (Kd.R_types HO120.out BK124.out (by decide)) (fun _ hk => hk.2) (.int .i64 t115)) (fun _ hk => hk.2) (.string t116)) (fun _ hk => hk.2) (.string t117)) (fun _ hk => hk.2) (.slice Ao30 t118.length co30)) (fun _ hk => hk.2) (.slice Ao31 t121.length co31)) (fun _ h_ => h_.1)))); (case side2 => exact (Kd.R_reads' HO120.out).2.1); (case side3 => refine (Kd.V_reads' (e := 25) (base := w.heap.size) (ok := fun k_ => (some k_ ≠ (.slice Ao30 t118.length co30 : Value).ownBlock ∧ k_ ≠ gb124)) (n := t121.length) (c := co31) ?_).2.2; exact (by (with_reducible repeat (first | apply Kd.V_alloc | apply Kd.V_drewN | apply Kd.V_drew)); exact (Kd.V_mono (Kd.V_far (p := ⟨gb124, 4, none⟩) (Kd.V_far (p := ⟨gb124, 3, none⟩) (Kd.V_far (p := ⟨gb124, 2, none⟩) (Kd.V_far (p := ⟨gb124, 1, none⟩) (Kd.V_far (p := ⟨gb124, 0, none⟩) (Kd.V_mono HO123.out (fun k_ hk => (⟨hk, hk.2⟩ : _ ∧ k_ ≠ gb124))) (fun _ hk => hk.2) (.int .i64 t115)) (fun _ hk => hk.2) (.string t116)) (fun _ hk => hk.2) (.string t117)) (fun _ hk => hk.2) (.slice Ao30 t118.length co30)) (fun _ hk => hk.2) (.slice Ao31 t121.length co31)) (fun _ h_ => h_.1)))); (case side4 => exact (Kd.V_reads' HO123.out).2.1); rintro e w32 ⟨rfl, hb⟩; refine ⟨_, rfl, ?_⟩; have n0_ := Aside0.mk (Kd.N_below (by (with_reducible repeat (first | apply Kd.N_alloc | apply Kd.N_drewN | apply Kd.N_drew)); exact (Kd.N_mono (Kd.N_far (p := ⟨gb124, 4, none⟩) (Kd.N_far (p := ⟨gb124, 3, none⟩) (Kd.N_far (p := ⟨gb124, 2, none⟩) (Kd.N_far (p := ⟨gb124, 1, none⟩) (Kd.N_far (p := ⟨gb124, 0, none⟩) (Kd.N_mono HO114.out (fun k_ hk => (⟨hk, hk.2⟩ : _ ∧ k_ ≠ gb124))) (fun _ hk => hk.2) (.int .i64 t115)) (fun _ hk => hk.2) (.string t116)) (fun _ hk => hk.2) (.string t117)) (fun _ hk => hk.2) (.slice Ao30 t118.length co30)) (fun _ hk => hk.2) (.slice Ao31 t121.length co31)) (fun _ h_ => h_.1))) hb); have n1_ := Aside0.mk (Kd.R_below (by (with_reducible repeat (first | apply Kd.R_alloc | apply Kd.R_drewN | apply Kd.R_drew)); exact (Kd.R_mono (Kd.R_far (p := ⟨gb124, 4, none⟩) (Kd.R_far (p := ⟨gb124, 3, none⟩) (Kd.R_far (p := ⟨gb124, 2, none⟩) (Kd.R_far (p := ⟨gb124, 1, none⟩) (Kd.R_far (p := ⟨gb124, 0, none⟩) (Kd.R_types HO120.out BK124.out (by decide)) (fun _ hk => hk.2) (.int .i64 t115)) (fun _ hk => hk.2) (.string t116)) (fun _ hk => hk.2) (.string t117)) (fun _ hk => hk.2) (.slice Ao30 t118.length co30)) (fun _ hk => hk.2) (.slice Ao31 t121.length co31)) (fun _ h_ => h_.1))) hb); have n2_ := Aside0.mk (Kd.V_below (by (with_reducible repeat (first | apply Kd.V_alloc | apply Kd.V_drewN | apply Kd.V_drew)); exact (Kd.V_mono (Kd.V_far (p := ⟨gb124, 4, none⟩) (Kd.V_far (p := ⟨gb124, 3, none⟩) (Kd.V_far (p := ⟨gb124, 2, none⟩) (Kd.V_far (p := ⟨gb124, 1, none⟩) (Kd.V_far (p := ⟨gb124, 0, none⟩) (Kd.V_mono HO123.out (fun k_ hk => (⟨hk, hk.2⟩ : _ ∧ k_ ≠ gb124))) (fun _ hk => hk.2) (.int .i64 t115)) (fun _ hk => hk.2) (.string t116)) (fun _ hk => hk.2) (.string t117)) (fun _ hk => hk.2) (.slice Ao30 t118.length co30)) (fun _ hk => hk.2) (.slice Ao31 t121.length co31)) (fun _ h_ => h_.1))) hb); have n3_ := Aside0.mk (blk_below (g := gb124) (o := .cells #[.int .i64 t115, .string t116, .string t117, .slice Ao30 t118.length co30, .slice Ao31 t121.length co31] 25 (0, 0)) (by (with_reducible repeat (first | refine blk_drewN ?_ _ | refine blk_drew ?_ | refine blk_alloc ?_ _)); refine blk_put (cs := #[.int .i64 t115, .string t116, .string t117, .slice Ao30 t118.length co30, .slice none 0 0]) ?_ 4 _ rfl; (with_reducible repeat (first | refine blk_drewN ?_ _ | refine blk_drew ?_ | refine blk_alloc ?_ _)); refine blk_put (cs := #[.int .i64 t115, .string t116, .string t117, .slice none 0 0, .slice none 0 0]) ?_ 3 _ rfl; (with_reducible repeat (first | refine blk_drewN ?_ _ | refine blk_drew ?_ | refine blk_alloc ?_ _)); refine blk_put (cs := #[.int .i64 t115, .string t116, .string (⟨#[]⟩ : ByteArray), .slice none 0 0, .slice none 0 0]) ?_ 2 _ rfl; (with_reducible repeat (first | refine blk_drewN ?_ _ | refine blk_drew ?_ | refine blk_alloc ?_ _)); refine blk_put (cs := #[.int .i64 t115, .string (⟨#[]⟩ : ByteArray), .string (⟨#[]⟩ : ByteArray), .slice none 0 0, .slice none 0 0]) ?_ 1 _ rfl; (with_reducible repeat (first | refine blk_drewN ?_ _ | refine blk_drew ?_ | refine blk_alloc ?_ _)); refine blk_put (cs := #[.int .i64 0, .string (⟨#[]⟩ : ByteArray), .string (⟨#[]⟩ : ByteArray), .slice none 0 0, .slice none 0 0]) ?_ 0 _ rfl; (with_reducible repeat (first | refine blk_drewN ?_ _ | refine blk_drew ?_ | refine blk_alloc ?_ _)); exact BK124.out) hb); have n4_ := Aside0.mk (below_step (by repeat (first | (with_reducible first | exact HB.out | apply below_alloc | apply pw_below_drewN | apply below_drew1 | refine below_set ?_ GE124.out) | exact HB.out)) hb); clear HO114; clear HO120; clear HO123; clear BK124; clear HB; have HO114 := n0_; have HO120 := n1_; have HO123 := n2_; have BK124 := n3_; have HB := n4_; clear n0_ n1_ n2_ n3_ n4_; (try clear hb); (try clear hb2); (try clear hk); (try clear hi)))
    go_ret
    exact ⟨by first | rfl | (simp [errW_none, errW_some] <;> rfl) | (simp [*, errW_none, errW_some] <;> rfl), by repeat (first | (with_reducible first | exact HB.out | apply below_alloc | apply pw_below_drewN | apply below_drew1 | refine below_set ?_ GE124.out) | exact HB.out)⟩

/-- THE ONE PURE STATEMENT of laws_living29: yours. -/
def laws_living29.Pure : Prop := ∃ k, laws_living29.f k  = some true
theorem laws_living29.walk (P : laws_living29.Pure)  (w : World)  :
    Calls Try.prog 23 #[] w fun e w' => e = .returned (.bool true) ∧ Below w.heap.size w w' := by
  obtain ⟨k, h⟩ := P  
  refine (laws_living29.calls k  true w h).mono ?_
  rintro e w' ⟨rfl, hd⟩
  exact ⟨rfl, hd⟩
end Go.Proofs.Ytibfoaahdbdogaa.PDom

/- What the reference tells of places: At29, First29, Beside29; that living29 is true. Plain facts. -/
namespace Go.Proofs.Ytibfoaahdbdogaa.PDom
open Go.RowKit Go.Proofs.YtibfoaahdbdogaaW.PrintWords Go.Proofs.YtibfoaahdbdogaaW.PrintLast Go.Proofs.YtibfoaahdbdogaaW.PrintMore Go.Proofs.Ytibfoaahdbdogaa.Dom
set_option linter.unusedVariables false
set_option linter.unusedSimpArgs false

theorem fit_kid {t y : T} (h : Fit t) (hy : y ∈ t.f4) : Fit y := by
  obtain ⟨_, _, _, hk⟩ := h
  exact hk y hy
theorem fit_len {t : T} (h : Fit t) : t.f4.length ≤ 4398046510976 := by
  obtain ⟨_, _, hk, _⟩ := h
  exact hk
theorem fit_at (l : List Int) : ∀ (t u : T), Fit t → atT t l = some u → Fit u := by
  induction l with
  | nil =>
    intro t u h e
    obtain rfl := Option.some.inj e
    exact h
  | cons k l ih =>
    intro t u h e
    simp only [atT] at e
    split at e
    · obtain ⟨z, hz, e2⟩ := Option.bind_eq_some_iff.1 e
      exact ih z u (fit_kid h (List.mem_of_getElem? hz)) e2
    · cases e
def atR (o : Option T) : Int × ByteArray × ByteArray × List S78 × List S25 × Bool := match o with
  | some u => (u.f0, u.f1, u.f2, u.f3, u.f4, true)
  | none => (0, ⟨#[]⟩, ⟨#[]⟩, [], [], false)
theorem at29_ev (path : List Int) (hl : path.length ≤ 4611686018427387904) (t : T) (ht : Fit t) : Ev (fun k => spec_At29.f k t.f0 t.f1 t.f2 t.f3 t.f4 path) (atR (atT t path)) := by
  have key : ∀ (n j : Nat), path.length = j + n → ∀ (t : T), Fit t → Ev (fun k => spec_At29.l0 k path (path.length : Int) (j : Int) t.f0 t.f1 t.f2 t.f3 t.f4) (atR (atT t (path.drop j))) := by
    intro n
    induction n with
    | zero =>
      intro j hj t ht
      rw [List.drop_eq_nil_of_le (by omega)]
      refine Ev.step (f := fun _ => some (atR (atT t []))) (fun k => ?_) (Ev.now _)
      simp only [spec_At29.l0]
      rw [if_neg (by omega)]
      rfl
    | succ n ih =>
      intro j hj t ht
      have hlt : j < path.length := by omega
      have hrd : rd path (j : Int) = path[j] := by simp [rd, List.getD_eq_getElem?_getD, List.getElem?_eq_getElem hlt]
      have hd : path.drop j = path[j] :: path.drop (j + 1) := List.drop_eq_getElem_cons hlt
      have hlen := fit_len ht
      rw [hd]
      by_cases h0 : path[j] < 0
      · refine Ev.step (f := fun _ => some (atR none)) (fun k => ?_) ?_
        · simp only [spec_At29.l0]
          rw [if_pos (by omega), if_pos (by omega), if_pos (by omega), hrd, if_pos h0]
          rfl
        · have e : atT t (path[j] :: path.drop (j + 1)) = none := by simp only [atT]; rw [if_neg (by omega)]
          rw [e]
          exact Ev.now _
      · by_cases h1 : path[j] ≥ (t.f4.length : Int)
        · refine Ev.step (f := fun _ => some (atR none)) (fun k => ?_) ?_
          · simp only [spec_At29.l0]
            rw [if_pos (by omega), if_pos (by omega), if_pos (by omega), hrd, if_neg h0, if_pos h1]
            rfl
          · have e : atT t (path[j] :: path.drop (j + 1)) = none := by
              simp only [atT]
              rw [if_pos (by omega), List.getElem?_eq_none (by omega)]
              rfl
            rw [e]
            exact Ev.now _
        · have hi : path[j].toNat < t.f4.length := by omega
          have hrt : rd_T25 t.f4 path[j] = t.f4[path[j].toNat] := by
            have := rd_at t.f4 hi
            rw [Int.toNat_of_nonneg (by omega)] at this
            exact this
          have e : atT t (path[j] :: path.drop (j + 1)) = atT t.f4[path[j].toNat] (path.drop (j + 1)) := by
            simp only [atT]
            rw [if_pos (by omega), List.getElem?_eq_getElem hi]
            rfl
          rw [e]
          refine Ev.step (f := fun k => spec_At29.l0 k path (path.length : Int) ((j + 1 : Nat) : Int) t.f4[path[j].toNat].f0 t.f4[path[j].toNat].f1 t.f4[path[j].toNat].f2 t.f4[path[j].toNat].f3 t.f4[path[j].toNat].f4) (fun k => ?_) (ih (j + 1) (by omega) _ (fit_kid ht (List.getElem_mem hi)))
          simp only [spec_At29.l0]
          rw [if_pos (by omega), if_pos (by omega), if_pos (by omega), hrd, if_neg h0, if_neg h1, if_pos (by omega), if_pos (by omega), succ_wrap j (by omega), hrt]
  have := key path.length 0 (by omega) t ht
  exact this
end Go.Proofs.Ytibfoaahdbdogaa.PDom

/- Lists of names in the laws: zzFits5, name29, among29; what FindAll's want is. Plain facts. -/
namespace Go.Proofs.Ytibfoaahdbdogaa.PDom
open Go.RowKit Go.Proofs.YtibfoaahdbdogaaW.PrintWords Go.Proofs.YtibfoaahdbdogaaW.PrintLast Go.Proofs.YtibfoaahdbdogaaW.PrintMore Go.Proofs.Ytibfoaahdbdogaa.Dom
set_option linter.unusedVariables false
set_option linter.unusedSimpArgs false

def Fit5 (r : List ByteArray) : Prop := r.length ≤ 2147483647 ∧ ∀ s ∈ r, s.size ≤ 2147483647
theorem rdOf_nth {l : List ByteArray} {i : Nat} (h : i < l.length) : rdOf ByteArray.empty l (i : Int) = l[i] := by simp [rdOf, List.getD_eq_getElem?_getD, List.getElem?_eq_getElem h]
theorem rdL5_nth {l : List (List Int)} {i : Nat} (h : i < l.length) : rd_L5 l (i : Int) = l[i] := by simp [rd_L5, List.getD_eq_getElem?_getD, List.getElem?_eq_getElem h]
theorem fits5_ev (l : List ByteArray) : ∃ b, Ev (fun k => laws_zzFits5.f k l) b ∧ (b = true → Fit5 l) := by
  by_cases hb : (l.length : Int) > 2147483647
  · exact ⟨false, Ev.congr (f := fun _ => some false) (fun k => by unfold laws_zzFits5.f; rw [if_pos hb]) (Ev.now _), fun h => by cases h⟩
  · have key : ∀ (n j : Nat), l.length = j + n → ∃ b, Ev (fun k => laws_zzFits5.l0 k l (l.length : Int) (j : Int)) b ∧ (b = true → ∀ s ∈ l.drop j, s.size ≤ 2147483647) := by
      intro n
      induction n with
      | zero =>
        intro j hj
        refine ⟨true, Ev.step (f := fun _ => some true) (fun k => ?_) (Ev.now _), fun _ s hs => ?_⟩
        · simp only [laws_zzFits5.l0]
          rw [if_neg (by omega)]
        · rw [List.drop_of_length_le (by omega)] at hs
          cases hs
      | succ n ih =>
        intro j hj
        have hlt : j < l.length := by omega
        obtain ⟨b, h1, h2⟩ := ih (j + 1) (by omega)
        by_cases hc : (l[j].size : Int) > 2147483647
        · refine ⟨false, Ev.step (f := fun _ => some false) (fun k => ?_) (Ev.now _), fun h => by cases h⟩
          simp only [laws_zzFits5.l0]
          rw [if_pos (by omega), if_pos (by omega), if_pos (by omega), rdOf_nth hlt, if_pos hc]
        · refine ⟨b, Ev.step (fun k => ?_) h1, fun hb' s hs => ?_⟩
          · simp only [laws_zzFits5.l0]
            rw [if_pos (by omega), if_pos (by omega), if_pos (by omega), rdOf_nth hlt, if_neg hc, succ_wrap j (by omega)]
          · rw [List.drop_eq_getElem_cons hlt] at hs
            rcases List.mem_cons.1 hs with rfl | hs
            · omega
            · exact h2 hb' s hs
    obtain ⟨b, h1, h2⟩ := key l.length 0 (by omega)
    refine ⟨b, Ev.congr (fun k => ?_) h1, fun h => ⟨by omega, fun s hs => h2 h s (by simpa using hs)⟩⟩
    unfold laws_zzFits5.f
    rw [if_neg hb]
    rfl
/-- A name starts with a small letter or more. -/
def Named (s : ByteArray) : Prop := 0 < s.size ∧ 97 ≤ bt s 0
theorem named_ev (s : ByteArray) (hs : s.size ≤ 4611686018427387904) : ∃ b, Ev (fun k => laws_name29.f k s) b ∧ (b = true → Named s) := by
  obtain ⟨b, hb⟩ := name_loop s hs s.size 0 (s.size + 1) (by omega) (by omega)
  refine ⟨b, Ev.of (fun k => laws_name29.mono s k) (k := s.size + 1) hb, fun h => ?_⟩
  subst h
  have hb' : laws_name29.l0 (s.size + 1) s (s.size : Int) 0 = some true := hb
  rw [laws_name29.l0] at hb'
  by_cases h0 : (0 : Int) < s.size
  · rw [if_pos h0, if_pos (by omega), if_pos h0] at hb'
    by_cases h1 : bt s 0 < 97
    · rw [if_pos h1, if_pos rfl] at hb'
      cases hb'
    · exact ⟨by omega, by omega⟩
  · rw [if_neg h0] at hb'
    have : s.toList = [] := by
      rw [ByteArray.toList_eq]
      have h2 : s.data.size = 0 := by have : s.size = s.data.size := rfl; omega
      exact List.eq_nil_of_length_eq_zero (by simpa using h2)
    rw [this] at hb'
    simp at hb'
theorem named_ne {s c : ByteArray} (hs : Named s) (hc : bt c 0 = 35) : ¬ c.toList = s.toList := by
  intro h
  have : c = s := by
    rw [ByteArray.toList_eq, ByteArray.toList_eq] at h
    exact ByteArray.ext (Array.toList_inj.mp h)
  subst this
  have := hs.2
  omega
theorem match_eq {names : List ByteArray} (hn : ∀ s ∈ names, Named s) {root : Bool} {v : T} (hv : Norm root v) : matchT names v = names.any fun s => decide (v.f0 = 0) && (v.f1.toList == s.toList) := by
  unfold matchT
  obtain ⟨_, _, hok, _⟩ := hv
  have e : ∀ s ∈ names, ((nameT v).toList == s.toList) = (decide (v.f0 = 0) && (v.f1.toList == s.toList)) := by
    intro s hs
    have h1 := named_ne (hn s hs) (show bt textName 0 = 35 by decide)
    have h2 := named_ne (hn s hs) (show bt commentName 0 = 35 by decide)
    have h3 := named_ne (hn s hs) (show bt docName 0 = 35 by decide)
    unfold nameT
    by_cases h0 : v.f0 = 0
    · rw [if_pos h0]
      simp [h0]
    · rw [if_neg h0]
      have : decide (v.f0 = 0) = false := by simpa using h0
      rw [this]
      split
      · simpa using h1
      · split
        · simpa using h2
        · simpa using h3
  induction names with
  | nil => rfl
  | cons s names ih =>
    rw [List.any_cons, List.any_cons, e s (List.mem_cons_self), ih (fun x hx => hn x (List.mem_cons_of_mem _ hx)) (fun x hx => e x (List.mem_cons_of_mem _ hx))]
theorem amongN_ev (names : List ByteArray) (hl : names.length ≤ 4398046510976) (f0 : Int) (f1 f2 : ByteArray) (f3 : List S78) (f4 : List S25) : Ev (fun k => laws_among29.f k f0 f1 f2 f3 f4 names) (names.any fun s => decide (f0 = 0) && (f1.toList == s.toList)) := by
  have key : ∀ (n j : Nat), names.length = j + n → Ev (fun k => laws_among29.l0 k names (names.length : Int) (j : Int) f0 f1 f2 f3 f4) ((names.drop j).any fun s => decide (f0 = 0) && (f1.toList == s.toList)) := by
    intro n
    induction n with
    | zero =>
      intro j hj
      rw [List.drop_eq_nil_of_le (by omega)]
      refine Ev.step (f := fun _ => some false) (fun k => ?_) (Ev.now _)
      simp only [laws_among29.l0]
      rw [if_neg (by omega)]
    | succ n ih =>
      intro j hj
      have hlt : j < names.length := by omega
      rw [List.drop_eq_getElem_cons hlt, List.any_cons]
      by_cases h0 : f0 = 0
      · by_cases h1 : f1.toList = names[j].toList
        · refine Ev.step (f := fun _ => some true) (fun k => ?_) ?_
          · simp only [laws_among29.l0]
            rw [if_pos (by omega), if_pos (by omega), if_pos (by omega), rdOf_nth hlt, if_pos h0, if_pos h1]
          · rw [h1]
            simp only [h0, decide_true, beq_self_eq_true, Bool.and_self, Bool.true_or]
            exact Ev.now _
        · refine Ev.step (fun k => ?_) (f := fun k => laws_among29.l0 k names (names.length : Int) ((j + 1 : Nat) : Int) f0 f1 f2 f3 f4) ?_
          · simp only [laws_among29.l0]
            rw [if_pos (by omega), if_pos (by omega), if_pos (by omega), rdOf_nth hlt, if_pos h0, if_neg h1, succ_wrap j (by omega)]
          · have e : (f1.toList == names[j].toList) = false := by simpa using h1
            rw [e, Bool.and_false, Bool.false_or]
            exact ih (j + 1) (by omega)
      · refine Ev.step (fun k => ?_) (f := fun k => laws_among29.l0 k names (names.length : Int) ((j + 1 : Nat) : Int) f0 f1 f2 f3 f4) ?_
        · simp only [laws_among29.l0]
          rw [if_pos (by omega), if_pos (by omega), if_pos (by omega), if_neg h0, succ_wrap j (by omega)]
        · have e : decide (f0 = 0) = false := by simpa using h0
          rw [show (decide (f0 = 0) && (f1.toList == names[j].toList)) = false by rw [e]; rfl, Bool.false_or]
          exact ih (j + 1) (by omega)
  exact key names.length 0 (by omega)
theorem count_at {l : List Int} : ∀ {t u : T}, atT t l = some u → countT u ≤ countT t := by
  induction l with
  | nil => intro t u e; obtain rfl := Option.some.inj e; exact Nat.le_refl _
  | cons k l ih =>
    intro t u e
    simp only [atT] at e
    by_cases h0 : 0 ≤ k
    · rw [if_pos h0] at e
      obtain ⟨z, hz, e2⟩ := Option.bind_eq_some_iff.1 e
      have h1 := ih e2
      have hm := List.mem_of_getElem? hz
      have key : ∀ l : List T, z ∈ l → countT z ≤ countTL l := by
        intro l
        induction l with
        | nil => intro h; cases h
        | cons x l ih =>
          intro h
          simp only [countTL]
          rcases List.mem_cons.1 h with rfl | h
          · omega
          · have := ih h
            omega
      have h3 := key _ hm
      rw [countT_eq t]
      omega
    · rw [if_neg h0] at e
      cases e
theorem norm_at (l : List Int) : ∀ (root : Bool) (t u : T), Norm root t → atT t l = some u → ∃ root', Norm root' u := by
  induction l with
  | nil => intro root t u hn e; obtain rfl := Option.some.inj e; exact ⟨root, hn⟩
  | cons k l ih =>
    intro root t u hn e
    simp only [atT] at e
    by_cases h0 : 0 ≤ k
    · rw [if_pos h0] at e
      obtain ⟨z, hz, e2⟩ := Option.bind_eq_some_iff.1 e
      cases hn with
      | mk _ _ _ hk => exact ih false z u (hk z (List.mem_of_getElem? hz)) e2
    · rw [if_neg h0] at e
      cases e
theorem matchO_ev {t : T} (ht : Fit t) {root : Bool} (hn : Norm root t) {names : List ByteArray} (hl : names.length ≤ 4398046510976) (hs : ∀ s ∈ names, Named s) (q : List Int) : Ev (fun k => laws_among29.f k (atR (atT t q)).1 (atR (atT t q)).2.1 (atR (atT t q)).2.2.1 (atR (atT t q)).2.2.2.1 (atR (atT t q)).2.2.2.2.1 names) (matchO names (atT t q)) := by
  cases hu : atT t q with
  | some u =>
    obtain ⟨root', hn'⟩ := norm_at q root t u hn hu
    have := amongN_ev names hl u.f0 u.f1 u.f2 u.f3 u.f4
    rw [← match_eq hs hn'] at this
    exact this
  | none =>
    have := amongN_ev names hl 0 ⟨#[]⟩ ⟨#[]⟩ [] []
    have e : (names.any fun s => decide ((0 : Int) = 0) && ((⟨#[]⟩ : ByteArray).toList == s.toList)) = false := by
      rw [List.any_eq_false]
      intro s hs'
      have h1 := (hs s hs').1
      have : ¬ (⟨#[]⟩ : ByteArray).toList = s.toList := by
        intro h
        rw [ByteArray.toList_eq, ByteArray.toList_eq] at h
        have : (⟨#[]⟩ : ByteArray) = s := ByteArray.ext (Array.toList_inj.mp h)
        subst this
        exact absurd h1 (by decide)
      simpa using this
    rw [e] at this
    exact this
theorem found_len {t : T} (path : List Int) (names : List ByteArray) : (foundT t path names).length ≤ countT t := by
  unfold foundT
  cases hu : atT t path with
  | none => simp
  | some u =>
    have h1 := count_at hu
    have h2 := pathsT_len [] u
    have h3 : (belowT u names).length ≤ (pathsTL [] 0 u.f4).length := List.length_filter_le _ _
    have h4 : (pathsT [] u).length = (pathsTL [] 0 u.f4).length + 1 := by rw [pathsT_eq]; rfl
    simp only [List.length_map]
    omega
theorem found_small {t : T} {path : List Int} {names : List ByteArray} {q : List Int} (h : q ∈ foundT t path names) : q.length ≤ path.length + 1 + countT t := by
  unfold foundT at h
  cases hu : atT t path with
  | none => rw [hu] at h; cases h
  | some u =>
    rw [hu] at h
    obtain ⟨q', hq, rfl⟩ := List.mem_map.1 h
    have h1 := count_at hu
    have h2 := pathsTL_small [] 0 u.f4 q' ((List.mem_filter.1 hq).1)
    have h3 := countT_eq u
    rw [List.length_append]
    simp at h2
    omega
end Go.Proofs.Ytibfoaahdbdogaa.PDom

/- living29 is true. Plain facts. -/
namespace Go.Proofs.Ytibfoaahdbdogaa.PDom
open Go.RowKit Go.Proofs.YtibfoaahdbdogaaW.PrintWords Go.Proofs.YtibfoaahdbdogaaW.PrintLast Go.Proofs.YtibfoaahdbdogaaW.PrintMore Go.Proofs.Ytibfoaahdbdogaa.Dom
set_option linter.unusedVariables false
set_option linter.unusedSimpArgs false

theorem name_ev {t : T} (ht : Fit t) {K : Nat} (h : laws_tree29.f K t.f0 t.f1 t.f2 t.f3 t.f4 = some true) : Ev (fun k => impl_NameOf.f k t.f0 t.f1 t.f2 t.f3 t.f4) (if t.f0 = 3 then docName else t.f1) := by
  obtain ⟨K3, e3⟩ := fitB_ev t ht
  have e2 := Ev.of (fun k => laws_tree29.mono t.f0 t.f1 t.f2 t.f3 t.f4 k) h
  obtain ⟨K2, h2⟩ := e2
  refine ⟨K2 + K3, fun k hk => ?_⟩
  have h4 : laws_tree29.f k t.f0 t.f1 t.f2 t.f3 t.f4 = some true := h2 k (by omega)
  show impl_NameOf.f k _ _ _ _ _ = _
  unfold impl_NameOf.f
  rw [h4, Option.bind_some, if_pos rfl, if_pos (e3 k (by omega))]
theorem all_ev {t : T} (ht : Fit t) {K : Nat} (h : laws_tree29.f K t.f0 t.f1 t.f2 t.f3 t.f4 = some true) : Ev (fun k => impl_AllNodes.f k t.f0 t.f1 t.f2 t.f3 t.f4) (pathsT [] t) := by
  obtain ⟨K3, e3⟩ := fitB_ev t ht
  have e2 := Ev.of (fun k => laws_tree29.mono t.f0 t.f1 t.f2 t.f3 t.f4 k) h
  obtain ⟨K2, h2⟩ := e2
  refine ⟨K2 + K3, fun k hk => ?_⟩
  have h4 : laws_tree29.f k t.f0 t.f1 t.f2 t.f3 t.f4 = some true := h2 k (by omega)
  show impl_AllNodes.f k _ _ _ _ _ = _
  unfold impl_AllNodes.f
  rw [h4, Option.bind_some, if_pos rfl, if_pos (e3 k (by omega))]
  cases t
  rfl
def liveT : T := ⟨0, ⟨#[112]⟩, ⟨#[]⟩, [], [⟨1, ⟨#[]⟩, ⟨#[97]⟩, [], []⟩]⟩
theorem live_fit : Fit liveT := Fit.mk _ (by decide) (by decide) (fun y hy => by
  have : y = ⟨1, ⟨#[]⟩, ⟨#[97]⟩, [], []⟩ := by simpa [liveT] using hy
  subst this
  exact Fit.mk _ (by decide) (by decide) (fun y hy => by cases hy))
theorem live_tree : laws_tree29.f 40 liveT.f0 liveT.f1 liveT.f2 liveT.f3 liveT.f4 = some true := by decide +kernel
theorem living_ev : Ev (fun k => laws_living29.f k) true := by
  have e1 := name_ev live_fit live_tree
  have e2 := all_ev live_fit live_tree
  refine Ev.congr (f := fun k => (impl_NameOf.f k liveT.f0 liveT.f1 liveT.f2 liveT.f3 liveT.f4).bind fun t159 => (if t159.toList = ([112] : List UInt8) then ((impl_AllNodes.f k liveT.f0 liveT.f1 liveT.f2 liveT.f3 liveT.f4).bind fun t160 => (some ((t160.length : Int) == 2))) else (some false))) (fun k => ?_) ?_
  · rw [laws_living29.f]
    rfl
  · refine Ev.bind e1 ?_
    have h1 : ((if liveT.f0 = 3 then docName else liveT.f1).toList = ([112] : List UInt8)) := by decide +kernel
    simp only [if_pos h1]
    refine Ev.bind e2 ?_
    have h2 : ((pathsT [] liveT).length : Int) == 2 := by rw [pathsT_len]; decide +kernel
    rw [h2]
    exact Ev.now _
end Go.Proofs.Ytibfoaahdbdogaa.PDom

/- Printed by the program extprint.py of this session, out of the kit's print and contracts of this session's own; Lean checks it. -/
namespace Go.Proofs.Ytibfoaahdbdogaa.PDom
open Go.RowKit Go.Proofs.YtibfoaahdbdogaaW.PrintWords Go.Proofs.YtibfoaahdbdogaaW.PrintLast Go.Proofs.YtibfoaahdbdogaaW.PrintMore
attribute [local go_sem] max2_int min2_int max_two min_two max_three min_three max_four min_four   -- for this text's walks alone
set_option linter.unusedVariables false
set_option linter.unusedSimpArgs false


end Go.Proofs.Ytibfoaahdbdogaa.PDom

/- FnDomSibling: the plain law, and the law's walk for trees that fit. -/
namespace Go.Proofs.Ytibfoaahdbdogaa.PDom
open Go.RowKit Go.Proofs.YtibfoaahdbdogaaW.PrintWords Go.Proofs.YtibfoaahdbdogaaW.PrintLast Go.Proofs.YtibfoaahdbdogaaW.PrintMore Go.Proofs.Ytibfoaahdbdogaa.Dom
set_option linter.unusedVariables false
set_option linter.unusedSimpArgs false

theorem count_kid {t y : T} (h : y ∈ t.f4) : countT y < countT t := by
  rw [countT_eq t]
  have key : ∀ l : List T, y ∈ l → countT y ≤ countTL l := by
    intro l
    induction l with
    | nil => intro h; cases h
    | cons x l ih =>
      intro h
      simp only [countTL]
      rcases List.mem_cons.1 h with rfl | h
      · omega
      · have := ih h
        omega
  have := key _ h
  omega
theorem count_len (t : T) : t.f4.length < countT t := by
  rw [countT_eq t]
  have key : ∀ l : List T, l.length ≤ countTL l := by
    intro l
    induction l with
    | nil => exact Nat.le_refl _
    | cons x l ih =>
      have : 0 < countT x := by rw [countT_eq]; omega
      simp only [countTL, List.length_cons]
      omega
  have := key t.f4
  omega
theorem atT_small (l : List Int) : ∀ (t u : T), atT t l = some u → l.length < countT t ∧ ∀ x ∈ l, 0 ≤ x ∧ x < countT t := by
  induction l with
  | nil => intro t u _; exact ⟨by rw [countT_eq, List.length_nil]; omega, fun x hx => by cases hx⟩
  | cons k l ih =>
    intro t u e
    simp only [atT] at e
    by_cases h0 : 0 ≤ k
    · rw [if_pos h0] at e
      obtain ⟨z, hz, e2⟩ := Option.bind_eq_some_iff.1 e
      obtain ⟨h1, h2⟩ := ih z u e2
      have h3 := count_kid (List.mem_of_getElem? hz)
      have h4 := count_len t
      have h5 : k.toNat < t.f4.length := (List.getElem?_eq_some_iff.1 hz).1
      refine ⟨by rw [List.length_cons]; omega, fun x hx => ?_⟩
      rcases List.mem_cons.1 hx with rfl | hx
      · omega
      · have := h2 x hx
        omega
    · rw [if_neg h0] at e
      cases e
end Go.Proofs.Ytibfoaahdbdogaa.PDom
