/- Trees of nodes, each with its block: what a table holds of one, its nodes in order, their places. Plain facts on tables. -/
import Derived.Test.YtibfoaahdbdogaaNodeX
namespace Go.Proofs.Ytibfoaahdbdogaa.Dom
open Go.RowKit Go.Proofs.YtibfoaahdbdogaaW.PrintWords Go.Proofs.YtibfoaahdbdogaaW.PrintLast Go.Proofs.YtibfoaahdbdogaaW.PrintMore Go.Proofs.Ytibfoaahdbdogaa.PDom
set_option linter.unusedVariables false
set_option linter.unusedSimpArgs false

inductive RT where
  | node (id : Nat) (ty atom : Int) (data : ByteArray) (attrs : List (ByteArray × ByteArray)) (kids : List RT) : RT
namespace RT
def id : RT → Nat | node i _ _ _ _ _ => i
def ty : RT → Int | node _ t _ _ _ _ => t
def atom : RT → Int | node _ _ a _ _ _ => a
def data : RT → ByteArray | node _ _ _ d _ _ => d
def attrs : RT → List (ByteArray × ByteArray) | node _ _ _ _ a _ => a
def kids : RT → List RT | node _ _ _ _ _ k => k
def info (p : Option Nat) : RT → Info | node _ t a d at_ ks => ⟨p, ks.map RT.id, t, a, d, at_⟩
theorem induct {P : RT → Prop} (h : ∀ i t a d at_ ks, (∀ k ∈ ks, P k) → P (node i t a d at_ ks)) : ∀ r, P r := by
  intro r
  refine RT.rec (motive_1 := P) (motive_2 := fun l => ∀ k ∈ l, P k) ?_ ?_ ?_ r
  · intro i t a d at_ ks ih
    exact h i t a d at_ ks ih
  · intro k hk
    cases hk
  · intro x l hx hl k hk
    rcases List.mem_cons.1 hk with rfl | hk
    · exact hx
    · exact hl k hk
mutual
/-- The nodes of a tree, each ahead of those in it. -/
def pre : RT → List Nat
  | node i _ _ _ _ ks => i :: preL ks
def preL : List RT → List Nat
  | [] => []
  | k :: ks => pre k ++ preL ks
end
mutual
/-- The places of these. -/
def paths (p : List Int) : RT → List (List Int)
  | node _ _ _ _ _ ks => p :: pathsL p 0 ks
def pathsL (p : List Int) (j : Nat) : List RT → List (List Int)
  | [] => []
  | k :: ks => paths (p ++ [(j : Int)]) k ++ pathsL p (j + 1) ks
end
theorem preL_append (l m : List RT) : preL (l ++ m) = preL l ++ preL m := by
  induction l with
  | nil => rfl
  | cons k l ih => simp [preL, ih]
theorem mem_preL {x : Nat} {l : List RT} : x ∈ preL l ↔ ∃ k ∈ l, x ∈ pre k := by
  induction l with
  | nil => simp [preL]
  | cons k l ih => simp [preL, ih]
theorem id_mem (r : RT) : r.id ∈ r.pre := by cases r; simp [id, pre]
end RT

/-- The table holds the tree; its root's parent is told besides. -/
inductive Is (D : Tab) : Option Nat → RT → Prop
  | mk (p : Option Nat) (i : Nat) (t a : Int) (d : ByteArray) (at_ : List (ByteArray × ByteArray)) (ks : List RT) (h : D i = some ⟨p, ks.map RT.id, t, a, d, at_⟩) (hk : ∀ k ∈ ks, Is D (some i) k) : Is D p (.node i t a d at_ ks)
theorem Is.root {D : Tab} {p : Option Nat} {r : RT} (h : Is D p r) : D r.id = some (r.info p) := by
  cases h with
  | mk _ _ _ _ _ _ _ h _ => exact h
theorem Is.kid {D : Tab} {p : Option Nat} {r k : RT} (h : Is D p r) (hk : k ∈ r.kids) : Is D (some r.id) k := by
  cases h with
  | mk _ _ _ _ _ _ _ _ h => exact h k hk
/-- The tree as plain data. -/
inductive TellsT : T → RT → Prop
  | mk (t : T) (i : Nat) (a : Int) (ks : List RT) (ha : a = atomOf t) (hl : (kidsT t).length = ks.length) (hk : ∀ j (h1 : j < (kidsT t).length) (h2 : j < ks.length), TellsT (kidsT t)[j] ks[j]) : TellsT t (.node i (tyOf t.f0) a (dataOf t) (attrsOf t) ks)
theorem list_choose {α : Type} {n : Nat} {P : Nat → α → Prop} (h : ∀ j, j < n → ∃ a, P j a) : ∃ l : List α, l.length = n ∧ ∀ j (hj : j < l.length), P j l[j] := by
  induction n with
  | zero => exact ⟨[], rfl, fun j hj => absurd hj (Nat.not_lt_zero _)⟩
  | succ n ih =>
    obtain ⟨l, hl, hp⟩ := ih (fun j hj => h j (by omega))
    obtain ⟨a, ha⟩ := h n (by omega)
    refine ⟨l ++ [a], by simp [hl], fun j hj => ?_⟩
    by_cases hjn : j < l.length
    · rw [List.getElem_append_left hjn]
      exact hp j hjn
    · have : j = n := by simp at hj; omega
      subst this
      rw [List.getElem_append_right (by omega)]
      simpa [hl] using ha
theorem IsT.rt {D : Tab} (wf : WF D) {b : Nat} {t : T} (h : IsT D b t) : ∀ i, D b = some i → ∃ r : RT, r.id = b ∧ Is D i.parent r ∧ TellsT t r := by
  induction h with
  | mk b t i h hm hl hk ih =>
    intro i' hi'
    rw [h] at hi'
    obtain rfl := Option.some.inj hi'
    have key : ∀ j, j < i.kids.length → ∃ r : RT, ∃ (h1 : j < i.kids.length) (h2 : j < (kidsT t).length), r.id = i.kids[j] ∧ Is D (some b) r ∧ TellsT (kidsT t)[j] r := by
      intro j hj
      have h2 : j < (kidsT t).length := by omega
      obtain ⟨ic, hic, hp⟩ := wf.down h (List.getElem_mem hj)
      obtain ⟨r, h3, h4, h5⟩ := ih j hj h2 ic hic
      rw [hp] at h4
      exact ⟨r, hj, h2, h3, h4, h5⟩
    obtain ⟨ks, hks, hkp⟩ := list_choose key
    have hids : ks.map RT.id = i.kids := by
      apply List.ext_getElem (by simp [hks])
      intro j h1 h2
      obtain ⟨_, _, h3, _⟩ := hkp j (by simpa using h1)
      simpa using h3
    refine ⟨.node b i.ty i.atom i.data i.attrs ks, rfl, ?_, ?_⟩
    · refine Is.mk _ _ _ _ _ _ _ ?_ ?_
      · rw [h, hids]
      · intro k hk'
        obtain ⟨j, hj, rfl⟩ := List.getElem_of_mem hk'
        obtain ⟨_, _, _, h4, _⟩ := hkp j hj
        exact h4
    · rw [hm.ty, hm.data, hm.attrs]
      refine TellsT.mk t b i.atom ks hm.atom (by omega) ?_
      intro j h1 h2
      obtain ⟨_, _, _, _, h5⟩ := hkp j h2
      exact h5

/-! ### Places -/
inductive All2 {α β : Type} (R : α → β → Prop) : List α → List β → Prop
  | nil : All2 R [] []
  | cons {a b l m} (h : R a b) (t : All2 R l m) : All2 R (a :: l) (b :: m)
theorem All2.append {α β : Type} {R : α → β → Prop} {l l' : List α} {m m' : List β} (h : All2 R l m) (h' : All2 R l' m') : All2 R (l ++ l') (m ++ m') := by
  induction h with
  | nil => exact h'
  | cons h _ ih => exact .cons h ih
theorem All2.length {α β : Type} {R : α → β → Prop} {l : List α} {m : List β} (h : All2 R l m) : l.length = m.length := by
  induction h with
  | nil => rfl
  | cons _ _ ih => simp [ih]
theorem All2.imp {α β : Type} {R S : α → β → Prop} {l : List α} {m : List β} (h : All2 R l m) (hs : ∀ a ∈ l, ∀ b, R a b → S a b) : All2 S l m := by
  induction h with
  | nil => exact .nil
  | cons h _ ih => exact .cons (hs _ List.mem_cons_self _ h) (ih fun a ha b => hs a (List.mem_cons_of_mem _ ha) b)
theorem All2.get {α β : Type} {R : α → β → Prop} {l : List α} {m : List β} (h : All2 R l m) : ∀ j (h1 : j < l.length) (h2 : j < m.length), R l[j] m[j] := by
  induction h with
  | nil => intro j h1; exact absurd h1 (Nat.not_lt_zero _)
  | cons h _ ih =>
    intro j h1 h2
    cases j with
    | zero => exact h
    | succ j => exact ih j (by simpa using h1) (by simpa using h2)
/-- The node x stands at a place below the root. -/
inductive PathTo (D : Tab) (root : Nat) : Nat → List Int → Prop
  | root (i : Info) (h : D root = some i) (hp : i.parent = none) : PathTo D root root []
  | kid (p x j : Nat) (path : List Int) (ip ix : Info) (h : PathTo D root p path) (hp : D p = some ip) (hj : ip.kids[j]? = some x) (hx : D x = some ix) (hxp : ix.parent = some p) : PathTo D root x (path ++ [(j : Int)])
theorem Is.paths {D : Tab} {root : Nat} (r : RT) : ∀ (p : Option Nat) (path : List Int), Is D p r → PathTo D root r.id path → All2 (PathTo D root) r.pre (r.paths path) := by
  induction r using RT.induct with
  | h i t a d at_ ks ih =>
    intro p path h hp
    have hD : D i = some ⟨p, ks.map RT.id, t, a, d, at_⟩ := h.root
    show All2 _ (i :: RT.preL ks) (path :: RT.pathsL path 0 ks)
    refine .cons hp ?_
    have key : ∀ (l done : List RT), ks = done ++ l → All2 (PathTo D root) (RT.preL l) (RT.pathsL path done.length l) := by
      intro l
      induction l with
      | nil => exact fun _ _ => .nil
      | cons k l ihl =>
        intro done e
        have hk : k ∈ ks := by rw [e]; simp
        have hik := h.kid (k := k) hk
        have hpk : PathTo D root k.id (path ++ [(done.length : Int)]) := PathTo.kid i k.id done.length path _ _ hp hD (by simp [e]) hik.root (by cases k; rfl)
        have h2 := ihl (done ++ [k]) (by simp [e])
        rw [List.length_append, List.length_singleton] at h2
        exact (ih k hk (some i) _ hik hpk).append h2
    exact key ks [] rfl
end Go.Proofs.Ytibfoaahdbdogaa.Dom
