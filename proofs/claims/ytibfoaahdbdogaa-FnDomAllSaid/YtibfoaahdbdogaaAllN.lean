/- impl.AllNodes of a tree in normal form: the places of its nodes, in order. -/
import Derived.Test.YtibfoaahdbdogaaAllX
import Derived.Test.YtibfoaahdbdogaaNormT
namespace Go.Proofs.Ytibfoaahdbdogaa.PDom
open Go.RowKit Go.Proofs.YtibfoaahdbdogaaW.PrintWords Go.Proofs.YtibfoaahdbdogaaW.PrintLast Go.Proofs.YtibfoaahdbdogaaW.PrintMore Go.Proofs.Ytibfoaahdbdogaa.Dom
set_option linter.unusedVariables false
set_option linter.unusedSimpArgs false

mutual
/-- The places of a tree's nodes, each ahead of those in it. -/
def pathsT (p : List Int) : T → List (List Int)
  | ⟨_, _, _, _, ks⟩ => p :: pathsTL p 0 ks
def pathsTL (p : List Int) (j : Nat) : List T → List (List Int)
  | [] => []
  | k :: ks => pathsT (p ++ [(j : Int)]) k ++ pathsTL p (j + 1) ks
end
theorem pathsT_eq (p : List Int) (t : T) : pathsT p t = p :: pathsTL p 0 t.f4 := by cases t; rfl
theorem kids_norm {root : Bool} {t : T} (h : Norm root t) : kidsT t = t.f4 := by
  obtain ⟨_, _, h1, _⟩ := h
  unfold kidsT
  by_cases hf : flat t
  · rw [if_pos hf]
    rcases h1 with ⟨_, _, _, h4⟩ | ⟨h3, _⟩ | ⟨h0, _⟩
    · exact h4.symm
    · unfold flat at hf; omega
    · unfold flat at hf; omega
  · rw [if_neg hf]
theorem Norm.kid {root : Bool} {t y : T} (h : Norm root t) (hy : y ∈ t.f4) : Norm false y := by
  obtain ⟨_, _, _, hk⟩ := h
  exact hk y hy
theorem told_open {t : T} {i : Nat} {ty a : Int} {d : ByteArray} {at_ : List (ByteArray × ByteArray)} {ks : List RT} (h : TellsT t (.node i ty a d at_ ks)) {root : Bool} (hn : Norm root t) :
    t.f4.length = ks.length ∧ ∀ j (h1 : j < t.f4.length) (h2 : j < ks.length), TellsT t.f4[j] ks[j] := by
  cases h with
  | mk _ _ _ _ ha hl hk =>
    have e := kids_norm hn
    simp only [e] at hl hk
    exact ⟨hl, hk⟩
theorem told_paths (r : RT) : ∀ (t : T) (root : Bool), Norm root t → TellsT t r → (∀ p, r.paths p = pathsT p t) ∧ r.pre.length = countT t := by
  induction r using RT.induct with
  | h i ty a d at_ ks ih =>
    intro t root hn ht
    obtain ⟨hl, hk⟩ := told_open ht hn
    have key : ∀ (n j : Nat), ks.length = j + n → (∀ p, RT.pathsL p j (ks.drop j) = pathsTL p j (t.f4.drop j)) ∧ (RT.preL (ks.drop j)).length = countTL (t.f4.drop j) := by
      intro n
      induction n with
      | zero =>
        intro j hj
        rw [List.drop_eq_nil_of_le (by omega), List.drop_eq_nil_of_le (by omega)]
        exact ⟨fun _ => rfl, rfl⟩
      | succ n ihn =>
        intro j hj
        have h1 : j < ks.length := by omega
        have h2 : j < t.f4.length := by omega
        obtain ⟨e1, e2⟩ := ihn (j + 1) (by omega)
        obtain ⟨e3, e4⟩ := ih ks[j] (List.getElem_mem h1) t.f4[j] false (hn.kid (List.getElem_mem h2)) (hk j h2 h1)
        rw [List.drop_eq_getElem_cons h1, List.drop_eq_getElem_cons h2]
        refine ⟨fun p => ?_, ?_⟩
        · simp only [RT.pathsL, pathsTL]
          rw [e1, e3]
        · simp only [RT.preL, countTL, List.length_append]
          rw [e2, e4]
    obtain ⟨e1, e2⟩ := key ks.length 0 (by omega)
    simp only [List.drop_zero] at e1 e2
    refine ⟨fun p => ?_, ?_⟩
    · rw [pathsT_eq]
      simp only [RT.paths]
      rw [e1]
    · rw [countT_eq]
      simp only [RT.pre, List.length_cons]
      omega
/-- How long a place is, and how great its numbers. -/
theorem paths_small (r : RT) : ∀ (p : List Int), ∀ q ∈ r.paths p, q.length + 1 ≤ p.length + r.pre.length ∧ ∀ x ∈ q, x ∈ p ∨ (0 ≤ x ∧ x < r.pre.length) := by
  induction r using RT.induct with
  | h i ty a d at_ ks ih =>
    intro p q hq
    simp only [RT.paths, List.mem_cons] at hq
    have hlen : (RT.node i ty a d at_ ks).pre.length = 1 + (RT.preL ks).length := by simp [RT.pre]; omega
    rw [hlen]
    rcases hq with rfl | hq
    · exact ⟨by omega, fun x hx => .inl hx⟩
    · have key : ∀ (l : List RT), (∀ k ∈ l, k ∈ ks) → ∀ (j : Nat), q ∈ RT.pathsL p j l → (q.length ≤ p.length + (RT.preL l).length) ∧ ∀ x ∈ q, x ∈ p ∨ (0 ≤ x ∧ x < j + (RT.preL l).length) := by
        intro l
        induction l with
        | nil => intro _ j h; simp [RT.pathsL] at h
        | cons k l ihl =>
          intro hk j h
          simp only [RT.pathsL, List.mem_append] at h
          have hpk : 0 < k.pre.length := by cases k; simp [RT.pre]
          simp only [RT.preL, List.length_append]
          rcases h with h | h
          · obtain ⟨h1, h2⟩ := ih k (hk k (by simp)) _ q h
            simp only [List.length_append, List.length_singleton] at h1
            refine ⟨by omega, fun x hx => ?_⟩
            rcases h2 x hx with h3 | h3
            · rcases List.mem_append.1 h3 with h4 | h4
              · exact .inl h4
              · have : x = (j : Int) := by simpa using h4
                exact .inr (by omega)
            · exact .inr (by omega)
          · obtain ⟨h1, h2⟩ := ihl (fun k hk' => hk k (by simp [hk'])) (j + 1) h
            refine ⟨by omega, fun x hx => ?_⟩
            rcases h2 x hx with h3 | h3
            · exact .inl h3
            · exact .inr (by omega)
      obtain ⟨h1, h2⟩ := key ks (fun _ h => h) 0 hq
      exact ⟨by omega, fun x hx => (h2 x hx).imp id (fun h => by omega)⟩
end Go.Proofs.Ytibfoaahdbdogaa.PDom
