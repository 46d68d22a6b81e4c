/- What the reference tells of paths: Walk29, and that a list of paths is itself. Plain facts. -/
import Derived.Test.YtibfoaahdbdogaaAllN
import Derived.Test.YtibfoaahdbdogaaEDomx5
namespace Go.Proofs.Ytibfoaahdbdogaa.PDom
open Go.RowKit Go.Proofs.YtibfoaahdbdogaaW.PrintWords Go.Proofs.YtibfoaahdbdogaaW.PrintLast Go.Proofs.YtibfoaahdbdogaaW.PrintMore Go.Proofs.Ytibfoaahdbdogaa.Dom
set_option linter.unusedVariables false
set_option linter.unusedSimpArgs false

mutual
theorem pathsT_len (p : List Int) : ∀ t : T, (pathsT p t).length = countT t
  | ⟨_, _, _, _, ks⟩ => by
    simp only [pathsT, countT, List.length_cons]
    have := pathsTL_len p 0 ks
    omega
theorem pathsTL_len (p : List Int) (j : Nat) : ∀ l : List T, (pathsTL p j l).length = countTL l
  | [] => rfl
  | k :: ks => by
    simp only [pathsTL, countTL, List.length_append]
    rw [pathsT_len, pathsTL_len]
end
theorem Ev.some {α : Type} {g : Nat → Option α} {r : α} (h : ∀ k, g k = some r) : Ev g r := ⟨0, fun k _ => h k⟩
theorem Ev.next {α : Type} {g f : Nat → Option α} {r : α} (h : ∀ k, g (k + 1) = f k) (hf : Ev f r) : Ev g r := Ev.step h hf
theorem under_eq (p : List Int) (j : Int) (hp : p.length < 10000) : spec_Under29.f p j = some (p ++ [j]) := by
  unfold spec_Under29.f
  rw [Option.bind_some, if_pos (by simp; omega), Option.bind_some, if_pos (by simp; omega)]
  rfl
theorem walk_ev {t : T} (ht : Fit t) : ∀ (p : List Int), p.length + countT t ≤ 1000 → Ev (fun k => spec_Walk29.f k t.f0 t.f1 t.f2 t.f3 t.f4 p) (pathsT p t) := by
  induction ht with
  | mk t ha hk hall ih =>
    intro p hc
    rw [countT_eq] at hc
    refine Ev.step (f := fun k => spec_Walk29.l0 k p [p] t.f4 (t.f4.length : Int) ((0 : Nat) : Int)) (fun k => rfl) ?_
    have key : ∀ (n j : Nat) (acc : List (List Int)), t.f4.length = j + n → acc.length + countTL (t.f4.drop j) ≤ 1000 → Ev (fun k => spec_Walk29.l0 k p acc t.f4 (t.f4.length : Int) (j : Int)) (acc ++ pathsTL p j (t.f4.drop j)) := by
      intro n
      induction n with
      | zero =>
        intro j acc hj _
        rw [List.drop_eq_nil_of_le (by omega)]
        refine Ev.step (f := fun _ => some acc) (fun k => ?_) (by simpa [pathsTL] using Ev.now acc)
        simp only [spec_Walk29.l0]
        rw [if_neg (by omega)]
      | succ n ihn =>
        intro j acc hj hac
        have hlt : j < t.f4.length := by omega
        have hd : t.f4.drop j = t.f4[j] :: t.f4.drop (j + 1) := List.drop_eq_getElem_cons hlt
        have hcl : countTL (t.f4.drop j) = countT t.f4[j] + countTL (t.f4.drop (j + 1)) := by rw [hd]; rfl
        have hle : countTL (t.f4.drop j) ≤ countTL t.f4 := by
          have := congrArg countTL (List.take_append_drop j t.f4)
          rw [countTL_append] at this
          omega
        have e1 := ih _ (List.getElem_mem hlt) (p ++ [(j : Int)]) (by rw [List.length_append, List.length_singleton]; omega)
        have hpl : (pathsT (p ++ [(j : Int)]) t.f4[j]).length = countT t.f4[j] := pathsT_len _ _
        have e2 := ihn (j + 1) (acc ++ pathsT (p ++ [(j : Int)]) t.f4[j]) (by omega) (by rw [List.length_append, hpl]; omega)
        rw [hd]
        simp only [pathsTL]
        rw [← List.append_assoc]
        refine Ev.step (f := fun k => (spec_Walk29.f k t.f4[j].f0 t.f4[j].f1 t.f4[j].f2 t.f4[j].f3 t.f4[j].f4 (p ++ [(j : Int)])).bind fun y => if acc.length + y.length < 5864062014805 then spec_Walk29.l0 k p (acc ++ y) t.f4 (t.f4.length : Int) ((j + 1 : Nat) : Int) else none) (fun k => ?_) ?_
        · simp only [spec_Walk29.l0]
          rw [if_pos (by omega), if_pos (by omega), if_pos (by omega), rd_at t.f4 hlt, under_eq p _ (by omega), Option.bind_some, succ_wrap j (by omega)]
        · refine Ev.bind e1 ?_
          have h3 : acc.length + (pathsT (p ++ [(j : Int)]) t.f4[j]).length < 5864062014805 := by rw [hpl]; omega
          simp only [if_pos h3]
          exact e2
    have := key t.f4.length 0 [p] (by omega) (by simp; omega)
    rw [pathsT_eq]
    simpa using this
theorem path_self (l : List Int) (hl : l.length ≤ 4398046510976) : Ev (fun k => laws_path29.f k l l) true := by
  have key : ∀ (n j : Nat), l.length = j + n → Ev (fun k => laws_path29.l0 k l l (l.length : Int) (j : Int)) true := by
    intro n
    induction n with
    | zero =>
      intro j hj
      refine Ev.step (f := fun _ => some true) (fun k => ?_) (Ev.now _)
      simp only [laws_path29.l0]
      rw [if_neg (by omega)]
    | succ n ih =>
      intro j hj
      refine Ev.step (f := fun k => laws_path29.l0 k l l (l.length : Int) ((j + 1 : Nat) : Int)) (fun k => ?_) (ih (j + 1) (by omega))
      simp only [laws_path29.l0]
      rw [if_pos (by omega), if_pos (by omega), if_pos (by omega), if_pos (by omega), succ_wrap j (by omega)]
      simp
  have := key l.length 0 (by omega)
  refine Ev.congr (f := fun k => laws_path29.l0 k l l (l.length : Int) ((0 : Nat) : Int)) (fun k => ?_) this
  unfold laws_path29.f
  rw [if_pos rfl]
  rfl
theorem paths_self (l : List (List Int)) (hl : l.length ≤ 4398046510976) (hq : ∀ q ∈ l, q.length ≤ 4398046510976) : Ev (fun k => laws_paths29.f k l l) true := by
  have key : ∀ (n j : Nat), l.length = j + n → Ev (fun k => laws_paths29.l0 k l l (l.length : Int) (j : Int)) true := by
    intro n
    induction n with
    | zero =>
      intro j hj
      refine Ev.step (f := fun _ => some true) (fun k => ?_) (Ev.now _)
      simp only [laws_paths29.l0]
      rw [if_neg (by omega)]
    | succ n ih =>
      intro j hj
      have hlt : j < l.length := by omega
      have he : rd_L5 l (j : Int) = l[j] := by simp [rd_L5, List.getD_eq_getElem?_getD, List.getElem?_eq_getElem hlt]
      refine Ev.step (f := fun k => (laws_path29.f k l[j] l[j]).bind fun b => if b = true then laws_paths29.l0 k l l (l.length : Int) ((j + 1 : Nat) : Int) else some false) (fun k => ?_) ?_
      · simp only [laws_paths29.l0]
        rw [if_pos (by omega), if_pos (by omega), if_pos (by omega), if_pos (by omega), succ_wrap j (by omega), he]
      · refine Ev.bind (path_self _ (hq _ (List.getElem_mem hlt))) ?_
        simpa using ih (j + 1) (by omega)
  have := key l.length 0 (by omega)
  refine Ev.congr (f := fun k => laws_paths29.l0 k l l (l.length : Int) ((0 : Nat) : Int)) (fun k => ?_) this
  unfold laws_paths29.f
  rw [if_pos rfl]
  rfl
mutual
theorem pathsT_small (p : List Int) : ∀ t : T, ∀ q ∈ pathsT p t, q.length ≤ p.length + countT t
  | ⟨_, _, _, _, ks⟩, q, h => by
    simp only [pathsT, List.mem_cons] at h
    simp only [countT]
    rcases h with rfl | h
    · omega
    · have := pathsTL_small p 0 ks q h
      omega
theorem pathsTL_small (p : List Int) (j : Nat) : ∀ l : List T, ∀ q ∈ pathsTL p j l, q.length ≤ p.length + 1 + countTL l
  | [], q, h => by simp [pathsTL] at h
  | k :: ks, q, h => by
    simp only [pathsTL, List.mem_append] at h
    simp only [countTL]
    rcases h with h | h
    · have := pathsT_small (p ++ [(j : Int)]) k q h
      rw [List.length_append, List.length_singleton] at this
      omega
    · have := pathsTL_small p (j + 1) ks q h
      omega
end
/-- The guards of all these laws tell something, in the end always the same. -/
theorem fits2_ev (t : T) (ht : Fit t) : ∃ b, Ev (fun k => laws_zzFits2.f k t.f0 t.f1 t.f2 t.f3 t.f4) b := by
  obtain ⟨_, ha, _, _⟩ := ht
  obtain ⟨b, hb⟩ := fits2_tot t.f0 t.f1 t.f2 t.f3 t.f4 (by omega) (t.f3.length + 1) (by omega)
  exact ⟨b, Ev.of (fun k => laws_zzFits2.mono _ _ _ _ _ k) hb⟩
theorem tree_ev (t : T) (ht : FitS t) : ∃ b, Ev (fun k => laws_tree29.f k t.f0 t.f1 t.f2 t.f3 t.f4) b := by
  obtain ⟨k, b, hb⟩ := tree_tot ht
  exact ⟨b, Ev.of (fun k => laws_tree29.mono _ _ _ _ _ k) hb⟩
theorem fitB_ev (t : T) (ht : Fit t) : ∃ K, ∀ k, K ≤ k → fitB k ⟨t.f0, t.f1, t.f2, t.f3, t.f4⟩ = true := by
  obtain ⟨n, h⟩ := fit_fitB ht
  exact ⟨n, fun k hk => by have := fitB_le hk h; cases t; exact this⟩
end Go.Proofs.Ytibfoaahdbdogaa.PDom
