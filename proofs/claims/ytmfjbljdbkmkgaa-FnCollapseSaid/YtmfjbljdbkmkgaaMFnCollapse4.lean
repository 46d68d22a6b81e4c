/- A part of the proof of FnCollapse: ColK, BlankX, BlankS, BlankY, ColY, ColE, ColX, ColZ, FullX, SpcY, EDomx1, one behind the other. -/
import Derived.Test.YtmfjbljdbkmkgaaMFnCollapse3
import Derived.Test.YtmfjbljdbkmkgaaMFnCollapse1
import Derived.Test.YtmfjbljdbkmkgaaProg
import Derived.Deep.DeepMust
import Derived.Tactics2
import Derived.Lib.SliceRun
import Derived.Deep.DeepCutAuto
import Derived.StillTailTactics
import Derived.Test.YtmfjbljdbkmkgaaMFnCollapse2
import Derived.Deep.LoopGhost
import Derived.Sort.AtCall
import Derived.Deep.RegionLaw
import Derived.BigRegion
/- Collapse: how it begins and ends. Plain facts. -/
namespace Go.Proofs.Ytmfjbljdbkmkgaa.Dom
open Go.RowKit Go.Proofs.YtmfjbljdbkmkgaaW.PrintWords Go.Proofs.YtmfjbljdbkmkgaaW.PrintLast Go.Proofs.YtmfjbljdbkmkgaaW.PrintMore Go.Proofs.Ytmfjbljdbkmkgaa.PDom Go.Proofs.Ytmfjbljdbkmkgaa.Blank Go.Proofs.Ytmfjbljdbkmkgaa.Txt
set_option linter.unusedVariables false
set_option linter.unusedSimpArgs false

/-! ### Taken out -/
theorem rm_no (S : Srt) (q : Nat → Bool) (r : RT) : (∀ b ∈ r.tid S, q b = false) → r.rm S q = [r] := by
 induction r using RT.induct with
 | h i ty a d at_ ks ih =>
  intro h
  rw [RT.tid] at h
  rw [RT.rm]
  split
  ·rename_i h1
   rw [if_pos h1] at h
   rw [h i (by simp), if_neg (by simp)]
  ·rename_i h1
   rw [if_neg h1] at h
   split
   ·rename_i h2
    rw [if_pos h2] at h
    have : ∀ l : List RT, (∀ k ∈ l, k ∈ ks) → RT.rmL S q l = l := by
     intro l
     induction l with
     | nil => intro _; rfl
     | cons k l ih2 =>
      intro hm
      rw [RT.rmL, ih k (hm k (by simp)) (fun b hb => h b (mem_tidL.2 ⟨k, hm k (by simp), hb⟩)), ih2 (fun y hy => hm y (by simp [hy]))]
      rfl
    rw [this ks (fun k hk => hk)]
   ·rfl
theorem rmL_no (S : Srt) (q : Nat → Bool) (l : List RT) (h : ∀ b ∈ RT.tidL S l, q b = false) : RT.rmL S q l = l := by
 induction l with
 | nil => rfl
 | cons k l ih =>
  rw [RT.rmL, rm_no S q k (fun b hb => h b (by rw [RT.tidL]; exact List.mem_append_left _ hb)), ih (fun b hb => h b (by rw [RT.tidL]; exact List.mem_append_right _ hb))]
  rfl
theorem tid_dat (S : Srt) (σ : Nat → List Int) (r : RT) : (r.dat S σ).tid S = r.tid S := by
 induction r using RT.induct with
 | h i ty a d at_ ks ih =>
  rw [RT.dat]
  by_cases h1 : ty = 1
  ·rw [if_pos h1, RT.tid, RT.tid, if_pos h1, if_pos h1]
  ·rw [if_neg h1]
   by_cases h2 : (ty == 3 && !inL S.pr d) = true
   ·rw [if_pos h2, RT.tid, RT.tid, if_neg h1, if_neg h1, if_pos h2, if_pos h2]
    have : ∀ l : List RT, (∀ k ∈ l, (k.dat S σ).tid S = k.tid S) → RT.tidL S (RT.datL S σ l) = RT.tidL S l := by
     intro l
     induction l with
     | nil => intro _; rfl
     | cons k l ih2 =>
      intro h
      rw [RT.datL, RT.tidL, RT.tidL, h k (by simp), ih2 (fun y hy => h y (by simp [hy]))]
    exact this ks ih
   ·rw [if_neg h2]
theorem rm_dat (S : Srt) (σ : Nat → List Int) (q : Nat → Bool) (r : RT) : (r.dat S σ).rm S q = RT.datL S σ (r.rm S q) := by
 induction r using RT.induct with
 | h i ty a d at_ ks ih =>
  rw [RT.dat, RT.rm]
  by_cases h1 : ty = 1
  ·rw [if_pos h1, if_pos h1, RT.rm, if_pos h1]
   split
   ·rfl
   ·rw [RT.datL, RT.datL, RT.dat, if_pos h1]
  ·rw [if_neg h1, if_neg h1]
   by_cases h2 : (ty == 3 && !inL S.pr d) = true
   ·rw [if_pos h2, if_pos h2, RT.rm, if_neg h1, if_pos h2, RT.datL, RT.datL, RT.dat, if_neg h1, if_pos h2]
    have : ∀ l : List RT, (∀ k ∈ l, (k.dat S σ).rm S q = RT.datL S σ (k.rm S q)) → RT.rmL S q (RT.datL S σ l) = RT.datL S σ (RT.rmL S q l) := by
     intro l
     induction l with
     | nil => intro _; rfl
     | cons k l ih2 =>
      intro h
      rw [RT.datL, RT.rmL, RT.rmL, h k (by simp), ih2 (fun y hy => h y (by simp [hy])), datL_append]
    rw [this ks ih]
   ·rw [if_neg h2, if_neg h2, RT.rm, if_neg h1, if_neg h2, RT.datL, RT.datL, RT.dat, if_neg h1, if_neg h2]
theorem rmL_datL (S : Srt) (σ : Nat → List Int) (q : Nat → Bool) (l : List RT) : RT.rmL S q (RT.datL S σ l) = RT.datL S σ (RT.rmL S q l) := by
 induction l with
 | nil => rfl
 | cons k l ih => rw [RT.datL, RT.rmL, RT.rmL, rm_dat, ih, datL_append]
theorem rmL_set (S : Srt) (b : Nat) : ∀ (ks : List RT) (j : Nat) (k k' : RT), (RT.preL ks).Nodup → ks[j]? = some k → b ∈ k.pre → k.rm S (fun x => x == b) = [k'] → RT.rmL S (fun x => x == b) ks = ks.set j k'
 | [], j, k, k', _, h, _, _ => by simp at h
 | c :: ks, 0, k, k', hn, h, hb, hk => by
  obtain rfl : c = k := by simpa using h
  rw [RT.preL] at hn
  rw [RT.rmL, hk, rmL_no S _ ks (fun x hx => beq_eq_false_iff_ne.2 (fun e => (List.nodup_append.1 hn).2.2 b hb x (tidL_pre S ks x hx) e.symm))]
  rfl
 | c :: ks, j + 1, k, k', hn, h, hb, hk => by
  have h' : ks[j]? = some k := by simpa using h
  rw [RT.preL] at hn
  obtain ⟨n1, n2, n3⟩ := List.nodup_append.1 hn
  have hbm : b ∈ RT.preL ks := RT.mem_preL.2 ⟨k, List.mem_of_getElem? h', hb⟩
  rw [RT.rmL, rm_no S _ c (fun x hx => beq_eq_false_iff_ne.2 (fun e => n3 x (tid_pre S c x hx) b hbm e)), rmL_set S b ks j k k' n2 h' hb hk]
  rfl
/-- A text that is taken out of its parent's children. -/
theorem rm_at (S : Srt) {b : Nat} {y : RT} {k1 k2 : List RT} (hy : y.id = b) : ∀ (l : List Int) (r up : RT), r.pre.Nodup → r.at_ l = some up → up.kids = k1 ++ y :: k2 → b ∈ r.tid S → r.ty ≠ 1 → r.rm S (fun x => x == b) = [r.mapAt (fun _ => k1 ++ k2) l] := by
 intro l
 induction l with
 | nil =>
  intro r up hn h hk hb h1
  obtain rfl : r = up := by simpa [RT.at_] using h
  cases r with
  | node i ty a d at_ ks =>
   obtain rfl : ks = k1 ++ y :: k2 := hk
   have h1' : ¬ ty = 1 := h1
   rw [RT.tid, if_neg h1'] at hb
   split at hb
   case isFalse => cases hb
   rename_i h2
   rw [RT.rm, if_neg h1', if_pos h2]
   obtain ⟨_, hn2⟩ := List.nodup_cons.1 (show (i :: RT.preL (k1 ++ y :: k2)).Nodup from hn)
   have hp : RT.preL (k1 ++ y :: k2) = RT.preL k1 ++ (y.pre ++ RT.preL k2) := by rw [RT.preL_append]; rfl
   rw [hp] at hn2
   obtain ⟨m1, m2, m3⟩ := List.nodup_append.1 hn2
   obtain ⟨o1, o2, o3⟩ := List.nodup_append.1 m2
   have hyid : b ∈ y.pre := by rw [← hy]; exact RT.id_mem y
   have e1 : RT.rmL S (fun x => x == b) k1 = k1 := rmL_no S _ k1 (fun x hx => beq_eq_false_iff_ne.2 (fun e => m3 x (tidL_pre S k1 x hx) b (List.mem_append_left _ hyid) e))
   have e2 : RT.rmL S (fun x => x == b) k2 = k2 := rmL_no S _ k2 (fun x hx => beq_eq_false_iff_ne.2 (fun e => o3 b hyid x (tidL_pre S k2 x hx) e.symm))
   have hty : y.rm S (fun x => x == b) = [] := by
    rw [tidL_append, RT.tidL] at hb
    have hbt : b ∈ y.tid S := by
     rcases List.mem_append.1 hb with hb | hb
     ·exact absurd rfl (m3 b (tidL_pre S k1 b hb) b (List.mem_append_left _ hyid))
     ·rcases List.mem_append.1 hb with hb | hb
      ·exact hb
      ·exact absurd rfl (o3 b hyid b (tidL_pre S k2 b hb))
    cases y with
    | node yi yty ya yd yat yks =>
     obtain rfl : yi = b := hy
     rw [RT.tid] at hbt
     rw [RT.rm]
     split at hbt
     ·rename_i h4
      rw [if_pos h4, if_pos (by simp)]
     ·split at hbt
      ·exact absurd (tidL_pre S yks _ hbt) (List.nodup_cons.1 (show (yi :: RT.preL yks).Nodup from o1)).1
      ·cases hbt
   rw [rmL_append, RT.rmL, e1, e2, hty]
   rfl
 | cons j l ih =>
  intro r up hn h hk hb h1
  obtain ⟨_, k, hkk, e⟩ := at_cons h
  cases r with
  | node i ty a d at_ ks =>
   have hkk' : ks[j.toNat]? = some k := hkk
   have h1' : ¬ ty = 1 := h1
   rw [RT.tid, if_neg h1'] at hb
   split at hb
   case isFalse => cases hb
   rename_i h2
   rw [RT.rm, if_neg h1', if_pos h2, RT.mapAt_cons _ _ _ _ _ _ _ _ _ hkk']
   obtain ⟨_, hn2⟩ := List.nodup_cons.1 (show (i :: RT.preL ks).Nodup from hn)
   obtain ⟨_, q2, q3⟩ := nodup_kid (k' := k) hn hkk'
   have hyk : b ∈ RT.preL up.kids := by
    rw [hk, RT.preL_append]
    refine List.mem_append_right _ ?_
    rw [RT.preL, ← hy]
    exact List.mem_append_left _ (RT.id_mem y)
   have hbk : b ∈ k.pre := RT.sub_pre l k up e b (by cases up; exact List.mem_cons_of_mem _ hyk)
   have hkt : b ∈ k.tid S := by
    obtain ⟨k0, hk0, hb0⟩ := mem_tidL.1 hb
    obtain ⟨j0, hj0, e0⟩ := List.getElem_of_mem hk0
    have g0 : ks[j0]? = some k0 := by rw [List.getElem?_eq_getElem hj0, e0]
    by_cases hjj : j0 = j.toNat
    ·subst hjj
     rw [hkk'] at g0
     obtain rfl := Option.some.inj g0
     exact hb0
    ·exact absurd hbk ((nodup_kid (k' := k0) hn hkk').2.2 j0 hjj g0 b (tid_pre S k0 b hb0))
   have hk1 : k.ty ≠ 1 := by
    intro e1
    -- a text's own id cannot stand below it
    have hid : b = k.id := by
     cases k with
     | node ki kty ka kd kat kks =>
      obtain rfl : kty = 1 := e1
      rw [RT.tid, if_pos rfl] at hkt
      simpa [RT.id] using hkt
    cases l with
    | nil =>
     obtain rfl : k = up := by simpa [RT.at_] using e
     cases k with
     | node ki kty ka kd kat kks =>
      exact (List.nodup_cons.1 (show (ki :: RT.preL kks).Nodup from q2)).1 (by rw [← show b = ki from hid]; exact hyk)
    | cons j2 l2 =>
     obtain ⟨_, c, hc, e3⟩ := at_cons e
     cases k with
     | node ki kty ka kd kat kks =>
      refine (List.nodup_cons.1 (show (ki :: RT.preL kks).Nodup from q2)).1 ?_
      rw [← show b = ki from hid]
      refine RT.mem_preL.2 ⟨c, List.mem_of_getElem? hc, RT.sub_pre l2 c up e3 b (by cases up; exact List.mem_cons_of_mem _ hyk)⟩
   rw [rmL_set S b ks j.toNat k (k.mapAt (fun _ => k1 ++ k2) l) hn2 hkk' hbk (ih k up q2 e hk hkt hk1)]
/-! ### What is left is no more than there was -/
theorem run_le (S : Srt) (r : RT) : ∀ s, (RT.preL (run S s r).2).length ≤ r.pre.length ∧ (RT.All okC r → ∀ x ∈ (run S s r).2, RT.All okC x) := by
 induction r using RT.induct with
 | h i ty a d at_ ks ih =>
  intro s
  have same : (RT.preL [RT.node i ty a d at_ ks]).length ≤ (RT.node i ty a d at_ ks).pre.length := by simp [RT.preL]
  have sameA : RT.All okC (.node i ty a d at_ ks) → ∀ x ∈ [RT.node i ty a d at_ ks], RT.All okC x := fun h x hx => by
   have : x = _ := List.mem_singleton.1 hx
   rw [this]; exact h
  rw [run]
  by_cases h1 : ty = 1
  ·rw [if_pos h1]
   show (RT.preL (if (s.ct i).isEmpty = true then [] else _)).length ≤ _ ∧ (_ → ∀ x ∈ (if (s.ct i).isEmpty = true then [] else _), _)
   split
   ·exact ⟨Nat.zero_le _, fun _ x hx => by cases hx⟩
   ·exact ⟨same, sameA⟩
  ·rw [if_neg h1]
   by_cases h3 : ty = 3
   ·rw [if_pos h3]
    split
    ·exact ⟨same, sameA⟩
    ·have hL : ∀ (l : List RT) (s : SR), (∀ k ∈ l, k ∈ ks) → (RT.preL (runL S s l).2).length ≤ (RT.preL l).length ∧ ((∀ k ∈ l, RT.All okC k) → ∀ x ∈ (runL S s l).2, RT.All okC x) := by
      intro l
      induction l with
      | nil => intro s _; exact ⟨Nat.le_refl _, fun _ x hx => by cases hx⟩
      | cons k l ih2 =>
       intro s hm
       obtain ⟨a1, a2⟩ := ih k (hm k (by simp)) s
       obtain ⟨b1, b2⟩ := ih2 (run S s k).1 (fun y hy => hm y (by simp [hy]))
       rw [runL]
       refine ⟨?_, fun h x hx => ?_⟩
       ·rw [RT.preL_append, List.length_append, RT.preL, List.length_append]
        omega
       ·rcases List.mem_append.1 hx with hx | hx
        ·exact a2 (h k (by simp)) x hx
        ·exact b2 (fun y hy => h y (by simp [hy])) x hx
     obtain ⟨a1, a2⟩ := hL ks (s.ent (S.kind d)) (fun k hk => hk)
     refine ⟨?_, fun h x hx => ?_⟩
     ·simp only [RT.preL, RT.pre, List.length_append, List.length_cons, List.length_nil]
      omega
     ·have : x = _ := List.mem_singleton.1 hx
      rw [this]
      cases h with
      | mk _ hp hk => exact ⟨_, ⟨hp.1, .inl h3⟩, a2 hk⟩
   ·rw [if_neg h3]
    exact ⟨same, sameA⟩
theorem runL_le (S : Srt) (l : List RT) : ∀ s, (RT.preL (runL S s l).2).length ≤ (RT.preL l).length ∧ ((∀ k ∈ l, RT.All okC k) → ∀ x ∈ (runL S s l).2, RT.All okC x) := by
 induction l with
 | nil => intro s; exact ⟨Nat.le_refl _, fun _ x hx => by cases hx⟩
 | cons k l ih =>
  intro s
  obtain ⟨a1, a2⟩ := run_le S k s
  obtain ⟨b1, b2⟩ := ih (run S s k).1
  rw [runL]
  refine ⟨?_, fun h x hx => ?_⟩
  ·rw [RT.preL_append, List.length_append, RT.preL, List.length_append]
   omega
  ·rcases List.mem_append.1 hx with hx | hx
   ·exact a2 (h k (by simp)) x hx
   ·exact b2 (fun y hy => h y (by simp [hy])) x hx
theorem rm_le (S : Srt) (q : Nat → Bool) (r : RT) : (RT.preL (r.rm S q)).length ≤ r.pre.length ∧ (RT.All okC r → ∀ x ∈ r.rm S q, RT.All okC x) := by
 induction r using RT.induct with
 | h i ty a d at_ ks ih =>
  have same : (RT.preL [RT.node i ty a d at_ ks]).length ≤ (RT.node i ty a d at_ ks).pre.length := by simp [RT.preL]
  have sameA : RT.All okC (.node i ty a d at_ ks) → ∀ x ∈ [RT.node i ty a d at_ ks], RT.All okC x := fun h x hx => by
   have : x = _ := List.mem_singleton.1 hx
   rw [this]; exact h
  rw [RT.rm]
  by_cases h1 : ty = 1
  ·rw [if_pos h1]
   split
   ·exact ⟨Nat.zero_le _, fun _ x hx => by cases hx⟩
   ·exact ⟨same, sameA⟩
  ·rw [if_neg h1]
   split
   ·rename_i h2
    have hL : ∀ (l : List RT), (∀ k ∈ l, k ∈ ks) → (RT.preL (RT.rmL S q l)).length ≤ (RT.preL l).length ∧ ((∀ k ∈ l, RT.All okC k) → ∀ x ∈ RT.rmL S q l, RT.All okC x) := by
     intro l
     induction l with
     | nil => intro _; exact ⟨Nat.le_refl _, fun _ x hx => by cases hx⟩
     | cons k l ih2 =>
      intro hm
      obtain ⟨a1, a2⟩ := ih k (hm k (by simp))
      obtain ⟨b1, b2⟩ := ih2 (fun y hy => hm y (by simp [hy]))
      rw [RT.rmL]
      refine ⟨?_, fun h x hx => ?_⟩
      ·rw [RT.preL_append, List.length_append, RT.preL, List.length_append]
       omega
      ·rcases List.mem_append.1 hx with hx | hx
       ·exact a2 (h k (by simp)) x hx
       ·exact b2 (fun y hy => h y (by simp [hy])) x hx
    obtain ⟨a1, a2⟩ := hL ks (fun k hk => hk)
    refine ⟨?_, fun h x hx => ?_⟩
    ·simp only [RT.preL, RT.pre, List.length_append, List.length_cons, List.length_nil]
     omega
    ·have : x = _ := List.mem_singleton.1 hx
     rw [this]
     cases h with
     | mk _ hp hk => exact ⟨_, ⟨hp.1, .inl (by rw [Bool.and_eq_true] at h2; exact eq_of_beq h2.1)⟩, a2 hk⟩
   ·exact ⟨same, sameA⟩
theorem rmL_le (S : Srt) (q : Nat → Bool) (l : List RT) : (RT.preL (RT.rmL S q l)).length ≤ (RT.preL l).length ∧ ((∀ k ∈ l, RT.All okC k) → ∀ x ∈ RT.rmL S q l, RT.All okC x) := by
 induction l with
 | nil => exact ⟨Nat.le_refl _, fun _ x hx => by cases hx⟩
 | cons k l ih =>
  obtain ⟨a1, a2⟩ := rm_le S q k
  obtain ⟨b1, b2⟩ := ih
  rw [RT.rmL]
  refine ⟨?_, fun h x hx => ?_⟩
  ·rw [RT.preL_append, List.length_append, RT.preL, List.length_append]
   omega
  ·rcases List.mem_append.1 hx with hx | hx
   ·exact a2 (h k (by simp)) x hx
   ·exact b2 (fun y hy => h y (by simp [hy])) x hx
theorem dat_okC (S : Srt) (σ : Nat → List Int) (r : RT) : RT.All okC r → RT.All okC (r.dat S σ) := by
 induction r using RT.induct with
 | h i ty a d at_ ks ih =>
  intro h
  rw [RT.dat]
  cases h with
  | mk _ hp hk =>
   split
   ·exact ⟨_, hp, hk⟩
   ·split
    ·rename_i h2
     refine ⟨_, ⟨hp.1, .inl (by rw [Bool.and_eq_true] at h2; exact eq_of_beq h2.1)⟩, fun x hx => ?_⟩
     have hx' : x ∈ RT.datL S σ ks := hx
     rw [datL_map] at hx'
     obtain ⟨k, hk2, rfl⟩ := List.mem_map.1 hx'
     exact ih k hk2 (hk k hk2)
    ·exact ⟨_, hp, hk⟩
theorem preL_datL (S : Srt) (σ : Nat → List Int) (l : List RT) : RT.preL (RT.datL S σ l) = RT.preL l := by
 induction l with
 | nil => rfl
 | cons k l ih => rw [RT.datL, RT.preL, RT.preL, pre_dat, ih]
theorem tid_nodup (S : Srt) (r : RT) : r.pre.Nodup → (r.tid S).Nodup := by
 induction r using RT.induct with
 | h i ty a d at_ ks ih =>
  intro hn
  obtain ⟨_, hn2⟩ := List.nodup_cons.1 (show (i :: RT.preL ks).Nodup from hn)
  rw [RT.tid]
  split
  ·simp
  ·split
   ·have : ∀ l : List RT, (∀ k ∈ l, k ∈ ks) → (RT.preL l).Nodup → (RT.tidL S l).Nodup := by
     intro l
     induction l with
     | nil => intro _ _; exact List.nodup_nil
     | cons k l ih2 =>
      intro hm h
      rw [RT.preL] at h
      obtain ⟨h1, h2, h3⟩ := List.nodup_append.1 h
      rw [RT.tidL]
      exact List.nodup_append.2 ⟨ih k (hm k (by simp)) h1, ih2 (fun y hy => hm y (by simp [hy])) h2, fun x hx y hy => h3 x (tid_pre S k x hx) y (tidL_pre S l y hy)⟩
    exact this ks (fun k hk => hk) hn2
   ·exact List.nodup_nil
theorem tidL_nodup (S : Srt) (l : List RT) (h : (RT.preL l).Nodup) : (RT.tidL S l).Nodup := by
 induction l with
 | nil => exact List.nodup_nil
 | cons k l ih =>
  rw [RT.preL] at h
  obtain ⟨h1, h2, h3⟩ := List.nodup_append.1 h
  rw [RT.tidL]
  exact List.nodup_append.2 ⟨tid_nodup S k h1, ih h2, fun x hx y hy => h3 x (tid_pre S k x hx) y (tidL_pre S l y hy)⟩
/-! ### The store at the start -/
def txFit (r : RT) : Prop := r.ty = 1 → r.data.size ≤ 2147483647
def st0 (D : Tab) : Nat → List Int := fun b => match D b with
 | some i => if i.data.size ≤ 2147483647 then bytesOf i.data else []
 | none => []
theorem st0_byt (D : Tab) : ∀ b, Byt (st0 D b) := fun b => by
 unfold st0
 split
 ·split
  ·exact Byt.of _
  ·exact Byt.nil
 ·exact Byt.nil
theorem st0_len (D : Tab) : ∀ b, (st0 D b).length ≤ 2147483647 := fun b => by
 unfold st0
 split
 ·split
  ·rename_i i _ h
   have : (bytesOf i.data).length = i.data.size := by unfold bytesOf; rw [List.length_map]; exact Array.length_toList
   rw [this]; exact h
  ·exact Nat.zero_le _
 ·exact Nat.zero_le _
theorem st0_dat (S : Srt) {D : Tab} (r : RT) : ∀ {p : Option Nat}, Is D p r → RT.All txFit r → r.dat S (st0 D) = r := by
 induction r using RT.induct with
 | h i ty a d at_ ks ih =>
  intro p h hf
  rw [RT.dat]
  cases hf with
  | mk _ hx hk =>
   split
   ·rename_i h1
    have hr := h.root
    have : st0 D i = bytesOf d := by
     unfold st0
     rw [show D i = some ⟨p, ks.map RT.id, ty, a, d, at_⟩ from hr]
     exact if_pos (hx h1)
    rw [this, str_bytes]
   ·split
    ·rw [datL_map]
     congr 1
     refine (List.map_congr_left (fun k hk2 => ih k hk2 (h.kid (k := k) hk2) (hk k hk2))).trans (List.map_id _)
    ·rfl
theorem st0_datL (S : Srt) {D : Tab} {p : Option Nat} (l : List RT) (h : ∀ k ∈ l, Is D p k) (hf : ∀ k ∈ l, RT.All txFit k) : RT.datL S (st0 D) l = l := by
 rw [datL_map]
 exact (List.map_congr_left (fun k hk => st0_dat S k (h k hk) (hf k hk))).trans (List.map_id _)
end Go.Proofs.Ytmfjbljdbkmkgaa.Dom

/- replaceAnyWhitespaceWithSpace: white space to one blank a run. -/
namespace Go.Proofs.Ytmfjbljdbkmkgaa.Blank
open Go.RowKit Go.Proofs.YtmfjbljdbkmkgaaW.PrintWords Go.Proofs.YtmfjbljdbkmkgaaW.PrintLast Go.Proofs.YtmfjbljdbkmkgaaW.PrintMore
set_option linter.unusedVariables false
set_option linter.unusedSimpArgs false

theorem infoU8 : (Try.prog.info? 5).map (fun i => (i.zero, i.size, i.bytes)) = some (some (.int .u8 0), 1, 1) := by kernel_rfl
theorem own_slice {w : World} {base e size n : Nat} {v : Value} {xs : List Value} (h : w.ownsRow base e size v n xs) : ∃ A c, v = .slice A n c := by
 rcases h.2 with ⟨rfl, hn⟩ | ⟨g, cap, cur, rfl, _⟩
 ·exact ⟨none, 0, by rw [hn]⟩
 ·exact ⟨_, _, rfl⟩
structure Bx (w0 : World) (gs gr : Nat) (s : ByteArray) (wr : World) (v : Value) (R : List Int) : Prop where
 src : wr.heap[gs]? = some (.cells #[.string s] 9 (0, 0))
 box : wr.heap[gr]? = some (.cells #[v] 58 (0, 0))
 own : wr.ownsRow w0.heap.size 5 1 v R.length (nums .u8 R)
 below : Below w0.heap.size w0 wr
theorem Bx.apart {w0 : World} {gs gr : Nat} {s : ByteArray} {wr : World} {v : Value} {R : List Int} (h : Bx w0 gs gr s wr v R) {k : Nat} (hk : v.ownBlock = some k) : k ≠ gs ∧ k ≠ gr := by
 obtain ⟨cells, hc⟩ := own_typed h.own k hk
 refine ⟨fun e => ?_, fun e => ?_⟩
 ·rw [e, h.src] at hc
  cases hc
 ·rw [e, h.box] at hc
  cases hc
theorem Bx.drewN {w0 : World} {gs gr : Nat} {s : ByteArray} {wr : World} {v : Value} {R : List Int} (h : Bx w0 gs gr s wr v R) (n : Nat) : Bx w0 gs gr s (wr.drewN n) v R :=
 ⟨h.src, h.box, h.own, pw_below_drewN h.below n⟩
/-- An append to the row, and the store of what it is now. -/
theorem Bx.grow {w0 : World} {gs gr : Nat} {s : ByteArray} {wr w1 : World} {v v1 : Value} {R R1 : List Int} (h : Bx w0 gs gr s wr v R) (hne : gs ≠ gr) (hgr : w0.heap.size ≤ gr) (ho : w1.ownsRow w0.heap.size 5 1 v1 R1.length (nums .u8 R1)) (hb : Below w0.heap.size w0 w1) (hg : wr.grownBy w1 v.ownBlock) :
  Bx w0 gs gr s (w1.setCell ⟨gr, 0, none⟩ v1) v1 R1 := by
 have e1 : w1.heap[gs]? = some (.cells #[.string s] 9 (0, 0)) := (hg.block gs (blk_lt h.src) (fun e => (h.apart e.symm).1 rfl)).trans h.src
 have e2 : w1.heap[gr]? = some (.cells #[v] 58 (0, 0)) := (hg.block gr (blk_lt h.box) (fun e => (h.apart e.symm).2 rfl)).trans h.box
 refine ⟨blk_far e1 hne _, blk_set e2 0 _, own_move ho (fun k hk => ?_), Below.setCell hb hgr _⟩
 obtain ⟨cells, hc⟩ := own_typed ho k hk
 exact Below.heap_setCell w1 _ _ k (fun e => by
  obtain rfl : k = gr := e
  rw [e2] at hc
  cases hc)
theorem Bx.boxed {w0 : World} {gs gr : Nat} {s : ByteArray} {wr w1 : World} {v : Value} {R : List Int} (h : Bx w0 gs gr s wr v R) (hg : wr.grownBy w1 v.ownBlock) :
  w1.cell? ⟨gr, 0, none⟩ = some v ∧ w1.frozen? ⟨gr, 0, none⟩ = false ∧ w1.cell? ⟨gs, 0, none⟩ = some (.string s) := by
 have e1 : w1.heap[gs]? = some (.cells #[.string s] 9 (0, 0)) := (hg.block gs (blk_lt h.src) (fun e => (h.apart e.symm).1 rfl)).trans h.src
 have e2 : w1.heap[gr]? = some (.cells #[v] 58 (0, 0)) := (hg.block gr (blk_lt h.box) (fun e => (h.apart e.symm).2 rfl)).trans h.box
 exact ⟨blk_cell e2 0, blk_frozen e2 0, blk_cell e1 0⟩
theorem Bx.cells {w0 : World} {gs gr : Nat} {s : ByteArray} {wr : World} {v : Value} {R : List Int} (h : Bx w0 gs gr s wr v R) :
  wr.cell? ⟨gr, 0, none⟩ = some v ∧ wr.frozen? ⟨gr, 0, none⟩ = false ∧ wr.cell? ⟨gs, 0, none⟩ = some (.string s) :=
 ⟨blk_cell h.box 0, blk_frozen h.box 0, blk_cell h.src 0⟩
theorem make_some (w0 wr : World) (gs gr g : Nat) (s : ByteArray) (n c : Nat) (R : List Int) (h : Bx w0 gs gr s wr (.slice (some ⟨g, 0, none⟩) n c) R) :
  Calls Try.prog 115 #[.pointer (some ⟨gr, 0, none⟩), .pointer (some ⟨gs, 0, none⟩)] wr fun e w' => e = .returned (.tuple #[]) ∧ w' = wr := by
 have hcb : wr.cell? ⟨gr, 0, none⟩ = some (.slice (some ⟨g, 0, none⟩) n c) := blk_cell h.box 0
 have hnil := fun (w : World) => Lib.run_eql_slice_nil (P := Try.prog) w 58 5 (some ⟨g, 0, none⟩) n c 0 0 Try.underlying58
 clear h
 go_enter Try.func115, Try.ntmps115
 go_wp2_with fail
 go_end0
 exact ⟨rfl, rfl⟩
theorem make_none (w0 wr : World) (gs gr : Nat) (s : ByteArray) (hs : s.size ≤ 2147483647) (hne : gs ≠ gr) (hgr : w0.heap.size ≤ gr) (h : Bx w0 gs gr s wr (.slice none 0 0) []) :
  Calls Try.prog 115 #[.pointer (some ⟨gr, 0, none⟩), .pointer (some ⟨gs, 0, none⟩)] wr fun e w' => e = .returned (.tuple #[]) ∧ ∃ g c, Bx w0 gs gr s w' (.slice (some ⟨g, 0, none⟩) 0 c) [] := by
 obtain ⟨w1, hmk, ho1, hg1⟩ := run_make_own (P := Try.prog) wr w0.heap.size 58 5 (Try.prog.info? 5).get! (.int .u8 0) 1 Try.underlying58 (by kernel_rfl) (by kernel_rfl) (by kernel_rfl) .i64 .i64 s.size (by rw [show ((Try.prog.info? 5).get!).bytes = 1 from by kernel_rfl]; omega) (by simp only [maxLen]; omega) h.below.size
 have hcb : wr.cell? ⟨gr, 0, none⟩ = some (.slice none 0 0) := blk_cell h.box 0
 have hcs : wr.cell? ⟨gs, 0, none⟩ = some (.string s) := blk_cell h.src 0
 have hnil := fun (w : World) => Lib.run_eql_slice_nil (P := Try.prog) w 58 5 none 0 0 0 0 Try.underlying58
 have HG := Aside0.mk (h.grow (R1 := []) hne hgr ho1 (Below.grown h.below hg1 h.below.size (fun _ h => by cases h)) (by simpa [Value.ownBlock] using hg1))
 have hb1 : w1.heap[gr]? = some (.cells #[.slice none 0 0] 58 (0, 0)) := (hg1.block gr (blk_lt h.box) (by simp)).trans h.box
 have hcb1 : w1.cell? ⟨gr, 0, none⟩ = some (.slice none 0 0) := blk_cell hb1 0
 have hfb1 := blk_frozen hb1 0
 clear h ho1 hg1 hb1
 go_enter Try.func115, Try.ntmps115
 go_wp2_with fail
 go_end0
 exact ⟨rfl, _, _, HG.out⟩
theorem make_calls (w0 wr : World) (gs gr : Nat) (s : ByteArray) (v : Value) (R : List Int) (hs : s.size ≤ 2147483647) (hne : gs ≠ gr) (hgr : w0.heap.size ≤ gr) (h : Bx w0 gs gr s wr v R) :
  Calls Try.prog 115 #[.pointer (some ⟨gr, 0, none⟩), .pointer (some ⟨gs, 0, none⟩)] wr fun e w' => e = .returned (.tuple #[]) ∧ ∃ g c, Bx w0 gs gr s w' (.slice (some ⟨g, 0, none⟩) R.length c) R := by
 rcases h.own.2 with ⟨rfl, hn⟩ | ⟨g, cap, cur, rfl, _⟩
 ·obtain rfl : R = [] := List.eq_nil_of_length_eq_zero hn
  exact make_none w0 wr gs gr s hs hne hgr h
 ·refine (make_some w0 wr gs gr g s _ _ R h).mono ?_
  rintro e w' ⟨rfl, rfl⟩
  exact ⟨rfl, g, cap, h⟩
end Go.Proofs.Ytmfjbljdbkmkgaa.Blank

/- The states of replaceAnyWhitespaceWithSpace's loop, as plain data. -/
namespace Go.Proofs.Ytmfjbljdbkmkgaa.Blank
set_option linter.unusedVariables false
set_option linter.unusedSimpArgs false

def seg (l : List Int) (a b : Nat) : List Int := (l.take b).drop a
theorem seg_succ {l : List Int} {a b : Nat} (h : a ≤ b) (hb : b < l.length) : seg l a (b + 1) = seg l a b ++ [l[b]] := by
 unfold seg
 rw [List.take_succ_eq_append_getElem hb, List.drop_append_of_le_length (by rw [List.length_take]; omega)]
theorem seg_self (l : List Int) (a : Nat) : seg l a a = [] := by
 unfold seg
 rw [List.drop_eq_nil_of_le (by rw [List.length_take]; omega)]
theorem seg_split {l : List Int} {a b : Nat} (h : a ≤ b) : l.take b = l.take a ++ seg l a b := by
 unfold seg
 rw [show l.take a = (l.take b).take a from by rw [List.take_take, Nat.min_eq_left h], List.take_append_drop]
structure St (l : List Int) (sn : Nat) (sm : Option Nat) (i : Nat) (R : List Int) : Prop where
 sni : sn ≤ i
 none_ : sm = none → R ++ seg l sn i = norm false (l.take i) ∧ endW false (l.take i) = false
 some_ : ∀ m, sm = some m → sn ≤ m ∧ m < i ∧ R ++ seg l sn m = norm false (l.take m) ∧ endW false (l.take m) = false ∧ ∀ c ∈ seg l m i, ws c = true
theorem St.start (l : List Int) : St l 0 none 0 [] := ⟨Nat.le_refl _, fun _ => ⟨by simp [seg, norm], by simp [endW]⟩, fun m h => by cases h⟩
theorem St.first {l : List Int} {sn i : Nat} {R : List Int} (h : St l sn none i R) (hi : i < l.length) (hw : ws l[i] = true) : St l sn (some i) (i + 1) R := by
 obtain ⟨h1, h2⟩ := h.none_ rfl
 refine ⟨by have := h.sni; omega, fun e => (by cases e), fun m e => ?_⟩
 obtain rfl := Option.some.inj e
 refine ⟨h.sni, by omega, h1, h2, fun c hc => ?_⟩
 rw [seg_succ (Nat.le_refl _) hi, seg_self, List.nil_append] at hc
 rw [List.mem_singleton.1 hc]
 exact hw
theorem St.more {l : List Int} {sn m i : Nat} {R : List Int} (h : St l sn (some m) i R) (hi : i < l.length) (hw : ws l[i] = true) : St l sn (some m) (i + 1) R := by
 obtain ⟨h1, h2, h3, h4, h5⟩ := h.some_ m rfl
 refine ⟨by have := h.sni; omega, fun e => (by cases e), fun m' e => ?_⟩
 obtain rfl := Option.some.inj e
 refine ⟨h1, by omega, h3, h4, fun c hc => ?_⟩
 rw [seg_succ (by omega) hi] at hc
 rcases List.mem_append.1 hc with hc | hc
 ·exact h5 c hc
 ·rw [List.mem_singleton.1 hc]
  exact hw
theorem norm_one {c : Int} (hc : ws c = false) (b : Bool) : norm b [c] = [c] ∧ endW b [c] = false := by
 constructor
 ·simp [norm, hc]
 ·simpa [endW] using hc
theorem St.plain {l : List Int} {sn i : Nat} {R : List Int} (h : St l sn none i R) (hi : i < l.length) (hw : ws l[i] = false) : St l sn none (i + 1) R := by
 obtain ⟨h1, h2⟩ := h.none_ rfl
 refine ⟨by have := h.sni; omega, fun _ => ?_, fun m e => by cases e⟩
 rw [seg_succ h.sni hi, ← List.append_assoc, h1, List.take_succ_eq_append_getElem hi, norm_append, endW_append, (norm_one hw _).1, (norm_one hw _).2]
 exact ⟨rfl, rfl⟩
/-- What stands ahead of place i, where white space stands from m on. -/
theorem St.norm_at {l : List Int} {sn m i : Nat} {R : List Int} (h : St l sn (some m) i R) (hi : i ≤ l.length) : norm false (l.take i) = R ++ seg l sn m ++ [32] ∧ endW false (l.take i) = true := by
 obtain ⟨h1, h2, h3, h4, h5⟩ := h.some_ m rfl
 have hne : seg l m i ≠ [] := by
  unfold seg
  intro e
  have := congrArg List.length e
  simp at this
  omega
 rw [seg_split (l := l) (Nat.le_of_lt h2), norm_append, endW_append, h4, norm_run _ h5 hne, endW_run _ h5 hne, h3]
 exact ⟨rfl, rfl⟩
theorem St.same {l : List Int} {sn m i : Nat} {R : List Int} (h : St l sn (some m) i R) (hi : i < l.length) (hw : ws l[i] = false) (hm : i = m + 1) (hb : l[m]? = some 32) : St l sn none (i + 1) R := by
 obtain ⟨e1, e2⟩ := h.norm_at (Nat.le_of_lt hi)
 obtain ⟨h1, h2, h3, h4, h5⟩ := h.some_ m rfl
 refine ⟨by have := h.sni; omega, fun _ => ?_, fun m e => by cases e⟩
 subst hm
 have hml : m < l.length := by omega
 have hb' : l[m] = 32 := by rw [List.getElem?_eq_getElem hml] at hb; exact Option.some.inj hb
 rw [seg_succ h.sni hi, seg_succ h1 hml, hb', List.take_succ_eq_append_getElem hi, norm_append, endW_append, e1, (norm_one hw _).1, (norm_one hw _).2]
 exact ⟨by simp, rfl⟩
theorem St.turn {l : List Int} {sn m i : Nat} {R : List Int} (h : St l sn (some m) i R) (hi : i < l.length) (hw : ws l[i] = false) : St l i none (i + 1) (R ++ seg l sn m ++ [32]) := by
 obtain ⟨e1, e2⟩ := h.norm_at (Nat.le_of_lt hi)
 refine ⟨by omega, fun _ => ?_, fun m e => by cases e⟩
 rw [seg_succ (Nat.le_refl _) hi, seg_self, List.nil_append, List.take_succ_eq_append_getElem hi, norm_append, endW_append, e1, (norm_one hw _).1, (norm_one hw _).2]
 exact ⟨rfl, rfl⟩
theorem St.firstG {l : List Int} {sn i : Nat} {R : List Int} {c : Int} (h : St l sn none i R) (hg : l[i]? = some c) (hw : ws c = true) : St l sn (some i) (i + 1) R := by
 obtain ⟨hi, rfl⟩ := List.getElem?_eq_some_iff.1 hg
 exact h.first hi hw
theorem St.moreG {l : List Int} {sn m i : Nat} {R : List Int} {c : Int} (h : St l sn (some m) i R) (hg : l[i]? = some c) (hw : ws c = true) : St l sn (some m) (i + 1) R := by
 obtain ⟨hi, rfl⟩ := List.getElem?_eq_some_iff.1 hg
 exact h.more hi hw
theorem St.plainG {l : List Int} {sn i : Nat} {R : List Int} {c : Int} (h : St l sn none i R) (hg : l[i]? = some c) (hw : ws c = false) : St l sn none (i + 1) R := by
 obtain ⟨hi, rfl⟩ := List.getElem?_eq_some_iff.1 hg
 exact h.plain hi hw
theorem St.sameG {l : List Int} {sn m i : Nat} {R : List Int} {c : Int} (h : St l sn (some m) i R) (hg : l[i]? = some c) (hw : ws c = false) (hm : i = m + 1) (hb : l[m]? = some 32) : St l sn none (i + 1) R := by
 obtain ⟨hi, rfl⟩ := List.getElem?_eq_some_iff.1 hg
 exact h.same hi hw hm hb
theorem St.turnG {l : List Int} {sn m i : Nat} {R : List Int} {c : Int} (h : St l sn (some m) i R) (hg : l[i]? = some c) (hw : ws c = false) : St l i none (i + 1) (R ++ seg l sn m ++ [32]) := by
 obtain ⟨hi, rfl⟩ := List.getElem?_eq_some_iff.1 hg
 exact h.turn hi hw
open Go.RowKit Go.Proofs.YtmfjbljdbkmkgaaW.PrintWords Go.Proofs.YtmfjbljdbkmkgaaW.PrintLast in
theorem wrap_n {i n : Nat} (hn : n ≤ 2147483647) (hi : i < n) : wrap64 ((i : Int) + 1) = ((i + 1 : Nat) : Int) := by
 unfold wrap64
 omega
theorem norm_len (l : List Int) : ∀ b, (norm b l).length ≤ l.length := by
 induction l with
 | nil => intro b; exact Nat.le_refl _
 | cons c l ih =>
  intro b
  have h1 := ih true
  have h2 := ih false
  simp only [norm]
  split
  ·split
   ·rw [List.length_cons]; omega
   ·rw [List.length_cons, List.length_cons]; omega
  ·rw [List.length_cons, List.length_cons]; omega
theorem St.len_some {l : List Int} {sn m i : Nat} {R : List Int} (h : St l sn (some m) i R) : R.length + (seg l sn m).length ≤ l.length := by
 obtain ⟨h1, h2, h3, h4, h5⟩ := h.some_ m rfl
 have h6 := congrArg List.length h3
 rw [List.length_append] at h6
 rw [h6]
 refine Nat.le_trans (norm_len _ _) ?_
 rw [List.length_take]
 exact Nat.min_le_right _ _
theorem St.len_none {l : List Int} {sn i : Nat} {R : List Int} (h : St l sn none i R) : R.length + (seg l sn i).length ≤ l.length := by
 obtain ⟨h3, h4⟩ := h.none_ rfl
 have h6 := congrArg List.length h3
 rw [List.length_append] at h6
 rw [h6]
 refine Nat.le_trans (norm_len _ _) ?_
 rw [List.length_take]
 exact Nat.min_le_right _ _
theorem St.end_b {l : List Int} {sn : Nat} {R : List Int} (h : St l sn none l.length R) : norm false l = R ++ seg l sn l.length := by
 have := (h.none_ rfl).1
 rw [List.take_length] at this
 exact this.symm
theorem St.end_a {l : List Int} (h : St l 0 none l.length []) : norm false l = l := by
 rw [h.end_b]
 simp [seg]
theorem St.end_d {l : List Int} {sn m : Nat} {R : List Int} (h : St l sn (some m) l.length R) : norm false l = R ++ seg l sn m ++ [32] := by
 have := (h.norm_at (Nat.le_refl _)).1
 rw [List.take_length] at this
 exact this
theorem St.end_c {l : List Int} {m : Nat} (h : St l 0 (some m) l.length []) (hm : l.length = m + 1) (hb : l[m]? = some 32) : norm false l = l := by
 rw [h.end_d]
 obtain ⟨hi, hb⟩ := List.getElem?_eq_some_iff.1 hb
 conv => rhs; rw [← List.take_length (l := l), hm, List.take_succ_eq_append_getElem hi, hb]
 simp [seg]
theorem norm_pos {l : List Int} (h : 0 < l.length) : 0 < (norm false l).length := by
 cases l with
 | nil => cases h
 | cons c l =>
  simp only [norm]
  split
  ·rw [if_neg (by simp)]
   exact Nat.succ_pos _
  ·exact Nat.succ_pos _
end Go.Proofs.Ytmfjbljdbkmkgaa.Blank

/- replaceAnyWhitespaceWithSpace: the walk. -/
namespace Go.Proofs.Ytmfjbljdbkmkgaa.Blank
open Go.RowKit Go.Proofs.YtmfjbljdbkmkgaaW.PrintWords Go.Proofs.YtmfjbljdbkmkgaaW.PrintLast Go.Proofs.YtmfjbljdbkmkgaaW.PrintMore
set_option linter.unusedVariables false
set_option linter.unusedSimpArgs false

def smV : Option Nat → Int
 | none => -1
 | some m => (m : Int)
/-- The row is there exactly behind a first turn. -/
def Rows1 (sn : Nat) (v : Value) (R : List Int) : Prop := (sn = 0 ∧ v = .slice none 0 0 ∧ R = []) ∨ (0 < sn ∧ ∃ g c, v = .slice (some ⟨g, 0, none⟩) R.length c)
theorem start_bx (w : World) (s : ByteArray) : Bx w w.heap.size (w.heap.size + 1) s ((w.alloc (.cells #[.string s] 9)).alloc (.cells #[.slice none 0 0] 58)) (.slice none 0 0) [] := by
 refine ⟨blk_alloc (blk_new w _) _, ?_, ⟨rfl, .inl ⟨rfl, rfl⟩⟩, below_alloc (below_alloc (Below.refl _ _) _) _⟩
 have := blk_new (w.alloc (.cells #[.string s] 9)) (.cells #[.slice none 0 0] 58)
 rw [show (w.alloc (.cells #[.string s] 9)).heap.size = w.heap.size + 1 from Array.size_push _] at this
 exact this
theorem ret_str {a b : ByteArray} (h : a = b) : Ending.returned (.string a) = Ending.returned (.string b) := by rw [h]
theorem slice_part (a0 : ByteArray) (sn m : Nat) (y : Int) (hy : y = (m : Int)) (h1 : sn ≤ m) (h2 : m ≤ a0.size) :
  ∃ q, bytesOf q = seg (bytesOf a0) sn m ∧ q.size = (seg (bytesOf a0) sn m).length ∧ ∀ W, (Instr.slice 9 (.string a0) (some (.int .i64 (sn : Int))) (some (.int .i64 y)) none).run Try.prog W = .ok (.string q) W := by
 subst hy
 have e : bytesOf (a0.extract sn m) = seg (bytesOf a0) sn m := by rw [Txt.bytes_extract]; rfl
 refine ⟨a0.extract sn m, e, by rw [← e, bytesOf_length], fun W => ?_⟩
 rw [run_slice_string W 9 a0 .i64 .i64 (sn : Int) (m : Int) Try.underlying9 (by omega) (by omega) (by omega)]
 rfl
theorem slice_tail (a0 : ByteArray) (sn : Nat) (h1 : sn ≤ a0.size) :
  ∃ q, bytesOf q = seg (bytesOf a0) sn (bytesOf a0).length ∧ q.size = (seg (bytesOf a0) sn (bytesOf a0).length).length ∧ ∀ W, (Instr.slice 9 (.string a0) (some (.int .i64 (sn : Int))) none none).run Try.prog W = .ok (.string q) W := by
 have e : bytesOf (a0.extract sn a0.size) = seg (bytesOf a0) sn (bytesOf a0).length := by rw [Txt.bytes_extract, bytesOf_length]; rfl
 refine ⟨a0.extract sn a0.size, e, by rw [← e, bytesOf_length], fun W => ?_⟩
 rw [run_slice_string_l W 9 a0 Try.underlying9 .i64 (sn : Int) (by omega) (by omega)]
 rfl
set_option maxHeartbeats 4000000 in
set_option maxRecDepth 100000 in
theorem blank_calls (a0 : ByteArray) (w : World) (hs : a0.size ≤ 2147483647) (hne : a0.size ≠ 0) :
  Calls Try.prog 81 #[.string a0] w fun e w' => e = .returned (.string (strOfNums (norm false (bytesOf a0)))) ∧ Below w.heap.size w w' := by
 have hmf : ∀ (fn : Fn) (first cap : Array Value) (w : World), (Instr.makeFunc fn first cap).run Try.prog w = .ok (.func fn first cap) w := fun _ _ _ _ => rfl
 have hl64 : a0.size ≤ 9223372036854775807 := by omega
 have hnl : ¬ a0.toList = [] := fun h => hne (by
  rw [ByteArray.toList_eq] at h
  show a0.data.size = 0
  rw [← Array.length_toList, h]
  rfl)
 have n0 : decide (a0.toList = []) = false := decide_eq_false hnl
 have n1 : (a0.toList == []) = false := beq_eq_false_iff_ne.2 hnl
 have HS := Aside0.mk hs
 have HNE := Aside0.mk hne
 clear hs hne
 go_enter Try.func81, Try.ntmps81
 go_wp2_with fail
 go_loopw [5, 6, 7] (fun v5 v6 v7 wr => ∃ (sn i : Nat) (sm : Option Nat) (v : Value) (R : List Int), v5 = .int .i64 (sn : Int) ∧ v6 = .int .i64 (smV sm) ∧ v7 = .int .i64 (i : Int) ∧ i ≤ a0.size ∧ Aside0 (Bx w w.heap.size (w.heap.size + 1) a0 wr v R) ∧ Aside0 (Rows1 sn v R) ∧ Aside0 (St (bytesOf a0) sn sm i R)) (fun _ _ i _ => a0.size - (intOf i).toNat)
 case atStart =>
  refine ⟨0, 0, none, .slice none 0 0, [], rfl, rfl, rfl, Nat.zero_le _, ⟨?_⟩, ⟨.inl ⟨rfl, rfl, rfl⟩⟩, ⟨St.start _⟩⟩
  exact start_bx w a0
 case round =>
  obtain ⟨sn, i, sm, v, R, rfl, rfl, rfl, hi, HX, HV, HT⟩ := hrel
  have hcs : wr.cell? ⟨w.heap.size, 0, none⟩ = some (.string a0) := blk_cell HX.out.src 0
  by_cases hlt : i < a0.size
  ·obtain ⟨x, hxi⟩ : ∃ x : Int, x = (i : Int) := ⟨_, rfl⟩
   have hx8 := bt_at a0 x
   rw [← hxi]
   have p8 : (0 ≤ x) = True := eq_true (by omega)
   have q8 : (x < (a0.size : Int)) = True := eq_true (by omega)
   have HXI := Aside0.mk hxi
   have HLT := Aside0.mk hlt
   have HI := Aside0.mk hi
   clear hxi hlt hi
   go_upto_region 10 with fail
   go_cut [8] (fun v8 wc => v8 = .bool (ws (bt a0 x)) ∧ wc = wr)
   case first =>
    by_cases h32 : bt a0 x = 32
    ·have c32 := decide_eq_true h32
     have H32 := Aside0.mk h32
     have d32 : (bt a0 x == 32) = true := beq_iff_eq.2 h32
     clear h32
     go_wp2
     go_meet
     case rel => exact ⟨by simp [ws, H32.out], rfl⟩
    ·have c32 := decide_eq_false h32
     have H32 := Aside0.mk h32
     have d32 : (bt a0 x == 32) = false := beq_eq_false_iff_ne.2 h32
     by_cases h13 : bt a0 x = 13
     ·have c13 := decide_eq_true h13
      have H13 := Aside0.mk h13
      have d13 : (bt a0 x == 13) = true := beq_iff_eq.2 h13
      clear h32 h13
      go_wp2
      go_meet
      case rel => exact ⟨by simp [ws, H32.out, H13.out], rfl⟩
     ·have c13 := decide_eq_false h13
      have H13 := Aside0.mk h13
      have d13 : (bt a0 x == 13) = false := beq_eq_false_iff_ne.2 h13
      by_cases h10 : bt a0 x = 10
      ·have c10 := decide_eq_true h10
       have H10 := Aside0.mk h10
       have d10 : (bt a0 x == 10) = true := beq_iff_eq.2 h10
       clear h32 h13 h10
       go_wp2
       go_meet
       case rel => exact ⟨by simp [ws, H32.out, H13.out, H10.out], rfl⟩
      ·have c10 := decide_eq_false h10
       have H10 := Aside0.mk h10
       have d10 : (bt a0 x == 10) = false := beq_eq_false_iff_ne.2 h10
       by_cases h9 : bt a0 x = 9
       ·have c9 := decide_eq_true h9
        have H9 := Aside0.mk h9
        have d9 : (bt a0 x == 9) = true := beq_iff_eq.2 h9
        clear h32 h13 h10 h9
        go_wp2
        go_meet
        case rel => exact ⟨by simp [ws, H32.out, H13.out, H10.out, H9.out], rfl⟩
       ·have c9 := decide_eq_false h9
        have H9 := Aside0.mk h9
        have d9 : (bt a0 x == 9) = false := beq_eq_false_iff_ne.2 h9
        clear h32 h13 h10 h9
        go_wp2
        go_meet
        case rel => exact ⟨by simp [ws, H32.out, H13.out, H10.out, H9.out], rfl⟩
   case rest =>
    obtain ⟨rfl, rfl⟩ := hcut
    have hget : (bytesOf a0)[i]? = some (bt a0 x) := by rw [HXI.out]; exact bt_nth a0 i HLT.out
    have HG := Aside0.mk hget
    clear hget
    cases hws : ws (bt a0 x) with
    | true =>
     have HWS := Aside0.mk hws
     clear hws
     cases sm with
     | none =>
      simp only [smV]
      go_wp2
      go_roundw
      case rel => exact ⟨sn, i + 1, some i, v, R, rfl, by rw [HXI.out]; rfl, by rw [HXI.out, wrap_n HS.out HLT.out], HLT.out, HX, HV, ⟨HT.out.firstG HG.out HWS.out⟩⟩
      case measure => rw [HXI.out, wrap_n HS.out HLT.out]; have := HLT.out; simp [intOf]; omega
     | some m =>
      simp only [smV]
      have e1 : ((m : Int) == -1) = false := beq_eq_false_iff_ne.2 (by omega)
      have e2 : decide ((m : Int) = -1) = false := decide_eq_false (by omega)
      go_wp2
      go_roundw
      case rel => exact ⟨sn, i + 1, some m, v, R, rfl, rfl, by rw [HXI.out, wrap_n HS.out HLT.out], HLT.out, HX, HV, ⟨HT.out.moreG HG.out HWS.out⟩⟩
      case measure => rw [HXI.out, wrap_n HS.out HLT.out]; have := HLT.out; simp [intOf]; omega
    | false =>
     have HWS := Aside0.mk hws
     clear hws
     cases sm with
     | none =>
      simp only [smV]
      go_wp2
      go_roundw
      case rel => exact ⟨sn, i + 1, none, v, R, rfl, rfl, by rw [HXI.out, wrap_n HS.out HLT.out], HLT.out, HX, HV, ⟨HT.out.plainG HG.out HWS.out⟩⟩
      case measure => rw [HXI.out, wrap_n HS.out HLT.out]; have := HLT.out; simp [intOf]; omega
     | some m =>
      simp only [smV]
      have e1 : ((m : Int) == -1) = false := beq_eq_false_iff_ne.2 (by omega)
      have e2 : decide ((m : Int) = -1) = false := decide_eq_false (by omega)
      have HMI := Aside0.mk (HT.out.some_ m rfl).2.1
      have HSM := Aside0.mk (HT.out.some_ m rfl).1
      obtain ⟨y, hym⟩ : ∃ y : Int, y = (m : Int) := ⟨_, rfl⟩
      rw [← hym] at e1 e2 ⊢
      have e3 : (y != -1) = true := by rw [bne, e1]; rfl
      have hy8 := bt_at a0 y
      have py : (0 ≤ y) = True := eq_true (by omega)
      have qy : (y < (a0.size : Int)) = True := eq_true (by have := HMI.out; have := HLT.out; omega)
      have HGM := Aside0.mk (show (bytesOf a0)[m]? = some (bt a0 y) by rw [hym]; exact bt_nth a0 m (by have := HMI.out; have := HLT.out; omega))
      have HYM := Aside0.mk hym
      clear hym
      by_cases hone : i = m + 1
      ·have hsub : wrap64 (x - y) = 1 := by rw [HXI.out, HYM.out, hone]; unfold wrap64; omega
       have HONE := Aside0.mk hone
       clear hone
       by_cases hb : bt a0 y = 32
       ·have c32 := decide_eq_true hb
        have d32 : (bt a0 y == 32) = true := beq_iff_eq.2 hb
        rw [hb] at HGM
        clear hb
        go_wp2_with fail
        go_roundw
        case rel => exact ⟨sn, i + 1, none, v, R, rfl, rfl, by rw [HXI.out, wrap_n HS.out HLT.out], HLT.out, HX, HV, ⟨HT.out.sameG HG.out HWS.out HONE.out HGM.out⟩⟩
        case measure => rw [HXI.out, wrap_n HS.out HLT.out]; have := HLT.out; simp [intOf]; omega
       ·have c32 := decide_eq_false hb
        have d32 : (bt a0 y == 32) = false := beq_eq_false_iff_ne.2 hb
        clear hb
        obtain ⟨q, hqb, hqs, hsl⟩ := slice_part a0 sn m y HYM.out HSM.out (by have := HMI.out; have := HLT.out; omega)
        have HQB := Aside0.mk hqb
        have HQS := Aside0.mk hqs
        clear hqb hqs
        go_wp2_with (go_at_call 115; go_must (refine (make_calls w wc w.heap.size (w.heap.size + 1) a0 v R HS.out (by omega) (by omega) HX.out).mono ?_; rintro e w1 ⟨rfl, g1, c1, hb1⟩; have HB1 := Aside0.mk (hb1.drewN 1); obtain ⟨hr1, hf1, hs1⟩ := hb1.cells; clear hb1))
        go_still_tail 5, (by kernel_rfl)
        change wpList _ _ _ _ _ (w1.drewN 1)
        clear hsl hcs hr1 hf1 hs1
        generalize w1.drewN 1 = w2 at HB1 ⊢
        clear w1
        go_wp2_with (at_builtin; go_must (refine print_append_str (w0 := w) w.heap.size rfl (.tmp 68) (.tmp 72) 58 9 5 rfl Try.underlying58 Try.underlying9 infoU8 (.slice (some ⟨g1, 0, none⟩) R.length c1) R q rfl rfl HB1.out.own HB1.out.below HB1.out.below.size (by rw [HQS.out]; have := HT.out.len_some; have := bytesOf_length a0; have := HS.out; omega) ?_))
        intro v1 w3 ho hb hg
        have ho1 : w3.ownsRow w.heap.size 5 1 v1 (R ++ seg (bytesOf a0) sn m).length (nums .u8 (R ++ seg (bytesOf a0) sn m)) := by simpa only [HQB.out, List.length_append, List.nil_append, List.length_nil, Nat.zero_add] using ho
        obtain ⟨L1, hL1⟩ : ∃ L1, L1 = (R ++ seg (bytesOf a0) sn m).length := ⟨_, rfl⟩
        obtain ⟨A1, k1, hv1⟩ := own_slice ho1
        rw [← hL1] at hv1
        subst hv1
        clear hL1
        have HB3 := Aside0.mk (HB1.out.grow (by omega) (by omega) ho1 hb hg)
        obtain ⟨hr3, hf3, hs3⟩ := HB1.out.boxed hg
        clear ho ho1 hb hg
        go_upto_region 19 with fail
        clear hr3 hf3 hs3
        obtain ⟨hr3, hf3, hs3⟩ := HB3.out.cells
        generalize w3.setCell ⟨w.heap.size + 1, 0, none⟩ (.slice A1 L1 k1) = w4 at HB3 hr3 hf3 hs3 ⊢
        clear w3
        go_wp2_with (at_builtin; go_must (refine print_append_num (w0 := w) w.heap.size rfl (.tmp 74) (.tmp 75) 58 5 .u8 1 rfl Try.underlying58 infoU8 (by decide) (.slice A1 L1 k1) (R ++ seg (bytesOf a0) sn m) 32 rfl rfl HB3.out.own HB3.out.below HB3.out.below.size (by rw [List.length_append]; have := HT.out.len_some; have := bytesOf_length a0; have := HS.out; omega) ?_))
        intro v2 w5 ho hb hg _
        have ho1 : w5.ownsRow w.heap.size 5 1 v2 (R ++ seg (bytesOf a0) sn m ++ [32]).length (nums .u8 (R ++ seg (bytesOf a0) sn m ++ [32])) := by simpa only [List.length_append, List.append_assoc, List.length_cons, List.length_nil, Nat.add_assoc, Nat.zero_add, List.nil_append] using ho
        obtain ⟨L2, hL2⟩ : ∃ L2, L2 = (R ++ seg (bytesOf a0) sn m ++ [32]).length := ⟨_, rfl⟩
        obtain ⟨g3, c3, hv2, _, _⟩ := ho1.form (by rw [List.length_append]; exact Nat.succ_pos _)
        rw [← hL2] at hv2
        subst hv2
        have HL2 := Aside0.mk hL2
        clear hL2
        have HB5 := Aside0.mk (HB3.out.grow (by omega) (by omega) ho1 hb hg)
        obtain ⟨hr5, hf5, hs5⟩ := HB3.out.boxed hg
        clear ho ho1 hb hg hr3 hf3 hs3
        go_wp2_with fail
        go_roundw
        case rel => exact ⟨i, i + 1, none, _, R ++ seg (bytesOf a0) sn m ++ [32], by rw [HXI.out], rfl, by rw [HXI.out, wrap_n HS.out HLT.out], HLT.out, HB5, ⟨.inr ⟨by have := HMI.out; omega, g3, c3, by rw [HL2.out]⟩⟩, ⟨HT.out.turnG HG.out HWS.out⟩⟩
        case measure => rw [HXI.out, wrap_n HS.out HLT.out]; have := HLT.out; simp [intOf]; omega
      ·have hsub : (wrap64 (x - y) == 1) = false := beq_eq_false_iff_ne.2 (by rw [HXI.out, HYM.out]; have := HMI.out; have := HLT.out; have := HS.out; unfold wrap64; omega)
       have hsub2 : decide (wrap64 (x - y) = 1) = false := decide_eq_false (beq_eq_false_iff_ne.1 hsub)
       clear hone
       obtain ⟨q, hqb, hqs, hsl⟩ := slice_part a0 sn m y HYM.out HSM.out (by have := HMI.out; have := HLT.out; omega)
       have HQB := Aside0.mk hqb
       have HQS := Aside0.mk hqs
       clear hqb hqs
       go_wp2_with (go_at_call 115; go_must (refine (make_calls w wc w.heap.size (w.heap.size + 1) a0 v R HS.out (by omega) (by omega) HX.out).mono ?_; rintro e w1 ⟨rfl, g1, c1, hb1⟩; have HB1 := Aside0.mk (hb1.drewN 1); obtain ⟨hr1, hf1, hs1⟩ := hb1.cells; clear hb1))
       go_still_tail 5, (by kernel_rfl)
       change wpList _ _ _ _ _ (w1.drewN 1)
       clear hsl hcs hr1 hf1 hs1
       generalize w1.drewN 1 = w2 at HB1 ⊢
       clear w1
       go_wp2_with (at_builtin; go_must (refine print_append_str (w0 := w) w.heap.size rfl (.tmp 68) (.tmp 72) 58 9 5 rfl Try.underlying58 Try.underlying9 infoU8 (.slice (some ⟨g1, 0, none⟩) R.length c1) R q rfl rfl HB1.out.own HB1.out.below HB1.out.below.size (by rw [HQS.out]; have := HT.out.len_some; have := bytesOf_length a0; have := HS.out; omega) ?_))
       intro v1 w3 ho hb hg
       have ho1 : w3.ownsRow w.heap.size 5 1 v1 (R ++ seg (bytesOf a0) sn m).length (nums .u8 (R ++ seg (bytesOf a0) sn m)) := by simpa only [HQB.out, List.length_append, List.nil_append, List.length_nil, Nat.zero_add] using ho
       obtain ⟨L1, hL1⟩ : ∃ L1, L1 = (R ++ seg (bytesOf a0) sn m).length := ⟨_, rfl⟩
       obtain ⟨A1, k1, hv1⟩ := own_slice ho1
       rw [← hL1] at hv1
       subst hv1
       clear hL1
       have HB3 := Aside0.mk (HB1.out.grow (by omega) (by omega) ho1 hb hg)
       obtain ⟨hr3, hf3, hs3⟩ := HB1.out.boxed hg
       clear ho ho1 hb hg
       go_upto_region 19 with fail
       clear hr3 hf3 hs3
       obtain ⟨hr3, hf3, hs3⟩ := HB3.out.cells
       generalize w3.setCell ⟨w.heap.size + 1, 0, none⟩ (.slice A1 L1 k1) = w4 at HB3 hr3 hf3 hs3 ⊢
       clear w3
       go_wp2_with (at_builtin; go_must (refine print_append_num (w0 := w) w.heap.size rfl (.tmp 74) (.tmp 75) 58 5 .u8 1 rfl Try.underlying58 infoU8 (by decide) (.slice A1 L1 k1) (R ++ seg (bytesOf a0) sn m) 32 rfl rfl HB3.out.own HB3.out.below HB3.out.below.size (by rw [List.length_append]; have := HT.out.len_some; have := bytesOf_length a0; have := HS.out; omega) ?_))
       intro v2 w5 ho hb hg _
       have ho1 : w5.ownsRow w.heap.size 5 1 v2 (R ++ seg (bytesOf a0) sn m ++ [32]).length (nums .u8 (R ++ seg (bytesOf a0) sn m ++ [32])) := by simpa only [List.length_append, List.append_assoc, List.length_cons, List.length_nil, Nat.add_assoc, Nat.zero_add, List.nil_append] using ho
       obtain ⟨L2, hL2⟩ : ∃ L2, L2 = (R ++ seg (bytesOf a0) sn m ++ [32]).length := ⟨_, rfl⟩
       obtain ⟨g3, c3, hv2, _, _⟩ := ho1.form (by rw [List.length_append]; exact Nat.succ_pos _)
       rw [← hL2] at hv2
       subst hv2
       have HL2 := Aside0.mk hL2
       clear hL2
       have HB5 := Aside0.mk (HB3.out.grow (by omega) (by omega) ho1 hb hg)
       obtain ⟨hr5, hf5, hs5⟩ := HB3.out.boxed hg
       clear ho ho1 hb hg hr3 hf3 hs3
       go_wp2_with fail
       go_roundw
       case rel => exact ⟨i, i + 1, none, _, R ++ seg (bytesOf a0) sn m ++ [32], by rw [HXI.out], rfl, by rw [HXI.out, wrap_n HS.out HLT.out], HLT.out, HB5, ⟨.inr ⟨by have := HMI.out; omega, g3, c3, by rw [HL2.out]⟩⟩, ⟨HT.out.turnG HG.out HWS.out⟩⟩
       case measure => rw [HXI.out, wrap_n HS.out HLT.out]; have := HLT.out; simp [intOf]; omega
  ·have hie : i = a0.size := by omega
   subst hie
   rw [← bytesOf_length a0] at HT
   have HSN := Aside0.mk (show sn ≤ a0.size by have := HT.out.sni; rw [bytesOf_length] at this; exact this)
   clear hlt hi
   cases sm with
   | none =>
    simp only [smV]
    rcases HV.out with ⟨rfl, rfl, rfl⟩ | ⟨h0, g, c, rfl⟩
    ·have hnil := fun (w : World) => Lib.run_eql_slice_nil (P := Try.prog) w 58 5 none 0 0 0 0 Try.underlying58
     have hcr : wr.cell? ⟨w.heap.size + 1, 0, none⟩ = some (.slice none 0 0) := blk_cell HX.out.box 0
     go_wp2_with fail
     go_ret
     exact ⟨ret_str (by rw [HT.out.end_a, Txt.str_bytes]), HX.out.below⟩
    ·have s1 : ((sn : Int) == 0) = false := beq_eq_false_iff_ne.2 (by omega)
     have s2 : decide ((sn : Int) = 0) = false := decide_eq_false (by omega)
     generalize hv : Value.slice (some ⟨g, 0, none⟩) R.length c = v at HX
     clear hv h0
     obtain ⟨q, hqb, hqs, hsl⟩ := slice_tail a0 sn HSN.out
     have HQB := Aside0.mk hqb
     have HQS := Aside0.mk hqs
     clear hqb hqs
     go_wp2_with (go_at_call 115; go_must (refine (make_calls w wr w.heap.size (w.heap.size + 1) a0 v R HS.out (by omega) (by omega) HX.out).mono ?_; rintro e w1 ⟨rfl, g1, c1, hb1⟩; have HB1 := Aside0.mk (hb1.drewN 1); obtain ⟨hr1, hf1, hs1⟩ := hb1.cells; clear hb1))
     go_still_tail 4, (by kernel_rfl)
     change wpList _ _ _ _ _ (w1.drewN 1)
     clear hsl hcs hr1 hf1 hs1
     generalize w1.drewN 1 = w2 at HB1 ⊢
     clear w1
     go_wp2_with (at_builtin; go_must (refine print_append_str (w0 := w) w.heap.size rfl (.tmp 88) (.tmp 91) 58 9 5 rfl Try.underlying58 Try.underlying9 infoU8 (.slice (some ⟨g1, 0, none⟩) R.length c1) R q rfl rfl HB1.out.own HB1.out.below HB1.out.below.size (by rw [HQS.out]; have := HT.out.len_none; have := bytesOf_length a0; have := HS.out; omega) ?_))
     intro v1 w3 ho hb hg
     have ho1 : w3.ownsRow w.heap.size 5 1 v1 (R ++ seg (bytesOf a0) sn (bytesOf a0).length).length (nums .u8 (R ++ seg (bytesOf a0) sn (bytesOf a0).length)) := by simpa only [HQB.out, List.length_append, List.nil_append, List.length_nil, Nat.zero_add] using ho
     obtain ⟨L2, hL2⟩ : ∃ L2, L2 = (R ++ seg (bytesOf a0) sn (bytesOf a0).length).length := ⟨_, rfl⟩
     obtain ⟨g3, c3, hv2, _, _⟩ := ho1.form (by rw [← HT.out.end_b]; exact norm_pos (by rw [bytesOf_length]; have := HNE.out; omega))
     rw [← hL2] at hv2
     subst hv2
     clear hL2
     have HB5 := Aside0.mk (HB1.out.grow (by omega) (by omega) ho1 hb hg)
     obtain ⟨hr5, hf5, hs5⟩ := HB1.out.boxed hg
     clear ho ho1 hb hg
     have hnil := fun (w : World) => Lib.run_eql_slice_nil (P := Try.prog) w 58 5 (some ⟨g3, 0, none⟩) L2 c3 0 0 Try.underlying58
     go_upto_region 30 with fail
     clear hr5 hf5 hs5
     obtain ⟨hr5, hf5, hs5⟩ := HB5.out.cells
     have hown := own_string (P := Try.prog) Try.underlying58 Try.underlying5 Try.underlying9 HB5.out.own
     generalize w3.setCell ⟨w.heap.size + 1, 0, none⟩ (.slice (some ⟨g3, 0, none⟩) L2 c3) = w6 at HB5 hr5 hf5 hs5 hown ⊢
     go_wp2_with fail
     go_ret
     exact ⟨ret_str (by rw [HT.out.end_b]), HB5.out.below⟩
   | some m =>
    simp only [smV]
    have e1 : ((m : Int) == -1) = false := beq_eq_false_iff_ne.2 (by omega)
    have HMI := Aside0.mk (HT.out.some_ m rfl).2.1
    have HSM := Aside0.mk (HT.out.some_ m rfl).1
    obtain ⟨y, hym⟩ : ∃ y : Int, y = (m : Int) := ⟨_, rfl⟩
    rw [← hym] at e1 ⊢
    have e2 : decide (y = -1) = false := decide_eq_false (beq_eq_false_iff_ne.1 e1)
    have e3 : (y != -1) = true := by rw [bne, e1]; rfl
    have hy8 := bt_at a0 y
    have py : (0 ≤ y) = True := eq_true (by omega)
    have qy : (y < (a0.size : Int)) = True := eq_true (by have := HMI.out; have := bytesOf_length a0; omega)
    have HGM := Aside0.mk (show (bytesOf a0)[m]? = some (bt a0 y) by rw [hym]; exact bt_nth a0 m (by have := HMI.out; have := bytesOf_length a0; omega))
    have HYM := Aside0.mk hym
    clear hym
    rcases HV.out with ⟨h0, rfl, rfl⟩ | ⟨h0, g, c, rfl⟩
    ·have HS0 := Aside0.mk h0
     clear h0
     have hnil := fun (w : World) => Lib.run_eql_slice_nil (P := Try.prog) w 58 5 none 0 0 0 0 Try.underlying58
     have hcr : wr.cell? ⟨w.heap.size + 1, 0, none⟩ = some (.slice none 0 0) := blk_cell HX.out.box 0
     by_cases hone : a0.size = m + 1
     ·have hsub : wrap64 ((a0.size : Int) - y) = 1 := by rw [HYM.out, hone]; unfold wrap64; omega
      have HONE := Aside0.mk hone
      clear hone
      by_cases hb : bt a0 y = 32
      ·have c32 := decide_eq_true hb
       have d32 : (bt a0 y == 32) = true := beq_iff_eq.2 hb
       rw [hb] at HGM
       clear hb
       go_wp2_with fail
       go_ret
       exact ⟨ret_str (by rw [(show St (bytesOf a0) 0 (some m) (bytesOf a0).length [] by have := HT.out; rw [HS0.out] at this; exact this).end_c (by rw [bytesOf_length]; exact HONE.out) HGM.out, Txt.str_bytes]), HX.out.below⟩
      ·have c32 := decide_eq_false hb
       have d32 : (bt a0 y == 32) = false := beq_eq_false_iff_ne.2 hb
       clear hb
       obtain ⟨q, hqb, hqs, hsl⟩ := slice_part a0 sn m y HYM.out HSM.out (by have := HMI.out; have := bytesOf_length a0; omega)
       have HQB := Aside0.mk hqb
       have HQS := Aside0.mk hqs
       clear hqb hqs
       go_wp2_with (go_at_call 115; go_must (refine (make_calls w wr w.heap.size (w.heap.size + 1) a0 (.slice none 0 0) [] HS.out (by omega) (by omega) HX.out).mono ?_; rintro e w1 ⟨rfl, g1, c1, hb1⟩; have HB1 := Aside0.mk (hb1.drewN 1); obtain ⟨hr1, hf1, hs1⟩ := hb1.cells; clear hb1))
       go_still_tail 5, (by kernel_rfl)
       change wpList _ _ _ _ _ (w1.drewN 1)
       clear hnil hcr hsl hcs hr1 hf1 hs1
       generalize w1.drewN 1 = w2 at HB1 ⊢
       clear w1
       go_wp2_with (at_builtin; go_must (refine print_append_str (w0 := w) w.heap.size rfl (.tmp 110) (.tmp 114) 58 9 5 rfl Try.underlying58 Try.underlying9 infoU8 (.slice (some ⟨g1, 0, none⟩) 0 c1) [] q rfl rfl HB1.out.own HB1.out.below HB1.out.below.size (by rw [HQS.out]; have := HT.out.len_some; have := bytesOf_length a0; have := HS.out; omega) ?_))
       intro v1 w3 ho hb hg
       have ho1 : w3.ownsRow w.heap.size 5 1 v1 ([] ++ seg (bytesOf a0) sn m).length (nums .u8 ([] ++ seg (bytesOf a0) sn m)) := by simpa only [HQB.out, List.length_append, List.nil_append, List.length_nil, Nat.zero_add] using ho
       obtain ⟨L1, hL1⟩ : ∃ L1, L1 = ([] ++ seg (bytesOf a0) sn m).length := ⟨_, rfl⟩
       obtain ⟨A1, k1, hv1⟩ := own_slice ho1
       rw [← hL1] at hv1
       subst hv1
       clear hL1
       have HB3 := Aside0.mk (HB1.out.grow (by omega) (by omega) ho1 hb hg)
       obtain ⟨hr3, hf3, hs3⟩ := HB1.out.boxed hg
       clear ho ho1 hb hg
       go_upto_region 29 with fail
       clear hr3 hf3 hs3
       obtain ⟨hr3, hf3, hs3⟩ := HB3.out.cells
       generalize w3.setCell ⟨w.heap.size + 1, 0, none⟩ (.slice A1 L1 k1) = w4 at HB3 hr3 hf3 hs3 ⊢
       clear w3
       go_wp2_with (at_builtin; go_must (refine print_append_num (w0 := w) w.heap.size rfl (.tmp 116) (.tmp 117) 58 5 .u8 1 rfl Try.underlying58 infoU8 (by decide) (.slice A1 L1 k1) ([] ++ seg (bytesOf a0) sn m) 32 rfl rfl HB3.out.own HB3.out.below HB3.out.below.size (by rw [List.length_append]; have := HT.out.len_some; have := bytesOf_length a0; have := HS.out; omega) ?_))
       intro v2 w5 ho hb hg _
       have ho1 : w5.ownsRow w.heap.size 5 1 v2 ([] ++ seg (bytesOf a0) sn m ++ [32]).length (nums .u8 ([] ++ seg (bytesOf a0) sn m ++ [32])) := by simpa only [List.length_append, List.append_assoc, List.length_cons, List.length_nil, Nat.add_assoc, Nat.zero_add, List.nil_append] using ho
       obtain ⟨L2, hL2⟩ : ∃ L2, L2 = ([] ++ seg (bytesOf a0) sn m ++ [32]).length := ⟨_, rfl⟩
       obtain ⟨g3, c3, hv2, _, _⟩ := ho1.form (by rw [List.length_append]; exact Nat.succ_pos _)
       rw [← hL2] at hv2
       subst hv2
       have HL2 := Aside0.mk hL2
       clear hL2
       have HB5 := Aside0.mk (HB3.out.grow (by omega) (by omega) ho1 hb hg)
       obtain ⟨hr5, hf5, hs5⟩ := HB3.out.boxed hg
       clear ho ho1 hb hg hr3 hf3 hs3
       have hnil := fun (w : World) => Lib.run_eql_slice_nil (P := Try.prog) w 58 5 (some ⟨g3, 0, none⟩) L2 c3 0 0 Try.underlying58
       go_upto_region 30 with fail
       clear hr5 hf5 hs5
       obtain ⟨hr5, hf5, hs5⟩ := HB5.out.cells
       have hown := own_string (P := Try.prog) Try.underlying58 Try.underlying5 Try.underlying9 HB5.out.own
       generalize w5.setCell ⟨w.heap.size + 1, 0, none⟩ (.slice (some ⟨g3, 0, none⟩) L2 c3) = w6 at HB5 hr5 hf5 hs5 hown ⊢
       go_wp2_with fail
       go_ret
       exact ⟨ret_str (by rw [HT.out.end_d]; try simp only [List.append_assoc, List.nil_append]), HB5.out.below⟩
     ·have hsub : (wrap64 ((a0.size : Int) - y) == 1) = false := beq_eq_false_iff_ne.2 (by rw [HYM.out]; have := HMI.out; have := bytesOf_length a0; have := HS.out; unfold wrap64; omega)
      have hsub2 : decide (wrap64 ((a0.size : Int) - y) = 1) = false := decide_eq_false (beq_eq_false_iff_ne.1 hsub)
      clear hone
      obtain ⟨q, hqb, hqs, hsl⟩ := slice_part a0 sn m y HYM.out HSM.out (by have := HMI.out; have := bytesOf_length a0; omega)
      have HQB := Aside0.mk hqb
      have HQS := Aside0.mk hqs
      clear hqb hqs
      go_wp2_with (go_at_call 115; go_must (refine (make_calls w wr w.heap.size (w.heap.size + 1) a0 (.slice none 0 0) [] HS.out (by omega) (by omega) HX.out).mono ?_; rintro e w1 ⟨rfl, g1, c1, hb1⟩; have HB1 := Aside0.mk (hb1.drewN 1); obtain ⟨hr1, hf1, hs1⟩ := hb1.cells; clear hb1))
      go_still_tail 5, (by kernel_rfl)
      change wpList _ _ _ _ _ (w1.drewN 1)
      clear hnil hcr hsl hcs hr1 hf1 hs1
      generalize w1.drewN 1 = w2 at HB1 ⊢
      clear w1
      go_wp2_with (at_builtin; go_must (refine print_append_str (w0 := w) w.heap.size rfl (.tmp 110) (.tmp 114) 58 9 5 rfl Try.underlying58 Try.underlying9 infoU8 (.slice (some ⟨g1, 0, none⟩) 0 c1) [] q rfl rfl HB1.out.own HB1.out.below HB1.out.below.size (by rw [HQS.out]; have := HT.out.len_some; have := bytesOf_length a0; have := HS.out; omega) ?_))
      intro v1 w3 ho hb hg
      have ho1 : w3.ownsRow w.heap.size 5 1 v1 ([] ++ seg (bytesOf a0) sn m).length (nums .u8 ([] ++ seg (bytesOf a0) sn m)) := by simpa only [HQB.out, List.length_append, List.nil_append, List.length_nil, Nat.zero_add] using ho
      obtain ⟨L1, hL1⟩ : ∃ L1, L1 = ([] ++ seg (bytesOf a0) sn m).length := ⟨_, rfl⟩
      obtain ⟨A1, k1, hv1⟩ := own_slice ho1
      rw [← hL1] at hv1
      subst hv1
      clear hL1
      have HB3 := Aside0.mk (HB1.out.grow (by omega) (by omega) ho1 hb hg)
      obtain ⟨hr3, hf3, hs3⟩ := HB1.out.boxed hg
      clear ho ho1 hb hg
      go_upto_region 29 with fail
      clear hr3 hf3 hs3
      obtain ⟨hr3, hf3, hs3⟩ := HB3.out.cells
      generalize w3.setCell ⟨w.heap.size + 1, 0, none⟩ (.slice A1 L1 k1) = w4 at HB3 hr3 hf3 hs3 ⊢
      clear w3
      go_wp2_with (at_builtin; go_must (refine print_append_num (w0 := w) w.heap.size rfl (.tmp 116) (.tmp 117) 58 5 .u8 1 rfl Try.underlying58 infoU8 (by decide) (.slice A1 L1 k1) ([] ++ seg (bytesOf a0) sn m) 32 rfl rfl HB3.out.own HB3.out.below HB3.out.below.size (by rw [List.length_append]; have := HT.out.len_some; have := bytesOf_length a0; have := HS.out; omega) ?_))
      intro v2 w5 ho hb hg _
      have ho1 : w5.ownsRow w.heap.size 5 1 v2 ([] ++ seg (bytesOf a0) sn m ++ [32]).length (nums .u8 ([] ++ seg (bytesOf a0) sn m ++ [32])) := by simpa only [List.length_append, List.append_assoc, List.length_cons, List.length_nil, Nat.add_assoc, Nat.zero_add, List.nil_append] using ho
      obtain ⟨L2, hL2⟩ : ∃ L2, L2 = ([] ++ seg (bytesOf a0) sn m ++ [32]).length := ⟨_, rfl⟩
      obtain ⟨g3, c3, hv2, _, _⟩ := ho1.form (by rw [List.length_append]; exact Nat.succ_pos _)
      rw [← hL2] at hv2
      subst hv2
      have HL2 := Aside0.mk hL2
      clear hL2
      have HB5 := Aside0.mk (HB3.out.grow (by omega) (by omega) ho1 hb hg)
      obtain ⟨hr5, hf5, hs5⟩ := HB3.out.boxed hg
      clear ho ho1 hb hg hr3 hf3 hs3
      have hnil := fun (w : World) => Lib.run_eql_slice_nil (P := Try.prog) w 58 5 (some ⟨g3, 0, none⟩) L2 c3 0 0 Try.underlying58
      go_upto_region 30 with fail
      clear hr5 hf5 hs5
      obtain ⟨hr5, hf5, hs5⟩ := HB5.out.cells
      have hown := own_string (P := Try.prog) Try.underlying58 Try.underlying5 Try.underlying9 HB5.out.own
      generalize w5.setCell ⟨w.heap.size + 1, 0, none⟩ (.slice (some ⟨g3, 0, none⟩) L2 c3) = w6 at HB5 hr5 hf5 hs5 hown ⊢
      go_wp2_with fail
      go_ret
      exact ⟨ret_str (by rw [HT.out.end_d]; try simp only [List.append_assoc, List.nil_append]), HB5.out.below⟩
    ·have hnil := fun (w : World) => Lib.run_eql_slice_nil (P := Try.prog) w 58 5 (some ⟨g, 0, none⟩) R.length c 0 0 Try.underlying58
     have hcr : wr.cell? ⟨w.heap.size + 1, 0, none⟩ = some (.slice (some ⟨g, 0, none⟩) R.length c) := blk_cell HX.out.box 0
     obtain ⟨q, hqb, hqs, hsl⟩ := slice_part a0 sn m y HYM.out HSM.out (by have := HMI.out; have := bytesOf_length a0; omega)
     have HQB := Aside0.mk hqb
     have HQS := Aside0.mk hqs
     clear hqb hqs
     go_wp2_with (go_at_call 115; go_must (refine (make_calls w wr w.heap.size (w.heap.size + 1) a0 (.slice (some ⟨g, 0, none⟩) R.length c) R HS.out (by omega) (by omega) HX.out).mono ?_; rintro e w1 ⟨rfl, g1, c1, hb1⟩; have HB1 := Aside0.mk (hb1.drewN 1); obtain ⟨hr1, hf1, hs1⟩ := hb1.cells; clear hb1))
     go_still_tail 5, (by kernel_rfl)
     change wpList _ _ _ _ _ (w1.drewN 1)
     clear hnil hcr hsl hcs hr1 hf1 hs1
     generalize w1.drewN 1 = w2 at HB1 ⊢
     clear w1
     go_wp2_with (at_builtin; go_must (refine print_append_str (w0 := w) w.heap.size rfl (.tmp 110) (.tmp 114) 58 9 5 rfl Try.underlying58 Try.underlying9 infoU8 (.slice (some ⟨g1, 0, none⟩) R.length c1) R q rfl rfl HB1.out.own HB1.out.below HB1.out.below.size (by rw [HQS.out]; have := HT.out.len_some; have := bytesOf_length a0; have := HS.out; omega) ?_))
     intro v1 w3 ho hb hg
     have ho1 : w3.ownsRow w.heap.size 5 1 v1 (R ++ seg (bytesOf a0) sn m).length (nums .u8 (R ++ seg (bytesOf a0) sn m)) := by simpa only [HQB.out, List.length_append, List.nil_append, List.length_nil, Nat.zero_add] using ho
     obtain ⟨L1, hL1⟩ : ∃ L1, L1 = (R ++ seg (bytesOf a0) sn m).length := ⟨_, rfl⟩
     obtain ⟨A1, k1, hv1⟩ := own_slice ho1
     rw [← hL1] at hv1
     subst hv1
     clear hL1
     have HB3 := Aside0.mk (HB1.out.grow (by omega) (by omega) ho1 hb hg)
     obtain ⟨hr3, hf3, hs3⟩ := HB1.out.boxed hg
     clear ho ho1 hb hg
     go_upto_region 29 with fail
     clear hr3 hf3 hs3
     obtain ⟨hr3, hf3, hs3⟩ := HB3.out.cells
     generalize w3.setCell ⟨w.heap.size + 1, 0, none⟩ (.slice A1 L1 k1) = w4 at HB3 hr3 hf3 hs3 ⊢
     clear w3
     go_wp2_with (at_builtin; go_must (refine print_append_num (w0 := w) w.heap.size rfl (.tmp 116) (.tmp 117) 58 5 .u8 1 rfl Try.underlying58 infoU8 (by decide) (.slice A1 L1 k1) (R ++ seg (bytesOf a0) sn m) 32 rfl rfl HB3.out.own HB3.out.below HB3.out.below.size (by rw [List.length_append]; have := HT.out.len_some; have := bytesOf_length a0; have := HS.out; omega) ?_))
     intro v2 w5 ho hb hg _
     have ho1 : w5.ownsRow w.heap.size 5 1 v2 (R ++ seg (bytesOf a0) sn m ++ [32]).length (nums .u8 (R ++ seg (bytesOf a0) sn m ++ [32])) := by simpa only [List.length_append, List.append_assoc, List.length_cons, List.length_nil, Nat.add_assoc, Nat.zero_add, List.nil_append] using ho
     obtain ⟨L2, hL2⟩ : ∃ L2, L2 = (R ++ seg (bytesOf a0) sn m ++ [32]).length := ⟨_, rfl⟩
     obtain ⟨g3, c3, hv2, _, _⟩ := ho1.form (by rw [List.length_append]; exact Nat.succ_pos _)
     rw [← hL2] at hv2
     subst hv2
     have HL2 := Aside0.mk hL2
     clear hL2
     have HB5 := Aside0.mk (HB3.out.grow (by omega) (by omega) ho1 hb hg)
     obtain ⟨hr5, hf5, hs5⟩ := HB3.out.boxed hg
     clear ho ho1 hb hg hr3 hf3 hs3
     have hnil := fun (w : World) => Lib.run_eql_slice_nil (P := Try.prog) w 58 5 (some ⟨g3, 0, none⟩) L2 c3 0 0 Try.underlying58
     go_upto_region 30 with fail
     clear hr5 hf5 hs5
     obtain ⟨hr5, hf5, hs5⟩ := HB5.out.cells
     have hown := own_string (P := Try.prog) Try.underlying58 Try.underlying5 Try.underlying9 HB5.out.own
     generalize w5.setCell ⟨w.heap.size + 1, 0, none⟩ (.slice (some ⟨g3, 0, none⟩) L2 c3) = w6 at HB5 hr5 hf5 hs5 hown ⊢
     go_wp2_with fail
     go_ret
     exact ⟨ret_str (by rw [HT.out.end_d]; try simp only [List.append_assoc, List.nil_append]), HB5.out.below⟩
end Go.Proofs.Ytmfjbljdbkmkgaa.Blank

/- collapse.Collapse over a tree: what its rounds call. -/
namespace Go.Proofs.Ytmfjbljdbkmkgaa.Dom
open Go.RowKit Go.Proofs.YtmfjbljdbkmkgaaW.PrintWords Go.Proofs.YtmfjbljdbkmkgaaW.PrintLast Go.Proofs.YtmfjbljdbkmkgaaW.PrintMore Go.Proofs.Ytmfjbljdbkmkgaa.PDom Go.Proofs.Ytmfjbljdbkmkgaa.Blank Go.Proofs.Ytmfjbljdbkmkgaa.Txt
set_option linter.unusedVariables false
set_option linter.unusedSimpArgs false

/-! ### Texts -/
theorem suffix_f (l : List Int) (hb : Byt l) (hl : l.length ≤ 2147483647) : strings_HasSuffix.f (strOfNums l) ⟨#[32]⟩ = some (l.getLast? == some 32) := by
 have hsz : (strOfNums l).size = l.length := str_size l
 have h1 : ((⟨#[32]⟩ : ByteArray).size : Int) = 1 := rfl
 have h2 : (⟨#[32]⟩ : ByteArray).toList = [32] := (ByteArray.toList_eq _).trans rfl
 rw [strings_HasSuffix.f, stringslite_HasSuffix.f, h1, h2, hsz]
 rcases List.eq_nil_or_concat l with rfl | ⟨l, c, rfl⟩
 ·rw [if_neg (by simp)]
  rfl
 ·rw [List.concat_eq_append] at *
  have hc := hb c (by simp)
  have hw : wrap64 (((l ++ [c]).length : Int) - 1) = (l.length : Int) := by
   rw [List.length_append] at hl ⊢
   unfold wrap64
   simp at hl ⊢
   omega
  have hle : (1 : Int) ≤ ((l ++ [c]).length : Int) := by rw [List.length_append]; simp; omega
  have hle2 : (l.length : Int) ≤ ((l ++ [c]).length : Int) := by rw [List.length_append]; simp; omega
  rw [hw, if_pos hle, if_pos (by omega), if_pos hle2]
  have hx : ((strOfNums (l ++ [c])).extract (l.length : Int).toNat (l ++ [c]).length).toList = [UInt8.ofNat c.toNat] := by
   rw [ByteArray.toList_eq, ByteArray.data_extract, Array.toList_extract, List.extract_eq_take_drop]
   have : (strOfNums (l ++ [c])).data.toList = l.map (fun n => UInt8.ofNat n.toNat) ++ [UInt8.ofNat c.toNat] := by
    unfold strOfNums
    simp
   rw [this]
   simp
  rw [hx]
  simp only [Option.bind_some, List.getLast?_append, List.getLast?_singleton, Option.some_or]
  congr 1
  by_cases e : c = 32
  ·subst e
   rfl
  ·have n1 : ¬ UInt8.ofNat c.toNat = 32 := fun h => e (by
    have := congrArg UInt8.toNat h
    rw [UInt8.toNat_ofNat'] at this
    have h3 : (32 : UInt8).toNat = 32 := rfl
    rw [h3] at this
    omega)
   have e1 : ([UInt8.ofNat c.toNat] == [(32 : UInt8)]) = false := beq_eq_false_iff_ne.2 (fun h => n1 (by simpa using h))
   have e2 : ((some c : Option Int) == some 32) = false := beq_eq_false_iff_ne.2 (fun h => e (Option.some.inj h))
   rw [e1, e2]
theorem trim_f (l : List Int) (hb : Byt l) (hl : l.length ≤ 2147483647) : strings_TrimSuffix.f (strOfNums l) ⟨#[32]⟩ = some (strOfNums (trimB l)) := by
 have hs := suffix_f l hb hl
 rw [strings_HasSuffix.f] at hs
 obtain ⟨b, e1, e2⟩ := Option.bind_eq_some_iff.1 hs
 obtain rfl := Option.some.inj e2
 rw [strings_TrimSuffix.f, stringslite_TrimSuffix.f, e1, Option.bind_some]
 unfold trimB
 have hsz : (strOfNums l).size = l.length := str_size l
 have h1 : ((⟨#[32]⟩ : ByteArray).size : Int) = 1 := rfl
 rw [h1, hsz]
 rcases List.eq_nil_or_concat l with rfl | ⟨l, c, rfl⟩
 ·rfl
 ·rw [List.concat_eq_append] at *
  have hw : wrap64 (((l ++ [c]).length : Int) - 1) = (l.length : Int) := by
   rw [List.length_append] at hl ⊢
   unfold wrap64
   simp at hl ⊢
   omega
  have hle2 : (l.length : Int) ≤ ((l ++ [c]).length : Int) := by rw [List.length_append]; simp; omega
  rw [hw, if_pos (show (0 : Int) ≤ (l.length : Int) by omega), if_pos hle2]
  have hx : (strOfNums (l ++ [c])).extract 0 (l.length : Int).toNat = strOfNums l := by
   rw [str_append]
   apply ByteArray.ext
   rw [ByteArray.data_extract, ByteArray.data_append]
   apply Array.ext'
   simp [strOfNums]
  rw [hx]
  by_cases e : ((l ++ [c]).getLast? == some 32) = true
  ·rw [if_pos e, if_pos e, List.dropLast_concat]
   rfl
  ·rw [if_neg e, if_neg e]
   rfl
set_option maxRecDepth 100000 in
theorem blank0_calls (w : World) : Calls Try.prog 81 #[.string ⟨#[]⟩] w fun e w' => e = .returned (.string ⟨#[]⟩) ∧ Below w.heap.size w w' := by
 have hB := Aside0.mk (below_alloc (Below.refl w.heap.size w) (.cells #[.string ⟨#[]⟩] 9))
 go_enter Try.func81, Try.ntmps81
 go_wp2_with fail
 go_ret
 exact ⟨rfl, hB.out⟩
theorem repl_calls (l : List Int) (hb : Byt l) (hl : l.length ≤ 2147483647) (w : World) : Calls Try.prog 81 #[.string (strOfNums l)] w fun e w' => e = .returned (.string (strOfNums (norm false l))) ∧ Below w.heap.size w w' := by
 cases l with
 | nil => exact blank0_calls w
 | cons c l =>
  have h := blank_calls (strOfNums (c :: l)) w (by rw [str_size]; exact hl) (by rw [str_size]; simp)
  rw [bytes_str hb] at h
  exact h
/-- How it ends. -/
def ColEnd (S : Srt) (w w' : World) (D : Tab) (i : Nat) (a : Int) (d : ByteArray) (at_ : List (ByteArray × ByteArray)) (ks : List RT) : Prop :=
 ∃ D' K, Dom w' D' ∧ Is D' none (.node i 3 a d at_ K) ∧ Only D w w' ∧ (∀ k, D k = none ↔ D' k = none) ∧ RT.toTL K = (if inL S.pr d = true then RT.toTL ks else (p2L S 2 (p1L S ⟨none, false⟩ (RT.toTL ks)).2).2) ∧ (∀ k ∈ K, RT.All okC k) ∧ (RT.preL K).length ≤ (RT.preL ks).length
/-- What a round over an element calls. -/
structure ElP (S : Srt) (w : World) (D : Tab) (root : Nat) (wr : World) (Dr : Tab) (f : Fr) (fs : List Fr) (s : SR) (pv : Option Nat) (fd b1 b2 b3 y : Nat) (d : ByteArray) (F0 : SR × RT) : Prop where
 ne : (y != root) = true
 neq : (binOp .neq 47 (.pointer (some ⟨y, 0, none⟩)) (.pointer (some ⟨root, 0, none⟩))).run Try.prog wr = .ok (.bool (y != root)) wr
 ty : wr.cell? ⟨y, 5, none⟩ = some (.int .u32 3)
 nm : Calls Try.prog 62 #[.pointer (some ⟨y, 0, none⟩)] wr fun e w' => e = .returned (.string d) ∧ w' = wr
 bk : Calls Try.prog 61 (#[.pointer (some ⟨y, 0, none⟩)] ++ #[.pointer (some ⟨b1, 0, none⟩)]) wr fun e w' => e = .returned (.bool (inL S.bk d)) ∧ w' = wr
 vd : Calls Try.prog 61 (#[.pointer (some ⟨y, 0, none⟩)] ++ #[.pointer (some ⟨b2, 0, none⟩)]) wr fun e w' => e = .returned (.bool (inL S.vd d)) ∧ w' = wr
 pr : Calls Try.prog 61 (#[.pointer (some ⟨y, 0, none⟩)] ++ #[.pointer (some ⟨b3, 0, none⟩)]) wr fun e w' => e = .returned (.bool (inL S.pr d)) ∧ w' = wr
 fb : wr.cell? ⟨fd, 0, none⟩ = some (nmF b1) ∧ wr.cell? ⟨fd, 1, none⟩ = some (nmF b2) ∧ wr.cell? ⟨fd, 2, none⟩ = some (nmF b3)
 nxt : ∀ W Dr', ColD S w D root W Dr' f fs (s.ent (S.kind d)) pv → ∃ f' fs', (Calls Try.prog 80 #[ptr pv, .pointer (some ⟨y, 0, none⟩), .pointer (some ⟨fd, 0, none⟩)] W fun e w' => e = .returned (ptr (some (curId f'))) ∧ w' = W) ∧ ColD S w D root W Dr' f' fs' (s.ent (S.kind d)) (some y) ∧ msr f' fs' < msr f fs ∧ fin S (s.ent (S.kind d)) f' fs' = F0
theorem name3 {i : Info} (h : i.ty = 3) : nameOf i = i.data := by unfold nameOf; rw [h]; rfl
theorem root_in {S : Srt} {w wr : World} {D Dr : Tab} {root : Nat} {f : Fr} {fs : List Fr} {s : SR} {pv : Option Nat} (h : ColD S w D root wr Dr f fs s pv) : Dr root ≠ none := by
 have := h.is.root
 rw [dat_id, plug_id, h.rt] at this
 rw [this]; simp
theorem el_pack {S : Srt} {w wr : World} {D Dr : Tab} {root : Nat} {f : Fr} {fs : List Fr} {s : SR} {pv : Option Nat} {fd b1 b2 b3 : Nat} (h : ColD S w D root wr Dr f fs s pv) (hf : Fns w D fd b1 b2 b3 S)
  (hc : (∃ x R', f.R = x :: R' ∧ x.ty = 3) ∨ (f.R = [] ∧ ∃ g fs', fs = g :: fs')) (F0 : SR × RT) (hF : fin S s f fs = F0) : ∃ d, ElP S w D root wr Dr f fs s pv fd b1 b2 b3 (curId f) d F0 := by
 have base : ∀ y d, (∃ i, Dr y = some i ∧ i.ty = 3 ∧ i.data = d) → y ≠ root →
   ((y != root) = true ∧ (binOp .neq 47 (.pointer (some ⟨y, 0, none⟩)) (.pointer (some ⟨root, 0, none⟩))).run Try.prog wr = .ok (.bool (y != root)) wr ∧ wr.cell? ⟨y, 5, none⟩ = some (.int .u32 3) ∧
   (Calls Try.prog 62 #[.pointer (some ⟨y, 0, none⟩)] wr fun e w' => e = .returned (.string d) ∧ w' = wr) ∧
   (∀ b l, Nms wr Dr b l → Calls Try.prog 61 (#[.pointer (some ⟨y, 0, none⟩)] ++ #[.pointer (some ⟨b, 0, none⟩)]) wr fun e w' => e = .returned (.bool (inL l d)) ∧ w' = wr)) := by
  rintro y d ⟨i, h1, h2, rfl⟩ hne
  have hy : Dr y ≠ none := by rw [h1]; simp
  refine ⟨bne_iff_ne.2 hne, neq_tab h.d hy (root_in h), ?_, ?_, ?_⟩
  ·have := ty_cell h.d h1
   have e : tyAt Dr y = 3 := by unfold tyAt; rw [h1]; exact h2
   rw [e] at this
   exact this
  ·have := node_calls wr Dr y i h.d h1
   rw [name3 h2] at this
   exact this
  ·intro b l hb
   have := hb.tells h.d y hy
   rw [elem_of l h1, h2] at this
   exact this
 have hfr := hf.only h.o h.sm
 have cells : wr.cell? ⟨fd, 0, none⟩ = some (nmF b1) ∧ wr.cell? ⟨fd, 1, none⟩ = some (nmF b2) ∧ wr.cell? ⟨fd, 2, none⟩ = some (nmF b3) := ⟨blk_cell hfr.box 0, blk_cell hfr.box 1, blk_cell hfr.box 2⟩
 have nxt : ∀ y d, y = curId f → (∀ W Dr', ColD S w D root W Dr' f fs (s.ent (S.kind d)) pv → Dr' y ≠ none ∧ (∀ p, pv = some p → Dr' p ≠ none) ∧ ∃ f' fs', nx (pv.bind (parD Dr') == some y) (elemD Dr' S.pr y) (firstD Dr' y) (nextD Dr' y) (parD Dr' y) = some (curId f') ∧ ColD S w D root W Dr' f' fs' (s.ent (S.kind d)) (some y) ∧ msr f' fs' < msr f fs ∧ fin S (s.ent (S.kind d)) f' fs' = F0) →
   ∀ W Dr', ColD S w D root W Dr' f fs (s.ent (S.kind d)) pv → ∃ f' fs', (Calls Try.prog 80 #[ptr pv, .pointer (some ⟨y, 0, none⟩), .pointer (some ⟨fd, 0, none⟩)] W fun e w' => e = .returned (ptr (some (curId f'))) ∧ w' = W) ∧ ColD S w D root W Dr' f' fs' (s.ent (S.kind d)) (some y) ∧ msr f' fs' < msr f fs ∧ fin S (s.ent (S.kind d)) f' fs' = F0 := by
  intro y d _ hk W Dr' hW
  obtain ⟨k1, k2, f', fs', k3, k4, k5, k6⟩ := hk W Dr' hW
  refine ⟨f', fs', ?_, k4, k5, k6⟩
  have := nextNode_calls W Dr' hW.d fd b1 b2 b3 S (hf.only hW.o hW.sm) pv k2 y k1
  rw [k3] at this
  exact this
 rcases hc with ⟨x, R', hR, h3⟩ | ⟨hR, g, fs', rfl⟩
 ·have hcur : curId f = x.id := by unfold curId; rw [hR]
  rw [hcur]
  obtain ⟨i, h1, h2, h4, _, _, _, _, h8, _⟩ := h.head hR
  rw [h3, if_neg (by decide)] at h4
  obtain ⟨p1, p2, p3, p4, p5⟩ := base x.id x.data ⟨i, h1, h2.trans h3, h4⟩ h8
  refine ⟨x.data, p1, p2, p3, p4, p5 _ _ hfr.n1, p5 _ _ hfr.n2, p5 _ _ hfr.n3, cells, nxt x.id x.data hcur.symm (fun W Dr' hW => ?_)⟩
  obtain ⟨i', g1, _, _, _, _, _, _, _, g9⟩ := hW.head hR
  obtain ⟨f', fs', m1, m2, m3, m4⟩ := hW.moveHead hR (.inl h3)
  exact ⟨by rw [g1]; simp, g9, f', fs', m1, m2, m3, (m4 s (fun _ => rfl) (fun e => by rw [h3] at e; cases e)).symm.trans hF⟩
 ·have hcur : curId f = f.i := by unfold curId; rw [hR]
  rw [hcur]
  obtain ⟨i, h1, h2, h4, h8, _, _⟩ := h.last hR
  obtain ⟨p1, p2, p3, p4, p5⟩ := base f.i f.d ⟨i, h1, h2, h4⟩ h8
  refine ⟨f.d, p1, p2, p3, p4, p5 _ _ hfr.n1, p5 _ _ hfr.n2, p5 _ _ hfr.n3, cells, nxt f.i f.d hcur.symm (fun W Dr' hW => ?_)⟩
  obtain ⟨i', g1, _, _, _, g9, _⟩ := hW.last hR
  obtain ⟨f', fs2, m1, m2, m3, m4⟩ := hW.moveEnd hR
  exact ⟨by rw [g1]; simp, g9, f', fs2, m1, m2, m3, (m4 s rfl).symm.trans hF⟩
/-- What a round over a text calls. -/
structure TxP (S : Srt) (w : World) (D : Tab) (root : Nat) (wr : World) (Dr : Tab) (f : Fr) (fs : List Fr) (s : SR) (pv : Option Nat) (fd y : Nat) (F0 : SR × RT) : Prop where
 ne : (y != root) = true
 neq : (binOp .neq 47 (.pointer (some ⟨y, 0, none⟩)) (.pointer (some ⟨root, 0, none⟩))).run Try.prog wr = .ok (.bool (y != root)) wr
 ty : wr.cell? ⟨y, 5, none⟩ = some (.int .u32 1)
 dt : wr.cell? ⟨y, 7, none⟩ = some (.string (strOfNums (s.st y)))
 keep : ∀ W, Below wr.heap.size wr W → (s.ct y).isEmpty = false → W.frozen? ⟨y, 7, none⟩ = false ∧ (W.cell? ⟨y, 7, none⟩).isSome = true ∧ ∃ Dr' f' fs', (Calls Try.prog 80 #[ptr pv, .pointer (some ⟨y, 0, none⟩), .pointer (some ⟨fd, 0, none⟩)] (W.setCell ⟨y, 7, none⟩ (.string (strOfNums (s.ct y)))) fun e w' => e = .returned (ptr (some (curId f'))) ∧ w' = W.setCell ⟨y, 7, none⟩ (.string (strOfNums (s.ct y)))) ∧
  ColD S w D root (W.setCell ⟨y, 7, none⟩ (.string (strOfNums (s.ct y)))) Dr' f' fs' (s.txt y) (some y) ∧ msr f' fs' < msr f fs ∧ fin S (s.txt y) f' fs' = F0
 drop : ∀ W, Below wr.heap.size wr W → (s.ct y).isEmpty = true → Calls Try.prog 83 #[.pointer (some ⟨y, 0, none⟩)] W fun e w' => ∃ D' f' fs', e = .returned (ptr (some (curId f'))) ∧ ColD S w D root w' D' f' fs' (s.txt y) pv ∧ msr f' fs' < msr f fs ∧ fin S (s.txt y) f' fs' = F0
theorem tx_pack {S : Srt} {w wr : World} {D Dr : Tab} {root : Nat} {f : Fr} {fs : List Fr} {s : SR} {pv : Option Nat} {fd b1 b2 b3 : Nat} (h : ColD S w D root wr Dr f fs s pv) (hf : Fns w D fd b1 b2 b3 S) {x : RT} {R' : List RT} (hR : f.R = x :: R') (hx : x.ty = 1) (F0 : SR × RT) (hF : fin S s f fs = F0) :
  TxP S w D root wr Dr f fs s pv fd x.id F0 := by
 obtain ⟨i, h1, h2, h3, h4, h5, h6, h7, h8, h9⟩ := h.head hR
 have hD : Dr x.id ≠ none := by rw [h1]; simp
 have hms := msr_cons (fs := fs) hR
 have hpos := ms_pos x
 have hkids : x.kids = [] := by
  have := h.all f (by simp) x (by rw [hR]; simp)
  cases this with
  | mk _ hok _ =>
   rcases hok.2 with e | e
   ·rw [hx] at e; cases e
   ·exact e
 have hrun : run S s x = (s.txt x.id, if (s.ct x.id).isEmpty = true then [] else [x]) := by
  cases x with
  | node xi ty xa xd xat xks =>
   obtain rfl : ty = 1 := hx
   rw [run, if_pos rfl]
   rfl
 refine ⟨bne_iff_ne.2 h8, neq_tab h.d hD (root_in h), ?_, ?_, fun W hb he => ?_, fun W hb he => ?_⟩
 ·have := ty_cell h.d h1
  have e : tyAt Dr x.id = 1 := by unfold tyAt; rw [h1]; exact h2.trans hx
  rw [e] at this
  exact this
 ·obtain ⟨v, hv, _⟩ := h.d.has h1
  rw [hv.cell 7]
  rw [hx, if_pos rfl] at h3
  show some (Value.string i.data) = _
  rw [h3]
 ·have hM := h.moved hb
  obtain ⟨v, hv, _⟩ := hM.d.has h1
  obtain ⟨Dr', k1, k2⟩ := hM.keepT hR hx he
  obtain ⟨n1, n2, n3, n4⟩ := k2 x.id
  refine ⟨hv.frozen 7, by rw [hv.cell 7]; rfl, Dr', { f with L := f.L ++ [x], R := R' }, fs, ?_, k1, ?_, ?_⟩
  ·have := nextNode_calls _ Dr' k1.d fd b1 b2 b3 S (hf.only k1.o k1.sm) pv (fun p hp e => h9 p hp ((k2 p).2.2.2.1 e)) x.id (fun e => hD (n4.1 e))
   have hbind : pv.bind (parD Dr') = pv.bind (parD Dr) := by
    cases pv with
    | none => rfl
    | some p => exact (k2 p).1
   rw [hbind, h7, n1, n2, n3, h4, h5, h6, hkids] at this
   have hnx : nx false (elemD Dr' S.pr x.id) (([] : List RT).head?.map RT.id) (R'.head?.map RT.id) (some f.i) = some (curId ({ f with L := f.L ++ [x], R := R' } : Fr)) := by
    rw [← cur_or]
    unfold nx
    split <;> simp
   rw [hnx] at this
   exact this
  ·rw [hms]
   unfold msr
   simp only
   omega
  ·rw [← hF]
   refine (fin_skip fs hR ?_).symm
   rw [hrun, he]
   rfl
 ·have hM := h.moved hb
  refine (hM.dropT hR hx he).mono ?_
  rintro e w' ⟨rfl, D', hd⟩
  refine ⟨D', { f with R := R' }, fs, ?_, hd, ?_, ?_⟩
  ·have := cur_or ({ f with R := R' } : Fr)
   rw [← this]
  ·rw [hms]
   unfold msr
   simp only
   omega
  ·rw [← hF]
   refine (fin_drop fs hR ?_).symm
   rw [hrun, he]
   rfl
/-- What a round over a comment calls. -/
theorem cm_pack {S : Srt} {w wr : World} {D Dr : Tab} {root : Nat} {f : Fr} {fs : List Fr} {s : SR} {pv : Option Nat} {fd b1 b2 b3 : Nat} (h : ColD S w D root wr Dr f fs s pv) (hf : Fns w D fd b1 b2 b3 S) {x : RT} {R' : List RT} (hR : f.R = x :: R') (hx : x.ty = 4) (F0 : SR × RT) (hF : fin S s f fs = F0) :
  (x.id != root) = true ∧ (binOp .neq 47 (.pointer (some ⟨x.id, 0, none⟩)) (.pointer (some ⟨root, 0, none⟩))).run Try.prog wr = .ok (.bool (x.id != root)) wr ∧ wr.cell? ⟨x.id, 5, none⟩ = some (.int .u32 4) ∧
  ∃ f' fs', (Calls Try.prog 80 #[ptr pv, .pointer (some ⟨x.id, 0, none⟩), .pointer (some ⟨fd, 0, none⟩)] wr fun e w' => e = .returned (ptr (some (curId f'))) ∧ w' = wr) ∧ ColD S w D root wr Dr f' fs' s (some x.id) ∧ msr f' fs' < msr f fs ∧ fin S s f' fs' = F0 := by
 obtain ⟨i, h1, h2, h3, h4, h5, h6, h7, h8, h9⟩ := h.head hR
 have hD : Dr x.id ≠ none := by rw [h1]; simp
 refine ⟨bne_iff_ne.2 h8, neq_tab h.d hD (root_in h), ?_, ?_⟩
 ·have := ty_cell h.d h1
  have e : tyAt Dr x.id = 4 := by unfold tyAt; rw [h1]; exact h2.trans hx
  rw [e] at this
  exact this
 ·obtain ⟨f', fs', m1, m2, m3, m4⟩ := h.moveHead hR (.inr hx)
  refine ⟨f', fs', ?_, m2, m3, (m4 s (fun e => by rw [hx] at e; cases e) (fun _ => rfl)).symm.trans hF⟩
  have := nextNode_calls wr Dr h.d fd b1 b2 b3 S (hf.only h.o h.sm) pv h9 x.id hD
  rw [m1] at this
  exact this
end Go.Proofs.Ytmfjbljdbkmkgaa.Dom

/- Collapse: how it ends. Plain facts on tables; the last call. -/
namespace Go.Proofs.Ytmfjbljdbkmkgaa.Dom
open Go.RowKit Go.Proofs.YtmfjbljdbkmkgaaW.PrintWords Go.Proofs.YtmfjbljdbkmkgaaW.PrintLast Go.Proofs.YtmfjbljdbkmkgaaW.PrintMore Go.Proofs.Ytmfjbljdbkmkgaa.PDom Go.Proofs.Ytmfjbljdbkmkgaa.Blank Go.Proofs.Ytmfjbljdbkmkgaa.Txt
set_option linter.unusedVariables false
set_option linter.unusedSimpArgs false

section
variable {S : Srt} {w wr : World} {D Dr : Tab} {i : Nat} {a : Int} {d : ByteArray} {at_ : List (ByteArray × ByteArray)} {ks : List RT} {f : Fr} {s : SR} {pv : Option Nat}
/-- What is known at the end. -/
theorem end_open (hR : f.R = []) (HF : fin S s f [] = fin S ⟨st0 D, none, false⟩ ⟨i, a, d, at_, [], ks⟩ []) : runL S ⟨st0 D, none, false⟩ ks = (s, f.L) ∧ f.i = i ∧ f.a = a ∧ f.d = d ∧ f.at_ = at_ := by
 rw [fin, fin, hR] at HF
 simp only [runL, List.append_nil, List.nil_append, Prod.mk.injEq, RT.node.injEq, true_and] at HF
 obtain ⟨e1, e2, e3, e4, e5, e6⟩ := HF
 exact ⟨Prod.ext e1.symm e6.symm, e2, e3, e4, e5⟩
theorem end_tree (hR : f.R = []) (hi : f.i = i) (ha : f.a = a) (hd : f.d = d) (hat : f.at_ = at_) (hpr : inL S.pr d = false) (σ : Nat → List Int) : (plug f [] []).dat S σ = .node i 3 a d at_ (RT.datL S σ f.L) := by
 have e : plug f [] [] = .node i 3 a d at_ f.L := by
  show f.up [] = _
  unfold Fr.up
  rw [hR, hi, ha, hd, hat]
  simp
 rw [e, RT.dat, if_neg (by decide), hpr, if_pos (by simp)]
theorem end_none (h : ColD S w D i wr Dr f [] s pv) (hR : f.R = []) (hpt : s.pt = none) (HF : fin S s f [] = fin S ⟨st0 D, none, false⟩ ⟨i, a, d, at_, [], ks⟩ []) (hnd : (RT.preL ks).Nodup) (hdat : RT.datL S (st0 D) ks = ks) (hall : ∀ k ∈ ks, RT.All okC k) (hpr : inL S.pr d = false) : ColEnd S w wr D i a d at_ ks := by
 obtain ⟨e1, e2, e3, e4, e5⟩ := end_open hR HF
 have his := h.is
 rw [end_tree hR e2 e3 e4 e5 hpr] at his
 have htn : (RT.tidL S ks).Nodup := tidL_nodup S ks hnd
 obtain ⟨r1, r2, r3, r4⟩ := run_end S ks (fun k hk => okC_okN (hall k hk)) (st0 D) (st0_byt D) htn s f.L e1
 rw [hdat] at r4
 obtain ⟨l1, l2⟩ := runL_le S ks ⟨st0 D, none, false⟩
 rw [e1] at l1 l2
 replace l1 : (RT.preL f.L).length ≤ (RT.preL ks).length := l1
 refine ⟨Dr, RT.datL S s.st f.L, h.d, his, h.o, h.sm, ?_, fun k hk => ?_, by rw [preL_datL]; exact l1⟩
 ·rw [hpr, if_neg (by simp), r4, rmL_no S _ f.L (fun b _ => by rw [hpt]; simp)]
  unfold SR.cutP
  rw [hpt]
 ·rw [datL_map] at hk
  obtain ⟨k0, hk0, rfl⟩ := List.mem_map.1 hk
  exact dat_okC S _ k0 (l2 hall k0 hk0)
theorem end_some (h : ColD S w D i wr Dr f [] s pv) (hR : f.R = []) {b : Nat} (hpt : s.pt = some b) (HF : fin S s f [] = fin S ⟨st0 D, none, false⟩ ⟨i, a, d, at_, [], ks⟩ []) (hnd : (RT.preL ks).Nodup) (hdat : RT.datL S (st0 D) ks = ks) (hall : ∀ k ∈ ks, RT.All okC k) (hpr : inL S.pr d = false) :
  (trimB (s.st b) ≠ [] → ColEnd S w (wr.setCell ⟨b, 7, none⟩ (.string (strOfNums (trimB (s.st b))))) D i a d at_ ks) ∧
  (trimB (s.st b) = [] → Calls Try.prog 83 #[.pointer (some ⟨b, 0, none⟩)] (wr.setCell ⟨b, 7, none⟩ (.string (strOfNums (trimB (s.st b))))) fun e w' => (∃ v, e = .returned v) ∧ ColEnd S w w' D i a d at_ ks) := by
 obtain ⟨e1, e2, e3, e4, e5⟩ := end_open hR HF
 obtain ⟨Dr2, h2⟩ := h.ent1 hpt
 have hst : (s.ent 1).st = s.cutP := by unfold SR.ent; rw [if_pos rfl]
 have his := h2.is
 rw [hst, end_tree hR e2 e3 e4 e5 hpr] at his
 have htn : (RT.tidL S ks).Nodup := tidL_nodup S ks hnd
 obtain ⟨r1, r2, r3, r4⟩ := run_end S ks (fun k hk => okC_okN (hall k hk)) (st0 D) (st0_byt D) htn s f.L e1
 rw [hdat] at r4
 obtain ⟨l1, l2⟩ := runL_le S ks ⟨st0 D, none, false⟩
 rw [e1] at l1 l2
 replace l1 : (RT.preL f.L).length ≤ (RT.preL ks).length := l1
 refine ⟨fun ht => ?_, fun ht => ?_⟩
 ·refine ⟨Dr2, RT.datL S s.cutP f.L, h2.d, his, h2.o, h2.sm, ?_, fun k hk => ?_, by rw [preL_datL]; exact l1⟩
  ·rw [hpr, if_neg (by simp), r4, rmL_no S _ f.L (fun c _ => decide_eq_false (fun hc => by
    rw [hpt] at hc
    obtain rfl := Option.some.inj hc.1
    exact ht hc.2))]
  ·rw [datL_map] at hk
   obtain ⟨k0, hk0, rfl⟩ := List.mem_map.1 hk
   exact dat_okC S _ k0 (l2 hall k0 hk0)
 ·have hbm : b ∈ RT.tidL S f.L := r2 b hpt
  have hq : (fun c => decide (s.pt = some c ∧ trimB (s.st c) = [])) = (fun c => c == b) := by
   funext c
   by_cases hc : c = b
   ·subst hc
    rw [hpt]
    simp [ht]
   ·rw [hpt]
    have e1 : (c == b) = false := beq_eq_false_iff_ne.2 hc
    rw [e1]
    exact decide_eq_false (fun h3 => hc (Option.some.inj h3.1).symm)
  rw [hq] at r4
  generalize hT : RT.node i 3 a d at_ (RT.datL S s.cutP f.L) = Tr at *
  have hTp : b ∈ Tr.pre := by
   rw [← hT]
   refine List.mem_cons_of_mem _ ?_
   rw [preL_datL]
   exact tidL_pre S f.L b hbm
  have hTn := Is.nodup h2.d.wf Tr his
  obtain ⟨l, y, hy, hyb⟩ := place_of Tr b hTp
  have hl : l ≠ [] := fun e => by
   rw [e] at hy
   obtain rfl : Tr = y := by simpa [RT.at_] using hy
   have hib : i = b := by rw [← hT] at hyb; exact hyb
   rw [← hT] at hTn
   have := (List.nodup_cons.1 (show (i :: RT.preL (RT.datL S s.cutP f.L)).Nodup from hTn)).1
   rw [preL_datL, hib] at this
   exact this (tidL_pre S f.L b hbm)
  obtain ⟨n, hn1, hn2⟩ : ∃ n, l.getLast? = some n ∧ l = l.dropLast ++ [n] := ⟨l.getLast hl, List.getLast?_eq_some_getLast hl, (List.dropLast_concat_getLast hl).symm⟩
  obtain ⟨up, k1, k2, hu, hk, hkl⟩ := place_parts hy hn1
  have hrm := rm_at S hyb l.dropLast Tr up hTn hu hk (by
   rw [← hT, RT.tid, if_neg (by decide), hpr, if_pos (by simp)]
   have : RT.tidL S (RT.datL S s.cutP f.L) = RT.tidL S f.L := by
    have hg : ∀ l : List RT, RT.tidL S (RT.datL S s.cutP l) = RT.tidL S l := by
     intro l
     induction l with
     | nil => rfl
     | cons k l ih => rw [RT.datL, RT.tidL, RT.tidL, tid_dat, ih]
    exact hg _
   rw [this]
   exact hbm) (by rw [← hT]; show (3 : Int) ≠ 1; decide)
  have hrm2 : Tr.rm S (fun x => x == b) = [.node i 3 a d at_ (RT.datL S s.cutP (RT.rmL S (fun x => x == b) f.L))] := by
   rw [← hT, RT.rm, if_neg (by decide), hpr, if_pos (by simp), rmL_datL]
  rw [hrm2] at hrm
  have hmap : Tr.mapAt (fun _ => k1 ++ k2) l.dropLast = .node i 3 a d at_ (RT.datL S s.cutP (RT.rmL S (fun x => x == b) f.L)) := by
   injection hrm with h5
   exact h5.symm
  have hc := removeNode_calls _ Dr2 h2.d Tr up y l.dropLast k1 k2 his hu hk
  rw [hyb, hmap] at hc
  refine hc.mono ?_
  rintro e w' ⟨rfl, D3, d3, i3, o3, s3, _⟩
  obtain ⟨m1, m2⟩ := rmL_le S (fun x => x == b) f.L
  refine ⟨⟨_, rfl⟩, D3, _, d3, i3, h2.o.trans' o3 h2.sm, fun k => (h2.sm k).trans (s3 k), ?_, fun k hk => ?_, by rw [preL_datL]; omega⟩
  ·rw [hpr, if_neg (by simp), r4]
  ·rw [datL_map] at hk
   obtain ⟨k0, hk0, rfl⟩ := List.mem_map.1 hk
   exact dat_okC S _ k0 (m2 (l2 hall) k0 hk0)
end
end Go.Proofs.Ytmfjbljdbkmkgaa.Dom

/- collapse.Collapse over a tree: its walk. -/
namespace Go.Proofs.Ytmfjbljdbkmkgaa.Dom
open Go.RowKit Go.Proofs.YtmfjbljdbkmkgaaW.PrintWords Go.Proofs.YtmfjbljdbkmkgaaW.PrintLast Go.Proofs.YtmfjbljdbkmkgaaW.PrintMore Go.Proofs.Ytmfjbljdbkmkgaa.PDom Go.Proofs.Ytmfjbljdbkmkgaa.Blank Go.Proofs.Ytmfjbljdbkmkgaa.Txt
set_option linter.unusedVariables false
set_option linter.unusedSimpArgs false

set_option maxHeartbeats 40000000 in
set_option maxRecDepth 100000 in
theorem collapse_calls (w : World) (D : Tab) (hdom : Dom w D) (i : Nat) (a : Int) (d : ByteArray) (at_ : List (ByteArray × ByteArray)) (ks : List RT) (hr : Is D none (.node i 3 a d at_ ks)) (S : Srt) (fd b1 b2 b3 : Nat) (hf : Fns w D fd b1 b2 b3 S) (hall : ∀ k ∈ ks, RT.All okC k) (hfit : ∀ k ∈ ks, RT.All txFit k) :
  Calls Try.prog 47 #[ptr (some i), .pointer (some ⟨fd, 0, none⟩)] w fun e w' => e = .returned (.tuple #[]) ∧ ColEnd S w w' D i a d at_ ks := by
 have hD : D i ≠ none := by have := hr.root; rw [show (RT.node i 3 a d at_ ks).id = i from rfl] at this; rw [this]; simp
 have hDi : D i = some ⟨none, ks.map RT.id, 3, a, d, at_⟩ := hr.root
 obtain ⟨_, q1, _⟩ := node_cells hdom hD
 have e1 : firstD D i = ks.head?.map RT.id := by unfold firstD; rw [hDi]; exact List.head?_map
 rw [e1] at q1
 have HFL := Aside0.mk (fill_calls w fd b1 b2 b3 hf.box)
 have c2 : w.cell? ⟨fd, 2, none⟩ = some (nmF b3) := blk_cell hf.box 2
 unfold nmF at c2
 have HP := Aside0.mk (hf.n3.tells hdom i hD)
 rw [elem_of S.pr hDi] at HP
 have HN := Aside0.mk (nextNode_calls w D hdom fd b1 b2 b3 S hf none (fun p hp => by cases hp) i hD)
 have HSAME := Aside0.mk (show (ks = [] ∨ inL S.pr d = true) → ColEnd S w w D i a d at_ ks from fun h => ⟨D, ks, hdom, hr, Only.refl _ _, fun _ => Iff.rfl, by
  split
  ·rfl
  ·rename_i h2
   rcases h with h | h
   ·rw [h]; rfl
   ·exact absurd h h2, hall, Nat.le_refl _⟩)
 have b3 : ((3 : Int) == 3 && inL S.pr d) = inL S.pr d := by simp
 simp only [b3] at HP
 clear b3
 cases ks with
 | nil =>
  have HS := Aside0.mk (HSAME.out (.inl rfl))
  simp only [ptr_some, ptr_none, List.head?_nil, Option.map_none] at q1 HFL ⊢
  clear hr hf hall hfit hdom HP HN HSAME hD hDi e1 c2
  go_enter Try.func47, Try.ntmps47
  go_wp2_with (go_at_call 79; go_must (refine HFL.out.mono ?_; rintro e w1 ⟨rfl, rfl⟩))
  refine bodyPost_ret (v := .tuple #[]) (by simp [results, Try.results47, go_sem]) rfl ?_
  exact ⟨rfl, HS.out⟩
 | cons k0 ks0 =>
  cases hpr : inL S.pr d with
  | true =>
   have HS := Aside0.mk (HSAME.out (.inr hpr))
   rw [hpr] at HP
   simp only [ptr_some, List.head?_cons, Option.map_some] at q1 HFL HP ⊢
   clear hr hf hall hfit hdom HN HSAME hD hDi e1 hpr
   go_enter Try.func47, Try.ntmps47
   go_wp2_with (first
    | (go_at_call 79; go_must (refine HFL.out.mono ?_; rintro e w1 ⟨rfl, rfl⟩))
    | (go_at_call 61; go_must (refine HP.out.mono ?_; rintro e w1 ⟨rfl, rfl⟩)))
   refine bodyPost_ret (v := .tuple #[]) (by simp [results, Try.results47, go_sem]) rfl ?_
   exact ⟨rfl, HS.out⟩
  | false =>
   have hwf := hdom.wf
   have hnd := Is.nodup hwf _ hr
   obtain ⟨hn1, hn2⟩ := List.nodup_cons.1 (show (i :: RT.preL (k0 :: ks0)).Nodup from hnd)
   have hkd : ∀ k ∈ k0 :: ks0, Is D (some i) k := fun k hk => hr.kid (k := k) hk
   have hdat : RT.datL S (st0 D) (k0 :: ks0) = k0 :: ks0 := st0_datL S _ hkd hfit
   -- the start
   have H0 := Aside0.mk (show ColD S w D i w D ⟨i, a, d, at_, [], k0 :: ks0⟩ [] ⟨st0 D, none, false⟩ none from
    ⟨hdom, Only.refl _ _, fun _ => Iff.rfl, by
     show Is D none ((plug (⟨i, a, d, at_, [], k0 :: ks0⟩ : Fr) [] []).dat S (st0 D))
     rw [show plug (⟨i, a, d, at_, [], k0 :: ks0⟩ : Fr) [] [] = .node i 3 a d at_ (k0 :: ks0) from rfl, RT.dat, if_neg (by decide), hpr, if_pos (by simp), hdat]
     exact hr, fun g hg => by
     have : g = _ := List.mem_singleton.1 hg
     rw [this]; exact hpr, by
     show (RT.preL (k0 :: ks0) ++ restF []).Nodup
     rw [restF, List.append_nil]
     exact hn2, fun b hb => (by cases hb), st0_byt D, st0_len D, fun g hg x hx => by
     have : g = _ := List.mem_singleton.1 hg
     rw [this] at hx
     exact hall x hx, .inl ⟨rfl, .inl ⟨rfl, rfl⟩⟩, rfl⟩)
   obtain ⟨F0, hF0⟩ : ∃ F0, F0 = fin S ⟨st0 D, none, false⟩ ⟨i, a, d, at_, [], k0 :: ks0⟩ [] := ⟨_, rfl⟩
   have HF0 := Aside0.mk hF0
   have HND := Aside0.mk hn2
   have HDAT := Aside0.mk hdat
   have HALL := Aside0.mk hall
   have HFN := Aside0.mk hf
   have HPR := Aside0.mk hpr
   rw [hpr] at HP
   have e2 : nx ((none : Option Nat).bind (parD D) == some i) (elemD D S.pr i) (firstD D i) (nextD D i) (parD D i) = some k0.id := by
    rw [elem_of S.pr hDi, e1, hpr]
    rfl
   rw [e2] at HN
   have hst0 : (∀ b, Byt (st0 D b)) := st0_byt D
   have HST0 := Aside0.mk hst0
   simp only [ptr_some, ptr_none, List.head?_cons, Option.map_some] at q1 HFL HP HN ⊢
   clear hr hf hall hfit hdom HSAME hD hDi e1 hpr hwf hnd hn1 hn2 hkd hdat hF0 e2 hst0
   go_enter Try.func47, Try.ntmps47
   go_wp2_with (first
    | (go_at_call 79; go_must (refine HFL.out.mono ?_; rintro e w1 ⟨rfl, rfl⟩))
    | (go_at_call 61; go_must (refine HP.out.mono ?_; rintro e w1 ⟨rfl, rfl⟩))
    | (go_at_call 80; go_must (refine HN.out.mono ?_; rintro e w1 ⟨rfl, rfl⟩)))
   go_loopg [4, 5, 6, 7] (msr ⟨i, a, d, at_, [], k0 :: ks0⟩ []) (fun n v4 v5 v6 v7 wr => ∃ (Dr : Tab) (f : Fr) (fs : List Fr) (s : SR) (pv : Option Nat), n = msr f fs ∧ v4 = ptr s.pt ∧ v5 = .bool s.keep ∧ v6 = ptr pv ∧ v7 = ptr (some (curId f)) ∧ Aside0 (ColD S w1 D i wr Dr f fs s pv) ∧ Aside0 (fin S s f fs = F0))
   case atStart => exact ⟨D, _, _, _, _, rfl, rfl, rfl, rfl, rfl, H0, ⟨HF0.out.symm⟩⟩
   case round =>
    clear H0
    obtain ⟨Dr, f, fs, s, pv, rfl, rfl, rfl, rfl, rfl, HI, HFI⟩ := hrel
    by_cases hel : (∃ x R', f.R = x :: R' ∧ x.ty = 3) ∨ (f.R = [] ∧ ∃ g fs', fs = g :: fs')
    ·obtain ⟨dn, he⟩ := el_pack HI.out HFN.out hel F0 HFI.out
     have nq := he.neq
     have hne := he.ne
     rw [hne] at nq
     have c5 := he.ty
     obtain ⟨fb0, fb1, fb2⟩ := he.fb
     unfold nmF at fb0 fb1 fb2
     have NM := Aside0.mk he.nm
     have CB := Aside0.mk he.bk
     have CV := Aside0.mk he.vd
     have CP := Aside0.mk he.pr
     have HX := Aside0.mk he.nxt
     have hkind : S.kind dn = if (inL S.bk dn || dn.toList == brB.toList) = true then 1 else if (inL S.vd dn || (inL S.pr dn || dn.toList == codeB.toList)) = true then 2 else 3 := rfl
     have x1 : brB.toList = [98, 114] := (ByteArray.toList_eq _).trans rfl
     have x2 : codeB.toList = [99, 111, 100, 101] := (ByteArray.toList_eq _).trans rfl
     rw [x1, x2] at hkind
     clear he hel x1 x2 hne
     generalize curId f = y at *
     generalize inL S.bk dn = eb at *
     generalize inL S.vd dn = ev at *
     generalize inL S.pr dn = ep at *
     have HT := Aside0.mk (fun (b : Nat) (wx : World) => strings_TrimSuffix.calls (strOfNums (s.st b)) ⟨#[32]⟩ (strOfNums (trimB (s.st b))) wx (trim_f _ (HI.out.byt b) (HI.out.len b)))
     simp only [ptr_some] at HX ⊢
     by_cases k1 : (eb || dn.toList == [98, 114]) = true
     ·rw [if_pos k1] at hkind
      rw [hkind] at HX
      cases hpt : s.pt with
      | none =>
       obtain ⟨f', fs', hc4, hcd5, hms5, hfin5⟩ := HX.out wr Dr (HI.out.ent0 1 (.inr hpt))
       have HC := Aside0.mk hc4
       have HCD := Aside0.mk hcd5
       have HMS := Aside0.mk hms5
       have HFN' := Aside0.mk hfin5
       clear hc4 hcd5 hms5 hfin5 hpt hkind
       simp only [ptr_none]
       cases eb with
       | true =>
        go_wp2_with (first
         | (go_at_call 62; go_must (refine NM.out.mono ?_; rintro e w3 ⟨rfl, rfl⟩))
         | (go_at_call_has 61 b1; go_must (refine CB.out.mono ?_; rintro e w3 ⟨rfl, rfl⟩))
         | (go_at_call_has 61 b2; go_must (refine CV.out.mono ?_; rintro e w3 ⟨rfl, rfl⟩))
         | (go_at_call_has 61 b3; go_must (refine CP.out.mono ?_; rintro e w3 ⟨rfl, rfl⟩))
         | (go_at_call 80; go_must (refine HC.out.mono ?_; rintro e w5 ⟨rfl, rfl⟩)))
        go_roundg (msr f' fs')
        case rel => exact ⟨_, f', fs', s.ent 1, some y, rfl, rfl, rfl, rfl, rfl, HCD, HFN'⟩
        case measure => exact HMS.out
       | false =>
        have hbr : (dn.toList == [98, 114]) = true := by simpa using k1
        clear k1
        go_wp2_with (first
         | (go_at_call 62; go_must (refine NM.out.mono ?_; rintro e w3 ⟨rfl, rfl⟩))
         | (go_at_call_has 61 b1; go_must (refine CB.out.mono ?_; rintro e w3 ⟨rfl, rfl⟩))
         | (go_at_call_has 61 b2; go_must (refine CV.out.mono ?_; rintro e w3 ⟨rfl, rfl⟩))
         | (go_at_call_has 61 b3; go_must (refine CP.out.mono ?_; rintro e w3 ⟨rfl, rfl⟩))
         | (go_at_call 80; go_must (refine HC.out.mono ?_; rintro e w5 ⟨rfl, rfl⟩)))
        go_roundg (msr f' fs')
        case rel => exact ⟨_, f', fs', s.ent 1, some y, rfl, rfl, rfl, rfl, rfl, HCD, HFN'⟩
        case measure => exact HMS.out
      | some b =>
       have HPT := Aside0.mk hpt
       obtain ⟨_, _, _, _, p7, p7f⟩ := HI.out.ptext hpt
       clear hpt hkind
       simp only [ptr_some]
       cases eb with
       | true =>
        go_wp2_with (first
         | (go_at_call 62; go_must (refine NM.out.mono ?_; rintro e w3 ⟨rfl, rfl⟩))
         | (go_at_call_has 61 b1; go_must (refine CB.out.mono ?_; rintro e w3 ⟨rfl, rfl⟩))
         | (go_at_call_has 61 b2; go_must (refine CV.out.mono ?_; rintro e w3 ⟨rfl, rfl⟩))
         | (go_at_call_has 61 b3; go_must (refine CP.out.mono ?_; rintro e w3 ⟨rfl, rfl⟩))
         | (go_at_call 84; go_must (refine (HT.out b _).mono ?_; rintro e w4 ⟨rfl, hd4⟩; have hb4 := hd4.below; obtain ⟨Dr4, hcd4⟩ := (HI.out.moved hb4).ent1 HPT.out; obtain ⟨i4, _, _, _, g4, g4f⟩ := (HI.out.moved hb4).ptext HPT.out; obtain ⟨f', fs', hc4, hcd5, hms5, hfin5⟩ := HX.out _ _ hcd4; have HC := Aside0.mk hc4; have HCD := Aside0.mk hcd5; have HMS := Aside0.mk hms5; have HFN' := Aside0.mk hfin5; clear hd4 hb4 hcd4 hc4 hcd5 hms5 hfin5))
         | (go_at_call 80; go_must (refine HC.out.mono ?_; rintro e w5 ⟨rfl, rfl⟩)))
        go_roundg (msr f' fs')
        case rel => exact ⟨_, f', fs', s.ent 1, some y, rfl, rfl, rfl, rfl, rfl, HCD, HFN'⟩
        case measure => exact HMS.out
       | false =>
        have hbr : (dn.toList == [98, 114]) = true := by simpa using k1
        clear k1
        go_wp2_with (first
         | (go_at_call 62; go_must (refine NM.out.mono ?_; rintro e w3 ⟨rfl, rfl⟩))
         | (go_at_call_has 61 b1; go_must (refine CB.out.mono ?_; rintro e w3 ⟨rfl, rfl⟩))
         | (go_at_call_has 61 b2; go_must (refine CV.out.mono ?_; rintro e w3 ⟨rfl, rfl⟩))
         | (go_at_call_has 61 b3; go_must (refine CP.out.mono ?_; rintro e w3 ⟨rfl, rfl⟩))
         | (go_at_call 84; go_must (refine (HT.out b _).mono ?_; rintro e w4 ⟨rfl, hd4⟩; have hb4 := hd4.below; obtain ⟨Dr4, hcd4⟩ := (HI.out.moved hb4).ent1 HPT.out; obtain ⟨i4, _, _, _, g4, g4f⟩ := (HI.out.moved hb4).ptext HPT.out; obtain ⟨f', fs', hc4, hcd5, hms5, hfin5⟩ := HX.out _ _ hcd4; have HC := Aside0.mk hc4; have HCD := Aside0.mk hcd5; have HMS := Aside0.mk hms5; have HFN' := Aside0.mk hfin5; clear hd4 hb4 hcd4 hc4 hcd5 hms5 hfin5))
         | (go_at_call 80; go_must (refine HC.out.mono ?_; rintro e w5 ⟨rfl, rfl⟩)))
        go_roundg (msr f' fs')
        case rel => exact ⟨_, f', fs', s.ent 1, some y, rfl, rfl, rfl, rfl, rfl, HCD, HFN'⟩
        case measure => exact HMS.out
     ·have hbr : (dn.toList == [98, 114]) = false := by
       cases eb
       ·simpa using k1
       ·simp at k1
      have heb : eb = false := by
       cases eb
       ·rfl
       ·simp at k1
      subst heb
      rw [if_neg k1] at hkind
      clear k1
      by_cases k2 : (ev || (ep || dn.toList == [99, 111, 100, 101])) = true
      ·rw [if_pos k2] at hkind
       rw [hkind] at HX
       obtain ⟨f', fs', hc4, hcd5, hms5, hfin5⟩ := HX.out wr Dr (HI.out.ent0 2 (.inl (by decide)))
       have HC := Aside0.mk hc4
       have HCD := Aside0.mk hcd5
       have HMS := Aside0.mk hms5
       have HFN' := Aside0.mk hfin5
       clear hc4 hcd5 hms5 hfin5 hkind
       generalize ptr s.pt = vp at *
       cases ev with
       | true =>
        go_wp2_with (first
         | (go_at_call 62; go_must (refine NM.out.mono ?_; rintro e w3 ⟨rfl, rfl⟩))
         | (go_at_call_has 61 b1; go_must (refine CB.out.mono ?_; rintro e w3 ⟨rfl, rfl⟩))
         | (go_at_call_has 61 b2; go_must (refine CV.out.mono ?_; rintro e w3 ⟨rfl, rfl⟩))
         | (go_at_call_has 61 b3; go_must (refine CP.out.mono ?_; rintro e w3 ⟨rfl, rfl⟩))
         | (go_at_call 80; go_must (refine HC.out.mono ?_; rintro e w5 ⟨rfl, rfl⟩)))
        go_roundg (msr f' fs')
        case rel => exact ⟨_, f', fs', s.ent 2, some y, rfl, rfl, rfl, rfl, rfl, HCD, HFN'⟩
        case measure => exact HMS.out
       | false =>
        cases ep with
        | true =>
         go_wp2_with (first
         | (go_at_call 62; go_must (refine NM.out.mono ?_; rintro e w3 ⟨rfl, rfl⟩))
         | (go_at_call_has 61 b1; go_must (refine CB.out.mono ?_; rintro e w3 ⟨rfl, rfl⟩))
         | (go_at_call_has 61 b2; go_must (refine CV.out.mono ?_; rintro e w3 ⟨rfl, rfl⟩))
         | (go_at_call_has 61 b3; go_must (refine CP.out.mono ?_; rintro e w3 ⟨rfl, rfl⟩))
         | (go_at_call 80; go_must (refine HC.out.mono ?_; rintro e w5 ⟨rfl, rfl⟩)))
         go_roundg (msr f' fs')
         case rel => exact ⟨_, f', fs', s.ent 2, some y, rfl, rfl, rfl, rfl, rfl, HCD, HFN'⟩
         case measure => exact HMS.out
        | false =>
         have hcd : (dn.toList == [99, 111, 100, 101]) = true := by simpa using k2
         clear k2
         go_wp2_with (first
         | (go_at_call 62; go_must (refine NM.out.mono ?_; rintro e w3 ⟨rfl, rfl⟩))
         | (go_at_call_has 61 b1; go_must (refine CB.out.mono ?_; rintro e w3 ⟨rfl, rfl⟩))
         | (go_at_call_has 61 b2; go_must (refine CV.out.mono ?_; rintro e w3 ⟨rfl, rfl⟩))
         | (go_at_call_has 61 b3; go_must (refine CP.out.mono ?_; rintro e w3 ⟨rfl, rfl⟩))
         | (go_at_call 80; go_must (refine HC.out.mono ?_; rintro e w5 ⟨rfl, rfl⟩)))
         go_roundg (msr f' fs')
         case rel => exact ⟨_, f', fs', s.ent 2, some y, rfl, rfl, rfl, rfl, rfl, HCD, HFN'⟩
         case measure => exact HMS.out
      ·rw [if_neg k2] at hkind
       have hcd : (dn.toList == [99, 111, 100, 101]) = false := by
        cases ev
        ·cases ep
         ·simpa using k2
         ·simp at k2
        ·simp at k2
       have hev : ev = false := by
        cases ev
        ·rfl
        ·simp at k2
       have hep : ep = false := by
        cases ev
        ·cases ep
         ·rfl
         ·simp at k2
        ·simp at k2
       subst hev
       subst hep
       clear k2
       rw [hkind] at HX
       obtain ⟨f', fs', hc4, hcd5, hms5, hfin5⟩ := HX.out wr Dr (HI.out.ent0 3 (.inl (by decide)))
       have HC := Aside0.mk hc4
       have HCD := Aside0.mk hcd5
       have HMS := Aside0.mk hms5
       have HFN' := Aside0.mk hfin5
       clear hc4 hcd5 hms5 hfin5 hkind
       cases hpt : s.pt with
       | none =>
        have HPE := Aside0.mk (show (.pointer none : Value) = ptr (s.ent 3).pt from by
         unfold SR.ent
         rw [if_neg (by decide), if_neg (by decide), hpt]
         simp [hpt, ptr_none])
        have HKE := Aside0.mk (show (Value.bool s.keep) = .bool (s.ent 3).keep from by
         unfold SR.ent
         rw [if_neg (by decide), if_neg (by decide), hpt]
         rfl)
        clear hpt
        simp only [ptr_none]
        go_wp2_with (first
         | (go_at_call 62; go_must (refine NM.out.mono ?_; rintro e w3 ⟨rfl, rfl⟩))
         | (go_at_call_has 61 b1; go_must (refine CB.out.mono ?_; rintro e w3 ⟨rfl, rfl⟩))
         | (go_at_call_has 61 b2; go_must (refine CV.out.mono ?_; rintro e w3 ⟨rfl, rfl⟩))
         | (go_at_call_has 61 b3; go_must (refine CP.out.mono ?_; rintro e w3 ⟨rfl, rfl⟩))
         | (go_at_call 80; go_must (refine HC.out.mono ?_; rintro e w5 ⟨rfl, rfl⟩)))
        go_roundg (msr f' fs')
        case rel => exact ⟨_, f', fs', s.ent 3, some y, rfl, HPE.out, HKE.out, rfl, rfl, HCD, HFN'⟩
        case measure => exact HMS.out
       | some b =>
        have HPE := Aside0.mk (show (.pointer (some ⟨b, 0, none⟩) : Value) = ptr (s.ent 3).pt from by
         unfold SR.ent
         rw [if_neg (by decide), if_neg (by decide), hpt]
         simp [hpt, ptr_some])
        have HKE := Aside0.mk (show (Value.bool false) = .bool (s.ent 3).keep from by
         unfold SR.ent
         rw [if_neg (by decide), if_neg (by decide), hpt]
         rfl)
        clear hpt
        simp only [ptr_some]
        go_wp2_with (first
         | (go_at_call 62; go_must (refine NM.out.mono ?_; rintro e w3 ⟨rfl, rfl⟩))
         | (go_at_call_has 61 b1; go_must (refine CB.out.mono ?_; rintro e w3 ⟨rfl, rfl⟩))
         | (go_at_call_has 61 b2; go_must (refine CV.out.mono ?_; rintro e w3 ⟨rfl, rfl⟩))
         | (go_at_call_has 61 b3; go_must (refine CP.out.mono ?_; rintro e w3 ⟨rfl, rfl⟩))
         | (go_at_call 80; go_must (refine HC.out.mono ?_; rintro e w5 ⟨rfl, rfl⟩)))
        go_roundg (msr f' fs')
        case rel => exact ⟨_, f', fs', s.ent 3, some y, rfl, HPE.out, HKE.out, rfl, rfl, HCD, HFN'⟩
        case measure => exact HMS.out
    ·rcases hRc : f.R with _ | ⟨x, R'⟩
     ·have hfs : fs = [] := by
       cases fs with
       | nil => rfl
       | cons g fs' => exact absurd (.inr ⟨hRc, g, fs', rfl⟩) hel
      subst hfs
      clear hel
      have hri := HI.out.rt
      have hcur : curId f = i := by unfold curId; rw [hRc]; exact hri
      rw [hcur]
      have nq := neq_tab HI.out.d (root_in HI.out) (root_in HI.out)
      have hii : (i != i) = false := by simp
      rw [hii] at nq
      have HF1 : fin S s f [] = fin S ⟨st0 D, none, false⟩ ⟨i, a, d, at_, [], k0 :: ks0⟩ [] := HFI.out.trans HF0.out
      clear hii hri hcur
      cases hpt : s.pt with
      | none =>
       have HE := Aside0.mk (end_none HI.out hRc hpt HF1 HND.out HDAT.out HALL.out HPR.out)
       clear HF1 hRc hpt
       simp only [ptr_none, ptr_some]
       go_wp2_with fail
       go_end0
       exact ⟨rfl, HE.out⟩
      | some b =>
       have HPT := Aside0.mk hpt
       obtain ⟨_, _, _, _, p7, p7f⟩ := HI.out.ptext hpt
       have HT := Aside0.mk (fun (wx : World) => strings_TrimSuffix.calls (strOfNums (s.st b)) ⟨#[32]⟩ (strOfNums (trimB (s.st b))) wx (trim_f _ (HI.out.byt b) (HI.out.len b)))
       have HES := Aside0.mk (fun (wx : World) (hb : Below wr.heap.size wr wx) => end_some (HI.out.moved hb) hRc hpt HF1 HND.out HDAT.out HALL.out HPR.out)
       clear HF1 hRc hpt
       simp only [ptr_some]
       by_cases htr : trimB (s.st b) = []
       ·have HTR := Aside0.mk htr
        have e0 : strOfNums (trimB (s.st b)) = ⟨#[]⟩ := by rw [htr]; rfl
        rw [e0] at HT HES
        clear htr e0
        go_wp2_with (first
         | (go_at_call 84; go_must (refine (HT.out _).mono ?_; rintro e w4 ⟨rfl, hd4⟩; have hb4 := hd4.below; obtain ⟨i4, _, _, _, g4, g4f⟩ := (HI.out.moved hb4).ptext HPT.out; have HRM := Aside0.mk ((HES.out _ hb4).2 HTR.out); clear hd4 hb4))
         | (go_at_call 83; go_must (refine HRM.out.mono ?_; rintro e w5 ⟨⟨v5, rfl⟩, he5⟩; have HE := Aside0.mk he5; clear he5)))
        go_end0
        exact ⟨rfl, HE.out⟩
       ·have hnl : ¬ (strOfNums (trimB (s.st b))).toList = [] := fun h => by
         rw [ByteArray.toList_eq] at h
         have h2 : (strOfNums (trimB (s.st b))).size = 0 := by show (strOfNums (trimB (s.st b))).data.size = 0; rw [← Array.length_toList, h]; rfl
         rw [str_size] at h2
         exact htr (List.eq_nil_of_length_eq_zero h2)
        have n0 : decide ((strOfNums (trimB (s.st b))).toList = []) = false := decide_eq_false hnl
        have n1 : ((strOfNums (trimB (s.st b))).toList == []) = false := beq_eq_false_iff_ne.2 hnl
        have HTR := Aside0.mk htr
        clear htr
        generalize strOfNums (trimB (s.st b)) = B at *
        go_wp2_with (go_at_call 84; go_must (refine (HT.out _).mono ?_; rintro e w4 ⟨rfl, hd4⟩; have hb4 := hd4.below; obtain ⟨i4, _, _, _, g4, g4f⟩ := (HI.out.moved hb4).ptext HPT.out; have HE := Aside0.mk ((HES.out _ hb4).1 HTR.out); clear hd4 hb4))
        go_end0
        exact ⟨rfl, HE.out⟩
     ·have hx3 : x.ty ≠ 3 := fun e => hel (.inl ⟨x, R', hRc, e⟩)
      have hokx := HI.out.all f (by simp) x (by rw [hRc]; simp)
      have hcur : curId f = x.id := by unfold curId; rw [hRc]
      rw [hcur]
      by_cases h1 : x.ty = 1
      ·have ht := tx_pack HI.out HFN.out hRc h1 F0 HFI.out
       have nq := ht.neq
       have hne := ht.ne
       rw [hne] at nq
       have c5 := ht.ty
       have c7 := ht.dt
       have HKP := Aside0.mk ht.keep
       have HDR := Aside0.mk ht.drop
       have HB := Aside0.mk (repl_calls (s.st x.id) (HI.out.byt _) (HI.out.len _) wr)
       obtain ⟨C, hC⟩ : ∃ C, C = (s.bits.pt.getD true && !s.keep) := ⟨_, rfl⟩
       have hct : s.ct x.id = cut1 C (norm false (s.st x.id)) := by rw [hC]; rfl
       have htb : Byt (norm false (s.st x.id)) := norm_byt _ _ (HI.out.byt _)
       have htl : (norm false (s.st x.id)).length ≤ 2147483647 := Nat.le_trans (norm_len _ _) (HI.out.len _)
       have HSF := Aside0.mk (fun (b : Nat) (wx : World) => strings_HasSuffix.calls (strOfNums (s.st b)) ⟨#[32]⟩ ((s.st b).getLast? == some 32) wx (suffix_f _ (HI.out.byt b) (HI.out.len b)))
       clear ht hel hx3 hokx hcur hne
       generalize norm false (s.st x.id) = t at *
       obtain ⟨ctl, hctl⟩ : ∃ ctl, ctl = s.ct x.id := ⟨_, rfl⟩
       rw [← hctl] at hct HKP HDR
       obtain ⟨s2, hs2⟩ : ∃ s2, s2 = s.txt x.id := ⟨_, rfl⟩
       rw [← hs2] at HKP HDR
       have hpt2 : ctl.isEmpty = false → s2.pt = some x.id ∧ s2.keep = s.keep := fun h => by
        rw [hs2]
        unfold SR.txt
        rw [← hctl, h, if_neg (by simp)]
        exact ⟨rfl, rfl⟩
       have hpt3 : ctl.isEmpty = true → s2.pt = s.pt ∧ s2.keep = s.keep := fun h => by
        rw [hs2]
        unfold SR.txt
        rw [← hctl, if_pos h]
        exact ⟨rfl, rfl⟩
       have HP2 := Aside0.mk hpt2
       have HP3 := Aside0.mk hpt3
       clear hctl hs2 hpt2 hpt3 hRc h1
       generalize x.id = y at *
       have HCT := Aside0.mk hct
       have HTB := Aside0.mk htb
       have HTL := Aside0.mk htl
       clear hct htb htl
       obtain ⟨A, hA⟩ : ∃ A, A = strOfNums t := ⟨_, rfl⟩
       rw [← hA] at HB
       have HA := Aside0.mk hA
       clear hA
       simp only [ptr_some]
       -- TEXT
       cases hpt : s.pt with
       | none =>
        have HPT := Aside0.mk hpt
        have hC2 : C = !s.keep := by
         rw [hC]
         unfold SR.bits
         rw [hpt]
         rfl
        have HC2 := Aside0.mk hC2
        clear hC2 hC hpt
        simp only [ptr_none]
        cases hkp : s.keep with
        | true =>
         have HKP0 := Aside0.mk hkp
         clear hkp
         go_upto_region 9 with (go_at_call 81; go_must (refine HB.out.mono ?_; rintro e w3 ⟨rfl, hb3⟩; have HB3 := Aside0.mk hb3; clear hb3))
         go_cut [63] (fun v63 wc => v63 = .bool (C && t.head? == some 32) ∧ Aside0 (Below wr.heap.size wr wc))
         case first =>
          go_wp2_with fail
          go_meet
          exact ⟨by rw [HC2.out, HKP0.out]; rfl, HB3⟩
         case rest =>
          clear HB
          obtain ⟨rfl, HB5⟩ := hcut
          cases hcb : (C && t.head? == some 32) with
          | true =>
           have hctt : ctl = t.tail := by
            rw [HCT.out]
            unfold cut1
            rw [if_pos hcb]
           have hhd : ∃ t', t = 32 :: t' := by
            rw [Bool.and_eq_true] at hcb
            cases t with
            | nil => exact absurd hcb.2 (by simp)
            | cons c t => exact ⟨t, by have := eq_of_beq hcb.2; rw [Option.some.inj this]⟩
           obtain ⟨t', rfl⟩ := hhd
           have hsz : A.size = t'.length + 1 := by rw [HA.out, str_size]; rfl
           have q10 : ((1 : Int) ≤ (A.size : Int)) = True := eq_true (by omega)
           have q11 : (1 ≤ A.size) = True := eq_true (by omega)
           have hsl : A.extract 1 A.size = strOfNums ctl := by
            rw [hctt, hsz, HA.out]
            apply ByteArray.ext
            rw [ByteArray.data_extract]
            apply Array.ext'
            simp [strOfNums] <;> exact List.take_of_length_le (by simp)
           clear hsz hctt hcb
           cases he : ctl.isEmpty with
           | true =>
            have HE := Aside0.mk he
            have hnil : ctl = [] := List.isEmpty_iff.1 he
            have e0 : strOfNums ctl = ⟨#[]⟩ := by rw [hnil]; rfl
            have HRM := Aside0.mk (HDR.out wc HB5.out he)
            rw [e0] at hsl
            clear he hnil e0
            go_wp2_with (go_at_call 83; go_must (refine HRM.out.mono ?_; rintro e w6 ⟨D6, f', fs', rfl, hcd6, hms6, hfin6⟩; have HCD := Aside0.mk hcd6; have HMS := Aside0.mk hms6; have HFN' := Aside0.mk hfin6; clear hcd6 hms6 hfin6))
            go_roundg (msr f' fs')
            case rel => exact ⟨D6, f', fs', s2, pv, rfl, by rw [(HP3.out HE.out).1, HPT.out]; rfl, by rw [(HP3.out HE.out).2, HKP0.out], rfl, rfl, HCD, HFN'⟩
            case measure => exact HMS.out
           | false =>
            have HE := Aside0.mk he
            obtain ⟨g7f, g7s, D6, f', fs', hc6, hcd6, hms6, hfin6⟩ := HKP.out wc HB5.out he
            obtain ⟨v7, g7⟩ := Option.isSome_iff_exists.1 g7s
            have HC := Aside0.mk hc6
            have HCD := Aside0.mk hcd6
            have HMS := Aside0.mk hms6
            have HFN' := Aside0.mk hfin6
            have hnl : ¬ (strOfNums ctl).toList = [] := fun h => by
             rw [ByteArray.toList_eq] at h
             have h2 : (strOfNums ctl).size = 0 := by show (strOfNums ctl).data.size = 0; rw [← Array.length_toList, h]; rfl
             rw [str_size] at h2
             have : ctl = [] := List.eq_nil_of_length_eq_zero h2
             rw [this] at he
             cases he
            have n0 : decide ((strOfNums ctl).toList = []) = false := decide_eq_false hnl
            have n1 : ((strOfNums ctl).toList == []) = false := beq_eq_false_iff_ne.2 hnl
            clear he g7s hc6 hcd6 hms6 hfin6
            generalize strOfNums ctl = B at *
            go_wp2_with (go_at_call 80; go_must (refine HC.out.mono ?_; rintro e w6 ⟨rfl, rfl⟩))
            go_roundg (msr f' fs')
            case rel => exact ⟨D6, f', fs', s2, some y, rfl, by rw [(HP2.out HE.out).1]; rfl, by rw [(HP2.out HE.out).2, HKP0.out], rfl, rfl, HCD, HFN'⟩
            case measure => exact HMS.out
          | false =>
           have hsl : ctl = t := by
            rw [HCT.out]
            unfold cut1
            rw [if_neg (by rw [hcb]; simp)]
           obtain rfl : A = strOfNums ctl := by rw [HA.out, hsl]
           clear hcb
           have hsl : True := trivial
           cases he : ctl.isEmpty with
           | true =>
            have HE := Aside0.mk he
            have hnil : ctl = [] := List.isEmpty_iff.1 he
            have e0 : strOfNums ctl = ⟨#[]⟩ := by rw [hnil]; rfl
            have HRM := Aside0.mk (HDR.out wc HB5.out he)
            rw [e0]
            clear he hnil e0
            go_wp2_with (go_at_call 83; go_must (refine HRM.out.mono ?_; rintro e w6 ⟨D6, f', fs', rfl, hcd6, hms6, hfin6⟩; have HCD := Aside0.mk hcd6; have HMS := Aside0.mk hms6; have HFN' := Aside0.mk hfin6; clear hcd6 hms6 hfin6))
            go_roundg (msr f' fs')
            case rel => exact ⟨D6, f', fs', s2, pv, rfl, by rw [(HP3.out HE.out).1, HPT.out]; rfl, by rw [(HP3.out HE.out).2, HKP0.out], rfl, rfl, HCD, HFN'⟩
            case measure => exact HMS.out
           | false =>
            have HE := Aside0.mk he
            obtain ⟨g7f, g7s, D6, f', fs', hc6, hcd6, hms6, hfin6⟩ := HKP.out wc HB5.out he
            obtain ⟨v7, g7⟩ := Option.isSome_iff_exists.1 g7s
            have HC := Aside0.mk hc6
            have HCD := Aside0.mk hcd6
            have HMS := Aside0.mk hms6
            have HFN' := Aside0.mk hfin6
            have hnl : ¬ (strOfNums ctl).toList = [] := fun h => by
             rw [ByteArray.toList_eq] at h
             have h2 : (strOfNums ctl).size = 0 := by show (strOfNums ctl).data.size = 0; rw [← Array.length_toList, h]; rfl
             rw [str_size] at h2
             have : ctl = [] := List.eq_nil_of_length_eq_zero h2
             rw [this] at he
             cases he
            have n0 : decide ((strOfNums ctl).toList = []) = false := decide_eq_false hnl
            have n1 : ((strOfNums ctl).toList == []) = false := beq_eq_false_iff_ne.2 hnl
            clear he g7s hc6 hcd6 hms6 hfin6
            generalize strOfNums ctl = B at *
            go_wp2_with (go_at_call 80; go_must (refine HC.out.mono ?_; rintro e w6 ⟨rfl, rfl⟩))
            go_roundg (msr f' fs')
            case rel => exact ⟨D6, f', fs', s2, some y, rfl, by rw [(HP2.out HE.out).1]; rfl, by rw [(HP2.out HE.out).2, HKP0.out], rfl, rfl, HCD, HFN'⟩
            case measure => exact HMS.out
        | false =>
         have HKP0 := Aside0.mk hkp
         clear hkp
         go_upto_region 9 with (go_at_call 81; go_must (refine HB.out.mono ?_; rintro e w3 ⟨rfl, hb3⟩; have HB3 := Aside0.mk hb3; clear hb3))
         go_cut [63] (fun v63 wc => v63 = .bool (C && t.head? == some 32) ∧ Aside0 (Below wr.heap.size wr wc))
         case first =>
          have CT := Aside0.mk (show C = true from by rw [HC2.out, HKP0.out]; rfl)
          cases t with
          | nil =>
           have e0 : A.toList = [] := by rw [HA.out, ByteArray.toList_eq]; rfl
           have n0 : decide (A.toList = []) = true := decide_eq_true e0
           have n1 : (A.toList == []) = true := beq_iff_eq.2 e0
           clear e0
           go_wp2_with fail
           go_meet
           exact ⟨by rw [CT.out]; rfl, HB3⟩
          | cons c t =>
           have hsz : A.size = t.length + 1 := by rw [HA.out, str_size]; rfl
           have hx9 : ∀ h, (((A[0]'h).toNat : Nat) : Int) = bt A 0 := fun h => bt_at A 0 h
           have hbt : bt A 0 = c := by rw [HA.out, bt_str HTB.out]; rfl
           have q8 : ((0 : Int) < (A.size : Int)) = True := eq_true (by omega)
           have q9 : (0 < A.size) = True := eq_true (by omega)
           have hnl : ¬ A.toList = [] := fun h => by
            rw [ByteArray.toList_eq] at h
            have : A.size = 0 := by show A.data.size = 0; rw [← Array.length_toList, h]; rfl
            omega
           have n0 : decide (A.toList = []) = false := decide_eq_false hnl
           have n1 : (A.toList == []) = false := beq_eq_false_iff_ne.2 hnl
           have HBT := Aside0.mk hbt
           clear hbt hsz
           by_cases h32 : bt A 0 = 32
           ·have c32 := decide_eq_true h32
            have b32 : (bt A 0 == 32) = true := beq_iff_eq.2 h32
            have HC32 := Aside0.mk (show (true && (c :: t).head? == some 32) = true from by rw [← HBT.out, h32]; rfl)
            go_wp2_with fail
            go_meet
            exact ⟨by rw [CT.out, HC32.out], HB3⟩
           ·have c32 := decide_eq_false h32
            have b32 : (bt A 0 == 32) = false := beq_eq_false_iff_ne.2 h32
            have HC32 := Aside0.mk (show (true && (c :: t).head? == some 32) = false from by rw [← HBT.out]; simp [h32])
            go_wp2_with fail
            go_meet
            exact ⟨by rw [CT.out, HC32.out], HB3⟩
         case rest =>
          clear HB
          obtain ⟨rfl, HB5⟩ := hcut
          cases hcb : (C && t.head? == some 32) with
          | true =>
           have hctt : ctl = t.tail := by
            rw [HCT.out]
            unfold cut1
            rw [if_pos hcb]
           have hhd : ∃ t', t = 32 :: t' := by
            rw [Bool.and_eq_true] at hcb
            cases t with
            | nil => exact absurd hcb.2 (by simp)
            | cons c t => exact ⟨t, by have := eq_of_beq hcb.2; rw [Option.some.inj this]⟩
           obtain ⟨t', rfl⟩ := hhd
           have hsz : A.size = t'.length + 1 := by rw [HA.out, str_size]; rfl
           have q10 : ((1 : Int) ≤ (A.size : Int)) = True := eq_true (by omega)
           have q11 : (1 ≤ A.size) = True := eq_true (by omega)
           have hsl : A.extract 1 A.size = strOfNums ctl := by
            rw [hctt, hsz, HA.out]
            apply ByteArray.ext
            rw [ByteArray.data_extract]
            apply Array.ext'
            simp [strOfNums] <;> exact List.take_of_length_le (by simp)
           clear hsz hctt hcb
           cases he : ctl.isEmpty with
           | true =>
            have HE := Aside0.mk he
            have hnil : ctl = [] := List.isEmpty_iff.1 he
            have e0 : strOfNums ctl = ⟨#[]⟩ := by rw [hnil]; rfl
            have HRM := Aside0.mk (HDR.out wc HB5.out he)
            rw [e0] at hsl
            clear he hnil e0
            go_wp2_with (go_at_call 83; go_must (refine HRM.out.mono ?_; rintro e w6 ⟨D6, f', fs', rfl, hcd6, hms6, hfin6⟩; have HCD := Aside0.mk hcd6; have HMS := Aside0.mk hms6; have HFN' := Aside0.mk hfin6; clear hcd6 hms6 hfin6))
            go_roundg (msr f' fs')
            case rel => exact ⟨D6, f', fs', s2, pv, rfl, by rw [(HP3.out HE.out).1, HPT.out]; rfl, by rw [(HP3.out HE.out).2, HKP0.out], rfl, rfl, HCD, HFN'⟩
            case measure => exact HMS.out
           | false =>
            have HE := Aside0.mk he
            obtain ⟨g7f, g7s, D6, f', fs', hc6, hcd6, hms6, hfin6⟩ := HKP.out wc HB5.out he
            obtain ⟨v7, g7⟩ := Option.isSome_iff_exists.1 g7s
            have HC := Aside0.mk hc6
            have HCD := Aside0.mk hcd6
            have HMS := Aside0.mk hms6
            have HFN' := Aside0.mk hfin6
            have hnl : ¬ (strOfNums ctl).toList = [] := fun h => by
             rw [ByteArray.toList_eq] at h
             have h2 : (strOfNums ctl).size = 0 := by show (strOfNums ctl).data.size = 0; rw [← Array.length_toList, h]; rfl
             rw [str_size] at h2
             have : ctl = [] := List.eq_nil_of_length_eq_zero h2
             rw [this] at he
             cases he
            have n0 : decide ((strOfNums ctl).toList = []) = false := decide_eq_false hnl
            have n1 : ((strOfNums ctl).toList == []) = false := beq_eq_false_iff_ne.2 hnl
            clear he g7s hc6 hcd6 hms6 hfin6
            generalize strOfNums ctl = B at *
            go_wp2_with (go_at_call 80; go_must (refine HC.out.mono ?_; rintro e w6 ⟨rfl, rfl⟩))
            go_roundg (msr f' fs')
            case rel => exact ⟨D6, f', fs', s2, some y, rfl, by rw [(HP2.out HE.out).1]; rfl, by rw [(HP2.out HE.out).2, HKP0.out], rfl, rfl, HCD, HFN'⟩
            case measure => exact HMS.out
          | false =>
           have hsl : ctl = t := by
            rw [HCT.out]
            unfold cut1
            rw [if_neg (by rw [hcb]; simp)]
           obtain rfl : A = strOfNums ctl := by rw [HA.out, hsl]
           clear hcb
           have hsl : True := trivial
           cases he : ctl.isEmpty with
           | true =>
            have HE := Aside0.mk he
            have hnil : ctl = [] := List.isEmpty_iff.1 he
            have e0 : strOfNums ctl = ⟨#[]⟩ := by rw [hnil]; rfl
            have HRM := Aside0.mk (HDR.out wc HB5.out he)
            rw [e0]
            clear he hnil e0
            go_wp2_with (go_at_call 83; go_must (refine HRM.out.mono ?_; rintro e w6 ⟨D6, f', fs', rfl, hcd6, hms6, hfin6⟩; have HCD := Aside0.mk hcd6; have HMS := Aside0.mk hms6; have HFN' := Aside0.mk hfin6; clear hcd6 hms6 hfin6))
            go_roundg (msr f' fs')
            case rel => exact ⟨D6, f', fs', s2, pv, rfl, by rw [(HP3.out HE.out).1, HPT.out]; rfl, by rw [(HP3.out HE.out).2, HKP0.out], rfl, rfl, HCD, HFN'⟩
            case measure => exact HMS.out
           | false =>
            have HE := Aside0.mk he
            obtain ⟨g7f, g7s, D6, f', fs', hc6, hcd6, hms6, hfin6⟩ := HKP.out wc HB5.out he
            obtain ⟨v7, g7⟩ := Option.isSome_iff_exists.1 g7s
            have HC := Aside0.mk hc6
            have HCD := Aside0.mk hcd6
            have HMS := Aside0.mk hms6
            have HFN' := Aside0.mk hfin6
            have hnl : ¬ (strOfNums ctl).toList = [] := fun h => by
             rw [ByteArray.toList_eq] at h
             have h2 : (strOfNums ctl).size = 0 := by show (strOfNums ctl).data.size = 0; rw [← Array.length_toList, h]; rfl
             rw [str_size] at h2
             have : ctl = [] := List.eq_nil_of_length_eq_zero h2
             rw [this] at he
             cases he
            have n0 : decide ((strOfNums ctl).toList = []) = false := decide_eq_false hnl
            have n1 : ((strOfNums ctl).toList == []) = false := beq_eq_false_iff_ne.2 hnl
            clear he g7s hc6 hcd6 hms6 hfin6
            generalize strOfNums ctl = B at *
            go_wp2_with (go_at_call 80; go_must (refine HC.out.mono ?_; rintro e w6 ⟨rfl, rfl⟩))
            go_roundg (msr f' fs')
            case rel => exact ⟨D6, f', fs', s2, some y, rfl, by rw [(HP2.out HE.out).1]; rfl, by rw [(HP2.out HE.out).2, HKP0.out], rfl, rfl, HCD, HFN'⟩
            case measure => exact HMS.out
       | some b =>
        have HPT := Aside0.mk hpt
        have hC2 : C = (((s.st b).getLast? == some 32) && !s.keep) := by
         rw [hC]
         unfold SR.bits
         rw [hpt]
         rfl
        have HC2 := Aside0.mk hC2
        clear hC2 hC hpt
        simp only [ptr_some]
        cases hkp : s.keep with
        | true =>
         have HKP0 := Aside0.mk hkp
         clear hkp
         go_upto_region 9 with (go_at_call 81; go_must (refine HB.out.mono ?_; rintro e w3 ⟨rfl, hb3⟩; have HB3 := Aside0.mk hb3; obtain ⟨i4, _, _, _, g4, _⟩ := (HI.out.moved hb3).ptext HPT.out; clear hb3))
         go_cut [63] (fun v63 wc => v63 = .bool (C && t.head? == some 32) ∧ Aside0 (Below wr.heap.size wr wc))
         case first =>
          cases hbl : ((s.st b).getLast? == some 32) with
          | true =>
           have HBL := Aside0.mk hbl
           have HS2 := Aside0.mk (fun wx => HSF.out b wx)
           rw [hbl] at HS2
           clear hbl
           go_wp2_with (go_at_call 82; go_must (refine (HS2.out _).mono ?_; rintro e w4 ⟨rfl, hd4⟩; have HB4 := Aside0.mk (below_step HB3.out hd4.below); clear hd4))
           go_meet
           exact ⟨by rw [HC2.out, HBL.out, HKP0.out]; rfl, HB4⟩
          | false =>
           have HBL := Aside0.mk hbl
           have HS2 := Aside0.mk (fun wx => HSF.out b wx)
           rw [hbl] at HS2
           clear hbl
           go_wp2_with (go_at_call 82; go_must (refine (HS2.out _).mono ?_; rintro e w4 ⟨rfl, hd4⟩; have HB4 := Aside0.mk (below_step HB3.out hd4.below); clear hd4))
           go_meet
           exact ⟨by rw [HC2.out, HBL.out, HKP0.out]; rfl, HB4⟩
         case rest =>
          clear HB
          obtain ⟨rfl, HB5⟩ := hcut
          cases hcb : (C && t.head? == some 32) with
          | true =>
           have hctt : ctl = t.tail := by
            rw [HCT.out]
            unfold cut1
            rw [if_pos hcb]
           have hhd : ∃ t', t = 32 :: t' := by
            rw [Bool.and_eq_true] at hcb
            cases t with
            | nil => exact absurd hcb.2 (by simp)
            | cons c t => exact ⟨t, by have := eq_of_beq hcb.2; rw [Option.some.inj this]⟩
           obtain ⟨t', rfl⟩ := hhd
           have hsz : A.size = t'.length + 1 := by rw [HA.out, str_size]; rfl
           have q10 : ((1 : Int) ≤ (A.size : Int)) = True := eq_true (by omega)
           have q11 : (1 ≤ A.size) = True := eq_true (by omega)
           have hsl : A.extract 1 A.size = strOfNums ctl := by
            rw [hctt, hsz, HA.out]
            apply ByteArray.ext
            rw [ByteArray.data_extract]
            apply Array.ext'
            simp [strOfNums] <;> exact List.take_of_length_le (by simp)
           clear hsz hctt hcb
           cases he : ctl.isEmpty with
           | true =>
            have HE := Aside0.mk he
            have hnil : ctl = [] := List.isEmpty_iff.1 he
            have e0 : strOfNums ctl = ⟨#[]⟩ := by rw [hnil]; rfl
            have HRM := Aside0.mk (HDR.out wc HB5.out he)
            rw [e0] at hsl
            clear he hnil e0
            go_wp2_with (go_at_call 83; go_must (refine HRM.out.mono ?_; rintro e w6 ⟨D6, f', fs', rfl, hcd6, hms6, hfin6⟩; have HCD := Aside0.mk hcd6; have HMS := Aside0.mk hms6; have HFN' := Aside0.mk hfin6; clear hcd6 hms6 hfin6))
            go_roundg (msr f' fs')
            case rel => exact ⟨D6, f', fs', s2, pv, rfl, by rw [(HP3.out HE.out).1, HPT.out]; rfl, by rw [(HP3.out HE.out).2, HKP0.out], rfl, rfl, HCD, HFN'⟩
            case measure => exact HMS.out
           | false =>
            have HE := Aside0.mk he
            obtain ⟨g7f, g7s, D6, f', fs', hc6, hcd6, hms6, hfin6⟩ := HKP.out wc HB5.out he
            obtain ⟨v7, g7⟩ := Option.isSome_iff_exists.1 g7s
            have HC := Aside0.mk hc6
            have HCD := Aside0.mk hcd6
            have HMS := Aside0.mk hms6
            have HFN' := Aside0.mk hfin6
            have hnl : ¬ (strOfNums ctl).toList = [] := fun h => by
             rw [ByteArray.toList_eq] at h
             have h2 : (strOfNums ctl).size = 0 := by show (strOfNums ctl).data.size = 0; rw [← Array.length_toList, h]; rfl
             rw [str_size] at h2
             have : ctl = [] := List.eq_nil_of_length_eq_zero h2
             rw [this] at he
             cases he
            have n0 : decide ((strOfNums ctl).toList = []) = false := decide_eq_false hnl
            have n1 : ((strOfNums ctl).toList == []) = false := beq_eq_false_iff_ne.2 hnl
            clear he g7s hc6 hcd6 hms6 hfin6
            generalize strOfNums ctl = B at *
            go_wp2_with (go_at_call 80; go_must (refine HC.out.mono ?_; rintro e w6 ⟨rfl, rfl⟩))
            go_roundg (msr f' fs')
            case rel => exact ⟨D6, f', fs', s2, some y, rfl, by rw [(HP2.out HE.out).1]; rfl, by rw [(HP2.out HE.out).2, HKP0.out], rfl, rfl, HCD, HFN'⟩
            case measure => exact HMS.out
          | false =>
           have hsl : ctl = t := by
            rw [HCT.out]
            unfold cut1
            rw [if_neg (by rw [hcb]; simp)]
           obtain rfl : A = strOfNums ctl := by rw [HA.out, hsl]
           clear hcb
           have hsl : True := trivial
           cases he : ctl.isEmpty with
           | true =>
            have HE := Aside0.mk he
            have hnil : ctl = [] := List.isEmpty_iff.1 he
            have e0 : strOfNums ctl = ⟨#[]⟩ := by rw [hnil]; rfl
            have HRM := Aside0.mk (HDR.out wc HB5.out he)
            rw [e0]
            clear he hnil e0
            go_wp2_with (go_at_call 83; go_must (refine HRM.out.mono ?_; rintro e w6 ⟨D6, f', fs', rfl, hcd6, hms6, hfin6⟩; have HCD := Aside0.mk hcd6; have HMS := Aside0.mk hms6; have HFN' := Aside0.mk hfin6; clear hcd6 hms6 hfin6))
            go_roundg (msr f' fs')
            case rel => exact ⟨D6, f', fs', s2, pv, rfl, by rw [(HP3.out HE.out).1, HPT.out]; rfl, by rw [(HP3.out HE.out).2, HKP0.out], rfl, rfl, HCD, HFN'⟩
            case measure => exact HMS.out
           | false =>
            have HE := Aside0.mk he
            obtain ⟨g7f, g7s, D6, f', fs', hc6, hcd6, hms6, hfin6⟩ := HKP.out wc HB5.out he
            obtain ⟨v7, g7⟩ := Option.isSome_iff_exists.1 g7s
            have HC := Aside0.mk hc6
            have HCD := Aside0.mk hcd6
            have HMS := Aside0.mk hms6
            have HFN' := Aside0.mk hfin6
            have hnl : ¬ (strOfNums ctl).toList = [] := fun h => by
             rw [ByteArray.toList_eq] at h
             have h2 : (strOfNums ctl).size = 0 := by show (strOfNums ctl).data.size = 0; rw [← Array.length_toList, h]; rfl
             rw [str_size] at h2
             have : ctl = [] := List.eq_nil_of_length_eq_zero h2
             rw [this] at he
             cases he
            have n0 : decide ((strOfNums ctl).toList = []) = false := decide_eq_false hnl
            have n1 : ((strOfNums ctl).toList == []) = false := beq_eq_false_iff_ne.2 hnl
            clear he g7s hc6 hcd6 hms6 hfin6
            generalize strOfNums ctl = B at *
            go_wp2_with (go_at_call 80; go_must (refine HC.out.mono ?_; rintro e w6 ⟨rfl, rfl⟩))
            go_roundg (msr f' fs')
            case rel => exact ⟨D6, f', fs', s2, some y, rfl, by rw [(HP2.out HE.out).1]; rfl, by rw [(HP2.out HE.out).2, HKP0.out], rfl, rfl, HCD, HFN'⟩
            case measure => exact HMS.out
        | false =>
         have HKP0 := Aside0.mk hkp
         clear hkp
         go_upto_region 9 with (go_at_call 81; go_must (refine HB.out.mono ?_; rintro e w3 ⟨rfl, hb3⟩; have HB3 := Aside0.mk hb3; obtain ⟨i4, _, _, _, g4, _⟩ := (HI.out.moved hb3).ptext HPT.out; clear hb3))
         go_cut [63] (fun v63 wc => v63 = .bool (C && t.head? == some 32) ∧ Aside0 (Below wr.heap.size wr wc))
         case first =>
          cases hbl : ((s.st b).getLast? == some 32) with
          | true =>
           have HBL := Aside0.mk hbl
           have HS2 := Aside0.mk (fun wx => HSF.out b wx)
           rw [hbl] at HS2
           clear hbl
           have CT := Aside0.mk (show C = true from by rw [HC2.out, HBL.out, HKP0.out]; rfl)
           cases t with
           | nil =>
            have e0 : A.toList = [] := by rw [HA.out, ByteArray.toList_eq]; rfl
            have n0 : decide (A.toList = []) = true := decide_eq_true e0
            have n1 : (A.toList == []) = true := beq_iff_eq.2 e0
            clear e0
            go_wp2_with (go_at_call 82; go_must (refine (HS2.out _).mono ?_; rintro e w4 ⟨rfl, hd4⟩; have HB4 := Aside0.mk (below_step HB3.out hd4.below); clear hd4))
            go_meet
            exact ⟨by rw [CT.out]; rfl, HB4⟩
           | cons c t =>
            have hsz : A.size = t.length + 1 := by rw [HA.out, str_size]; rfl
            have hx9 : ∀ h, (((A[0]'h).toNat : Nat) : Int) = bt A 0 := fun h => bt_at A 0 h
            have hbt : bt A 0 = c := by rw [HA.out, bt_str HTB.out]; rfl
            have q8 : ((0 : Int) < (A.size : Int)) = True := eq_true (by omega)
            have q9 : (0 < A.size) = True := eq_true (by omega)
            have hnl : ¬ A.toList = [] := fun h => by
             rw [ByteArray.toList_eq] at h
             have : A.size = 0 := by show A.data.size = 0; rw [← Array.length_toList, h]; rfl
             omega
            have n0 : decide (A.toList = []) = false := decide_eq_false hnl
            have n1 : (A.toList == []) = false := beq_eq_false_iff_ne.2 hnl
            have HBT := Aside0.mk hbt
            clear hbt hsz
            by_cases h32 : bt A 0 = 32
            ·have c32 := decide_eq_true h32
             have b32 : (bt A 0 == 32) = true := beq_iff_eq.2 h32
             have HC32 := Aside0.mk (show (true && (c :: t).head? == some 32) = true from by rw [← HBT.out, h32]; rfl)
             go_wp2_with (go_at_call 82; go_must (refine (HS2.out _).mono ?_; rintro e w4 ⟨rfl, hd4⟩; have HB4 := Aside0.mk (below_step HB3.out hd4.below); clear hd4))
             go_meet
             exact ⟨by rw [CT.out, HC32.out], HB4⟩
            ·have c32 := decide_eq_false h32
             have b32 : (bt A 0 == 32) = false := beq_eq_false_iff_ne.2 h32
             have HC32 := Aside0.mk (show (true && (c :: t).head? == some 32) = false from by rw [← HBT.out]; simp [h32])
             go_wp2_with (go_at_call 82; go_must (refine (HS2.out _).mono ?_; rintro e w4 ⟨rfl, hd4⟩; have HB4 := Aside0.mk (below_step HB3.out hd4.below); clear hd4))
             go_meet
             exact ⟨by rw [CT.out, HC32.out], HB4⟩
          | false =>
           have HBL := Aside0.mk hbl
           have HS2 := Aside0.mk (fun wx => HSF.out b wx)
           rw [hbl] at HS2
           clear hbl
           go_wp2_with (go_at_call 82; go_must (refine (HS2.out _).mono ?_; rintro e w4 ⟨rfl, hd4⟩; have HB4 := Aside0.mk (below_step HB3.out hd4.below); clear hd4))
           go_meet
           exact ⟨by rw [HC2.out, HBL.out, HKP0.out]; rfl, HB4⟩
         case rest =>
          clear HB
          obtain ⟨rfl, HB5⟩ := hcut
          cases hcb : (C && t.head? == some 32) with
          | true =>
           have hctt : ctl = t.tail := by
            rw [HCT.out]
            unfold cut1
            rw [if_pos hcb]
           have hhd : ∃ t', t = 32 :: t' := by
            rw [Bool.and_eq_true] at hcb
            cases t with
            | nil => exact absurd hcb.2 (by simp)
            | cons c t => exact ⟨t, by have := eq_of_beq hcb.2; rw [Option.some.inj this]⟩
           obtain ⟨t', rfl⟩ := hhd
           have hsz : A.size = t'.length + 1 := by rw [HA.out, str_size]; rfl
           have q10 : ((1 : Int) ≤ (A.size : Int)) = True := eq_true (by omega)
           have q11 : (1 ≤ A.size) = True := eq_true (by omega)
           have hsl : A.extract 1 A.size = strOfNums ctl := by
            rw [hctt, hsz, HA.out]
            apply ByteArray.ext
            rw [ByteArray.data_extract]
            apply Array.ext'
            simp [strOfNums] <;> exact List.take_of_length_le (by simp)
           clear hsz hctt hcb
           cases he : ctl.isEmpty with
           | true =>
            have HE := Aside0.mk he
            have hnil : ctl = [] := List.isEmpty_iff.1 he
            have e0 : strOfNums ctl = ⟨#[]⟩ := by rw [hnil]; rfl
            have HRM := Aside0.mk (HDR.out wc HB5.out he)
            rw [e0] at hsl
            clear he hnil e0
            go_wp2_with (go_at_call 83; go_must (refine HRM.out.mono ?_; rintro e w6 ⟨D6, f', fs', rfl, hcd6, hms6, hfin6⟩; have HCD := Aside0.mk hcd6; have HMS := Aside0.mk hms6; have HFN' := Aside0.mk hfin6; clear hcd6 hms6 hfin6))
            go_roundg (msr f' fs')
            case rel => exact ⟨D6, f', fs', s2, pv, rfl, by rw [(HP3.out HE.out).1, HPT.out]; rfl, by rw [(HP3.out HE.out).2, HKP0.out], rfl, rfl, HCD, HFN'⟩
            case measure => exact HMS.out
           | false =>
            have HE := Aside0.mk he
            obtain ⟨g7f, g7s, D6, f', fs', hc6, hcd6, hms6, hfin6⟩ := HKP.out wc HB5.out he
            obtain ⟨v7, g7⟩ := Option.isSome_iff_exists.1 g7s
            have HC := Aside0.mk hc6
            have HCD := Aside0.mk hcd6
            have HMS := Aside0.mk hms6
            have HFN' := Aside0.mk hfin6
            have hnl : ¬ (strOfNums ctl).toList = [] := fun h => by
             rw [ByteArray.toList_eq] at h
             have h2 : (strOfNums ctl).size = 0 := by show (strOfNums ctl).data.size = 0; rw [← Array.length_toList, h]; rfl
             rw [str_size] at h2
             have : ctl = [] := List.eq_nil_of_length_eq_zero h2
             rw [this] at he
             cases he
            have n0 : decide ((strOfNums ctl).toList = []) = false := decide_eq_false hnl
            have n1 : ((strOfNums ctl).toList == []) = false := beq_eq_false_iff_ne.2 hnl
            clear he g7s hc6 hcd6 hms6 hfin6
            generalize strOfNums ctl = B at *
            go_wp2_with (go_at_call 80; go_must (refine HC.out.mono ?_; rintro e w6 ⟨rfl, rfl⟩))
            go_roundg (msr f' fs')
            case rel => exact ⟨D6, f', fs', s2, some y, rfl, by rw [(HP2.out HE.out).1]; rfl, by rw [(HP2.out HE.out).2, HKP0.out], rfl, rfl, HCD, HFN'⟩
            case measure => exact HMS.out
          | false =>
           have hsl : ctl = t := by
            rw [HCT.out]
            unfold cut1
            rw [if_neg (by rw [hcb]; simp)]
           obtain rfl : A = strOfNums ctl := by rw [HA.out, hsl]
           clear hcb
           have hsl : True := trivial
           cases he : ctl.isEmpty with
           | true =>
            have HE := Aside0.mk he
            have hnil : ctl = [] := List.isEmpty_iff.1 he
            have e0 : strOfNums ctl = ⟨#[]⟩ := by rw [hnil]; rfl
            have HRM := Aside0.mk (HDR.out wc HB5.out he)
            rw [e0]
            clear he hnil e0
            go_wp2_with (go_at_call 83; go_must (refine HRM.out.mono ?_; rintro e w6 ⟨D6, f', fs', rfl, hcd6, hms6, hfin6⟩; have HCD := Aside0.mk hcd6; have HMS := Aside0.mk hms6; have HFN' := Aside0.mk hfin6; clear hcd6 hms6 hfin6))
            go_roundg (msr f' fs')
            case rel => exact ⟨D6, f', fs', s2, pv, rfl, by rw [(HP3.out HE.out).1, HPT.out]; rfl, by rw [(HP3.out HE.out).2, HKP0.out], rfl, rfl, HCD, HFN'⟩
            case measure => exact HMS.out
           | false =>
            have HE := Aside0.mk he
            obtain ⟨g7f, g7s, D6, f', fs', hc6, hcd6, hms6, hfin6⟩ := HKP.out wc HB5.out he
            obtain ⟨v7, g7⟩ := Option.isSome_iff_exists.1 g7s
            have HC := Aside0.mk hc6
            have HCD := Aside0.mk hcd6
            have HMS := Aside0.mk hms6
            have HFN' := Aside0.mk hfin6
            have hnl : ¬ (strOfNums ctl).toList = [] := fun h => by
             rw [ByteArray.toList_eq] at h
             have h2 : (strOfNums ctl).size = 0 := by show (strOfNums ctl).data.size = 0; rw [← Array.length_toList, h]; rfl
             rw [str_size] at h2
             have : ctl = [] := List.eq_nil_of_length_eq_zero h2
             rw [this] at he
             cases he
            have n0 : decide ((strOfNums ctl).toList = []) = false := decide_eq_false hnl
            have n1 : ((strOfNums ctl).toList == []) = false := beq_eq_false_iff_ne.2 hnl
            clear he g7s hc6 hcd6 hms6 hfin6
            generalize strOfNums ctl = B at *
            go_wp2_with (go_at_call 80; go_must (refine HC.out.mono ?_; rintro e w6 ⟨rfl, rfl⟩))
            go_roundg (msr f' fs')
            case rel => exact ⟨D6, f', fs', s2, some y, rfl, by rw [(HP2.out HE.out).1]; rfl, by rw [(HP2.out HE.out).2, HKP0.out], rfl, rfl, HCD, HFN'⟩
            case measure => exact HMS.out
      ·have h4 : x.ty = 4 := by
        cases hokx with
        | mk _ hok _ =>
         rcases hok.1.2 with e | e | e
         ·exact absurd e h1
         ·exact absurd e hx3
         ·exact e
       obtain ⟨hne, nq, c5, f', fs', hc4, hcd5, hms5, hfin5⟩ := cm_pack HI.out HFN.out hRc h4 F0 HFI.out
       rw [hne] at nq
       have HC := Aside0.mk hc4
       have HCD := Aside0.mk hcd5
       have HMS := Aside0.mk hms5
       have HFN' := Aside0.mk hfin5
       clear hc4 hcd5 hms5 hfin5 hne hel hx3 hokx h1 h4 hcur hRc
       generalize x.id = y at *
       simp only [ptr_some]
       go_wp2_with (go_at_call 80; go_must (refine HC.out.mono ?_; rintro e w5 ⟨rfl, rfl⟩))
       go_roundg (msr f' fs')
       case rel => exact ⟨_, f', fs', s, some y, rfl, rfl, rfl, rfl, rfl, HCD, HFN'⟩
       case measure => exact HMS.out
end Go.Proofs.Ytmfjbljdbkmkgaa.Dom

/- impl.Collapse: its contract. -/
namespace Go.Proofs.Ytmfjbljdbkmkgaa.Dom
open Go.RowKit Go.Proofs.YtmfjbljdbkmkgaaW.PrintWords Go.Proofs.YtmfjbljdbkmkgaaW.PrintLast Go.Proofs.YtmfjbljdbkmkgaaW.PrintMore Go.Proofs.Ytmfjbljdbkmkgaa.PDom Go.Proofs.Ytmfjbljdbkmkgaa.Txt
set_option linter.unusedVariables false
set_option linter.unusedSimpArgs false

mutual
/-- Its texts can be counted. -/
def txB : T → Bool
 | ⟨k, _, x, _, ks⟩ => (k != 1 || decide (x.size ≤ 2147483647)) && txBL ks
def txBL : List T → Bool
 | [] => true
 | k :: ks => txB k && txBL ks
end
theorem txBL_iff : ∀ {l : List T}, txBL l = true ↔ ∀ k ∈ l, txB k = true
 | [] => by simp [txBL]
 | k :: ks => by
  rw [txBL, Bool.and_eq_true, txBL_iff (l := ks)]
  simp
theorem txB_open {t : T} (h : txB t = true) : (t.f0 = 1 → t.f2.size ≤ 2147483647) ∧ ∀ k ∈ t.f4, txB k = true := by
 cases t with
 | mk k n x as_ ks =>
  rw [txB, Bool.and_eq_true] at h
  refine ⟨fun e => ?_, txBL_iff.1 h.2⟩
  have h1 := h.1
  rw [Bool.or_eq_true] at h1
  rcases h1 with h1 | h1
  ·exact absurd e (by simpa using h1)
  ·exact of_decide_eq_true h1
theorem told_tx (r : RT) : ∀ t : T, okT t = true → txB t = true → TellsT t r → RT.All okC r ∧ RT.All txFit r := by
 induction r using RT.induct with
 | h i ty a d at_ ks ih =>
  intro t ht hx h
  have hn := ok_norm t ht
  have hall := ok_all _ t ht h
  obtain ⟨h1, h3, _, h4⟩ := okT_open ht
  obtain ⟨x1, x2⟩ := txB_open hx
  obtain ⟨hl, hk⟩ := told_open h hn
  have hkids : ∀ k ∈ ks, RT.All okC k ∧ RT.All txFit k := fun k hk2 => by
   obtain ⟨n, hn2, rfl⟩ := List.mem_iff_getElem.1 hk2
   exact ih _ hk2 _ (h4 _ (List.getElem_mem (by rw [hl]; exact hn2))) (x2 _ (List.getElem_mem (by rw [hl]; exact hn2))) (hk n (by rw [hl]; exact hn2) hn2)
  have hokn : okN (.node i ty a d at_ ks) := by cases hall with | mk _ hp _ => exact hp
  refine ⟨⟨_, ⟨hokn, ?_⟩, fun k hk2 => (hkids k hk2).1⟩, ⟨_, ?_, fun k hk2 => (hkids k hk2).2⟩⟩
  ·rcases h1 with ⟨_, _, _, e⟩ | ⟨_, e, _⟩ | ⟨e, _⟩
   ·right
    have : ks.length = 0 := by rw [← hl, e]; rfl
    exact List.eq_nil_of_length_eq_zero this
   ·cases e
   ·left
    cases h with
    | mk _ _ _ _ ha hl2 hk2 => show tyOf t.f0 = 3; rw [e]; rfl
  ·intro e1
   cases h with
   | mk _ _ _ _ ha hl2 hk2 =>
    have e1' : tyOf t.f0 = 1 := e1
    have hf : t.f0 = 1 := by
     rcases h1 with ⟨e | e, _⟩ | ⟨_, e, _⟩ | ⟨e, _⟩
     ·exact e
     ·rw [e] at e1'; exact absurd e1' (by decide)
     ·cases e
     ·rw [e] at e1'; exact absurd e1' (by decide)
    have hd : dataOf t = t.f2 := by unfold dataOf; rw [if_neg (by rw [hf]; decide), if_pos (show flat t from .inl hf)]
    show (dataOf t).size ≤ _
    rw [hd]
    exact x1 hf
theorem named_box (w0 w : World) (hb : Below w0.heap.size w0 w) (A : Option Addr) (n c : Nat) :
  Calls Try.prog 32 #[.slice A n c] w fun e w' => ∃ b, e = .returned (.func (Fn.func 61) #[] #[.pointer (some ⟨b, 0, none⟩)]) ∧ w'.heap[b]? = some (.cells #[.slice A n c] 28 (0, 0)) ∧ w0.heap.size ≤ b ∧ Below w0.heap.size w0 w' ∧ ∀ (k : Nat) (o : Obj), w.heap[k]? = some o → w'.heap[k]? = some o :=
 (named_calls w A n c).mono fun e w' h => by
  obtain ⟨rfl, rfl⟩ := h
  have hb2 := below_alloc (Below.refl w.heap.size w) (.cells #[.slice A n c] 28)
  exact ⟨_, rfl, heap_alloc_new _ _, hb.size, below_step hb hb2, fun k o h => (hb2.block _ (Array.getElem?_eq_some_iff.1 h).1).trans h⟩
theorem enters_col1 : ∀ (args : Array Value) (w : World), (callFunc 46 args).run Try.prog w = .ok (.enter 46 args) w := fun _ _ => by kernel_rfl
theorem dom_out {w : World} {D : Tab} (h : Dom w D) {k : Nat} (hk : w.heap.size ≤ k) : D k = none := by
 cases hd : D k with
 | none => rfl
 | some i => have := h.lt (by rw [hd]; simp : D k ≠ none); omega
theorem only_of {D : Tab} {w w' : World} (h : Below w.heap.size w w') : Only D w w' := ⟨h.os, h.tape, h.output, h.size, fun k hk _ => h.block k hk⟩
theorem heap_step {w w' : World} {k : Nat} {o : Obj} (hb : Below w.heap.size w w') (h : w.heap[k]? = some o) : w'.heap[k]? = some o := (hb.block _ (Array.getElem?_eq_some_iff.1 h).1).trans h
/-- The names' rows stand, apart from the tree. -/
structure SrtN (w : World) (D : Tab) (S : Srt) (A1 A2 A3 : Option Addr) : Prop where
 r1 : Kd.F Kd.string w (fun k => D k = none) A1 S.bk.length S.bk
 r2 : Kd.F Kd.string w (fun k => D k = none) A2 S.vd.length S.vd
 r3 : Kd.F Kd.string w (fun k => D k = none) A3 S.pr.length S.pr
 l1 : S.bk.length ≤ 4611686018427387904
 l2 : S.vd.length ≤ 4611686018427387904
 l3 : S.pr.length ≤ 4611686018427387904
set_option maxHeartbeats 4000000 in
set_option maxRecDepth 100000 in
theorem col1_calls (w : World) (D : Tab) (hdom : Dom w D) (r : RT) (hr : Is D none r) (t : T) (hto : TellsT t r) (hok : okT t = true) (htx : txB t = true) (h0 : t.f0 = 0) (hct : countT t ≤ 1000000) (S : Srt) (sb : Nat) (A1 A2 A3 : Option Addr) (c1 c2 c3 : Nat)
  (hsb : w.heap[sb]? = some (.cells #[.slice A1 S.bk.length c1, .slice A2 S.vd.length c2, .slice A3 S.pr.length c3] 37 (0, 0))) (hS : SrtN w D S A1 A2 A3) :
  Calls Try.prog 46 #[ptr (some r.id), .pointer (some ⟨sb, 0, none⟩)] w fun e w' => e = .returned (.tuple #[]) ∧ ∃ u, u = colT S t ∧ Turns w w' D r u := by
 obtain ⟨hallC, hallX⟩ := told_tx r t hok htx hto
 obtain ⟨_, hpl⟩ := told_paths r t false (ok_norm t hok) hto
 have htT := toT_norm r t false (ok_norm t hok) hto
 have hD0 : ∀ k, w.heap.size ≤ k → D k = none := fun k hk => dom_out hdom hk
 -- what the call itself leaves
 have HCOL := Aside0.mk (show ∀ (wx : World) (fd b1 b2 b3 : Nat), Below w.heap.size w wx → w.heap.size ≤ fd → w.heap.size ≤ b1 → w.heap.size ≤ b2 → w.heap.size ≤ b3 →
   wx.heap[fd]? = some (.cells #[.func (Fn.func 61) #[] #[.pointer (some ⟨b1, 0, none⟩)], .func (Fn.func 61) #[] #[.pointer (some ⟨b2, 0, none⟩)], .func (Fn.func 61) #[] #[.pointer (some ⟨b3, 0, none⟩)]] 64 (0, 0)) →
   wx.heap[b1]? = some (.cells #[.slice A1 S.bk.length c1] 28 (0, 0)) → wx.heap[b2]? = some (.cells #[.slice A2 S.vd.length c2] 28 (0, 0)) → wx.heap[b3]? = some (.cells #[.slice A3 S.pr.length c3] 28 (0, 0)) →
   Calls Try.prog 47 #[ptr (some r.id), .pointer (some ⟨fd, 0, none⟩)] wx fun e w' => e = .returned (.tuple #[]) ∧ Turns w w' D r (colT S t) from by
  intro wx fd b1 b2 b3 hb lf l1 l2 l3 hfd h1 h2 h3
  cases r with
  | node i ty a d at_ ks =>
   have hty : ty = 3 := by
    cases hto with
    | mk _ _ _ _ ha hl hk => show tyOf t.f0 = 3; rw [h0]; rfl
   subst hty
   have hnm : ∀ b l A c, w.heap.size ≤ b → wx.heap[b]? = some (.cells #[.slice A l.length c] 28 (0, 0)) → Kd.F Kd.string w (fun k => D k = none) A l.length l → l.length ≤ 4611686018427387904 → Nms wx D b l := fun b l A c hb1 hb2 hF hl => ⟨⟨A, c, hb2, Kd.F_step hF (fun k _ hk => hb.block k hk)⟩, hD0 b hb1, hl⟩
   have hkC : ∀ k ∈ ks, RT.All okC k := by cases hallC with | mk _ _ hk => exact hk
   have hkX : ∀ k ∈ ks, RT.All txFit k := by cases hallX with | mk _ _ hk => exact hk
   refine (collapse_calls wx D (hdom.below hb) i a d at_ ks hr S fd b1 b2 b3 ⟨hfd, hD0 fd lf, hnm b1 _ A1 c1 l1 h1 hS.r1 hS.l1, hnm b2 _ A2 c2 l2 h2 hS.r2 hS.l2, hnm b3 _ A3 c3 l3 h3 hS.r3 hS.l3⟩ hkC hkX).mono ?_
   rintro e w' ⟨rfl, D', K, d1, i1, o1, s1, t1, c1, n1⟩
   have hokr : okN (.node i 3 a d at_ K) := by
    cases hallC with
    | mk _ hp _ => exact hp.1
   have hpre : (RT.node i 3 a d at_ ks).pre.length = 1 + (RT.preL ks).length := by show (i :: RT.preL ks).length = _; rw [List.length_cons]; omega
   refine ⟨rfl, D', .node i 3 a d at_ K, d1, i1, rfl, rfit_all _ ⟨_, hokr, fun k hk => okC_okN (c1 k hk)⟩ ?_, ?_, (only_of hb : Only D w wx).trans' o1 (fun _ => Iff.rfl), fun k _ hk => (s1 k).1 hk⟩
   ·show (i :: RT.preL K).length ≤ _
    rw [List.length_cons]
    omega
   ·rw [RT.toT, if_pos rfl, t1, ← htT, RT.toT, if_pos rfl, colT]
    split <;> rfl)
 have HN := Aside0.mk (fun wx (hb : Below w.heap.size w wx) A n c => named_box w wx hb A n c)
 have q1 := blk_cell hsb 0
 have q2 := blk_cell hsb 1
 have q3 := blk_cell hsb 2
 have HSB := Aside0.mk hsb
 clear hallC hallX hpl htT hD0 hto hok htx h0 hct hr hdom hsb hS
 simp only [ptr_some] at HCOL ⊢
 generalize r.id = rx at *
 go_enter Try.func46, Try.ntmps46
 go_region_law (first
  | (go_simp; go_at_call_has 32 A1; refine (HN.out _ (by first | exact Below.refl _ _ | exact below_drew (Below.refl _ _) | exact below_drew (below_drew (Below.refl _ _))) _ _ _).mono ?_; rintro e w1 ⟨x1, rfl, hx1, lx1, hB1, hO1⟩; have q1 := blk_cell (hO1 _ _ HSB.out) 0; have q2 := blk_cell (hO1 _ _ HSB.out) 1; have q3 := blk_cell (hO1 _ _ HSB.out) 2; have HS1 := Aside0.mk (hO1 _ _ HSB.out); have HX1 := Aside0.mk hx1; have LX1 := Aside0.mk lx1; have HB1 := Aside0.mk hB1; clear hx1 lx1 hB1 hO1)
  | (go_simp; go_at_call_has 32 A2; refine (HN.out _ (by first | exact HB1.out | exact below_drew HB1.out | exact below_drew (below_drew HB1.out)) _ _ _).mono ?_; rintro e w2 ⟨x2, rfl, hx2, lx2, hB2, hO2⟩; have q1 := blk_cell (hO2 _ _ HS1.out) 0; have q2 := blk_cell (hO2 _ _ HS1.out) 1; have q3 := blk_cell (hO2 _ _ HS1.out) 2; have HS2 := Aside0.mk (hO2 _ _ HS1.out); have HX1' := Aside0.mk (hO2 _ _ HX1.out); have HX2 := Aside0.mk hx2; have LX2 := Aside0.mk lx2; have HB2 := Aside0.mk hB2; clear hx2 lx2 hB2 hO2)
  | (go_simp; go_at_call_has 32 A3; refine (HN.out _ (by first | exact HB2.out | exact below_drew HB2.out | exact below_drew (below_drew HB2.out)) _ _ _).mono ?_; rintro e w3 ⟨x3, rfl, hx3, lx3, hB3, hO3⟩; have HX1'' := Aside0.mk (hO3 _ _ HX1'.out); have HX2' := Aside0.mk (hO3 _ _ HX2.out); have HX3 := Aside0.mk hx3; have LX3 := Aside0.mk lx3; have HB3 := Aside0.mk hB3; clear hx3 lx3 hB3 hO3)
  | (go_simp; go_at_call 47; refine (HCOL.out _ _ x1 x2 x3 (by first | exact below_alloc HB3.out _ | exact below_alloc (below_drew HB3.out) _ | exact below_drew (below_alloc HB3.out _)) (by first | exact HB3.out.size) LX1.out LX2.out LX3.out (by first | exact heap_alloc_new _ _) (heap_step (by first | exact below_alloc (Below.refl _ _) _ | exact below_alloc (below_drew (Below.refl _ _)) _) HX1''.out) (heap_step (by first | exact below_alloc (Below.refl _ _) _ | exact below_alloc (below_drew (Below.refl _ _)) _) HX2'.out) (heap_step (by first | exact below_alloc (Below.refl _ _) _ | exact below_alloc (below_drew (Below.refl _ _)) _) HX3.out)).mono ?_; rintro e w5 ⟨rfl, h5⟩; have H5 := Aside0.mk h5; clear h5))
 all_goals go_end0
 all_goals exact ⟨rfl, _, rfl, H5.out⟩
theorem three_boxes (w : World) (o0 o1 o2 : Obj) : (((w.alloc o0).alloc o1).alloc o2).heap.size = w.heap.size + 3 ∧ Below w.heap.size w (((w.alloc o0).alloc o1).alloc o2) ∧ (((w.alloc o0).alloc o1).alloc o2).heap[w.heap.size]? = some o0 ∧ (((w.alloc o0).alloc o1).alloc o2).heap[w.heap.size + 1]? = some o1 ∧ (((w.alloc o0).alloc o1).alloc o2).heap[w.heap.size + 2]? = some o2 := by
 have e : (((w.alloc o0).alloc o1).alloc o2).heap = ((w.heap.push o0).push o1).push o2 := rfl
 refine ⟨by rw [e]; simp, below_alloc (below_alloc (below_alloc (Below.refl _ _) _) _) _, ?_, ?_, ?_⟩ <;> rw [e] <;> simp only [Array.getElem?_push, Array.size_push] <;> repeat (first | rfl | rw [if_pos trivial] | rw [if_pos (by omega)] | rw [if_neg (by omega)])
set_option maxHeartbeats 1000000 in
set_option maxRecDepth 100000 in
theorem col_calls (t : T) (hok : okT t = true) (htx : txB t = true) (h0 : t.f0 = 0) (hct : countT t ≤ 1000000) (S : Srt) (hl1 : S.bk.length ≤ 4611686018427387904) (hl2 : S.vd.length ≤ 4611686018427387904) (hl3 : S.pr.length ≤ 4611686018427387904) (w : World) (A3 : Option Addr) (c3 : Nat) (A4 : Option Addr) (c4 : Nat) (B1 B2 B3 : Option Addr) (d1 d2 d3 : Nat)
  (h3 : Kd.C k53 w A3 t.f3.length t.f3) (l3 : t.f3.length ≤ c3) (h4 : Kd.C k25 w A4 t.f4.length t.f4) (l4 : t.f4.length ≤ c4) (hC1 : Kd.C Kd.string w B1 S.bk.length S.bk) (hC2 : Kd.C Kd.string w B2 S.vd.length S.vd) (hC3 : Kd.C Kd.string w B3 S.pr.length S.pr) :
  Calls Try.prog 23 #[.agg #[.int .i64 t.f0, .string t.f1, .string t.f2, .slice A3 t.f3.length c3, .slice A4 t.f4.length c4], .agg #[.slice B1 S.bk.length d1, .slice B2 S.vd.length d2, .slice B3 S.pr.length d3]] w fun e w' => Told w w' (colT S t) e := by
 have hmf : ∀ (fn : Fn) (first cap : Array Value) (w : World), (Instr.makeFunc fn first cap).run Try.prog w = .ok (.func fn first cap) w := fun _ _ _ _ => rfl
 obtain ⟨W0, hW0⟩ : ∃ W0, W0 = ((w.alloc (.cells #[.int .i64 t.f0, .string t.f1, .string t.f2, .slice A3 t.f3.length c3, .slice A4 t.f4.length c4] 25)).alloc (.cells #[.slice B1 S.bk.length d1, .slice B2 S.vd.length d2, .slice B3 S.pr.length d3] 37)).alloc (.cells #[.int .i64 0, .string ⟨#[]⟩, .string ⟨#[]⟩, .slice none 0 0, .slice none 0 0] 25) := ⟨_, rfl⟩
 obtain ⟨hsz, hB0, hk0, hk1, hk2⟩ := three_boxes w (.cells #[.int .i64 t.f0, .string t.f1, .string t.f2, .slice A3 t.f3.length c3, .slice A4 t.f4.length c4] 25) (.cells #[.slice B1 S.bk.length d1, .slice B2 S.vd.length d2, .slice B3 S.pr.length d3] 37) (.cells #[.int .i64 0, .string ⟨#[]⟩, .string ⟨#[]⟩, .slice none 0 0, .slice none 0 0] 25)
 rw [← hW0] at hsz hB0 hk0 hk1 hk2
 have hrow : ∀ (W : World) (D : Tab) (A : Option Addr) (l : List ByteArray), Below W0.heap.size W0 W → (∀ k, k < W0.heap.size → D k = none) → Kd.C Kd.string w A l.length l → Kd.F Kd.string W (fun k => D k = none) A l.length l := fun W D A l hW hno hC => Kd.F_mono (Kd.F_step (Kd.C_F Kd.heap_string (Kd.C_below hC hB0)) (fun k hk hk2 => hW.block k hk2)) (fun k hk => hno k hk)
 have HBH := Aside0.mk (behind_calls 46 #[.pointer (some ⟨w.heap.size + 1, 0, none⟩)] enters_col1 (fun u => u = colT S t) t (ok_fit t hok) W0 A3 c3 A4 c4 (Kd.C_below h3 hB0) l3 (Kd.C_below h4 hB0) l4
  (fun W D r hW hno hd hr hto => col1_calls W D hd r hr t hto hok htx h0 hct S (w.heap.size + 1) B1 B2 B3 d1 d2 d3 ((hW.block _ (by omega)).trans hk1)
   ⟨hrow W D B1 _ hW hno hC1, hrow W D B2 _ hW hno hC2, hrow W D B3 _ hW hno hC3, hl1, hl2, hl3⟩))
 have K2 := Aside0.mk hk2
 have HZ := Aside0.mk hsz
 have HB0 := Aside0.mk hB0
 clear h3 h4 l3 l4 hC1 hC2 hC3 hok htx hct hk0 hk1 hk2 hsz hB0 hl1 hl2 hl3 hrow h0
 go_enter Try.func23, Try.ntmps23
 go_wp2_with fail
 rw [← hW0]
 refine HBH.out.mono ?_
 rintro e w2 ⟨u, hu, A5, c5, A6, c6, rfl, m5, F5, m6, F6, hB, R5, N6⟩
 have hb2 := (hB.block _ (blk_lt K2.out)).trans K2.out
 have hz := HZ.out
 have HU := Aside0.mk hu
 have HTO := Aside0.mk (fun a0 a1 a2 a3 a4 => told_box (b := w.heap.size + 2) HB0.out (by omega) (by omega) m5 F5 m6 F6 hB R5 N6 a0 a1 a2 a3 a4)
 have f0 := blk_frozen hb2 0
 have f1 := blk_frozen hb2 1
 have f2 := blk_frozen hb2 2
 have f3 := blk_frozen hb2 3
 have f4 := blk_frozen hb2 4
 have q0 := blk_cell hb2 0
 have q1 := blk_cell hb2 1
 have q2 := blk_cell hb2 2
 have q3 := blk_cell hb2 3
 have q4 := blk_cell hb2 4
 clear hb2 hz hu m5 F5 m6 F6 hB R5 N6 HBH K2
 go_wp2_with fail
 refine bodyPost_ret (v := .agg #[.int .i64 u.f0, .string u.f1, .string u.f2, .slice A5 u.f3.length c5, .slice A6 u.f4.length c6]) (by simp [results, Try.results23, go_sem, q0, q1, q2, q3, q4]) rfl ?_
 rw [← HU.out]
 exact HTO.out _ _ _ _ _
end Go.Proofs.Ytmfjbljdbkmkgaa.Dom
namespace Go.Proofs.Ytmfjbljdbkmkgaa.PDom
open Go.RowKit Go.Proofs.YtmfjbljdbkmkgaaW.PrintWords Go.Proofs.YtmfjbljdbkmkgaaW.PrintLast Go.Proofs.YtmfjbljdbkmkgaaW.PrintMore Go.Proofs.Ytmfjbljdbkmkgaa.Dom
set_option linter.unusedVariables false
set_option linter.unusedSimpArgs false
/-! ### As the printed walks take it -/
end Go.Proofs.Ytmfjbljdbkmkgaa.PDom

/- spec.Full: its contract. -/
namespace Go.Proofs.Ytmfjbljdbkmkgaa.Dom
open Go.RowKit Go.Proofs.YtmfjbljdbkmkgaaW.PrintWords Go.Proofs.YtmfjbljdbkmkgaaW.PrintLast Go.Proofs.YtmfjbljdbkmkgaaW.PrintMore Go.Proofs.Ytmfjbljdbkmkgaa.PDom Go.Proofs.Ytmfjbljdbkmkgaa.Txt Go.Proofs.Ytmfjbljdbkmkgaa.Blank
set_option linter.unusedVariables false
set_option linter.unusedSimpArgs false

/-- A text that is empty. -/
def emptyTx (t : T) : Bool := t.f0 == 1 && t.f2.toList == []
mutual
def fullT : T → T
 | ⟨k, n, x, as_, ks⟩ => ⟨k, n, x, as_, fullTL ks⟩
def fullTL : List T → List T
 | [] => []
 | k :: ks => if emptyTx k = true then fullTL ks else fullT k :: fullTL ks
end
theorem fullTL_append (a b : List T) : fullTL (a ++ b) = fullTL a ++ fullTL b := by
 induction a with
 | nil => rfl
 | cons k a ih =>
  rw [List.cons_append, fullTL, fullTL, ih]
  split <;> rfl
theorem fullTL_len (l : List T) : (fullTL l).length ≤ l.length := by
 induction l with
 | nil => exact Nat.le_refl _
 | cons k l ih =>
  rw [fullTL]
  split
  ·rw [List.length_cons]; omega
  ·rw [List.length_cons, List.length_cons]; omega
theorem fullTL_take (l : List T) {j : Nat} (h : j < l.length) : fullTL (l.take (j + 1)) = if emptyTx l[j] = true then fullTL (l.take j) else fullTL (l.take j) ++ [fullT l[j]] := by
 rw [List.take_succ_eq_append_getElem h, fullTL_append]
 simp only [fullTL]
 split
 ·rw [List.append_nil]
 ·rfl
theorem cTL_mem' : ∀ (l : List T), ∀ y ∈ l, countT y ≤ countTL l := by
 intro l
 induction l with
 | nil => intro y hy; cases hy
 | cons k l ih =>
  intro y hy
  rw [countTL]
  rcases List.mem_cons.1 hy with e | e
  ·rw [e]; omega
  ·have := ih y e; omega
set_option maxHeartbeats 8000000 in
set_option maxRecDepth 100000 in
theorem full_calls : ∀ (n : Nat) (t : T), SizeOf.sizeOf t ≤ n → naT t = true → countT t ≤ 1000000 → ∀ (w : World) (P : Nat → Prop) (A3 : Option Addr) (c3 : Nat) (A4 : Option Addr) (c4 : Nat), (∀ k, P k → k < w.heap.size) → Kd.F k25 w P A4 t.f4.length t.f4 → t.f4.length ≤ c4 →
  Calls Try.prog 22 #[.agg #[.int .i64 t.f0, .string t.f1, .string t.f2, .slice A3 t.f3.length c3, .slice A4 t.f4.length c4]] w fun e w' => ToldK w w' (fullT t) e := by
 intro n
 induction n with
 | zero =>
  intro t h
  cases t
  simp at h
 | succ n ih =>
  intro t hsz hna hct w P A3 c3 A4 c4 hP h4 l4
  obtain ⟨hn3, hnk⟩ := naT_open hna
  obtain ⟨f0, f1, f2, f3, f4⟩ := t
  simp only at h4 l4 hn3 hnk ⊢
  subst hn3
  ·have HC := Aside0.mk (show fullT ⟨f0, f1, f2, [], f4⟩ = ⟨f0, f1, f2, [], fullTL f4⟩ from by rw [fullT])
   have hcnt : countT ⟨f0, f1, f2, [], f4⟩ = 1 + countTL f4 := rfl
   rw [hcnt] at hct
   have hkl : ∀ y ∈ f4, countT y ≤ 1000000 := fun y hy => by
    have := cTL_mem' f4 y hy
    omega
   have hlen : f4.length ≤ 1000000 := by
    have := countTL_ge f4
    omega
   have hks : ∀ y ∈ f4, SizeOf.sizeOf y ≤ n := fun y hy => by have h1 := kid_lt (t := ⟨f0, f1, f2, [], f4⟩) hy; omega
   obtain ⟨W, hW⟩ : ∃ W, W = ((w.alloc (.cells #[.int .i64 f0, .string f1, .string f2, .slice A3 0 c3, .slice A4 f4.length c4] 25)).alloc (.cells #[.int .i64 0, .string ⟨#[]⟩, .string ⟨#[]⟩, .slice none 0 0, .slice none 0 0] 25)).alloc (.cells #[.int .i64 f0, .string f1, .string f2, .slice A3 0 c3, .slice none 0 0] 25) := ⟨_, rfl⟩
   obtain ⟨z0, z1, z2, z3, z4⟩ := three_new w (.cells #[.int .i64 f0, .string f1, .string f2, .slice A3 0 c3, .slice A4 f4.length c4] 25) (.cells #[.int .i64 0, .string ⟨#[]⟩, .string ⟨#[]⟩, .slice none 0 0, .slice none 0 0] 25) (.cells #[.int .i64 f0, .string f1, .string f2, .slice A3 0 c3, .slice none 0 0] 25)
   rw [← hW] at z0 z1 z2 z3 z4
   have HK0 := Aside0.mk (show KB w W f0 f1 f2 A3 c3 (.slice none 0 0) [] from ⟨z4, z3, Kd.N_nil _ _ _ _ _, z1⟩)
   have HP := Aside0.mk hP
   have H4 := Aside0.mk h4
   have L4 := Aside0.mk l4
   have HLN := Aside0.mk hlen
   have IH := Aside0.mk (fun (q : T) (hq : q ∈ f4) => ih q (hks q hq) (hnk q hq) (hkl q hq))
   have HNK := Aside0.mk hnk
   clear hsz hna hct hP h4 l4 ih hnk hkl hks hlen hcnt
   go_enter Try.func22, Try.ntmps22
   go_upto_region 2 with fail
   rw [← hW]
   clear hW
   have c4 := blk_cell z2 4
   clear z0 z1 z2 z3 z4
   go_wp2_with fail
   go_loopw [18] (fun vi wr => ∃ (j : Nat) (v4 : Value), vi = .int .i64 j ∧ j ≤ f4.length ∧ Aside0 (KB w wr f0 f1 f2 A3 c3 v4 (fullTL (f4.take j)))) (fun vi _ => f4.length - (intOf vi).toNat)
   case atStart => exact ⟨0, _, rfl, Nat.zero_le _, HK0⟩
   case round =>
    clear HK0 c4
    obtain ⟨j, v4, rfl, hj, HT⟩ := hrel
    by_cases hlt2 : j < f4.length
    ·have hF := Kd.F_step H4.out (fun k hk hk2 => HT.out.on.block k (HP.out k hk))
     obtain ⟨ad, A5, c5, A6, c6, rfl, y0, y1, y2, y3, y4, m3, g3, m4, g4⟩ := at_F hF (j : Int) (by omega) (by omega)
     have he : f4.getD (j : Int).toNat z25 = f4[j] := by simp [List.getD_eq_getElem?_getD, List.getElem?_eq_getElem hlt2]
     rw [he] at y0 y1 y2 y3 y4 m3 g3 m4 g4
     simp only [Int.toNat_natCast] at y0 y1 y2 y3 y4
     have hq : f4[j] ∈ f4 := List.getElem_mem _
     have hq3 : f4[j].f3 = [] := (naT_open (HNK.out _ hq)).1
     have hsn := fullTL_take f4 hlt2
     have hlen : (fullTL (f4.take j)).length ≤ 1000000 := by
      have := fullTL_len (f4.take j)
      rw [List.length_take] at this
      have := HLN.out
      omega
     have hkc := IH.out f4[j] hq
     generalize f4[j] = q at *
     generalize fullTL (f4.take j) = la at *
     have HWJ := Aside0.mk (wrap_succ j (by have := HLN.out; omega))
     have HSN := Aside0.mk hsn
     have HLA := Aside0.mk hlen
     have HKC := Aside0.mk (fun wx (hb : Below wr.heap.size wr wx) => hkc wx P A5 c5 A6 c6 (fun k hk => by have h1 := HP.out k hk; have h2 := HT.out.size; have h3 := hb.size; omega) (Kd.F_below g4 hb) m4)
     rw [hq3] at y3 HKC
     have hsp3 : (fullT q).f3 = [] := by
      cases q
      exact hq3
     generalize fullT q = u at *
     clear he hq hsn hF m3 g3 m4 g4 hlen hkc hq3
     go_upto_region 5 with fail
     have hcp : (wr.alloc (.cells #[.int .i64 q.f0, .string q.f1, .string q.f2, .slice A5 0 c5, .slice A6 q.f4.length c6] 25)).heap[wr.heap.size]? = some (.cells #[.int .i64 q.f0, .string q.f1, .string q.f2, .slice A5 0 c5, .slice A6 q.f4.length c6] 25 (0, 0)) := heap_alloc_new wr _
     have HB8 := Aside0.mk (below_alloc (Below.refl wr.heap.size wr) (.cells #[.int .i64 q.f0, .string q.f1, .string q.f2, .slice A5 0 c5, .slice A6 q.f4.length c6] 25))
     have HTP := Aside0.mk HT.out
     clear HT
     generalize wr.alloc (.cells #[.int .i64 q.f0, .string q.f1, .string q.f2, .slice A5 0 c5, .slice A6 q.f4.length c6] 25) = w8 at hcp HB8 ⊢
     have HT := Aside0.mk (HTP.out.moved HB8.out)
     have HCP := Aside0.mk hcp
     clear hcp y0 y1 y2 y3 y4
     have HDW := Aside0.mk (below_drew (Below.refl w8.heap.size w8))
     have hcd := (HDW.out.block _ (blk_lt HCP.out)).trans HCP.out
     have y0 := blk_cell HCP.out 0
     have y1 := blk_cell HCP.out 1
     have y2 := blk_cell HCP.out 2
     have y3 := blk_cell HCP.out 3
     have y4 := blk_cell HCP.out 4
     have yd0 := blk_cell hcd 0
     have yd1 := blk_cell hcd 1
     have yd2 := blk_cell hcd 2
     have yd3 := blk_cell hcd 3
     have yd4 := blk_cell hcd 4
     have x4 : w8.cell? ⟨w.heap.size + 1 + 1, 4, none⟩ = some v4 := blk_cell HT.out.box 4
     have x4d : w8.drew.cell? ⟨w.heap.size + 1 + 1, 4, none⟩ = some v4 := blk_cell (HT.out.moved HDW.out).box 4
     have HKW := Aside0.mk (HKC.out _ (below_step HB8.out HDW.out))
     have HTD := Aside0.mk (HT.out.moved HDW.out)
     clear hcd HKC
     have HOK := Aside0.mk (show ∀ k, wr.heap.size ≤ k → w.heap.size + 3 ≤ k ∧ some k ≠ v4.ownBlock from fun k hk => ⟨Nat.le_trans HTP.out.size hk, fun e => by have := Kd.N_lt HTP.out.n4 k e.symm; omega⟩)
     have HAF := Aside0.mk (show ∀ (w2 : World) (A9 A7 : Option Addr) (c9 c7 : Nat), u.f4.length ≤ c7 → Kd.N k25 25 w2 w8.drew.heap.size (fun k => w8.drew.heap.size ≤ k) (.slice A7 u.f4.length c7) u.f4 → Below w8.drew.heap.size w8.drew w2 →
       Aside0 (KB w w2 f0 f1 f2 A3 c3 v4 la) ∧ Aside0 (w.heap.size ≤ w2.heap.size) ∧ Aside0 (Kd.FK k25 w2 (fun k => wr.heap.size ≤ k) u [.int .i64 u.f0, .string u.f1, .string u.f2, .slice A9 0 c9, .slice A7 u.f4.length c7]) ∧ Aside0 (∀ k, w2.heap.size ≤ k → w.heap.size + 3 ≤ k) ∧ w2.cell? ⟨w.heap.size + 1 + 1, 4, none⟩ = some v4 ∧ (w2.alloc (.cells #[.int .i64 u.f0, .string u.f1, .string u.f2, .slice A9 0 c9, .slice A7 u.f4.length c7] 25)).cell? ⟨w.heap.size + 1 + 1, 4, none⟩ = some v4 from fun w2 A9 A7 c9 c7 m7 N7 hb2 => by
      have h2 := HTD.out.moved hb2
      refine ⟨⟨h2⟩, ⟨by have := h2.size; omega⟩, ⟨Kd.FK_mono (fk_na (W := w2) (A3 := A9) (c3 := c9) hsp3 m7 (Kd.N_F N7)) (fun k hk => show wr.heap.size ≤ k from Nat.le_trans (Nat.le_trans HB8.out.size HDW.out.size) hk)⟩, ⟨fun k hk => Nat.le_trans h2.size hk⟩, blk_cell h2.box 4, blk_cell (h2.moved (below_alloc (Below.refl _ _) _)).box 4⟩)
     clear hsp3
     go_cut [29] (fun v29 wc => v29 = .bool (!emptyTx q) ∧ wc = w8)
     case first =>
      by_cases k1 : q.f0 = 1
      ·have d1 : decide (q.f0 = 1) = true := decide_eq_true k1
       have b1 : (q.f0 == 1) = true := beq_iff_eq.2 k1
       have n1 : (q.f0 != 1) = false := by rw [bne, b1]; rfl
       have HE0 := Aside0.mk (show emptyTx q = (q.f2.toList == []) from by unfold emptyTx; rw [b1, Bool.true_and])
       cases hx2 : (q.f2.toList == ([] : List UInt8)) with
       | true =>
        have HX2 := Aside0.mk hx2
        have hx3 : q.f2.toList = [] := eq_of_beq hx2
        go_wp2_with fail
        go_meet
        exact ⟨by rw [HE0.out, HX2.out]; simp, rfl⟩
       | false =>
        have HX2 := Aside0.mk hx2
        have hx3 : ¬ q.f2.toList = [] := fun h => by rw [h] at hx2; cases hx2
        go_wp2_with fail
        go_meet
        exact ⟨by rw [HE0.out, HX2.out]; simp, rfl⟩
      ·have d1 : decide (q.f0 = 1) = false := decide_eq_false k1
       have b1 : (q.f0 == 1) = false := beq_eq_false_iff_ne.2 k1
       have n1 : (q.f0 != 1) = true := by rw [bne, b1]; rfl
       have HE0 := Aside0.mk (show emptyTx q = false from by unfold emptyTx; rw [b1, Bool.false_and])
       go_wp2_with fail
       go_meet
       exact ⟨by rw [HE0.out]; rfl, rfl⟩
     case rest =>
      obtain ⟨rfl, rfl⟩ := hcut
      cases hem : emptyTx q with
      | true =>
       have HEM := Aside0.mk hem
       clear hem
       go_wp2_with fail
       go_roundw
       case rel => exact ⟨j + 1, _, by rw [HWJ.out], hlt2, by rw [HSN.out, if_pos HEM.out]; exact HT⟩
       case measure => rw [HWJ.out]; simp [intOf]; omega
      | false =>
       have HEM := Aside0.mk hem
       clear hem
       go_upto_region 6 with fail
       go_region_law (first
        | (refine kids_step (w0 := w2) (W := w2) rfl w.heap.size (.tmp 31) (.tmp 34) 23 (.agg #[.int .i64 0, .string ⟨#[]⟩, .string ⟨#[]⟩, .slice none 0 0, .slice none 0 0]) rfl Try.underlying23 infoNd rfl v4 la u [.int .i64 u.f0, .string u.f1, .string u.f2, .slice A9 0 c9, .slice A7 u.f4.length c7] (fun k => w.heap.size + 3 ≤ k) (fun k => wr.heap.size ≤ k) (by simp [Act.eval, Act.put]) (by simp [Act.eval, Act.put]) HFK.out HOK.out HFR.out HT2.out.n4 (Below.refl _ _) HSZ2.out (by have := HLA.out; omega) ?_; intro v1 w3 ho hb hg hat; obtain ⟨L1, hL1⟩ : ∃ L1, L1 = (la ++ [u]).length := ⟨_, rfl⟩; obtain ⟨A1, k1, hv1⟩ := Kd.N_slice ho; rw [← hL1] at hv1; subst hv1; clear hL1; obtain ⟨g3, gf3, ht3⟩ := HT2.out.kid ho hb hg; have HT3 := Aside0.mk ht3; clear ho hb hg hat ht3)
        | (go_simp; go_at_call 22; refine HKW.out.mono ?_; rintro e w2 ⟨A9, c9, A7, c7, rfl, _, m7, N7, hb2⟩; obtain ⟨HT2, HSZ2, HFK, HFR, x42, x43⟩ := HAF.out w2 A9 A7 c9 c7 m7 N7 hb2; clear m7 N7 hb2))
       all_goals (simp only [Exit.inBlock, Exit.then]; go_wp2_with fail; go_roundw)
       all_goals first
        | exact ⟨j + 1, _, by rw [HWJ.out], hlt2, by rw [HSN.out, if_neg (by rw [HEM.out]; simp)]; exact HT3⟩
        | (rw [HWJ.out]; simp [intOf]; omega)
    ·have hje : j = f4.length := by omega
     subst hje
     have hT := HT.out
     rw [List.take_of_length_le (Nat.le_refl _)] at hT
     have HRES := Aside0.mk HC.out
     generalize fullTL f4 = la at *
     obtain ⟨A7, c7, e4⟩ := Kd.N_slice hT.n4
     obtain ⟨n7, hn7⟩ : ∃ n7, n7 = la.length := ⟨_, rfl⟩
     rw [← hn7] at e4
     subst e4
     have o0 : wr.cell? ⟨w.heap.size + 1 + 1, 0, none⟩ = some (.int .i64 f0) := blk_cell hT.box 0
     have o1 : wr.cell? ⟨w.heap.size + 1 + 1, 1, none⟩ = some (.string f1) := blk_cell hT.box 1
     have o2 : wr.cell? ⟨w.heap.size + 1 + 1, 2, none⟩ = some (.string f2) := blk_cell hT.box 2
     have o3 : wr.cell? ⟨w.heap.size + 1 + 1, 3, none⟩ = some (.slice A3 0 c3) := blk_cell hT.box 3
     have o4 : wr.cell? ⟨w.heap.size + 1 + 1, 4, none⟩ = some (.slice A7 n7 c7) := blk_cell hT.box 4
     have hr := hT.res
     have g0 := blk_frozen hr 0
     have g1 := blk_frozen hr 1
     have g2 := blk_frozen hr 2
     have g3 := blk_frozen hr 3
     have g4 := blk_frozen hr 4
     have p0 := blk_cell hr 0
     have p1 := blk_cell hr 1
     have p2 := blk_cell hr 2
     have p3 := blk_cell hr 3
     have p4 := blk_cell hr 4
     simp only [zeroN] at p0 p1 p2 p3 p4
     have HE := Aside0.mk (fun a0 a1 a2 a3 a4 => na_end (w := w) (w3 := wr) (u := ⟨f0, f1, f2, [], la⟩) (A3 := A3) (A4 := A7) (c3 := c3) (c4 := c7) (by rw [hn7] at hT; exact hT) rfl a0 a1 a2 a3 a4)
     rw [← hn7] at HE
     clear hr hT HT hn7
     go_wp2_with fail
     refine bodyPost_ret (v := .agg #[.int .i64 f0, .string f1, .string f2, .slice A3 0 c3, .slice A7 n7 c7]) (by simp [results, Try.results22, go_sem, p0, p1, p2, p3, p4]) rfl ?_
     rw [HC.out]
     exact HE.out _ _ _ _ _
end Go.Proofs.Ytmfjbljdbkmkgaa.Dom

/- Printed by the program extprint.py of this session, out of the kit's print and contracts of this session's own; Lean checks it. -/
namespace Go.Proofs.Ytmfjbljdbkmkgaa.PDom
open Go.RowKit Go.Proofs.YtmfjbljdbkmkgaaW.PrintWords Go.Proofs.YtmfjbljdbkmkgaaW.PrintLast Go.Proofs.YtmfjbljdbkmkgaaW.PrintMore
attribute [local go_sem] max2_int min2_int max_two min_two max_three min_three max_four min_four   -- for this text's walks alone
set_option linter.unusedVariables false
set_option linter.unusedSimpArgs false

theorem eqA53 (d : Nat) (w : World) (x0 y0 : ByteArray) (x1 y1 : ByteArray) :
  (Op.equalIn (d + 2) 53 (.agg #[.string x0, .string x1]) (.agg #[.string y0, .string y1])).run Try.prog w = .ok (x0.toList == y0.toList && (x1.toList == y1.toList)) w := by
 refine eqA_of Try.underlying53 (by kernel_rfl) ?_
 refine eqf_cons (by rfl) (by go_simp; rfl) (by go_simp; rfl) (by go_simp) ?_
 exact eqf_last (by rfl) (by go_simp; rfl) (by go_simp; rfl) (by go_simp)
end Go.Proofs.Ytmfjbljdbkmkgaa.PDom
