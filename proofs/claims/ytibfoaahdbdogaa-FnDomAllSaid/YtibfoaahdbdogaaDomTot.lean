/- The guards of the laws on trees always tell something: zzFits2, name29, size29 right29, tree29. Plain facts. -/
import Derived.Test.YtibfoaahdbdogaaNameX
namespace Go.Proofs.Ytibfoaahdbdogaa.PDom
open Go.RowKit Go.Proofs.YtibfoaahdbdogaaW.PrintWords Go.Proofs.YtibfoaahdbdogaaW.PrintLast Go.Proofs.YtibfoaahdbdogaaW.PrintMore Go.Proofs.Ytibfoaahdbdogaa.Dom
set_option linter.unusedVariables false
set_option linter.unusedSimpArgs false

theorem up {α : Type} {g : Nat → Option α} (hm : ∀ k, LeO (g k) (g (k + 1))) {k m : Nat} (h : k ≤ m) {r : α} (hk : g k = some r) : g m = some r := by
  induction h with
  | refl => exact hk
  | step _ ih => exact hm _ _ ih

theorem succ_wrap (j : Nat) (h : j ≤ 4611686018427387904) : wrap64 ((j : Int) + 1) = ((j + 1 : Nat) : Int) := by
  rw [wrap_same (by omega) (by omega)]
  omega

theorem fits3_loop (l : List S78) (hl : l.length ≤ 4611686018427387904) : ∀ (n j k : Nat), j + n = l.length → n < k → ∃ b, laws_zzFits3.l0 k l (l.length : Int) (j : Int) = some b
  | 0, j, k + 1, h, hk => by
    rw [laws_zzFits3.l0, if_neg (by omega)]
    exact ⟨_, rfl⟩
  | n + 1, j, k + 1, h, hk => by
    obtain ⟨b, hb⟩ := fits3_loop l hl n (j + 1) k (by omega) (by omega)
    rw [laws_zzFits3.l0, if_pos (by omega), if_pos (by omega), if_pos (by omega), succ_wrap j (by omega), hb]
    obtain ⟨c, hc⟩ : ∃ c, laws_zzFits4.f (rd_T78 l (j : Int)).f0 (rd_T78 l (j : Int)).f1 = some c := by
      unfold laws_zzFits4.f
      repeat' split
      all_goals exact ⟨_, rfl⟩
    rw [hc, Option.bind_some]
    split
    · exact ⟨_, rfl⟩
    · exact ⟨_, rfl⟩
  | n, j, 0, h, hk => absurd hk (Nat.not_lt_zero _)
theorem fits2_tot (f0 : Int) (f1 f2 : ByteArray) (f3 : List S78) (f4 : List S25) (hl : f3.length ≤ 4611686018427387904) (k : Nat) (hk : f3.length < k) : ∃ b, laws_zzFits2.f k f0 f1 f2 f3 f4 = some b := by
  obtain ⟨c, hc⟩ : ∃ c, laws_zzFits3.f k f3 = some c := by
    unfold laws_zzFits3.f
    split
    · exact ⟨_, rfl⟩
    · exact fits3_loop f3 hl f3.length 0 k (by omega) hk
  unfold laws_zzFits2.f
  rw [hc]
  simp only [Option.bind_some]
  repeat' split
  all_goals exact ⟨_, rfl⟩

theorem name_loop (a : ByteArray) (hl : a.size ≤ 4611686018427387904) : ∀ (n j k : Nat), j + n = a.size → n < k → ∃ b, laws_name29.l0 k a (a.size : Int) (j : Int) = some b
  | 0, j, k + 1, h, hk => by
    rw [laws_name29.l0, if_neg (by omega)]
    exact ⟨_, rfl⟩
  | n + 1, j, k + 1, h, hk => by
    obtain ⟨b, hb⟩ := name_loop a hl n (j + 1) k (by omega) (by omega)
    rw [laws_name29.l0, if_pos (by omega), if_pos (by omega), if_pos (by omega), succ_wrap j (by omega), hb]
    have good : ∀ (P : Option Bool → Prop) (q : Prop) (_ : Decidable q) (x y : Option Bool), (q → P x) → (¬ q → P y) → P (if q then x else y) := by
      intro P q _ x y h1 h2
      by_cases hq : q
      · rw [if_pos hq]; exact h1 hq
      · rw [if_neg hq]; exact h2 hq
    let G : Option Bool → Prop := fun o => ∃ b, o = some b
    have g1 : ∀ b, G (some b) := fun b => ⟨b, rfl⟩
    change G _
    clear_value G
    repeat' (refine good _ _ _ _ _ ?_ ?_ <;> intro _)
    all_goals exact g1 _
  | n, j, 0, h, hk => absurd hk (Nat.not_lt_zero _)

/-- size29 comes to an end: below a depth of 61 no call is made. -/
theorem size_tot (n : Nat) : ∀ (d : Int), 0 ≤ d → 61 - d ≤ n → ∀ (t : T), Fit t → ∃ k r, laws_size29.f k t.f0 t.f1 t.f2 t.f3 t.f4 d = some r := by
  induction n with
  | zero =>
    intro d hd0 hd t ht
    refine ⟨1, 301, ?_⟩
    rw [laws_size29.f, if_pos (by omega)]
  | succ n ih =>
    intro d hd0 hd t ht
    by_cases hdeep : d > 60
    · exact ⟨1, 301, by rw [laws_size29.f, if_pos hdeep]⟩
    · obtain ⟨_, _, hk4, hall⟩ := ht
      have loop : ∀ (m j : Nat) (x5 : Int), j + m = t.f4.length → ∃ k r, laws_size29.l0 k d x5 t.f4 (t.f4.length : Int) (j : Int) = some r := by
        intro m
        induction m with
        | zero =>
          intro j x5 hj
          exact ⟨1, x5, by rw [laws_size29.l0, if_neg (by omega)]⟩
        | succ m ihm =>
          intro j x5 hj
          have hjl : j < t.f4.length := by omega
          have he : rd_T25 t.f4 (j : Int) = t.f4[j] := by simp [rd_T25, List.getD_eq_getElem?_getD, List.getElem?_eq_getElem hjl]
          have hf : Fit t.f4[j] := hall _ (List.getElem_mem _)
          obtain ⟨k1, r1, h1⟩ := ih (d + 1) (by omega) (by omega) t.f4[j] hf
          obtain ⟨k2, r2, h2⟩ := ihm (j + 1) (wrap64 (x5 + r1)) (by omega)
          have u1 := up (fun k => (laws_size29.mono_l k).1 t.f4[j].f0 t.f4[j].f1 t.f4[j].f2 t.f4[j].f3 t.f4[j].f4 (d + 1)) (show k1 ≤ k1 + k2 by omega) h1
          have u2 := up (fun k => (laws_size29.mono_l k).2 d (wrap64 (x5 + r1)) t.f4 (t.f4.length : Int) ((j + 1 : Nat) : Int)) (show k2 ≤ k1 + k2 by omega) h2
          refine ⟨k1 + k2 + 1, ?_⟩
          rw [laws_size29.l0, if_pos (by omega), if_pos (by omega), if_pos (by omega), he, wrap_same (by omega) (by omega), u1, Option.bind_some, succ_wrap j (by omega), u2]
          split
          · exact ⟨_, rfl⟩
          · exact ⟨_, rfl⟩
      obtain ⟨k, r, h⟩ := loop t.f4.length 0 1 (by omega)
      refine ⟨k + 1, r, ?_⟩
      rw [laws_size29.f, if_neg hdeep]
      exact h

inductive FitS : T → Prop
  | mk (t : T) (hn : t.f1.size ≤ 140737488351232) (ha : t.f3.length ≤ 4398046510976) (hk : t.f4.length ≤ 4398046510976) (h : ∀ y ∈ t.f4, FitS y) : FitS t
theorem FitS.fit {t : T} (h : FitS t) : Fit t := by
  induction h with
  | mk t hn ha hk h ih => exact Fit.mk t ha hk ih

/-- right29 comes to an end. -/
theorem right_tot {t : T} (ht : FitS t) : ∀ (root : Bool), ∃ k r, laws_right29.f k t.f0 t.f1 t.f2 t.f3 t.f4 root = some r := by
  induction ht with
  | mk t hn ha hk hall ih =>
    have hl2 : ∀ (m j : Nat), j + m = t.f4.length → ∃ k r, laws_right29.l2 k t.f4 (t.f4.length : Int) (j : Int) = some r := by
      intro m
      induction m with
      | zero =>
        intro j hj
        exact ⟨1, true, by rw [laws_right29.l2, if_neg (by omega)]⟩
      | succ m ihm =>
        intro j hj
        have hjl : j < t.f4.length := by omega
        have he : rd_T25 t.f4 (j : Int) = t.f4[j] := by simp [rd_T25, List.getD_eq_getElem?_getD, List.getElem?_eq_getElem hjl]
        obtain ⟨k1, r1, h1⟩ := ih _ (List.getElem_mem hjl) false
        obtain ⟨k2, r2, h2⟩ := ihm (j + 1) (by omega)
        have u1 := up (fun k => (laws_right29.mono_l k).1 t.f4[j].f0 t.f4[j].f1 t.f4[j].f2 t.f4[j].f3 t.f4[j].f4 false) (show k1 ≤ k1 + k2 by omega) h1
        have u2 := up (fun k => (laws_right29.mono_l k).2.2.1 t.f4 (t.f4.length : Int) ((j + 1 : Nat) : Int)) (show k2 ≤ k1 + k2 by omega) h2
        refine ⟨k1 + k2 + 1, ?_⟩
        rw [laws_right29.l2, if_pos (by omega), if_pos (by omega), if_pos (by omega), he, u1, Option.bind_some, succ_wrap j (by omega), u2]
        split
        · exact ⟨_, rfl⟩
        · exact ⟨_, rfl⟩
    have hj4 : ∃ k r, laws_right29.j4 k t.f0 t.f1 t.f2 t.f3 t.f4 = some r := by
      obtain ⟨k, r, h⟩ := hl2 t.f4.length 0 (by omega)
      exact ⟨k + 1, r, by rw [laws_right29.j4]; exact h⟩
    have hl0 : ∀ (m j : Nat), j + m = t.f3.length → ∃ k r, laws_right29.l0 k t.f3 (t.f3.length : Int) (j : Int) t.f0 t.f1 t.f2 t.f3 t.f4 = some r := by
      intro m
      induction m with
      | zero =>
        intro j hj
        obtain ⟨k, r, h⟩ := hj4
        exact ⟨k + 1, r, by rw [laws_right29.l0, if_neg (by omega)]; exact h⟩
      | succ m ihm =>
        intro j hj
        obtain ⟨k0, r0, h0⟩ := ihm (j + 1) (by omega)
        have hl1 : ∀ (y : List S78) (s1 s2 : ByteArray), y.length ≤ t.f3.length → ∀ (m i : Nat), i + m = y.length → ∃ k r, laws_right29.l1 k t.f3 (t.f3.length : Int) (j : Int) y (y.length : Int) (i : Int) t.f0 t.f1 t.f2 t.f3 t.f4 s1 s2 = some r := by
          intro y s1 s2 hy m
          induction m with
          | zero =>
            intro i hi
            exact ⟨k0 + 1, r0, by rw [laws_right29.l1, if_neg (by omega), succ_wrap j (by omega)]; exact h0⟩
          | succ m ihi =>
            intro i hi
            obtain ⟨k, r, h⟩ := ihi (i + 1) (by omega)
            refine ⟨k + 1, ?_⟩
            rw [laws_right29.l1, if_pos (by omega), if_pos (by omega), if_pos (by omega), succ_wrap i (by omega), h]
            split
            · exact ⟨_, rfl⟩
            · exact ⟨_, rfl⟩
        have htl : (t.f3.take j).length ≤ t.f3.length := by rw [List.length_take]; omega
        obtain ⟨k, r, h⟩ := hl1 (t.f3.take j) (rd_T78 t.f3 (j : Int)).f0 (rd_T78 t.f3 (j : Int)).f1 htl (t.f3.take j).length 0 (by omega)
        refine ⟨k + 1, r, ?_⟩
        rw [laws_right29.l0, if_pos (by omega), if_pos (by omega), if_pos (by omega), if_pos (by omega), Option.bind_some]
        exact h
    have hj1 : ∀ x : Bool, ∃ k r, laws_right29.j1 k x t.f0 t.f1 t.f2 t.f3 t.f4 = some r := by
      intro x
      obtain ⟨k, r, h⟩ := hl0 t.f3.length 0 (by omega)
      refine ⟨k + 1, ?_⟩
      rw [laws_right29.j1]
      split
      · exact ⟨_, rfl⟩
      · exact ⟨r, h⟩
    have hj0 : ∀ (root x : Bool), ∃ k r, laws_right29.j0 k root t.f0 x t.f0 t.f1 t.f2 t.f3 t.f4 = some r := by
      intro root x
      obtain ⟨b, hb⟩ := name_loop t.f1 (by omega) t.f1.size 0 (t.f1.size + 1) (by omega) (by omega)
      obtain ⟨k4, r4, h4⟩ := hj4
      obtain ⟨k5, r5, h5⟩ := hj1 (t.f2.toList != ([] : List UInt8))
      obtain ⟨k6, r6, h6⟩ := hj1 true
      have ub := up (fun k => laws_name29.mono t.f1 k) (show t.f1.size + 1 ≤ t.f1.size + 1 + k4 + k5 + k6 by omega) hb
      have u4 := up (fun k => (laws_right29.mono_l k).2.1 t.f0 t.f1 t.f2 t.f3 t.f4) (show k4 ≤ t.f1.size + 1 + k4 + k5 + k6 by omega) h4
      have u5 := up (fun k => (laws_right29.mono_l k).2.2.2.2.1 (t.f2.toList != ([] : List UInt8)) t.f0 t.f1 t.f2 t.f3 t.f4) (show k5 ≤ t.f1.size + 1 + k4 + k5 + k6 by omega) h5
      have u6 := up (fun k => (laws_right29.mono_l k).2.2.2.2.1 true t.f0 t.f1 t.f2 t.f3 t.f4) (show k6 ≤ t.f1.size + 1 + k4 + k5 + k6 by omega) h6
      refine ⟨t.f1.size + 1 + k4 + k5 + k6 + 1, ?_⟩
      rw [laws_right29.j0, ub, u4]
      simp only [Option.bind_some, u5, u6]
      repeat' split
      all_goals exact ⟨_, rfl⟩
    intro root
    obtain ⟨k1, r1, h1⟩ := hj0 root (t.f0 == 1)
    obtain ⟨k2, r2, h2⟩ := hj0 root (t.f0 == 2)
    have u1 := up (fun k => (laws_right29.mono_l k).2.2.2.1 root t.f0 (t.f0 == 1) t.f0 t.f1 t.f2 t.f3 t.f4) (show k1 ≤ k1 + k2 by omega) h1
    have u2 := up (fun k => (laws_right29.mono_l k).2.2.2.1 root t.f0 (t.f0 == 2) t.f0 t.f1 t.f2 t.f3 t.f4) (show k2 ≤ k1 + k2 by omega) h2
    refine ⟨k1 + k2 + 1, ?_⟩
    rw [laws_right29.f, u1, u2]
    split
    · exact ⟨_, rfl⟩
    · exact ⟨_, rfl⟩

theorem tree_tot {t : T} (ht : FitS t) : ∃ k b, laws_tree29.f k t.f0 t.f1 t.f2 t.f3 t.f4 = some b := by
  obtain ⟨k1, r1, h1⟩ := size_tot 61 0 (by omega) (by omega) t ht.fit
  obtain ⟨k2, r2, h2⟩ := right_tot ht true
  have u1 := up (fun k => (laws_size29.mono_l k).1 t.f0 t.f1 t.f2 t.f3 t.f4 0) (show k1 ≤ k1 + k2 by omega) h1
  have u2 := up (fun k => (laws_right29.mono_l k).1 t.f0 t.f1 t.f2 t.f3 t.f4 true) (show k2 ≤ k1 + k2 by omega) h2
  refine ⟨k1 + k2, ?_⟩
  unfold laws_tree29.f
  rw [u1, u2]
  simp only [Option.bind_some]
  repeat' split
  all_goals exact ⟨_, rfl⟩
end Go.Proofs.Ytibfoaahdbdogaa.PDom
