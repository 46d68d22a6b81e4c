import Derived.Test.YtbhcoeabhdangaaEFnLanguagex1
namespace Go.Proofs.Ytbhcoeabhdangaa.Pure
open Go.RowKit Go.Proofs.Ytbhcoeabhdangaa.PFnLanguage Go.Proofs.YtbhcoeabhdangaaW.PrintWords Go.Proofs.YtbhcoeabhdangaaW.PrintLast Go.Proofs.Ytbhcoeabhdangaa.Txt

theorem parts_ne : ∀ l : List Int, parts l ≠ []
  | [] => by simp [parts]
  | c :: l => by
    simp only [parts]
    split
    · simp
    · split <;> simp
theorem parts_app : ∀ l v : List Int, parts (l ++ 32 :: v) = parts l ++ parts v
  | [], v => by simp [parts]
  | c :: l, v => by
    have ih := parts_app l v
    rw [List.cons_append]
    by_cases hc : c = 32
    · simp only [parts, if_pos hc, ih, List.cons_append]
    · simp only [parts, if_neg hc, ih]
      have hne := parts_ne l
      revert hne
      cases parts l with
      | nil => intro h; exact absurd rfl h
      | cons p ps => intro _; rfl
theorem parts_mem : ∀ (l p : List Int), p ∈ parts l → ∀ x ∈ p, x ∈ l
  | [], p, h => by simp [parts] at h; simp [h]
  | c :: l, p, h => by
    have ih := parts_mem l
    by_cases hc : c = 32
    · simp only [parts, if_pos hc, List.mem_cons] at h
      rcases h with rfl | h
      · simp
      · intro x hx; exact List.mem_cons_of_mem _ (ih p h x hx)
    · simp only [parts, if_neg hc] at h
      revert h ih
      cases parts l with
      | nil =>
        intro ih h
        simp at h
        subst h
        intro x hx
        simp at hx
        simp [hx]
      | cons q qs =>
        intro ih h
        rcases List.mem_cons.1 h with rfl | h
        · intro x hx
          rcases List.mem_cons.1 hx with rfl | hx
          · exact List.mem_cons_self
          · exact List.mem_cons_of_mem _ (ih q List.mem_cons_self x hx)
        · intro x hx; exact List.mem_cons_of_mem _ (ih p (List.mem_cons_of_mem _ h) x hx)
theorem none_hyphen (l : List Int) (h : (45 : Int) ∉ l) : (parts l).find? hyphen = none := by
  rw [List.find?_eq_none]
  intro p hp hh
  unfold hyphen at hh
  exact h (parts_mem l p hp 45 (List.contains_iff_mem.1 hh))
theorem word (r : ByteArray) (h32 : (32 : Int) ∉ bytesOf r) : (32 : Int) ∉ bytesOf lit ++ bytesOf r := by
  rw [lit_bytes]
  simp [h32]
theorem hyphen_lit (r : ByteArray) : hyphen (bytesOf lit ++ bytesOf r) = true := by
  unfold hyphen
  rw [lit_bytes, List.contains_iff_mem]
  simp
theorem find_mid (r : ByteArray) (h32 : (32 : Int) ∉ bytesOf r) (B : List Int) (hB : B = [] ∨ ∃ v, B = 32 :: v) : (parts (bytesOf lit ++ bytesOf r ++ B)).find? hyphen = some (bytesOf lit ++ bytesOf r) := by
  rcases hB with rfl | ⟨v, rfl⟩
  · rw [List.append_nil, parts_none _ (word r h32), List.find?_cons_of_pos (hyphen_lit r)]
  · rw [parts_some _ v (word r h32), List.find?_cons_of_pos (hyphen_lit r)]
theorem lang_of (a r : ByteArray) (A B : List Int) (hs : a.size ≤ 8589934592) (ha : bytesOf a = A ++ (bytesOf lit ++ bytesOf r ++ B)) (hA : A = [] ∨ ∃ u, A = u ++ [32] ∧ (45 : Int) ∉ u) (hB : B = [] ∨ ∃ v, B = 32 :: v)
    (h32 : (32 : Int) ∉ bytesOf r) (h45 : (45 : Int) ∉ bytesOf r) : langOf a = some r := by
  have hf : (parts (bytesOf a)).find? hyphen = some (bytesOf lit ++ bytesOf r) := by
    rw [ha]
    rcases hA with rfl | ⟨u, rfl, hu⟩
    · exact find_mid r h32 B hB
    · rw [List.append_assoc, List.singleton_append, parts_app, List.find?_append, none_hyphen u hu, Option.none_or]
      exact find_mid r h32 B hB
  have ht : (bytesOf lit ++ bytesOf r).take 9 = bytesOf lit := by rw [lit_bytes]; simp
  have hd : (bytesOf lit ++ bytesOf r).drop 9 = bytesOf r := by rw [lit_bytes]; simp
  have hh : hyphen (bytesOf r) = false := by
    unfold hyphen
    cases hc : (bytesOf r).contains 45 with
    | false => rfl
    | true => exact absurd (List.contains_iff_mem.1 hc) h45
  unfold langOf
  rw [if_pos hs, hf]
  show (if _ then _ else _) = _
  rw [ht, hd, if_pos ⟨rfl, hh⟩, str_bytes]

theorem words (a : ByteArray) (hs : a.size ≤ 140737488351232) : ∀ n i k : Nat, i + n = a.size → n < k →
    ∃ b, laws_words29.l0 k a (a.size : Int) (i : Int) = some b ∧ (b = true → ∀ j : Nat, i ≤ j → j < a.size → bt a (j : Int) ≠ 45)
  | 0, i, k + 1, h, hk => by
    unfold laws_words29.l0
    rw [if_neg (by omega)]
    exact ⟨true, rfl, fun _ j h1 h2 => by omega⟩
  | n + 1, i, k + 1, h, hk => by
    obtain ⟨b, hb, hp⟩ := words a hs n (i + 1) k (by omega) (by omega)
    have hw : wrap64 ((i : Int) + 1) = ((i + 1 : Nat) : Int) := by rw [wrap_id (by omega) (by omega)]; omega
    have hm : wrap64 ((i : Int) - 1) = (i : Int) - 1 := wrap_id (by omega) (by omega)
    have hgo : bt a (i : Int) ≠ 45 → b = true → ∀ j : Nat, i ≤ j → j < a.size → bt a (j : Int) ≠ 45 := by
      intro h1 h2 j h3 h4
      by_cases he : j = i
      · subst he; exact h1
      · exact hp h2 j (by omega) h4
    unfold laws_words29.l0
    rw [if_pos (by omega), if_pos (by omega), if_pos (by omega), hw, hm, hb]
    generalize bt a (i : Int) = c at hgo
    generalize bt a ((i : Int) - 1) = d
    clear hb hp hw hm
    have good : ∀ (P : Option Bool → Prop) (q : Prop) (_ : Decidable q) (x y : Option Bool), (q → P x) → (¬ q → P y) → P (if q then x else y) := by
      intro P q _ x y h1 h2
      by_cases hq : q
      · rw [if_pos hq]; exact h1 hq
      · rw [if_neg hq]; exact h2 hq
    let G : Option Bool → Prop := fun o => ∃ b, o = some b ∧ (b = true → ∀ j : Nat, i ≤ j → j < a.size → bt a (j : Int) ≠ 45)
    have g1 : c ≠ 45 → G (some b) := fun h => ⟨b, rfl, hgo h⟩
    have g2 : G (some false) := ⟨false, rfl, fun h => by cases h⟩
    change G _
    clear hgo
    clear_value G
    repeat' (refine good _ _ _ _ _ ?_ ?_ <;> intro _)
    all_goals first
      | exact g2
      | exact g1 (by omega)
      | (exfalso; omega)
  | n, i, 0, h, hk => absurd hk (Nat.not_lt_zero _)

theorem not_mem (a : ByteArray) (c : Int) (h : ∀ j : Nat, j < a.size → bt a (j : Int) ≠ c) : c ∉ bytesOf a := by
  intro hm
  obtain ⟨j, hj, he⟩ := List.getElem_of_mem hm
  have hj2 : j < a.size := by rw [← bytes_len a]; exact hj
  refine h j hj2 ?_
  rw [bt_rd, rd_get hj, he]

theorem loop (x0 x1 x2 : ByteArray) (z0 : x0.size ≤ 2147483647) (z1 : x1.size ≤ 2147483647) (z2 : x2.size ≤ 2147483647) (h0 : (45 : Int) ∉ bytesOf x0) (h1 : (45 : Int) ∉ bytesOf x1) :
    ∀ n i k : Nat, i + n = x1.size → n + 1 < k → (∀ j : Nat, j < i → bt x1 (j : Int) ≠ 32) → laws_FnLanguage.l0 k x0 x1 x2 (x1.size : Int) (i : Int) = some true
  | 0, i, k + 1, h, hk, hb => by
    have hi : i = x1.size := by omega
    subst hi
    have h32 := not_mem x1 32 hb
    have hn : ∀ s : ByteArray, s.toList = ([] : List UInt8) → bytesOf s = [] := fun s hs => by
      have := toList_nil.1 hs
      exact List.eq_nil_of_length_eq_zero (by rw [bytes_len]; exact this)
    have l9 : lit.size = 9 := rfl
    have l1 : PFnLanguage.blank.size = 1 := rfl
    have key : ∀ s, s.size ≤ 8589934592 → ∀ A B : List Int, bytesOf s = A ++ (bytesOf lit ++ bytesOf x1 ++ B) → (A = [] ∨ A = bytesOf x0 ++ [32]) → (B = [] ∨ B = 32 :: bytesOf x2) →
        ((impl_Language.f k s).bind fun t => some (t.toList == x1.toList)) = some true := by
      intro s hs A B he hA hB
      have := lang_of s x1 A B hs he (hA.imp id (fun e => ⟨_, e, h0⟩)) (hB.imp id (fun e => ⟨_, e⟩)) h32 h1
      unfold impl_Language.f
      rw [this, Option.bind_some, toList_beq_self]
    have sz : ∀ s t : ByteArray, (s ++ t).size = s.size + t.size := fun s t => ByteArray.size_append
    unfold laws_FnLanguage.l0
    rw [if_neg (by omega), if_pos (by omega)]
    by_cases e0 : x0.toList = ([] : List UInt8)
    · rw [if_pos e0]
      by_cases e2 : x2.toList = ([] : List UInt8)
      · rw [if_pos e2]
        exact key (lit ++ x1) (by rw [sz, l9]; omega) [] [] (by rw [bytes_append]; simp) (.inl rfl) (.inl rfl)
      · rw [if_neg e2, if_pos (by omega), if_pos (by rw [sz, sz]; show 9 + _ + (1 + _) ≤ _; omega)]
        exact key (lit ++ x1 ++ (PFnLanguage.blank ++ x2)) (by rw [sz, sz, sz, l9, l1]; omega) [] (32 :: bytesOf x2) (by rw [bytes_append, bytes_append, bytes_append, blank_bytes]; simp) (.inl rfl) (.inr rfl)
    · rw [if_neg e0, if_pos (by omega), if_pos (by rw [sz, sz]; show _ + 1 + (9 + _) ≤ _; omega)]
      by_cases e2 : x2.toList = ([] : List UInt8)
      · rw [if_pos e2]
        exact key (x0 ++ PFnLanguage.blank ++ (lit ++ x1)) (by rw [sz, sz, sz, l9, l1]; omega) (bytesOf x0 ++ [32]) [] (by rw [bytes_append, bytes_append, bytes_append, blank_bytes]; simp) (.inr rfl) (.inl rfl)
      · rw [if_neg e2, if_pos (by omega), if_pos (by rw [sz, sz, sz, sz]; show _ + 1 + (9 + _) + (1 + _) ≤ _; omega)]
        exact key (x0 ++ PFnLanguage.blank ++ (lit ++ x1) ++ (PFnLanguage.blank ++ x2)) (by rw [sz, sz, sz, sz, sz, l9, l1]; omega) (bytesOf x0 ++ [32]) (32 :: bytesOf x2) (by rw [bytes_append, bytes_append, bytes_append, bytes_append, bytes_append, blank_bytes]; simp) (.inr rfl) (.inr rfl)
  | n + 1, i, k + 1, h, hk, hb => by
    have hw : wrap64 ((i : Int) + 1) = ((i + 1 : Nat) : Int) := by rw [wrap_id (by omega) (by omega)]; omega
    unfold laws_FnLanguage.l0
    rw [if_pos (by omega), if_pos (by omega), if_pos (by omega), hw]
    by_cases hc : bt x1 (i : Int) = 32
    · rw [if_pos hc]
    · rw [if_neg hc]
      refine loop x0 x1 x2 z0 z1 z2 h0 h1 n (i + 1) k (by omega) (by omega) (fun j hj => ?_)
      by_cases he : j = i
      · subst he; exact hc
      · exact hb j (by omega)
  | n, i, 0, h, hk, hb => absurd hk (Nat.not_lt_zero _)

theorem j1_true (a0 a1 a2 : ByteArray) (k : Nat) : laws_FnLanguage.j1 (k + 1) a0 a1 a2 true = some true := by
  rw [laws_FnLanguage.j1]
  rw [if_pos rfl]
theorem j0_true (a0 a1 a2 : ByteArray) (k : Nat) : laws_FnLanguage.j0 (k + 1) a0 a1 a2 true = some true := by
  rw [laws_FnLanguage.j0]
  rw [if_pos rfl]

theorem FnLanguage : laws_FnLanguage.Pure := by
  intro a0 a1 a2 w0 w1 w2
  have word : ∀ (a : ByteArray) (k : Nat), a.size ≤ 140737488351232 → a.size < k → ∃ b, laws_words29.f k a = some b ∧ (b = true → (45 : Int) ∉ bytesOf a) := by
    intro a k hs hk
    obtain ⟨b, hb, hp⟩ := words a hs a.size 0 k (by omega) hk
    exact ⟨b, hb, fun h => not_mem a 45 (fun j hj => hp h j (Nat.zero_le _) hj)⟩
  refine ⟨a0.size + a1.size + a2.size + 5 + 1 + 1, ?_⟩
  generalize hk : a0.size + a1.size + a2.size + 5 = k
  unfold laws_FnLanguage.f
  by_cases c0 : (a0.size : Int) > 2147483647
  · rw [if_pos c0]; exact j0_true _ _ _ _
  rw [if_neg c0]
  by_cases c1 : (a1.size : Int) > 2147483647
  · rw [if_pos c1]; exact j0_true _ _ _ _
  rw [if_neg c1]
  by_cases c2 : (a2.size : Int) > 2147483647
  · rw [decide_eq_true c2]; exact j0_true _ _ _ _
  rw [decide_eq_false c2]
  obtain ⟨b0, e0, p0⟩ := word a0 (k + 1) w0 (by omega)
  obtain ⟨b1, e1, p1⟩ := word a1 (k + 1) w1 (by omega)
  obtain ⟨b2, e2, p2⟩ := word a2 (k + 1) w2 (by omega)
  rw [laws_FnLanguage.j0]
  rw [if_neg (by decide), e0, Option.bind_some]
  cases b0 with
  | false => rw [if_neg (by decide)]; exact j1_true _ _ _ _
  | true =>
    rw [if_pos rfl, e1, Option.bind_some]
    cases b1 with
    | false => rw [if_neg (by decide)]; exact j1_true _ _ _ _
    | true =>
      rw [if_pos rfl, e2, Option.bind_some]
      cases b2 with
      | false => rw [if_neg (by decide)]; exact j1_true _ _ _ _
      | true =>
        rw [if_pos rfl]
        cases hx : (a1.toList == ([] : List UInt8)) with
        | true => exact j1_true _ _ _ _
        | false =>
          rw [laws_FnLanguage.j1]
          rw [if_neg (by decide)]
          exact loop a0 a1 a2 (by omega) (by omega) (by omega) (p0 rfl) (p1 rfl) a1.size 0 k (by omega) (by omega) (fun j hj => absurd hj (Nat.not_lt_zero _))

end Go.Proofs.Ytbhcoeabhdangaa.Pure
