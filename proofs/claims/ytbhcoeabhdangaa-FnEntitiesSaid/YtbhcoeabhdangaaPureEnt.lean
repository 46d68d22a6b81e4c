/- The law FnEntities answers true for every text: what is read back is the text. No further conditions. -/
import Derived.Test.YtbhcoeabhdangaaFEnt
import Derived.Test.YtbhcoeabhdangaaAsc
namespace Go.Proofs.Ytbhcoeabhdangaa.PEnt
open Go.Proofs.Ytbhcoeabhdangaa.Txt Go.RowKit Go.Proofs.YtbhcoeabhdangaaW.PrintWords Go.Proofs.YtbhcoeabhdangaaW.PrintLast Go.Proofs.YtbhcoeabhdangaaW.PrintMore
set_option linter.unusedVariables false
set_option linter.unusedSimpArgs false

theorem ext_iff2 (s sub : ByteArray) (i j : Nat) : (s.extract i j).toList = sub.toList ↔ ((bytesOf s).take j).drop i = bytesOf sub := by
  rw [← bytes_extract]
  exact ⟨fun h => by rw [toList_inj h], fun h => by rw [bytes_inj h]⟩
theorem lt_list : (⟨#[38, 108, 116, 59]⟩ : ByteArray).toList = [38, 108, 116, 59] := by rw [Lib.toList_data]
theorem gt_list : (⟨#[38, 103, 116, 59]⟩ : ByteArray).toList = [38, 103, 116, 59] := by rw [Lib.toList_data]
theorem wrap_p (i j : Nat) (hi : i ≤ 100000) (hj : j ≤ 10) : wrap64 ((i : Int) + (j : Int)) = ((i + j : Nat) : Int) := by unfold wrap64; omega
/-- Does an entity stand at place i? -/
def entAt (l : List Int) (i : Nat) : Prop := (l.take (i + 4)).drop i = [38, 108, 116, 59] ∨ (l.take (i + 4)).drop i = [38, 103, 116, 59]
theorem cut4 {l : List Int} {i : Nat} {x : List Int} (hx : x.length = 4) : (l.take (i + 4)).drop i = x ↔ ∃ r, l.drop i = x ++ r := by
  rw [show i + 4 = i + x.length by rw [hx], List.drop_take, Nat.add_sub_cancel_left]
  constructor
  · intro h
    exact ⟨(l.drop i).drop x.length, by conv => lhs; rw [← List.take_append_drop x.length (l.drop i), h]⟩
  · rintro ⟨r, h⟩
    rw [h, List.take_left]
def hasEnt (l : List Int) : Prop := ∃ i, i + 4 ≤ l.length ∧ entAt l i
/-- The second loop. -/
theorem tail_loop (l : List Int) (hb : Byt l) (hl : l.length ≤ 300) (U : ByteArray) (hU : ¬ hasEnt l → U = strOfNums l) : ∀ (d i : Nat), l.length - i = d → i ≤ l.length → (∀ j < i, j + 4 ≤ l.length → ¬ entAt l j) → Ev (fun k => laws_FnEntities.l1 k (strOfNums l) U (i : Int)) true := by
  intro d
  induction d with
  | zero =>
    intro i hd hil hn
    have hno : ¬ hasEnt l := fun ⟨j, h1, h2⟩ => hn j (by omega) h1 h2
    have hz : (strOfNums l).size = l.length := str_size l
    refine Ev.step (f := fun k => (laws_inlineLives.f k).bind fun t163 => some t163) (fun k => ?_) ⟨0, fun k _ => rfl⟩
    simp only [laws_FnEntities.l1]
    rw [if_neg (by rw [hz]; unfold wrap64; omega), if_pos (by rw [hU hno])]
  | succ d ih =>
    intro i hd hil hn
    have hz : (strOfNums l).size = l.length := str_size l
    have w3 := wrap_p i 3 (by omega) (by omega)
    have w4 := wrap_p i 4 (by omega) (by omega)
    have w1 := wrap_p i 1 (by omega) (by omega)
    by_cases h3 : i + 3 < l.length
    · by_cases he : entAt l i
      · refine Ev.step (f := fun _ => some true) (fun k => ?_) (Ev.now _)
        simp only [laws_FnEntities.l1]
        rw [show ((i : Int) + 3) = (i : Int) + ((3 : Nat) : Int) from rfl, w3, show ((i : Int) + 4) = (i : Int) + ((4 : Nat) : Int) from rfl, w4, if_pos (by omega), if_pos (by omega), if_pos (by omega), if_pos (by omega)]
        simp only [Int.toNat_natCast]
        rw [← lt_list, ← gt_list]
        simp only [ext_iff2, bytes_str hb]
        by_cases e1 : (l.take (i + 4)).drop i = [38, 108, 116, 59]
        · rw [if_pos (by rw [e1]; rfl)]
        · rw [if_neg (by intro h; exact e1 (h.trans rfl)), if_pos (by rcases he with h | h; exact absurd h e1; rw [h]; rfl)]
      · refine Ev.step (fun k => ?_) (ih (i + 1) (by omega) (by omega) (fun j hj h4 => by
          rcases Nat.lt_or_ge j i with h | h
          · exact hn j h h4
          · obtain rfl : j = i := by omega
            exact he))
        simp only [laws_FnEntities.l1]
        rw [show ((i : Int) + 3) = (i : Int) + ((3 : Nat) : Int) from rfl, w3, show ((i : Int) + 4) = (i : Int) + ((4 : Nat) : Int) from rfl, w4, show ((i : Int) + 1) = (i : Int) + ((1 : Nat) : Int) from rfl, w1, if_pos (by omega), if_pos (by omega), if_pos (by omega), if_pos (by omega)]
        simp only [Int.toNat_natCast]
        rw [← lt_list, ← gt_list]
        simp only [ext_iff2, bytes_str hb]
        rw [if_neg (by intro h; exact he (.inl (h.trans rfl))), if_neg (by intro h; exact he (.inr (h.trans rfl)))]
    · have hno : ¬ hasEnt l := fun ⟨j, h1, h2⟩ => hn j (by omega) h1 h2
      refine Ev.step (f := fun k => (laws_inlineLives.f k).bind fun t163 => some t163) (fun k => ?_) ⟨0, fun k _ => rfl⟩
      simp only [laws_FnEntities.l1]
      rw [show ((i : Int) + 3) = (i : Int) + ((3 : Nat) : Int) from rfl, w3, if_neg (by omega), if_pos (by rw [hU hno])]
/-- One turn of the first loop: which of the three ways it goes. -/
theorem head_turn (s : ByteArray) (T : List Int) (hb : Byt T) (ht : T.length ≤ 1200) (U : List Int) (hu : U.length ≤ 5000) (i : Nat) (hi : i < T.length) (h60 : T[i] ≠ 60) (h62 : T[i] ≠ 62) (r : Bool)
    (h1 : (T.take (i + 4)).drop i = [38, 108, 116, 59] → i + 4 ≤ T.length → Ev (fun k => laws_FnEntities.l0 k s (strOfNums T) (strOfNums (U ++ [60])) ((i + 4 : Nat) : Int)) r)
    (h2 : (T.take (i + 4)).drop i = [38, 103, 116, 59] → i + 4 ≤ T.length → Ev (fun k => laws_FnEntities.l0 k s (strOfNums T) (strOfNums (U ++ [62])) ((i + 4 : Nat) : Int)) r)
    (h3 : (i + 4 ≤ T.length → ¬ entAt T i) → Ev (fun k => laws_FnEntities.l0 k s (strOfNums T) (strOfNums (U ++ [T[i]])) ((i + 1 : Nat) : Int)) r) :
    Ev (fun k => laws_FnEntities.l0 k s (strOfNums T) (strOfNums U) (i : Int)) r := by
  have hz : (strOfNums T).size = T.length := str_size T
  have hzu : (strOfNums U).size = U.length := str_size U
  have w3 := wrap_p i 3 (by omega) (by omega)
  have w4 := wrap_p i 4 (by omega) (by omega)
  have w1 := wrap_p i 1 (by omega) (by omega)
  have w31 := wrap_p (i + 3) 1 (by omega) (by omega)
  have hbt : bt (strOfNums T) (i : Int) = T[i] := by rw [bt_str hb, rd_get hi]
  have e60 : strOfNums U ++ (⟨#[60]⟩ : ByteArray) = strOfNums (U ++ [60]) := by rw [str_append]; rfl
  have e62 : strOfNums U ++ (⟨#[62]⟩ : ByteArray) = strOfNums (U ++ [62]) := by rw [str_append]; rfl
  have e1 : strOfNums U ++ (strOfNums T).extract i (i + 1) = strOfNums (U ++ [T[i]]) := by
    apply bytes_inj
    rw [bytes_append, bytes_extract, bytes_str hb, take_one_drop hi]
    show bytesOf (strOfNums U) ++ [T[i]] = bytesOf (strOfNums (U ++ [T[i]]))
    rw [str_append, bytes_append]
    congr 1
    have hb1 : Byt [T[i]] := fun x hx => by
      rw [List.mem_singleton.1 hx]
      exact hb _ (List.getElem_mem hi)
    rw [bytes_str hb1]
  have sz1 : ((strOfNums T).extract i (i + 1)).size = 1 := by rw [ByteArray.size_extract]; omega
  have j1 : ∀ k, laws_FnEntities.l0 (k + 1) s (strOfNums T) (strOfNums U) (i : Int) = laws_FnEntities.j1 k s (strOfNums T) (strOfNums U) (i : Int) false := by
    intro k
    simp only [laws_FnEntities.l0]
    rw [if_pos (by omega), if_pos (by omega), hbt, if_neg h60, show (T[i] == 62) = false from beq_eq_false_iff_ne.2 h62]
  refine Ev.step j1 ?_
  by_cases h3l : i + 3 < T.length
  · refine Ev.step (f := fun k => laws_FnEntities.j2 k s (strOfNums T) (strOfNums U) (i : Int) (((strOfNums T).extract i (i + 4)).toList == ([38, 108, 116, 59] : List UInt8))) (fun k => ?_) ?_
    · simp only [laws_FnEntities.j1]
      rw [if_neg (by simp), show ((i : Int) + 3) = (i : Int) + ((3 : Nat) : Int) from rfl, w3, show ((i : Int) + 4) = (i : Int) + ((4 : Nat) : Int) from rfl, w4, if_pos (by omega), if_pos (by omega), if_pos (by omega), if_pos (by omega)]
      rfl
    · by_cases c1 : (T.take (i + 4)).drop i = [38, 108, 116, 59]
      · have t1 : (((strOfNums T).extract i (i + 4)).toList == ([38, 108, 116, 59] : List UInt8)) = true := by
          rw [beq_iff_eq, ← lt_list, ext_iff2, bytes_str hb, c1]
          rfl
        rw [t1]
        refine Ev.step (fun k => ?_) (h1 c1 (by omega))
        simp only [laws_FnEntities.j2]
        rw [if_pos trivial, if_pos (by omega), e60, show ((i : Int) + 3) = (i : Int) + ((3 : Nat) : Int) from rfl, w3, show (((i + 3 : Nat) : Int) + 1) = ((i + 3 : Nat) : Int) + ((1 : Nat) : Int) from rfl, w31]
      · have t1 : (((strOfNums T).extract i (i + 4)).toList == ([38, 108, 116, 59] : List UInt8)) = false := by
          rw [beq_eq_false_iff_ne, ← lt_list, Ne, ext_iff2, bytes_str hb]
          exact fun h => c1 (h.trans rfl)
        rw [t1]
        by_cases c2 : (T.take (i + 4)).drop i = [38, 103, 116, 59]
        · refine Ev.step (fun k => ?_) (h2 c2 (by omega))
          simp only [laws_FnEntities.j2]
          rw [if_neg (by simp), show ((i : Int) + 3) = (i : Int) + ((3 : Nat) : Int) from rfl, w3, show ((i : Int) + 4) = (i : Int) + ((4 : Nat) : Int) from rfl, w4, if_pos (by omega), if_pos (by omega), if_pos (by omega), if_pos (by omega)]
          simp only [Int.toNat_natCast]
          rw [if_pos (by rw [← gt_list, ext_iff2, bytes_str hb, c2]; rfl), if_pos (by omega), e62, show (((i + 3 : Nat) : Int) + 1) = ((i + 3 : Nat) : Int) + ((1 : Nat) : Int) from rfl, w31]
        · refine Ev.step (fun k => ?_) (h3 (fun _ h => by rcases h with h | h; exact c1 h; exact c2 h))
          simp only [laws_FnEntities.j2]
          rw [if_neg (by simp), show ((i : Int) + 3) = (i : Int) + ((3 : Nat) : Int) from rfl, w3, show ((i : Int) + 4) = (i : Int) + ((4 : Nat) : Int) from rfl, w4, show ((i : Int) + 1) = (i : Int) + ((1 : Nat) : Int) from rfl, w1, if_pos (by omega), if_pos (by omega), if_pos (by omega), if_pos (by omega)]
          simp only [Int.toNat_natCast]
          rw [if_neg (by rw [← gt_list, ext_iff2, bytes_str hb]; exact fun h => c2 (h.trans rfl)), if_pos (by omega), if_pos (by omega), if_pos (by rw [sz1]; omega), e1]
  · refine Ev.step (f := fun k => laws_FnEntities.j2 k s (strOfNums T) (strOfNums U) (i : Int) false) (fun k => ?_) ?_
    · simp only [laws_FnEntities.j1]
      rw [if_neg (by simp), show ((i : Int) + 3) = (i : Int) + ((3 : Nat) : Int) from rfl, w3, if_neg (by omega)]
    · refine Ev.step (fun k => ?_) (h3 (fun h => by omega))
      simp only [laws_FnEntities.j2]
      rw [if_neg (by simp), show ((i : Int) + 3) = (i : Int) + ((3 : Nat) : Int) from rfl, w3, show ((i : Int) + 1) = (i : Int) + ((1 : Nat) : Int) from rfl, w1, if_neg (by omega), if_pos (by omega), if_pos (by omega), if_pos (by omega)]
      simp only [Int.toNat_natCast]
      rw [if_pos (by rw [sz1]; omega), e1]
theorem ent1_ne (c : Int) : ∀ x ∈ ent1 c, x ≠ 60 ∧ x ≠ 62 := by
  unfold ent1
  split
  · decide
  · split
    · decide
    · rename_i h1 h2
      intro x hx
      obtain rfl : x = c := by simpa using hx
      exact ⟨h1, h2⟩
theorem entL_ne (l : List Int) : ∀ x ∈ entL l, x ≠ 60 ∧ x ≠ 62 := fun x hx => by
  obtain ⟨c, _, h⟩ := List.mem_flatMap.1 hx
  exact ent1_ne c x h
theorem entL_byt (l : List Int) (h : Byt l) : Byt (entL l) := fun x hx => by
  obtain ⟨c, hc, h2⟩ := List.mem_flatMap.1 hx
  have := h c hc
  unfold ent1 at h2
  split at h2
  · simp at h2
    omega
  · split at h2
    · simp at h2
      omega
    · obtain rfl : x = c := by simpa using h2
      exact this
/-- The first loop comes to its end, whatever stands there. -/
theorem head_any (s : ByteArray) (T : List Int) (hb : Byt T) (hne : ∀ x ∈ T, x ≠ 60 ∧ x ≠ 62) (ht : T.length ≤ 1200) (r : Bool) (hr : ∀ U, Ev (fun k => laws_FnEntities.l1 k s U 0) r) :
    ∀ (d i : Nat) (U : List Int), T.length ≤ i + d → U.length ≤ i → i ≤ T.length → Ev (fun k => laws_FnEntities.l0 k s (strOfNums T) (strOfNums U) (i : Int)) r := by
  intro d
  induction d with
  | zero =>
    intro i U hd hu hi
    refine Ev.step (fun k => ?_) (hr (strOfNums U))
    have hz : (strOfNums T).size = T.length := str_size T
    simp only [laws_FnEntities.l0]
    rw [if_neg (by omega)]
  | succ d ih =>
    intro i U hd hu hi
    by_cases hlt : i < T.length
    · obtain ⟨n1, n2⟩ := hne _ (List.getElem_mem hlt)
      exact head_turn s T hb ht U (by omega) i hlt n1 n2 r (fun _ h4 => ih (i + 4) _ (by omega) (by simp; omega) h4) (fun _ h4 => ih (i + 4) _ (by omega) (by simp; omega) h4) (fun _ => ih (i + 1) _ (by omega) (by simp; omega) (by omega))
    · refine Ev.step (fun k => ?_) (hr (strOfNums U))
      have hz : (strOfNums T).size = T.length := str_size T
      simp only [laws_FnEntities.l0]
      rw [if_neg (by omega)]
theorem drop_ent {T p m : List Int} {l : List Int} (h : l = p ++ m) : (entL l).drop (entL p).length = entL m := by
  subst h
  unfold entL
  rw [List.flatMap_append, List.drop_left]
theorem ent_lt {m r : List Int} {a b c : Int} (ha : a ≠ 38) (hb : b ≠ 38) (hc : c ≠ 38) (h : entL m = a :: b :: c :: r) : ∃ m', m = a :: b :: c :: m' := by
  have one : ∀ {m r : List Int} {a : Int}, a ≠ 38 → entL m = a :: r → ∃ m', m = a :: m' ∧ entL m' = r := by
    intro m r a ha h
    cases m with
    | nil => cases h
    | cons x m =>
      have h2 : ent1 x ++ entL m = a :: r := h
      unfold ent1 at h2
      split at h2
      · simp at h2
        exact absurd h2.1.symm ha
      · split at h2
        · simp at h2
          exact absurd h2.1.symm ha
        · simp at h2
          exact ⟨m, by rw [h2.1], h2.2⟩
  obtain ⟨m1, rfl, h1⟩ := one ha h
  obtain ⟨m2, rfl, h2⟩ := one hb h1
  obtain ⟨m3, rfl, h3⟩ := one hc h2
  exact ⟨m3, rfl⟩
/-- Without entities the first loop reads the text back. -/
theorem head_back (l : List Int) (hb : Byt l) (hl : l.length ≤ 300) (hn : ¬ hasEnt l) (r : Bool) (hr : Ev (fun k => laws_FnEntities.l1 k (strOfNums l) (strOfNums l) 0) r) :
    ∀ (m p : List Int), l = p ++ m → Ev (fun k => laws_FnEntities.l0 k (strOfNums l) (strOfNums (entL l)) (strOfNums p) (((entL p).length : Nat) : Int)) r := by
  have hle := entL_len l
  intro m
  induction m with
  | nil =>
    intro p hp
    rw [List.append_nil] at hp
    subst hp
    refine Ev.step (fun k => ?_) hr
    have hz : (strOfNums (entL l)).size = (entL l).length := str_size _
    simp only [laws_FnEntities.l0]
    rw [if_neg (by omega)]
  | cons c m ih =>
    intro p hp
    have hd : (entL l).drop (entL p).length = ent1 c ++ entL m := drop_ent (T := []) hp
    have hp2 : l = (p ++ [c]) ++ m := by rw [hp]; simp
    have hpl : p.length ≤ 300 := by have := congrArg List.length hp; rw [List.length_append] at this; omega
    have ihp := ih (p ++ [c]) hp2
    have hlp : entL (p ++ [c]) = entL p ++ ent1 c := by unfold entL; rw [List.flatMap_append]; simp
    rw [hlp, List.length_append] at ihp
    have hpos : 0 < (ent1 c).length := by unfold ent1; split; decide; split; decide; exact Nat.one_pos
    have hT : (entL l).length = (entL p).length + (ent1 c).length + (entL m).length := by
      have := congrArg List.length hd
      rw [List.length_drop, List.length_append] at this
      have h0 : (entL p).length ≤ (entL l).length := by
        rw [hp]
        unfold entL
        rw [List.flatMap_append, List.length_append]
        omega
      omega
    have hi : (entL p).length < (entL l).length := by omega
    obtain ⟨n1, n2⟩ := entL_ne l _ (List.getElem_mem hi)
    have hget : (entL l)[(entL p).length] = (ent1 c ++ entL m)[0]'(by rw [List.length_append]; omega) := by
      have := List.getElem_drop (xs := entL l) (i := (entL p).length) (j := 0) (h := by rw [hd, List.length_append]; omega)
      simp only [Nat.add_zero] at this
      rw [← this]
      congr 1
    refine head_turn (strOfNums l) (entL l) (entL_byt l hb) (by omega) p (by omega) _ hi n1 n2 r (fun h4 h5 => ?_) (fun h4 h5 => ?_) (fun h4 => ?_)
    · obtain ⟨q, hq⟩ := (cut4 rfl).1 h4
      rw [hd] at hq
      by_cases c60 : c = 60
      · subst c60
        exact ihp
      · exfalso
        by_cases c62 : c = 62
        · subst c62
          have : ([38, 103, 116, 59] : List Int) ++ entL m = [38, 108, 116, 59] ++ q := hq
          simp at this
        · have e : ent1 c = [c] := by unfold ent1; rw [if_neg c60, if_neg c62]
          rw [e] at hq
          have h6 : c = 38 ∧ entL m = 108 :: 116 :: 59 :: q := by simpa using hq
          obtain ⟨m', hm'⟩ := ent_lt (by decide) (by decide) (by decide) h6.2
          refine hn ⟨p.length, ?_, .inl ((cut4 rfl).2 ⟨m', ?_⟩)⟩
          · rw [hp, hm', List.length_append]; simp
          · rw [hp, List.drop_left, hm', h6.1]; rfl
    · obtain ⟨q, hq⟩ := (cut4 rfl).1 h4
      rw [hd] at hq
      by_cases c62 : c = 62
      · subst c62
        exact ihp
      · exfalso
        by_cases c60 : c = 60
        · subst c60
          have : ([38, 108, 116, 59] : List Int) ++ entL m = [38, 103, 116, 59] ++ q := hq
          simp at this
        · have e : ent1 c = [c] := by unfold ent1; rw [if_neg c60, if_neg c62]
          rw [e] at hq
          have h6 : c = 38 ∧ entL m = 103 :: 116 :: 59 :: q := by simpa using hq
          obtain ⟨m', hm'⟩ := ent_lt (by decide) (by decide) (by decide) h6.2
          refine hn ⟨p.length, ?_, .inr ((cut4 rfl).2 ⟨m', ?_⟩)⟩
          · rw [hp, hm', List.length_append]; simp
          · rw [hp, List.drop_left, hm', h6.1]; rfl
    · by_cases c60 : c = 60
      · subst c60
        exact absurd (.inl ((cut4 rfl).2 ⟨entL m, by rw [hd]; rfl⟩)) (h4 (by rw [hT]; show _ ≤ _ + 4 + _; omega))
      · by_cases c62 : c = 62
        · subst c62
          exact absurd (.inr ((cut4 rfl).2 ⟨entL m, by rw [hd]; rfl⟩)) (h4 (by rw [hT]; show _ ≤ _ + 4 + _; omega))
        · have e : ent1 c = [c] := by unfold ent1; rw [if_neg c60, if_neg c62]
          rw [hget]
          simp only [e] at ihp ⊢
          exact ihp
theorem FnEntities : laws_FnEntities.Pure := by
  intro a0 ha
  by_cases hbig : (a0.size : Int) > 2147483647
  · exact ⟨0, by unfold laws_FnEntities.f; rw [if_pos hbig]⟩
  · obtain ⟨l, hasc, hl, hA⟩ := ascii a0 ha
    have hb := hA.byt
    have hsz : (strOfNums l).size ≤ 2147483647 := by rw [str_size]; omega
    have e1 : Ev (fun k => laws_inlineASCII.f k a0) (strOfNums l) := ⟨302, fun k hk => hasc k (by omega)⟩
    have e2 : Ev (fun k => impl_Entities.f k (strOfNums l)) (strOfNums (entL l)) := ⟨0, fun k _ => by unfold impl_Entities.f; rw [if_pos hsz, bytes_str hb]⟩
    have hle := entL_len l
    have e3 : Ev (fun k => laws_FnEntities.l0 k (strOfNums l) (strOfNums (entL l)) (⟨#[]⟩ : ByteArray) 0) true := by
      by_cases hh : hasEnt l
      · exact head_any (strOfNums l) (entL l) (entL_byt l hb) (entL_ne l) (by omega) true (fun U => tail_loop l hb hl U (fun h => absurd hh h) _ 0 rfl (Nat.zero_le _) (fun j h => absurd h (Nat.not_lt_zero _))) (entL l).length 0 [] (by omega) (by simp) (by omega)
      · exact head_back l hb hl hh true (tail_loop l hb hl _ (fun _ => rfl) _ 0 rfl (Nat.zero_le _) (fun j h => absurd h (Nat.not_lt_zero _))) l [] rfl
    obtain ⟨k, hk⟩ := (e1.bind (f := fun k t => (impl_Entities.f k t).bind fun t162 => laws_FnEntities.l0 k t t162 (⟨#[]⟩ : ByteArray) 0) (e2.bind (f := fun k t => laws_FnEntities.l0 k (strOfNums l) t (⟨#[]⟩ : ByteArray) 0) e3)).rounds
    refine ⟨k, ?_⟩
    unfold laws_FnEntities.f
    rw [if_neg hbig]
    exact hk
theorem law_walk (a0 : ByteArray) (w : World) (w0 : a0.size ≤ 140737488351232) : Calls Try.prog 3 #[.string a0] w fun e w' => e = .returned (.bool true) ∧ Below w.heap.size w w' := laws_FnEntities.walk FnEntities a0 w w0
end Go.Proofs.Ytbhcoeabhdangaa.PEnt
