/- The law FnSpan answers true for all whole numbers and texts: the places that a cell spans are told row by row. No further conditions. -/
import Derived.Test.YtgkdpjlmklhjaaaFFnSpanx1
import Derived.Test.YtgkdpjlmklhjaaaTxt
namespace Go.Proofs.Ytgkdpjlmklhjaaa.Pure
open Go.Proofs.Ytgkdpjlmklhjaaa.Txt Go.RowKit Go.Proofs.Ytgkdpjlmklhjaaa.PFnSpan Go.Proofs.YtgkdpjlmklhjaaaW.PrintWords Go.Proofs.YtgkdpjlmklhjaaaW.PrintLast

section
variable (r c : Int) (C : Nat) (l : List Int)
/-- The place with number n (from 1 on). -/
def gen (n : Nat) : S50 := ⟨r + (n / C : Nat), c + (n % C : Nat), l⟩
def G (m : Nat) : List S50 := (List.range m).map fun i => gen r c C l (i + 1)
theorem G_len (m : Nat) : (G r c C l m).length = m := by simp [G]
theorem G_succ (m : Nat) : G r c C l (m + 1) = G r c C l m ++ [gen r c C l (m + 1)] := by simp [G, List.range_succ]

variable (R : Nat) (hr : 0 ≤ r ∧ r ≤ 1000) (hc : 0 ≤ c ∧ c ≤ 1000) (hC : 1 ≤ C ∧ C ≤ 40) (hR : 1 ≤ R ∧ R ≤ 40)
include hr hc hC hR

omit hr hR in
theorem first (d : Nat) : ∀ (k dx : Nat), dx + d = C → 1 ≤ dx → table_calculateModifications.l0 (k + d + 1) r c R C l (G r c C l (dx - 1)) dx = if (R : Int) > 1 then table_calculateModifications.l1 k r c R C l (G r c C l (C - 1)) 1 else some (G r c C l (C - 1)) := by
  induction d with
  | zero =>
    intro k dx hd h1
    obtain rfl : dx = C := by omega
    rw [table_calculateModifications.l0, if_neg (by omega)]
  | succ d ih =>
    intro k dx hd h1
    have h2 := ih k (dx + 1) (by omega) (by omega)
    rw [show k + (d + 1) + 1 = (k + d + 1) + 1 from by omega, table_calculateModifications.l0, if_pos (by omega), G_len, if_pos (by omega), wrap_id (by omega) (by omega), wrap_id (by omega) (by omega)]
    have hg : (⟨r, c + (dx : Int), l⟩ : S50) = gen r c C l dx := by
      unfold gen
      rw [Nat.div_eq_of_lt (by omega), Nat.mod_eq_of_lt (by omega)]
      simp
    rw [hg]
    have h3 := G_succ r c C l (dx - 1)
    rw [show dx - 1 + 1 = dx from by omega] at h3
    rw [← h3]
    rw [show dx + 1 - 1 = dx from by omega] at h2
    exact h2

theorem row (dy : Nat) (hdy : 1 ≤ dy ∧ dy < R) (d : Nat) : ∀ (k dx : Nat), dx + d = C → table_calculateModifications.l2 (k + d + 1) r c R C l (G r c C l (dy * C + dx - 1)) dy dx = table_calculateModifications.l1 k r c R C l (G r c C l ((dy + 1) * C - 1)) ((dy + 1 : Nat) : Int) := by
  have hp : C ≤ dy * C := Nat.le_mul_of_pos_left _ (by omega)
  have hq : dy * C ≤ 40 * 40 := Nat.mul_le_mul (by omega) (by omega)
  induction d with
  | zero =>
    intro k dx hd
    obtain rfl : dx = C := by omega
    rw [table_calculateModifications.l2, if_neg (by omega), wrap_id (by omega) (by omega), Nat.succ_mul]
    rfl
  | succ d ih =>
    intro k dx hd
    have h2 := ih k (dx + 1) (by omega)
    rw [show k + (d + 1) + 1 = (k + d + 1) + 1 from by omega, table_calculateModifications.l2, if_pos (by omega), G_len, if_pos (by omega), wrap_id (by omega) (by omega), wrap_id (by omega) (by omega), wrap_id (by omega) (by omega)]
    have hg : (⟨r + (dy : Int), c + (dx : Int), l⟩ : S50) = gen r c C l (dy * C + dx) := by
      unfold gen
      rw [Nat.add_comm (dy * C) dx, Nat.add_mul_div_right _ _ (by omega), Nat.add_mul_mod_self_right, Nat.div_eq_of_lt (by omega), Nat.mod_eq_of_lt (by omega)]
      simp
    rw [hg]
    have h3 := G_succ r c C l (dy * C + dx - 1)
    rw [show dy * C + dx - 1 + 1 = dy * C + dx from by omega] at h3
    rw [← h3]
    rw [show dy * C + (dx + 1) - 1 = dy * C + dx from by omega] at h2
    exact h2

theorem rows (e : Nat) : ∀ (k dy : Nat), dy + e = R → 1 ≤ dy → table_calculateModifications.l1 (k + e * (C + 2) + 1) r c R C l (G r c C l (dy * C - 1)) dy = some (G r c C l (R * C - 1)) := by
  induction e with
  | zero =>
    intro k dy hd h1
    obtain rfl : dy = R := by omega
    rw [table_calculateModifications.l1, if_neg (by omega)]
  | succ e ih =>
    intro k dy hd h1
    have h2 := ih k (dy + 1) (by omega) (by omega)
    have h3 := row r c C l R hr hc hC hR dy (by omega) C (k + e * (C + 2) + 1) 0 (by omega)
    rw [show k + (e + 1) * (C + 2) + 1 = (k + e * (C + 2) + 1 + C + 1) + 1 from by rw [Nat.succ_mul]; omega, table_calculateModifications.l1, if_pos (by omega)]
    rw [Nat.add_zero] at h3
    exact h3.trans h2

theorem mods : ∃ K, ∀ k, K ≤ k → table_calculateModifications.f k r c R C l = some (G r c C l (R * C - 1)) := by
  have hpos : C ≤ R * C := Nat.le_mul_of_pos_left _ (by omega)
  have key : ∃ K, table_calculateModifications.f K r c R C l = some (G r c C l (R * C - 1)) := by
    refine ⟨(R * (C + 2) + 1) + C + 1 + 1, ?_⟩
    unfold table_calculateModifications.f
    rw [if_pos (by omega)]
    have hj : ∀ b : Bool, (b = true → R = 1 ∧ C = 1) → table_calculateModifications.j0 ((R * (C + 2) + 1) + C + 1 + 1) r c R C l (List.replicate 0 z50) b = some (G r c C l (R * C - 1)) := by
      intro b hb
      rw [table_calculateModifications.j0]
      cases b with
      | true =>
        obtain ⟨h1, h2⟩ := hb rfl
        subst h1
        subst h2
        rfl
      | false =>
        rw [if_neg (by simp)]
        have h1 := first r c C l R hc hC (C - 1) (R * (C + 2) + 2) 1 (by omega) (by omega)
        rw [show R * (C + 2) + 2 + (C - 1) + 1 = (R * (C + 2) + 1) + C + 1 from by omega] at h1
        refine h1.trans ?_
        by_cases hR1 : (R : Int) > 1
        · rw [if_pos hR1]
          have h2 := rows r c C l R hr hc hC hR (R - 1) (C + 3) 1 (by omega) (by omega)
          rw [Nat.one_mul, show C + 3 + (R - 1) * (C + 2) + 1 = R * (C + 2) + 2 from by rw [show R * (C + 2) = (R - 1) * (C + 2) + (C + 2) from by rw [← Nat.succ_mul]; congr 1; omega]; omega] at h2
          exact h2
        · rw [if_neg hR1]
          obtain rfl : R = 1 := by omega
          rw [Nat.one_mul]
    simp only [Option.bind_some]
    split
    · exact hj _ (fun h => ⟨by have := of_decide_eq_true h; omega, by omega⟩)
    · exact hj _ (fun h => by cases h)
  obtain ⟨K, hK⟩ := key
  exact ⟨K, fun k hk => at_rounds (fun k => table_calculateModifications.mono _ _ _ _ _ k) hk hK⟩
end

/-- The copies of the door. -/
def copy (x : S50) : S42 := ⟨x.f0, x.f1, x.f2⟩
theorem copies (t : List S50) (ht : t.length ≤ 10000) (d : Nat) : ∀ (k i : Nat), i + d = t.length → table_ZzSpan.l0 (k + d + 1) ((t.take i).map copy) t t.length i = some (t.map copy) := by
  induction d with
  | zero =>
    intro k i hi
    rw [table_ZzSpan.l0, if_neg (by omega), List.take_of_length_le (by omega)]
  | succ d ih =>
    intro k i hi
    have hlt : i < t.length := by omega
    have h2 := ih k (i + 1) (by omega)
    rw [show k + (d + 1) + 1 = (k + d + 1) + 1 from by omega, table_ZzSpan.l0, if_pos (by omega), if_pos (by omega), if_pos (by omega), if_pos (by rw [List.length_map, List.length_take]; omega), wrap_id (by omega) (by omega)]
    have hx : rd_T50 t (i : Int) = t[i] := by simp [rd_T50, List.getD_eq_getElem?_getD, List.getElem?_eq_getElem hlt]
    rw [hx]
    rw [List.take_succ_eq_append_getElem hlt, List.map_append] at h2
    exact h2

section
variable (r c : Int) (C R : Nat) (s : ByteArray) (hr : 0 ≤ r ∧ r ≤ 1000) (hc : 0 ≤ c ∧ c ≤ 1000) (hC : 1 ≤ C ∧ C ≤ 40) (hR : 1 ≤ R ∧ R ≤ 40) (hs : s.size ≤ 2147483647)
/-- What the law looks at. -/
def out : List S30 := ((G r c C (bytesOf s) (R * C - 1)).map copy).map told
theorem out_len : (out r c C R s).length = R * C - 1 := by simp [out, G_len]
theorem out_get (i : Nat) (hi : i < R * C - 1) : rd_T30 (out r c C R s) (i : Int) = ⟨r + ((i + 1) / C : Nat), c + ((i + 1) % C : Nat), s⟩ := by
  have hl : i < (out r c C R s).length := by rw [out_len]; exact hi
  simp only [rd_T30, Int.toNat_natCast, List.getD_eq_getElem?_getD, List.getElem?_eq_getElem hl, Option.getD_some]
  simp [out, G, copy, told, gen, str_bytes]
include hr hc hC hR hs
theorem span : ∃ K, ∀ k, K ≤ k → impl_Span.f k r c R C s = some (out r c C R s) := by
  obtain ⟨K, hK⟩ := mods r c C (bytesOf s) R hr hc hC hR
  have hm : R * C ≤ 40 * 40 := Nat.mul_le_mul (by omega) (by omega)
  have key : impl_Span.f (K + (R * C - 1) + 1) r c R C s = some (out r c C R s) := by
    unfold impl_Span.f table_ZzSpan.f
    rw [if_pos (by omega), hK _ (by omega)]
    simp only [Option.bind_some]
    have h := copies (G r c C (bytesOf s) (R * C - 1)) (by rw [G_len]; omega) (R * C - 1) K 0 (by rw [G_len]; omega)
    rw [List.take_zero, List.map_nil, Int.natCast_zero] at h
    rw [h]
    simp only [Option.bind_some]
    rw [if_pos (by rw [List.length_map, G_len]; omega)]
    rfl
  exact ⟨_, fun k hk => at_rounds (fun k => impl_Span.mono _ _ _ _ _ k) hk key⟩

omit hs in
theorem looks (k0 : Nat) (hk0 : impl_Span.f k0 0 0 1 2 (⟨#[]⟩ : ByteArray) = some (out 0 0 2 1 ⟨#[]⟩)) (d : Nat) : ∀ (k i : Nat), k0 ≤ k → i + d = R * C - 1 → laws_FnSpan.l0 (k + d + 1) r c C s (out r c C R s) ((R * C - 1 : Nat) : Int) i = some true := by
  have hm : R * C ≤ 40 * 40 := Nat.mul_le_mul (by omega) (by omega)
  induction d with
  | zero =>
    intro k i hk hi
    rw [laws_FnSpan.l0, if_neg (by omega), at_rounds (fun k => impl_Span.mono _ _ _ _ _ k) (show k0 ≤ k by omega) hk0]
    simp [out_len]
  | succ d ih =>
    intro k i hk hi
    have h2 := ih k (i + 1) hk (by omega)
    have hl := out_len r c C R s
    rw [show k + (d + 1) + 1 = (k + d + 1) + 1 from by omega, laws_FnSpan.l0, if_pos (by omega), if_pos (by omega), if_pos (by omega), if_neg (by omega), out_get r c C R s i (by omega)]
    have hw : wrap64 ((i : Int) + 1) = ((i + 1 : Nat) : Int) := by rw [wrap_id (by omega) (by omega)]; omega
    have hdl : (i + 1) / C ≤ i + 1 := Nat.div_le_self _ _
    have hml : (i + 1) % C < C := Nat.mod_lt _ (by omega)
    have hd : Int.tdiv ((i + 1 : Nat) : Int) (C : Int) = ((i + 1) / C : Nat) := (Int.tdiv_eq_ediv_of_nonneg (Int.natCast_nonneg _)).trans (Int.natCast_ediv _ _).symm
    have hmd : Int.tmod ((i + 1 : Nat) : Int) (C : Int) = ((i + 1) % C : Nat) := (Int.tmod_eq_emod_of_nonneg (Int.natCast_nonneg _)).trans (Int.natCast_emod _ _).symm
    rw [hw, hd, hmd]
    clear hd hmd hw 
    generalize (i + 1) / C = q at hdl ⊢
    generalize (i + 1) % C = m at hml ⊢
    have hi2 : i + 1 ≤ 1600 := by omega
    clear hl hm hi ih hk hk0
    have hw1 : wrap64 (q : Int) = (q : Int) := wrap_id (by omega) (by omega)
    have hw2 : wrap64 (r + (q : Int)) = r + (q : Int) := wrap_id (by omega) (by omega)
    have hw3 : wrap64 (c + (m : Int)) = c + (m : Int) := wrap_id (by omega) (by omega)
    simp only [hw1, hw2, hw3, if_true]
    exact h2
end

theorem inside (a0 a1 : Int) (R C : Nat) (a4 : ByteArray) (hbig : ¬ (a4.size : Int) > 2147483647) (hr : 0 ≤ a0 ∧ a0 ≤ 1000) (hc : 0 ≤ a1 ∧ a1 ≤ 1000) (hC : 1 ≤ C ∧ C ≤ 40) (hR : 1 ≤ R ∧ R ≤ 40) : ∃ k, laws_FnSpan.f k a0 a1 R C a4 = some true := by
  have hs : a4.size ≤ 2147483647 := by omega
  obtain ⟨K, hK⟩ := span a0 a1 C R a4 hr hc hC hR hs
  obtain ⟨K2, hK2⟩ := span 0 0 2 1 (⟨#[]⟩ : ByteArray) ⟨by omega, by omega⟩ ⟨by omega, by omega⟩ ⟨by omega, by omega⟩ ⟨by omega, by omega⟩ (Nat.zero_le _)
  have h2 := hK2 K2 (Nat.le_refl _)
  have e1 : ((1 : Nat) : Int) = 1 := rfl
  have e2 : ((2 : Nat) : Int) = 2 := rfl
  have h2' : impl_Span.f K2 0 0 1 2 (⟨#[]⟩ : ByteArray) = some (out 0 0 2 1 ⟨#[]⟩) := by
    rw [e1, e2] at h2
    exact h2
  have hlook := looks a0 a1 C R a4 hr hc hC hR K2 h2' (R * C - 1) (K + K2) 0 (by omega) (by omega)
  have hKx := hK (K + K2 + (R * C - 1) + 1) (by omega)
  have hm : R * C ≤ 40 * 40 := Nat.mul_le_mul hR.2 hC.2
  have hpos : 1 ≤ R * C := Nat.mul_pos hR.1 hC.1
  refine ⟨(K + K2 + (R * C - 1) + 1) + 1, ?_⟩
  have hcast : ((R : Int) * (C : Int)) = ((R * C : Nat) : Int) := by simp
  have hlen := out_len a0 a1 C R a4
  clear hK hK2 h2 h2'
  generalize out a0 a1 C R a4 = o at hlook hKx hlen
  generalize R * C = M at hlook hKx hlen hm hpos hcast ⊢
  unfold laws_FnSpan.f
  rw [if_neg hbig, if_neg (by omega), if_neg (by omega), if_neg (by omega), if_neg (by omega), if_neg (by omega), if_neg (by omega), if_neg (by omega), decide_eq_false (show ¬ ((C : Int) > 40) by omega), laws_FnSpan.j0, if_neg (by simp), hKx, Option.bind_some, hlen]
  have hw1 : wrap64 (M : Int) = (M : Int) := wrap_id (by omega) (by omega)
  have hw2 : wrap64 ((M : Int) - 1) = ((M - 1 : Nat) : Int) := by rw [wrap_id (by omega) (by omega)]; omega
  rw [hcast, hw1, hw2, if_pos rfl]
  exact hlook

theorem outside (a0 a1 a2 a3 : Int) (a4 : ByteArray) (hbig : ¬ (a4.size : Int) > 2147483647) (hout : a0 < 0 ∨ a0 > 1000 ∨ a1 < 0 ∨ a1 > 1000 ∨ a2 < 1 ∨ a2 > 40 ∨ a3 < 1 ∨ a3 > 40) : laws_FnSpan.f 1 a0 a1 a2 a3 a4 = some true := by
  have hj : laws_FnSpan.j0 1 a0 a1 a2 a3 a4 true = some true := by rw [laws_FnSpan.j0, if_pos rfl]
  unfold laws_FnSpan.f
  rw [if_neg hbig]
  by_cases c1 : a0 < 0
  · rw [if_pos c1]; exact hj
  rw [if_neg c1]
  by_cases c2 : a0 > 1000
  · rw [if_pos c2]; exact hj
  rw [if_neg c2]
  by_cases c3 : a1 < 0
  · rw [if_pos c3]; exact hj
  rw [if_neg c3]
  by_cases c4 : a1 > 1000
  · rw [if_pos c4]; exact hj
  rw [if_neg c4]
  by_cases c5 : a2 < 1
  · rw [if_pos c5]; exact hj
  rw [if_neg c5]
  by_cases c6 : a2 > 40
  · rw [if_pos c6]; exact hj
  rw [if_neg c6]
  by_cases c7 : a3 < 1
  · rw [if_pos c7]; exact hj
  rw [if_neg c7, decide_eq_true (show a3 > 40 by omega)]
  exact hj

theorem FnSpan : laws_FnSpan.Pure := by
  intro a0 a1 a2 a3 a4 h0 h1 h2 h3 h4
  by_cases hbig : (a4.size : Int) > 2147483647
  · exact ⟨1, by unfold laws_FnSpan.f; rw [if_pos hbig]⟩
  by_cases hout : a0 < 0 ∨ a0 > 1000 ∨ a1 < 0 ∨ a1 > 1000 ∨ a2 < 1 ∨ a2 > 40 ∨ a3 < 1 ∨ a3 > 40
  · exact ⟨1, outside a0 a1 a2 a3 a4 hbig hout⟩
  · obtain ⟨R, rfl⟩ := Int.eq_ofNat_of_zero_le (show 0 ≤ a2 by omega)
    obtain ⟨C, rfl⟩ := Int.eq_ofNat_of_zero_le (show 0 ≤ a3 by omega)
    exact inside a0 a1 R C a4 hbig ⟨by omega, by omega⟩ ⟨by omega, by omega⟩ ⟨by omega, by omega⟩ ⟨by omega, by omega⟩

end Go.Proofs.Ytgkdpjlmklhjaaa.Pure
