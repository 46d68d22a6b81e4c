/- The law FnTitle answers true for every text: what stands within quotes is what the statement types. No further conditions. -/
import Derived.Test.YtgkdpjlmklhjaaaFFnTitlex1
import Derived.Test.YtgkdpjlmklhjaaaAscFnTitle
namespace Go.Proofs.Ytgkdpjlmklhjaaa.Pure
open Go.Proofs.Ytgkdpjlmklhjaaa.Txt Go.RowKit Go.Proofs.Ytgkdpjlmklhjaaa.PFnTitle Go.Proofs.YtgkdpjlmklhjaaaW.PrintWords Go.Proofs.YtgkdpjlmklhjaaaW.PrintLast

theorem mem_skip {c x : Int} {t : List Int} (h : ¬ x = c) : decide (c ∈ x :: t) = decide (c ∈ t) := by
  have h2 : ¬ c = x := fun e => h e.symm
  simp [h2]
theorem mem_snoc (c x : Int) (t : List Int) : decide (c ∈ t ++ [x]) = (decide (c ∈ t) || (x == c)) := by
  by_cases h : x = c
  · simp [h]
  · have h2 : ¬ c = x := fun e => h e.symm
    simp [h, h2]

theorem has_loop (l : List Int) (c : Int) (hl : l.length ≤ 4294967296) (d : Nat) : ∀ (k i : Nat), i + d = l.length → d < k → textutils_zzHas.l0 k l c (i : Int) = some (decide (c ∈ l.drop i)) := by
  induction d with
  | zero =>
    intro k i hi hk
    obtain ⟨k, rfl⟩ : ∃ m, k = m + 1 := ⟨k - 1, by omega⟩
    simp only [textutils_zzHas.l0]
    rw [if_neg (by omega), List.drop_of_length_le (by omega)]
    simp
  | succ d ih =>
    intro k i hi hk
    obtain ⟨k, rfl⟩ : ∃ m, k = m + 1 := ⟨k - 1, by omega⟩
    have hlt : i < l.length := by omega
    simp only [textutils_zzHas.l0]
    rw [if_pos (by omega), if_pos (by omega), rd_get hlt, wrap_id (by omega) (by omega)]
    rw [List.drop_eq_getElem_cons hlt]
    by_cases h : l[i] = c
    · rw [if_pos h]; simp [h]
    · rw [if_neg h]
      have := ih k (i + 1) (by omega) (by omega)
      rw [show ((i : Int) + 1) = ((i + 1 : Nat) : Int) from by omega, this, mem_skip h]
theorem has (l : List Int) (c : Int) (hl : l.length ≤ 4294967296) (k : Nat) (hk : l.length < k) : textutils_zzHas.f k l c = some (decide (c ∈ l)) := by
  have := has_loop l c hl l.length k 0 (by omega) hk
  simpa [textutils_zzHas.f] using this

/-- A backslash ahead of each double quote. -/
def esc (x : Int) : List Int := if x = 34 then [92, 34] else [x]
theorem esc_len (x : Int) : (esc x).length ≤ 2 := by unfold esc; split <;> simp
theorem escs_len (l : List Int) : (l.flatMap esc).length ≤ 2 * l.length := by
  induction l with
  | nil => simp
  | cons x l ih => rw [List.flatMap_cons, List.length_append, List.length_cons]; have := esc_len x; omega
theorem escs_pos {l : List Int} (h : 0 < l.length) : 0 < (l.flatMap esc).length := by
  cases l with
  | nil => cases h
  | cons x l => rw [List.flatMap_cons, List.length_append]; unfold esc; split <;> simp <;> omega

theorem replace_loop (l : List Int) (hb : Byt l) (hl : l.length ≤ 1000) (d : Nat) : ∀ (k i : Nat), i + d = l.length → d < k →
    textutils_zzReplaceAll.l0 k l (⟨#[34]⟩ : ByteArray) (⟨#[92, 34]⟩ : ByteArray) ((l.take i).flatMap esc) (i : Int) = some (l.flatMap esc) := by
  induction d with
  | zero =>
    intro k i hi hk
    obtain ⟨k, rfl⟩ : ∃ m, k = m + 1 := ⟨k - 1, by omega⟩
    simp only [textutils_zzReplaceAll.l0]
    rw [if_neg (by omega), List.take_of_length_le (by omega)]
  | succ d ih =>
    intro k i hi hk
    obtain ⟨k, rfl⟩ : ∃ m, k = m + 1 := ⟨k - 1, by omega⟩
    have hlt : i < l.length := by omega
    have hs : (((⟨#[34]⟩ : ByteArray).size : Nat) : Int) = 1 := rfl
    have hs2 : (⟨#[92, 34]⟩ : ByteArray).size = 2 := rfl
    have he := escs_len (l.take i)
    have ht : (l.take i).length ≤ 1000 := by rw [List.length_take]; omega
    have hw : wrap64 ((i : Int) + 1) = ((i + 1 : Nat) : Int) := by rw [wrap_id (by omega) (by omega)]; omega
    have hi2 := ih k (i + 1) (by omega) (by omega)
    rw [take_snoc hlt, List.flatMap_append, List.flatMap_cons, List.flatMap_nil, List.append_nil] at hi2
    simp only [textutils_zzReplaceAll.l0, hs, hs2, hw]
    rw [if_pos (by omega), if_pos (by omega), if_pos (by omega), if_pos (by omega)]
    have hcut : (strOfNums (List.drop ((i : Int)).toNat (List.take (((i + 1 : Nat) : Int)).toNat l))).toList = ([l[i]].map fun n => UInt8.ofNat n.toNat) := by
      simp only [Int.toNat_natCast]
      rw [take_one_drop hlt, Lib.strOfNums_toList]
      rfl
    have hq : (⟨#[34]⟩ : ByteArray).toList = [34] := by rw [Lib.toList_data]
    rw [hcut, hq]
    have hbx := hb l[i] (List.getElem_mem hlt)
    by_cases h : l[i] = 34
    · rw [if_pos (by rw [h]; rfl), if_pos (by omega)]
      have e2 : esc l[i] = [92, 34] := by rw [h]; rfl
      rw [e2] at hi2
      exact hi2
    · have hne : ¬ (([l[i]].map fun n => UInt8.ofNat n.toNat) = ([34] : List UInt8)) := by
        intro e
        injection e with e _
        have := congrArg UInt8.toNat e
        rw [UInt8.toNat_ofNat'] at this
        have h34 : (34 : UInt8).toNat = 34 := rfl
        omega
      have e2 : esc l[i] = [l[i]] := by unfold esc; rw [if_neg h]
      rw [if_neg hne, if_pos (by omega), rd_get hlt]
      rw [e2] at hi2
      exact hi2

theorem replaced (l : List Int) (hb : Byt l) (hl : l.length ≤ 1000) (k : Nat) (hk : l.length < k) :
    textutils_zzReplaceAll.f k l (⟨#[34]⟩ : ByteArray) (⟨#[92, 34]⟩ : ByteArray) = some (l.flatMap esc) := by
  have := replace_loop l hb hl l.length k 0 (by omega) hk
  simpa [textutils_zzReplaceAll.f] using this

/-- What stands within quotes. -/
def want (l : List Int) : List Int := if l = [] then [] else if 34 ∈ l then (if 39 ∈ l then 34 :: l.flatMap esc ++ [34] else 39 :: l ++ [39]) else 34 :: l ++ [34]

theorem quoted (l : List Int) (hb : Byt l) (hl : l.length ≤ 1000) (k : Nat) (hk : l.length < k) : impl_Quoted.f k (strOfNums l) = some (strOfNums (want l)) := by
  unfold impl_Quoted.f want
  rw [str_size, bytes_str hb, if_pos (by omega)]
  by_cases h0 : l = []
  · subst h0; rfl
  · have hp : 0 < l.length := List.length_pos_iff.2 h0
    rw [if_neg (by omega), if_neg h0, has l 34 (by omega) k hk, has l 39 (by omega) k hk, replaced l hb hl k hk]
    simp only [Option.bind_some]
    have h1 := escs_len l
    have h2 := escs_pos hp
    by_cases h34 : 34 ∈ l
    · by_cases h39 : 39 ∈ l
      · rw [if_pos h34, if_pos h39, if_pos (by simpa using h34), if_pos (by simpa using h39), if_pos h2, if_pos (by omega)]
      · rw [if_pos h34, if_neg h39, if_pos (by simpa using h34), if_neg (by simpa using h39)]
    · rw [if_neg h34, if_neg (by simpa using h34)]

/-- The first loop of the law tells which quotes there are. -/
theorem flags (l : List Int) (hb : Byt l) (hl : l.length ≤ 1000) (d : Nat) : ∀ (k i : Nat), i + d = l.length →
    laws_FnTitle.l0 (k + d) (strOfNums l) (decide (34 ∈ l.take i)) (decide (39 ∈ l.take i)) (l.length : Int) (i : Int) = laws_FnTitle.l0 k (strOfNums l) (decide (34 ∈ l)) (decide (39 ∈ l)) (l.length : Int) (l.length : Int) := by
  induction d with
  | zero =>
    intro k i hi
    obtain rfl : i = l.length := by omega
    rw [List.take_length]
    rfl
  | succ d ih =>
    intro k i hi
    have hlt : i < l.length := by omega
    have h2 := ih k (i + 1) (by omega)
    rw [← h2, show k + (d + 1) = (k + d) + 1 from by omega]
    have hw : wrap64 ((i : Int) + 1) = ((i + 1 : Nat) : Int) := by rw [wrap_id (by omega) (by omega)]; omega
    have e34 : decide (34 ∈ l.take (i + 1)) = (decide (34 ∈ l.take i) || (l[i] == 34)) := by
      rw [take_snoc hlt, mem_snoc]
    have e39 : decide (39 ∈ l.take (i + 1)) = (decide (39 ∈ l.take i) || (l[i] == 39)) := by
      rw [take_snoc hlt, mem_snoc]
    rw [e34, e39]
    generalize decide (34 ∈ l.take i) = b1
    generalize decide (39 ∈ l.take i) = b2
    rw [laws_FnTitle.l0]
    simp only [hw, bt_str hb, str_size, rd_get hlt]
    rw [if_pos (by omega), if_pos (show (0 : Int) ≤ (i : Int) by omega), if_pos (show (i : Int) < (l.length : Int) by omega)]
    cases b1 <;> cases b2 <;> simp <;> omega

/-- The second loop builds the text with backslashes. -/
theorem built (l : List Int) (hb : Byt l) (hl : l.length ≤ 1000) (d : Nat) : ∀ (k i : Nat), i + d = l.length →
    laws_FnTitle.l1 (k + d) (strOfNums l) (strOfNums (34 :: (l.take i).flatMap esc)) (l.length : Int) (i : Int) = laws_FnTitle.l1 k (strOfNums l) (strOfNums (34 :: l.flatMap esc)) (l.length : Int) (l.length : Int) := by
  induction d with
  | zero =>
    intro k i hi
    obtain rfl : i = l.length := by omega
    rw [List.take_length]
    rfl
  | succ d ih =>
    intro k i hi
    have hlt : i < l.length := by omega
    have h2 := ih k (i + 1) (by omega)
    rw [← h2, show k + (d + 1) = (k + d) + 1 from by omega]
    have hw : wrap64 ((i : Int) + 1) = ((i + 1 : Nat) : Int) := by rw [wrap_id (by omega) (by omega)]; omega
    have he := escs_len (l.take i)
    have ht : (l.take i).length ≤ 1000 := by rw [List.length_take]; omega
    have hx : (strOfNums l).extract ((i : Int)).toNat (((i + 1 : Nat) : Int)).toNat = strOfNums [l[i]] := by
      apply bytes_inj
      rw [bytes_extract, bytes_str hb]
      simp only [Int.toNat_natCast]
      rw [take_one_drop hlt, bytes_str (Byt.one (hb l[i] (List.getElem_mem hlt)).1 (hb l[i] (List.getElem_mem hlt)).2)]
    rw [laws_FnTitle.l1]
    simp only [hw, bt_str hb, str_size, rd_get hlt, hx]
    rw [if_pos (by omega), if_pos (by omega), if_pos (by omega)]
    rw [take_snoc hlt, List.flatMap_append, List.flatMap_cons, List.flatMap_nil, List.append_nil]
    have hsz : (strOfNums (34 :: (l.take i).flatMap esc) ++ (⟨#[92]⟩ : ByteArray)).size = (34 :: (l.take i).flatMap esc).length + 1 := by rw [ByteArray.size_append, str_size]; rfl
    by_cases h : l[i] = 34
    · have e2 : esc l[i] = [92, 34] := by rw [h]; rfl
      rw [if_pos h, if_pos (by rw [List.length_cons]; omega), if_pos (by omega), if_pos (by omega), if_pos (by rw [hsz, List.length_cons, List.length_singleton]; omega), e2, h]
      rw [show (⟨#[92]⟩ : ByteArray) = strOfNums [92] from by decide, ← str_append, ← str_append]
      simp
    · have e2 : esc l[i] = [l[i]] := by unfold esc; rw [if_neg h]
      rw [if_neg h, if_pos (by omega), if_pos (by omega), if_pos (by rw [List.length_cons, List.length_singleton]; omega), e2, ← str_append]
      simp

theorem FnTitle : laws_FnTitle.Pure := by
  intro a0 hs
  obtain ⟨l, hasc, hl, hA⟩ := ascii a0 hs
  have hb := hA.byt
  refine ⟨1000 + l.length + l.length, ?_⟩
  unfold laws_FnTitle.f
  by_cases hbig : (a0.size : Int) > 2147483647
  · rw [if_pos hbig]
  rw [if_neg hbig, hasc _ (by omega)]
  simp only [Option.bind_some, str_size]
  have h1 := flags l hb (by omega) l.length (1000 + l.length) 0 (by omega)
  simp only [List.take_zero, List.not_mem_nil, decide_false, Int.natCast_zero] at h1
  rw [h1, show 1000 + l.length = (999 + l.length) + 1 from by omega, laws_FnTitle.l0]
  have s1 : ((⟨#[34]⟩ : ByteArray) ++ strOfNums l).size = 1 + l.length := by rw [ByteArray.size_append, str_size]; rfl
  have s2 : ((⟨#[39]⟩ : ByteArray) ++ strOfNums l).size = 1 + l.length := by rw [ByteArray.size_append, str_size]; rfl
  have w1 : ((⟨#[34]⟩ : ByteArray) ++ strOfNums l) ++ (⟨#[34]⟩ : ByteArray) = strOfNums (34 :: l ++ [34]) := by
    rw [show (⟨#[34]⟩ : ByteArray) = strOfNums [34] from by decide, ← str_append, ← str_append]; rfl
  have w2 : ((⟨#[39]⟩ : ByteArray) ++ strOfNums l) ++ (⟨#[39]⟩ : ByteArray) = strOfNums (39 :: l ++ [39]) := by
    rw [show (⟨#[39]⟩ : ByteArray) = strOfNums [39] from by decide, ← str_append, ← str_append]; rfl
  simp only [s1, str_size, w1]
  rw [if_neg (by omega), if_pos (by omega), if_pos (by omega)]
  by_cases h0 : l = []
  · subst h0
    rw [if_pos (toList_nil.2 rfl), quoted [] hb (by simp) _ (by simp)]
    simp [want, toList_nil, str_size]
  · have hp : 0 < l.length := List.length_pos_iff.2 h0
    rw [if_neg (fun h => by have := toList_nil.1 h; rw [str_size] at this; omega)]
    have hq : ∀ k, l.length < k → impl_Quoted.f k (strOfNums l) = some (strOfNums (want l)) := fun k hk => quoted l hb (by omega) k hk
    by_cases h34 : 34 ∈ l
    · rw [decide_eq_true h34, if_pos rfl]
      by_cases h39 : 39 ∈ l
      · rw [decide_eq_true h39, show 999 + l.length = (998 + l.length) + 1 from by omega, laws_FnTitle.j1, if_pos rfl]
        have h2 := built l hb (by omega) l.length 998 0 (by omega)
        simp only [List.take_zero, List.flatMap_nil, Int.natCast_zero] at h2
        rw [show strOfNums [34] = (⟨#[34]⟩ : ByteArray) from by decide] at h2
        rw [str_size, h2, show (998 : Nat) = 997 + 1 from rfl, laws_FnTitle.l1, if_neg (by omega)]
        have he := escs_len l
        rw [if_pos (by rw [str_size, List.length_cons]; omega), hq _ (by omega)]
        simp only [Option.bind_some]
        have hw : want l = 34 :: l.flatMap esc ++ [34] := by unfold want; rw [if_neg h0, if_pos h34, if_pos h39]
        rw [hw, show (⟨#[34]⟩ : ByteArray) = strOfNums [34] from by decide, ← str_append]
        simp
      · rw [decide_eq_false h39, show 999 + l.length = (998 + l.length) + 1 from by omega, laws_FnTitle.j1, if_neg (by simp), if_pos rfl]
        simp only [s2, str_size, w2]
        rw [if_pos (by omega), if_pos (by omega), hq _ (by omega)]
        have hw : want l = 39 :: l ++ [39] := by unfold want; rw [if_neg h0, if_pos h34, if_neg h39]
        simp only [Option.bind_some, hw]
        simp
    · rw [decide_eq_false h34, if_neg (by simp), show 999 + l.length = (998 + l.length) + 1 from by omega, laws_FnTitle.j1, if_neg (by simp), if_neg (by simp), hq _ (by omega)]
      have hw : want l = 34 :: l ++ [34] := by unfold want; rw [if_neg h0, if_neg h34]
      simp only [Option.bind_some, hw]
      simp

end Go.Proofs.Ytgkdpjlmklhjaaa.Pure
