/- spec.Start, spec.Digits, spec.Prefix: what they give. -/
import Derived.Test.YtbhcoeabhdangaaDoorListX
import Derived.Test.YtbhcoeabhdangaaDoorPrefP
import Derived.Test.YtbhcoeabhdangaaDoorStartP
namespace Go.Proofs.YtbhcoeabhdangaaDoor.PInl
open Go.Proofs.YtbhcoeabhdangaaDoor.Txt Go.RowKit Go.Proofs.YtbhcoeabhdangaaDoorW.PrintWords Go.Proofs.YtbhcoeabhdangaaDoorW.PrintLast Go.Proofs.YtbhcoeabhdangaaDoorW.PrintMore
set_option linter.unusedVariables false
set_option linter.unusedSimpArgs false

theorem bt_data (s : ByteArray) (j : Nat) (h : j < s.data.toList.length) : bt s (j : Int) = (s.data.toList[j].toNat : Int) := by
  rw [bt_rd]
  have hl : j < (bytesOf s).length := by rw [bytesOf_length, ← data_length]; exact h
  rw [rd_get hl]
  simp [bytesOf]
theorem st_eq (start : ByteArray) (hs : start.size ≤ 12) : stOf start = (Lib.atoi (valOf start).data.toList).getD 1 := by
  have hz := val_size hs
  unfold stOf
  rw [Lib.atoiAll_short _ (by rw [data_length]; omega)]
  cases Lib.atoi (valOf start).data.toList <;> rfl
theorem mul_id (sg m : Int) (h : sg = 1 ∨ sg = -1) (h0 : 0 ≤ m) (h1 : m ≤ 100000000000000000) : wrap64 (sg * m) = sg * m := by
  rcases h with rfl | rfl
  · rw [wrap_id (by omega) (by omega)]
  · rw [wrap_id (by omega) (by omega)]
theorem st_wrap (acc b : Nat) (h1 : acc ≤ 1000000000000) (h2 : 48 ≤ b) (h3 : b ≤ 57) : wrap64 ((wrap64 (10 * (acc : Int))) + (((b : Int) - 48) % 256)) = ((acc * 10 + (b - 48) : Nat) : Int) := by
  rw [wrap_id (x := 10 * (acc : Int)) (by omega) (by omega), wrap_id (by omega) (by omega)]
  omega
theorem st_pow (acc b p : Nat) (h : acc < p) (h3 : b ≤ 57) : acc * 10 + (b - 48) < p * 10 := by omega
theorem st_n1 (b : Nat) (h : 48 ≤ b) : ¬ (b : Int) < 48 := by omega
theorem st_n2 (b : Nat) (h : b ≤ 57) : ¬ (b : Int) > 57 := by omega
theorem st_n3 (b : Nat) (h : ¬ (b : Int) < 48) (hd : ¬ (48 ≤ b ∧ b ≤ 57)) : (b : Int) > 57 := by omega
theorem atoi_cases (l : List UInt8) (h : 0 < l.length) : Lib.atoi l = if l[0] == 45 then (Lib.decNat (l.drop 1)).map (fun (m : Nat) => -(m : Int)) else if l[0] == 43 then (Lib.decNat (l.drop 1)).map (fun (m : Nat) => (m : Int)) else (Lib.decNat l).map (fun (m : Nat) => (m : Int)) := by
  cases l with
  | nil => cases h
  | cons a r => rfl
set_option maxHeartbeats 2000000 in
theorem start_loop (s : ByteArray) (hs : s.size ≤ 12) (sg : Int) (hsg : sg = 1 ∨ sg = -1) : ∀ (n j : Nat) (acc : Nat), s.data.toList.length = j + n → acc < 10 ^ j → Ev (fun k => spec_Start.l0 k s (acc : Int) (j : Int) sg) (match Lib.decFrom acc (s.data.toList.drop j) with | some m => sg * m | none => 1) := by
  have hlen := data_length s
  have hp : ∀ j, j ≤ 12 → 10 ^ j ≤ 1000000000000 := fun j hj => Nat.le_trans (Nat.pow_le_pow_right (by decide) hj) (by decide)
  intro n
  induction n with
  | zero =>
    intro j acc hj ha
    have h12 := hp j (by omega)
    rw [List.drop_eq_nil_of_le (by omega)]
    refine Ev.step (f := fun _ => some (sg * (acc : Int))) (fun k => ?_) (Ev.now _)
    simp only [spec_Start.l0]
    rw [if_neg (by omega), mul_id sg acc hsg (by omega) (by omega)]
  | succ n ih =>
    intro j acc hj ha
    have hlt : j < s.data.toList.length := by omega
    have hacc : acc ≤ 1000000000000 := Nat.le_trans (Nat.le_of_lt ha) (hp j (by omega))
    have hb := bt_data s j hlt
    have hby := s.data.toList[j].toNat_lt
    rw [List.drop_eq_getElem_cons hlt]
    unfold Lib.decFrom Lib.digitVal
    have hji : (j : Int) < (s.size : Int) := by omega
    have hj0 : (0 : Int) ≤ (j : Int) := by omega
    have hq : ¬ (acc : Int) > 1125899906842624 := by omega
    have w2 : wrap64 ((j : Int) + 1) = ((j + 1 : Nat) : Int) := by rw [wrap_id (by omega) (by omega)]; omega
    have hj1 : s.data.toList.length = j + 1 + n := by omega
    generalize s.data.toList[j] = b at *
    clear hp
    by_cases hd : 48 ≤ b.toNat ∧ b.toNat ≤ 57
    · rw [if_pos hd]
      have h10 : acc * 10 + (b.toNat - 48) < 10 ^ (j + 1) := by rw [Nat.pow_succ]; exact st_pow _ _ _ ha hd.2
      refine Ev.step (f := fun k => spec_Start.l0 k s ((acc * 10 + (b.toNat - 48) : Nat) : Int) ((j + 1 : Nat) : Int) sg) (fun k => ?_) (ih (j + 1) (acc * 10 + (b.toNat - 48)) hj1 h10)
      have w1 := st_wrap acc b.toNat hacc hd.1 hd.2
      have q1 : ¬ (b.toNat : Int) < 48 := st_n1 _ hd.1
      have q2 : ¬ (b.toNat : Int) > 57 := st_n2 _ hd.2
      simp only [spec_Start.l0, hb]
      rw [if_pos hji, if_pos hj0, if_neg q1, if_neg q2, if_neg hq, w1, w2]
    · rw [if_neg hd]
      refine Ev.step (f := fun _ => some 1) (fun k => ?_) (Ev.now _)
      simp only [spec_Start.l0, hb]
      rw [if_pos hji, if_pos hj0]
      by_cases h48 : (b.toNat : Int) < 48
      · rw [if_pos h48]
      · rw [if_neg h48, if_pos (st_n3 _ h48 hd)]
theorem start_j1 (s : ByteArray) (hs : s.size ≤ 12) (sg : Int) (hsg : sg = 1 ∨ sg = -1) (i : Nat) (hi : i ≤ 1) (hle : i ≤ s.size) : Ev (fun k => spec_Start.j1 k s 0 (i : Int) sg) (match (Lib.decNat (s.data.toList.drop i)) with | some m => sg * m | none => 1) := by
  have hlen := data_length s
  by_cases he : i = s.size
  · refine Ev.step (f := fun _ => some 1) (fun k => ?_) ?_
    · simp only [spec_Start.j1]
      rw [if_pos (by omega)]
    · have : s.data.toList.drop i = [] := List.drop_eq_nil_of_le (by omega)
      rw [this]
      exact Ev.now _
  · have hne : (s.data.toList.drop i).isEmpty = false := by
      rw [List.drop_eq_getElem_cons (show i < s.data.toList.length by omega)]
      rfl
    unfold Lib.decNat
    rw [hne]
    refine Ev.step (f := fun k => spec_Start.l0 k s ((0 : Nat) : Int) (i : Int) sg) (fun k => ?_) (start_loop s hs sg hsg (s.size - i) i 0 (by omega) (Nat.one_le_pow i 10 (by decide)))
    simp only [spec_Start.j1]
    rw [if_neg (by omega)]
    rfl
theorem start_ev (s : ByteArray) (hs : s.size ≤ 12) : Ev (fun k => spec_Start.f k s) (stOf s) := by
  have hlen := data_length s
  rw [st_eq s hs]
  unfold valOf
  by_cases h0 : s.size = 0
  · rw [if_pos h0]
    have hj := start_j1 s hs 1 (.inl rfl) 0 (by omega) (by omega)
    have hd : s.data.toList.drop 0 = [] := List.eq_nil_of_length_eq_zero (by rw [List.drop_zero]; omega)
    rw [hd] at hj
    refine Ev.congr (f := fun k => spec_Start.j0 k s 0 0 1 false) (fun k => ?_) (Ev.step (f := fun k => spec_Start.j1 k s 0 0 1) (fun k => ?_) hj)
    · show spec_Start.f k s = _
      unfold spec_Start.f
      rw [if_pos (toList_nil.2 h0)]
    · simp only [spec_Start.j0]
      rw [if_neg (by simp)]
  · rw [if_neg h0]
    have hlt : 0 < s.data.toList.length := by omega
    have hb : bt s 0 = (s.data.toList[0].toNat : Int) := bt_data s 0 hlt
    have hcons : s.data.toList = s.data.toList[0] :: s.data.toList.drop 1 := by
      have := List.drop_eq_getElem_cons hlt
      rwa [List.drop_zero] at this
    have hj0 := start_j1 s hs 1 (.inl rfl) 0 (by omega) (by omega)
    have hj1 := start_j1 s hs 1 (.inl rfl) 1 (by omega) (by omega)
    have hj2 := start_j1 s hs (-1) (.inr rfl) 1 (by omega) (by omega)
    rw [List.drop_zero] at hj0
    have hat : Lib.atoi s.data.toList = if s.data.toList[0] == 45 then (Lib.decNat (s.data.toList.drop 1)).map (fun (m : Nat) => -(m : Int)) else if s.data.toList[0] == 43 then (Lib.decNat (s.data.toList.drop 1)).map (fun (m : Nat) => (m : Int)) else (Lib.decNat s.data.toList).map (fun (m : Nat) => (m : Int)) := by
      exact atoi_cases _ hlt
    rw [hat]
    have e45 : (s.data.toList[0] == 45) = true ↔ bt s 0 = 45 := by
      rw [hb, beq_iff_eq]
      exact ⟨fun h => by rw [h]; rfl, fun h => by apply UInt8.toNat_inj.1; show _ = 45; omega⟩
    have e43 : (s.data.toList[0] == 43) = true ↔ bt s 0 = 43 := by
      rw [hb, beq_iff_eq]
      exact ⟨fun h => by rw [h]; rfl, fun h => by apply UInt8.toNat_inj.1; show _ = 43; omega⟩
    have hf : ∀ k, spec_Start.f k s = if bt s 0 = 45 then spec_Start.j0 k s 0 0 1 true else spec_Start.j0 k s 0 0 1 (bt s 0 == 43) := fun k => by
      unfold spec_Start.f
      rw [if_neg (fun h => h0 (toList_nil.1 h)), if_pos (by omega)]
    by_cases h45 : bt s 0 = 45
    · rw [if_pos (e45.2 h45)]
      refine Ev.congr (f := fun k => spec_Start.j0 k s 0 0 1 true) (fun k => ?_) (Ev.step (f := fun k => spec_Start.j1 k s 0 ((1 : Nat) : Int) (-1)) (fun k => ?_) ?_)
      · show spec_Start.f k s = _
        rw [hf, if_pos h45]
      · simp only [spec_Start.j0]
        rw [if_pos trivial, if_pos (by omega), if_pos h45]
        rfl
      · cases hx : Lib.decNat (s.data.toList.drop 1) with
        | none => rw [hx] at hj2; exact hj2
        | some m =>
          rw [hx] at hj2
          have h2 : Ev (fun k => spec_Start.j1 k s 0 ((1 : Nat) : Int) (-1)) ((-1 : Int) * (m : Int)) := hj2
          have : (-1 : Int) * (m : Int) = -(m : Int) := by omega
          rw [this] at h2
          exact h2
    · rw [if_neg (fun h => h45 (e45.1 h))]
      by_cases h43 : bt s 0 = 43
      · rw [if_pos (e43.2 h43)]
        refine Ev.congr (f := fun k => spec_Start.j0 k s 0 0 1 true) (fun k => ?_) (Ev.step (f := fun k => spec_Start.j1 k s 0 ((1 : Nat) : Int) 1) (fun k => ?_) ?_)
        · show spec_Start.f k s = _
          rw [hf, if_neg h45, beq_iff_eq.2 h43]
        · simp only [spec_Start.j0]
          rw [if_pos trivial, if_pos (by omega), if_neg h45]
          rfl
        · cases hx : Lib.decNat (s.data.toList.drop 1) with
          | none => rw [hx] at hj1; exact hj1
          | some m =>
            rw [hx] at hj1
            have h2 : Ev (fun k => spec_Start.j1 k s 0 ((1 : Nat) : Int) 1) ((1 : Int) * (m : Int)) := hj1
            rw [Int.one_mul] at h2
            exact h2
      · rw [if_neg (fun h => h43 (e43.1 h))]
        refine Ev.congr (f := fun k => spec_Start.j0 k s 0 0 1 false) (fun k => ?_) (Ev.step (f := fun k => spec_Start.j1 k s 0 ((0 : Nat) : Int) 1) (fun k => ?_) ?_)
        · show spec_Start.f k s = _
          rw [hf, if_neg h45, beq_eq_false_iff_ne.2 h43]
        · simp only [spec_Start.j0]
          rw [if_neg (by simp)]
          rfl
        · cases hx : Lib.decNat s.data.toList with
          | none => rw [hx] at hj0; exact hj0
          | some m =>
            rw [hx] at hj0
            have h2 : Ev (fun k => spec_Start.j1 k s 0 ((0 : Nat) : Int) 1) ((1 : Int) * (m : Int)) := hj0
            rw [Int.one_mul] at h2
            exact h2
theorem dec_bound (l : List UInt8) : ∀ (acc j : Nat), acc < 10 ^ j → ∀ m, Lib.decFrom acc l = some m → m < 10 ^ (j + l.length) := by
  induction l with
  | nil =>
    intro acc j h m hm
    obtain rfl := Option.some.inj hm
    exact h
  | cons b l ih =>
    intro acc j h m hm
    unfold Lib.decFrom Lib.digitVal at hm
    by_cases hd : 48 ≤ b.toNat ∧ b.toNat ≤ 57
    · rw [if_pos hd] at hm
      have := ih (acc * 10 + (b.toNat - 48)) (j + 1) (by rw [Nat.pow_succ]; exact st_pow _ _ _ h hd.2) m hm
      rw [List.length_cons]
      have e : j + 1 + l.length = j + (l.length + 1) := by omega
      rw [← e]
      exact this
    · rw [if_neg hd] at hm
      cases hm
theorem nat_bound (l : List UInt8) (h : l.length ≤ 12) (m : Nat) (hm : Lib.decNat l = some m) : m ≤ 10000000000000 := by
  unfold Lib.decNat at hm
  split at hm
  · cases hm
  · have h1 := dec_bound l 0 0 (by decide) m hm
    have h2 : 10 ^ (0 + l.length) ≤ 10 ^ 12 := Nat.pow_le_pow_right (by decide) (by omega)
    exact Nat.le_of_lt (Nat.lt_of_lt_of_le h1 (Nat.le_trans h2 (by decide)))
theorem st_bound (s : ByteArray) (hs : s.size ≤ 12) : stOf s ≤ 10000000000000 := by
  rw [st_eq s hs]
  have hz : (valOf s).data.toList.length ≤ 12 := by rw [data_length]; exact val_size hs
  generalize (valOf s).data.toList = l at *
  cases l with
  | nil => decide
  | cons a r =>
    have hr : r.length ≤ 12 := by simp at hz; omega
    rw [atoi_cases (a :: r) (by simp)]
    show (if a == 45 then (Lib.decNat r).map (fun (m : Nat) => -(m : Int)) else if a == 43 then (Lib.decNat r).map (fun (m : Nat) => (m : Int)) else (Lib.decNat (a :: r)).map (fun (m : Nat) => (m : Int))).getD 1 ≤ _
    split
    · cases hx : Lib.decNat r with
      | none => decide
      | some m =>
        show -(m : Int) ≤ _
        omega
    · split
      · cases hx : Lib.decNat r with
        | none => decide
        | some m =>
          have := nat_bound r hr m hx
          show (m : Int) ≤ _
          omega
      · cases hx : Lib.decNat (a :: r) with
        | none => decide
        | some m =>
          have := nat_bound (a :: r) hz m hx
          show (m : Int) ≤ _
          omega
theorem num_app (u : Nat) (h : ¬ u < 10) : numS (u : Int) = numS ((u / 10 : Nat) : Int) ++ numS ((u % 10 : Nat) : Int) := by
  unfold numS
  rw [Lib.itoa_nonneg, Lib.itoa_nonneg, Lib.itoa_nonneg]
  have h1 : Lib.decDigits u = Lib.decDigits (u / 10) ++ Lib.decDigits (u % 10) := by
    rw [Lib.decDigits, dif_neg h, Lib.decDigits_one (Nat.mod_lt u (by decide))]
  rw [h1]
  apply ByteArray.ext
  rw [ByteArray.data_append]
  simp
theorem digits_ev (u : Nat) (hu : u ≤ 100000000000000) : Ev (fun k => spec_Digits.f k (u : Int)) (numS (u : Int)) := by
  induction u using Nat.strongRecOn with
  | _ u ih =>
    by_cases h : u < 10
    · refine Ev.step (f := fun _ => some (numS (u : Int))) (fun k => ?_) (Ev.now _)
      simp only [spec_Digits.f]
      rw [if_neg (by omega), if_pos (by omega), wrap_id (by omega) (by omega)]
      congr 1
      unfold numS
      rw [Lib.itoa_nonneg, Lib.decDigits_one h]
      unfold strOfNums
      simp only [List.map_cons, List.map_nil]
      congr 4
      omega
    · rw [num_app u h]
      have s1 := num_size (n := ((u / 10 : Nat) : Int)) (by omega) (by omega)
      have s2 := num_size (n := ((u % 10 : Nat) : Int)) (by omega) (by omega)
      refine Ev.step (f := fun k => ((spec_Digits.f k ((u / 10 : Nat) : Int)).bind fun t260 => ((spec_Digits.f k ((u % 10 : Nat) : Int)).bind fun t261 => (if t260.size + t261.size ≤ 9223372036854775807 then (some (t260 ++ t261)) else (none))))) (fun k => ?_) (Ev.bind (ih (u / 10) (by omega) (by omega)) (Ev.bind (ih (u % 10) (by omega) (by omega)) ⟨0, fun k _ => ?_⟩))
      · have d1 : Int.tdiv (u : Int) 10 = ((u / 10 : Nat) : Int) := by rw [Int.tdiv_eq_ediv_of_nonneg (by omega)]; omega
        have d2 : Int.tmod (u : Int) 10 = ((u % 10 : Nat) : Int) := by rw [Int.tmod_eq_emod_of_nonneg (by omega)]; omega
        have d3 : wrap64 (((u / 10 : Nat) : Int)) = ((u / 10 : Nat) : Int) := wrap_id (by omega) (by omega)
        simp only [spec_Digits.f]
        rw [if_neg (by omega), if_neg (by omega), d1, d2, d3]
      · show (if _ then _ else _) = _
        rw [if_pos (by omega)]
theorem pad_ev (s L : ByteArray) (hs : s.size ≤ 20) (hL : L.size ≤ 20) : Ev (fun k => spec_Prefix.l0 k s L) (padS (L.size - s.size) s ++ (⟨#[46, 32]⟩ : ByteArray)) := by
  have key : ∀ n j, j + n = L.size - s.size → Ev (fun k => spec_Prefix.l0 k (padS j s) L) (padS (L.size - s.size) s ++ (⟨#[46, 32]⟩ : ByteArray)) := by
    intro n
    induction n with
    | zero =>
      intro j hj
      have hz := padS_size j s
      obtain rfl : j = L.size - s.size := by omega
      refine Ev.step (f := fun _ => some (padS (L.size - s.size) s ++ (⟨#[46, 32]⟩ : ByteArray))) (fun k => ?_) (Ev.now _)
      simp only [spec_Prefix.l0]
      rw [if_neg (by omega), if_pos (by omega)]
    | succ n ih =>
      intro j hj
      have hz := padS_size j s
      refine Ev.step (f := fun k => spec_Prefix.l0 k (padS (j + 1) s) L) (fun k => ?_) (ih (j + 1) (by omega))
      simp only [spec_Prefix.l0]
      rw [if_pos (by omega), if_pos (by omega)]
      rfl
  exact key (L.size - s.size) 0 (by omega)
theorem prefix_ev (ord : Bool) (start bullet : ByteArray) (hs : start.size ≤ 12) (hbl : bullet.size ≤ 1024) (items at_ : Int) (b0 : 0 ≤ stOf start) (b1 : stOf start ≤ 10000000000000) (b2 : 0 ≤ at_) (b3 : at_ < items) (b4 : items ≤ 1048576) :
    Ev (fun k => spec_Prefix.f k ord start bullet items at_) (preT ord start bullet items at_) := by
  cases ord with
  | false =>
    refine ⟨0, fun k _ => ?_⟩
    show spec_Prefix.f k false start bullet items at_ = _
    unfold spec_Prefix.f preT
    rw [if_neg (by simp), if_pos (by omega), if_neg (by simp)]
  | true =>
    have hst := start_ev start hs
    have h : Ev (fun k => ((spec_Start.f k start).bind fun t262 => ((spec_Digits.f k (wrap64 (t262 + at_))).bind fun t263 => ((spec_Digits.f k (wrap64 ((wrap64 (t262 + items)) - 1))).bind fun t264 => (spec_Prefix.l0 k t263 t264))))) (ordT (stOf start) items at_) := by
      obtain ⟨st, hst2⟩ := Int.eq_ofNat_of_zero_le b0
      rw [hst2] at hst b1 ⊢
      obtain ⟨a, rfl⟩ := Int.eq_ofNat_of_zero_le b2
      obtain ⟨m, rfl⟩ := Int.eq_ofNat_of_zero_le (show 0 ≤ items by omega)
      have e1 : wrap64 ((st : Int) + (a : Int)) = ((st + a : Nat) : Int) := by rw [wrap_id (by omega) (by omega)]; omega
      have e2 : wrap64 (wrap64 ((st : Int) + (m : Int)) - 1) = ((st + m - 1 : Nat) : Int) := by rw [wrap_id (x := (st : Int) + (m : Int)) (by omega) (by omega), wrap_id (by omega) (by omega)]; omega
      refine Ev.bind hst (Ev.bind (a := numS ((st + a : Nat) : Int)) ?_ (Ev.bind (a := numS ((st + m - 1 : Nat) : Int)) ?_ ?_))
      · rw [e1]; exact digits_ev _ (by omega)
      · rw [e2]; exact digits_ev _ (by omega)
      · have e3 : (st : Int) + (m : Int) - 1 = ((st + m - 1 : Nat) : Int) := by omega
        have e4 : (st : Int) + (a : Int) = ((st + a : Nat) : Int) := by omega
        unfold ordT
        rw [e3, e4]
        exact pad_ev _ _ (num_size (by omega) (by omega)) (num_size (by omega) (by omega))
    refine Ev.congr (fun k => ?_) h
    show spec_Prefix.f k true start bullet items at_ = _
    unfold spec_Prefix.f
    rw [if_pos rfl]
end Go.Proofs.YtbhcoeabhdangaaDoor.PInl
