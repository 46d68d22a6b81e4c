/- impl.Language: the first word of a class with a hyphen, behind language-. -/
import Derived.Test.YtbhcoeabhdangaaPFnLanguagex2
import Derived.Test.YtbhcoeabhdangaaAttrX
namespace Go.Proofs.Ytbhcoeabhdangaa.PFnLanguage
open Go.Proofs.Ytbhcoeabhdangaa.Txt Go.RowKit Go.Proofs.YtbhcoeabhdangaaW.PrintWords Go.Proofs.YtbhcoeabhdangaaW.PrintLast Go.Proofs.YtbhcoeabhdangaaW.PrintMore
attribute [local go_sem] max2_int min2_int max_two min_two max_three min_three max_four min_four
set_option linter.unusedVariables false
set_option linter.unusedSimpArgs false

/-- A text at its blanks. -/
def parts : List Int → List (List Int)
  | [] => [[]]
  | c :: l => if c = 32 then [] :: parts l else match parts l with | [] => [[c]] | p :: ps => (c :: p) :: ps
theorem parts_none : ∀ l : List Int, 32 ∉ l → parts l = [l]
  | [], _ => rfl
  | c :: l, h => by
    have hc : ¬ c = 32 := fun e => h (by rw [e]; exact List.mem_cons_self)
    have ih := parts_none l (fun m => h (List.mem_cons_of_mem _ m))
    simp only [parts, if_neg hc, ih]
theorem parts_some : ∀ u v : List Int, 32 ∉ u → parts (u ++ 32 :: v) = u :: parts v
  | [], v, _ => by simp [parts]
  | c :: l, v, h => by
    have hc : ¬ c = 32 := fun e => h (by rw [e]; exact List.mem_cons_self)
    have ih := parts_some l v (fun m => h (List.mem_cons_of_mem _ m))
    rw [List.cons_append]
    simp only [parts, if_neg hc, ih]

/-! The index of a text in another one. -/
theorem ext_iff (s sub : ByteArray) (i j : Nat) : (s.extract i j).toList = sub.toList ↔ ((bytesOf s).take j).drop i = bytesOf sub := by
  rw [← bytes_extract]
  exact ⟨fun h => by rw [toList_inj h], fun h => by rw [bytes_inj h]⟩
theorem index_some (s sub : ByteArray) (hs : s.size ≤ 1099511627776) (i : Nat) (hi : i + sub.size ≤ s.size) (hm : ((bytesOf s).take (i + sub.size)).drop i = bytesOf sub)
    (hb : ∀ j < i, ((bytesOf s).take (j + sub.size)).drop j ≠ bytesOf sub) : ∀ k j, k + j = i → commonmark_zzIndex.l0 (k + 1) s sub (j : Int) = some (i : Int)
  | 0, j, h => by
    have : j = i := by omega
    subst this
    have hw : wrap64 ((j : Int) + (sub.size : Int)) = ((j + sub.size : Nat) : Int) := by rw [wrap_id (by omega) (by omega)]; omega
    unfold commonmark_zzIndex.l0
    rw [hw, if_pos (by omega), if_pos (by omega), if_pos (by omega)]
    simp only [Int.toNat_natCast]
    rw [if_pos ((ext_iff s sub _ _).2 hm)]
  | k + 1, j, h => by
    have ih := index_some s sub hs i hi hm hb k (j + 1) (by omega)
    have hw : wrap64 ((j : Int) + (sub.size : Int)) = ((j + sub.size : Nat) : Int) := by rw [wrap_id (by omega) (by omega)]; omega
    have hw1 : wrap64 ((j : Int) + 1) = ((j + 1 : Nat) : Int) := by rw [wrap_id (by omega) (by omega)]; omega
    unfold commonmark_zzIndex.l0
    rw [hw, if_pos (by omega), if_pos (by omega), if_pos (by omega)]
    simp only [Int.toNat_natCast]
    rw [if_neg (fun e => hb j (by omega) ((ext_iff s sub _ _).1 e)), hw1]
    exact ih
theorem index_none (s sub : ByteArray) (hs : s.size ≤ 1099511627776) (hss : sub.size ≤ 1024) (hb : ∀ j, j + sub.size ≤ s.size → ((bytesOf s).take (j + sub.size)).drop j ≠ bytesOf sub) :
    ∀ k j, s.size + 1 = k + j → commonmark_zzIndex.l0 (k + 1) s sub (j : Int) = some (-1)
  | 0, j, h => by
    have hw : wrap64 ((j : Int) + (sub.size : Int)) = ((j + sub.size : Nat) : Int) := by rw [wrap_id (by omega) (by omega)]; omega
    unfold commonmark_zzIndex.l0
    rw [hw, if_neg (by omega)]
  | k + 1, j, h => by
    have ih := index_none s sub hs hss hb k (j + 1) (by omega)
    have hw : wrap64 ((j : Int) + (sub.size : Int)) = ((j + sub.size : Nat) : Int) := by rw [wrap_id (by omega) (by omega)]; omega
    have hw1 : wrap64 ((j : Int) + 1) = ((j + 1 : Nat) : Int) := by rw [wrap_id (by omega) (by omega)]; omega
    unfold commonmark_zzIndex.l0
    by_cases hle : j + sub.size ≤ s.size
    · rw [hw, if_pos (by omega), if_pos (by omega), if_pos (by omega)]
      simp only [Int.toNat_natCast]
      rw [if_neg (fun e => hb j hle ((ext_iff s sub _ _).1 e)), hw1]
      exact ih
    · rw [hw, if_neg (by omega)]
theorem none_f (s sub : ByteArray) (hs : s.size ≤ 1099511627776) (hss : sub.size ≤ 1024) (c : Int) (hc : c ∈ bytesOf sub) (hn : c ∉ bytesOf s) : commonmark_zzIndex.f (s.size + 2) s sub = some (-1) :=
  index_none s sub hs hss (fun j hj e => hn (by rw [← e] at hc; exact List.mem_of_mem_take (List.mem_of_mem_drop hc))) (s.size + 1) 0 (by omega)
theorem some_f (s sub : ByteArray) (hs : s.size ≤ 1099511627776) (i : Nat) (hi : i + sub.size ≤ s.size) (hm : ((bytesOf s).take (i + sub.size)).drop i = bytesOf sub)
    (hb : ∀ j < i, ((bytesOf s).take (j + sub.size)).drop j ≠ bytesOf sub) : commonmark_zzIndex.f (i + 1) s sub = some (i : Int) := index_some s sub hs i hi hm hb i 0 (by omega)
theorem bytes_len (s : ByteArray) : (bytesOf s).length = s.size := bytesOf_length s
abbrev blank : ByteArray := ⟨#[32]⟩
theorem blank_bytes : bytesOf blank = [32] := by decide
theorem blank_some (s : ByteArray) (hs : s.size ≤ 1099511627776) (u v : List Int) (he : bytesOf s = u ++ 32 :: v) (hu : 32 ∉ u) : commonmark_zzIndex.f (u.length + 1) s blank = some (u.length : Int) := by
  have hl : u.length + 1 ≤ s.size := by rw [← bytes_len s, he, List.length_append, List.length_cons]; omega
  have h1 : blank.size = 1 := rfl
  refine some_f s blank hs u.length (by rw [h1]; exact hl) ?_ ?_
  · rw [h1, he, blank_bytes, take_one_drop (by rw [List.length_append, List.length_cons]; omega)]
    simp
  · intro j hj e
    rw [h1, he, blank_bytes, take_one_drop (by rw [List.length_append, List.length_cons]; omega)] at e
    have : u[j] = 32 := by
      rw [List.getElem_append_left hj] at e
      simpa using e
    exact hu (by rw [← this]; exact List.getElem_mem _)

def strLen : Value → Nat
  | .string s => s.size
  | _ => 0
theorem info9 : (Try.prog.info? 9).map (fun i => (i.zero, i.size, i.bytes)) = some (some (.string ByteArray.empty), 1, 16) := by kernel_rfl

theorem split_calls (s0 : ByteArray) (w : World) (hs : s0.size ≤ 8589934592) :
    Calls Try.prog 55 #[.string s0, .string blank] w fun e w' => ∃ v outs, e = .returned v ∧ Kd.string.R 9 w' w.heap.size (fun _ => True) v outs ∧ outs.map bytesOf = parts (bytesOf s0) ∧ Below w.heap.size w w' := by
  go_enter Try.func55, Try.ntmps55
  go_wp2
  go_loopw [0, 5] (fun vs vo wr => ∃ (s : ByteArray) (outs : List ByteArray), vs = .string s ∧ Aside0 (Kd.string.R 9 wr w.heap.size (fun _ => True) vo outs) ∧ Aside0 (Below w.heap.size w wr) ∧ Aside0 (outs.map bytesOf ++ parts (bytesOf s) = parts (bytesOf s0)) ∧ outs.length + s.size ≤ s0.size) (fun vs _ _ => strLen vs)
  case atStart => exact ⟨s0, [], rfl, ⟨Kd.R_nil Kd.string _ _ _ _⟩, ⟨Below.refl _ _⟩, ⟨rfl⟩, by simp⟩
  case round =>
    obtain ⟨s, outs, rfl, HO, HB, HP, hsz⟩ := hrel
    by_cases hm : (32 : Int) ∈ bytesOf s
    · obtain ⟨u, v, he, hu⟩ := List.eq_append_cons_of_mem hm
      have hl : u.length + 1 + v.length = s.size := by rw [← bytes_len s, he, List.length_append, List.length_cons]; omega
      have hf := blank_some s (by omega) u v he hu
      have h1 : bytesOf (s.extract 0 u.length) = u := by rw [bytes_extract, he]; simp
      have h2 : bytesOf (s.extract (u.length + 1) s.size) = v := by
        rw [bytes_extract, he, List.take_of_length_le (by rw [← he, bytes_len]; exact Nat.le_refl _)]
        simp
      have H2 := Aside0.mk (show (outs ++ [s.extract 0 u.length]).map bytesOf ++ parts (bytesOf (s.extract (u.length + 1) s.size)) = parts (bytesOf s0) by
        rw [← HP.out, he, parts_some u v hu, h2, List.map_append, List.map_singleton, h1]
        simp)
      clear h1 h2 hm he hu
      go_wp2_with fail
      refine (commonmark_zzIndex.calls _ s blank _ wr hf).mono ?_
      rintro e w1 ⟨rfl, hD⟩
      have HB1 := Aside0.mk (below_step HB.out (Drawn0.below hD))
      have HO1 := Aside0.mk (Kd.R_below HO.out (Drawn0.below hD))
      have HS1 := Aside0.mk HB1.out.size
      have hn0 : ¬ (u.length : Int) < 0 := by omega
      have hle : (u.length : Int) ≤ s.size := by omega
      clear hD hf
      go_wp2_with (go_loud (at_builtin; refine Kd.R_append Kd.string (w0 := w) w.heap.size rfl (.tmp 46) (.tmp 50) 65 9 (.string ByteArray.empty) 16 rfl Try.underlying65 info9 rfl (by decide) (by omega) u5 outs (s.extract 0 u.length) [.string (s.extract 0 u.length)] (fun _ => True) (fun _ => False) rfl (by go_simp) rfl (fun _ hk => hk.elim) (fun _ _ => trivial) HO1.out HB1.out HS1.out (by omega) ?_))
      intro v1 w2 ho hb hg hat
      have HO2 := Aside0.mk ho
      have HB2 := Aside0.mk hb
      have HX := Aside0.mk (show (s.extract (u.length + 1) s.size).size = v.length by rw [ByteArray.size_extract]; omega)
      have ha1 : u.length + 1 ≤ s.size := by omega
      clear ho hb hg hat
      go_wp2
      go_roundw
      case rel => exact ⟨s.extract (u.length + 1) s.size, outs ++ [s.extract 0 u.length], by first | rfl | go_num, HO2, HB2, H2, by rw [List.length_append, List.length_singleton, HX.out]; omega⟩
      case measure => show _ < _; simp only [strLen, HX.out]; omega
    · have hf := none_f s blank (by omega) (by decide) 32 (by rw [blank_bytes]; simp) hm
      have H2 := Aside0.mk (show (outs ++ [s]).map bytesOf = parts (bytesOf s0) by rw [← HP.out, parts_none _ hm, List.map_append, List.map_singleton])
      clear hm
      go_wp2_with fail
      refine (commonmark_zzIndex.calls _ s blank _ wr hf).mono ?_
      rintro e w1 ⟨rfl, hD⟩
      have HB1 := Aside0.mk (below_step HB.out (Drawn0.below hD))
      have HO1 := Aside0.mk (Kd.R_below HO.out (Drawn0.below hD))
      have HS1 := Aside0.mk HB1.out.size
      clear hD hf
      go_wp2_with (go_loud (at_builtin; refine Kd.R_append Kd.string (w0 := w) w.heap.size rfl (.tmp 42) (.tmp 44) 65 9 (.string ByteArray.empty) 16 rfl Try.underlying65 info9 rfl (by decide) (by omega) u5 outs s [.string s] (fun _ => True) (fun _ => False) rfl (by go_simp) rfl (fun _ hk => hk.elim) (fun _ _ => trivial) HO1.out HB1.out HS1.out (by omega) ?_))
      intro v1 w2 ho hb hg hat
      have HO2 := Aside0.mk ho
      have HB2 := Aside0.mk hb
      clear ho hb hg hat
      go_wp2
      go_ret
      exact ⟨v1, _, rfl, HO2.out, H2.out, HB2.out⟩

/-! The word with the hyphen. -/
abbrev lit : ByteArray := ⟨#[108, 97, 110, 103, 117, 97, 103, 101, 45]⟩
abbrev lit2 : ByteArray := ⟨#[108, 97, 110, 103, 45]⟩
theorem lit_bytes : bytesOf lit = [108, 97, 110, 103, 117, 97, 103, 101, 45] := by decide
theorem lit2_bytes : bytesOf lit2 = [108, 97, 110, 103, 45] := by decide
def hyphen (p : List Int) : Bool := p.contains 45
def langOf (a : ByteArray) : Option ByteArray :=
  if a.size ≤ 8589934592 then
    match (parts (bytesOf a)).find? hyphen with
    | some p => if p.take 9 = bytesOf lit ∧ hyphen (p.drop 9) = false then some (strOfNums (p.drop 9)) else none
    | none => none
  else none
theorem hyphen_neg {p : List Int} (h : hyphen p = false) : (45 : Int) ∉ p := by
  intro m
  unfold hyphen at h
  rw [List.contains_iff_mem.mpr m] at h
  cases h

theorem first_f (p r : ByteArray) (hs : p.size ≤ 1099511627776) (hp : bytesOf p = bytesOf lit ++ bytesOf r) : commonmark_zzIndex.f 1 p lit = some 0 := by
  have hl : p.size = 9 + r.size := by rw [← bytes_len p, hp, List.length_append, bytes_len, bytes_len]; rfl
  refine some_f p lit hs 0 (by rw [hl]; show 0 + 9 ≤ _; omega) ?_ (fun j hj => absurd hj (Nat.not_lt_zero _))
  show ((bytesOf p).take (0 + 9)).drop 0 = _
  rw [hp, List.take_append_of_le_length (by rw [bytes_len]; exact Nat.le_refl _)]
  rfl
theorem has_yes (p r : ByteArray) (hs : p.size ≤ 1099511627776) (hp : bytesOf p = bytesOf lit ++ bytesOf r) : commonmark_zzContains.f 1 p lit = some true := by
  unfold commonmark_zzContains.f
  rw [first_f p r hs hp]
  rfl
theorem has_no (p sub : ByteArray) (hs : p.size ≤ 1099511627776) (hss : sub.size ≤ 1024) (hc : (45 : Int) ∈ bytesOf sub) (hp : hyphen (bytesOf p) = false) : commonmark_zzContains.f (p.size + 2) p sub = some false := by
  unfold commonmark_zzContains.f
  rw [none_f p sub hs hss 45 hc (hyphen_neg hp)]
  rfl
theorem cut_yes (p r : ByteArray) (hs : p.size ≤ 1099511627776) (hp : bytesOf p = bytesOf lit ++ bytesOf r) : commonmark_zzReplaceOne.f 1 p lit ⟨#[]⟩ = some r := by
  have hl : p.size = 9 + r.size := by rw [← bytes_len p, hp, List.length_append, bytes_len, bytes_len]; rfl
  have h9 : lit.size = 9 := rfl
  have h0 : (⟨#[]⟩ : ByteArray).size = 0 := rfl
  have hw : wrap64 ((0 : Int) + (lit.size : Int)) = 9 := by rw [h9]; exact wrap_id (by omega) (by omega)
  have e0 : p.extract 0 (0 : Int).toNat = ⟨#[]⟩ := bytes_inj (by rw [bytes_extract]; rfl)
  have e1 : (⟨#[]⟩ ++ ⟨#[]⟩ : ByteArray) = ⟨#[]⟩ := by decide
  have e2 : p.extract (9 : Int).toNat p.size = r := bytes_inj (by
    rw [bytes_extract, List.take_of_length_le (by rw [bytes_len]; exact Nat.le_refl _), hp]
    show List.drop 9 _ = _
    rw [List.drop_append_of_le_length (by rw [bytes_len]; exact Nat.le_refl _), List.drop_eq_nil_of_le (by rw [bytes_len]; exact Nat.le_refl _)]
    rfl)
  unfold commonmark_zzReplaceOne.f
  rw [first_f p r hs hp, Option.bind_some, if_neg (by omega), if_pos (by omega), if_pos (by omega), hw, e0, h0]
  rw [if_pos (by omega), if_pos (by omega), if_pos (by omega), e1, e2, h0, if_pos (by omega)]
  congr 1
theorem cut_no (p sub : ByteArray) (hs : p.size ≤ 1099511627776) (hss : sub.size ≤ 1024) (hc : (45 : Int) ∈ bytesOf sub) (hp : hyphen (bytesOf p) = false) : commonmark_zzReplaceOne.f (p.size + 2) p sub ⟨#[]⟩ = some p := by
  unfold commonmark_zzReplaceOne.f
  rw [none_f p sub hs hss 45 hc (hyphen_neg hp), Option.bind_some, if_pos (by omega)]

theorem parts_len : ∀ (l p : List Int), p ∈ parts l → p.length ≤ l.length
  | [], p, h => by simp [parts] at h; simp [h]
  | c :: l, p, h => by
    by_cases hc : c = 32
    · simp only [parts, if_pos hc, List.mem_cons] at h
      rcases h with rfl | h
      · simp
      · have := parts_len l p h; rw [List.length_cons]; omega
    · simp only [parts, if_neg hc] at h
      have ih := parts_len l
      revert h
      split
      · intro h
        simp at h
        simp [h]
      · rename_i q qs hq
        intro h
        rw [hq] at ih
        rcases List.mem_cons.1 h with rfl | h
        · have := ih q List.mem_cons_self; simpa using this
        · have := ih p (List.mem_cons_of_mem _ h); rw [List.length_cons]; omega

theorem parts_count : ∀ l : List Int, (parts l).length ≤ l.length + 1
  | [] => by simp [parts]
  | c :: l => by
    have ih := parts_count l
    by_cases hc : c = 32
    · simp only [parts, if_pos hc, List.length_cons]; omega
    · simp only [parts, if_neg hc]
      split
      · simp
      · rename_i q qs hq
        rw [hq] at ih
        simp only [List.length_cons] at ih ⊢
        omega

theorem code_calls (nb ab : Nat) (a r : ByteArray) (w : World) (cs : Array Value) (hl : langOf a = some r)
    (hn : w.heap[nb]? = some (.cells cs 44 (0, 0))) (h9 : cs[9]? = some (.slice (some ⟨ab, 0, none⟩) 1 1))
    (ha : w.heap[ab]? = some (.cells #[.string ByteArray.empty, .string ⟨#[99, 108, 97, 115, 115]⟩, .string a] 40 (0, 0))) :
    Calls Try.prog 31 #[.pointer (some ⟨nb, 0, none⟩)] w fun e w' => e = .returned (.string r) ∧ Below w.heap.size w w' := by
  obtain ⟨hsz, p, hfind, hp, hq, hr⟩ : a.size ≤ 8589934592 ∧ ∃ p, (parts (bytesOf a)).find? hyphen = some p ∧ p.take 9 = bytesOf lit ∧ hyphen (p.drop 9) = false ∧ strOfNums (p.drop 9) = r := by
    unfold langOf at hl
    split at hl
    · rename_i hsz
      split at hl
      · rename_i p hf
        split at hl
        · rename_i hh
          exact ⟨hsz, p, hf, hh.1, hh.2, Option.some.inj hl⟩
        · cases hl
      · cases hl
    · cases hl
  clear hl
  go_enter Try.func31, Try.ntmps31
  go_wp2_with fail
  refine (AttrX.attrOr_calls nb ab _ a w cs hn h9 ha _).mono ?_
  rintro e w1 ⟨rfl, hB⟩
  have HB1 := Aside0.mk hB
  clear hB hn h9 ha
  go_wp2_with fail
  refine (split_calls a w1 hsz).mono ?_
  rintro e w2 ⟨v, outs, rfl, hO, hP, hB⟩
  have HB2 := Aside0.mk (below_step HB1.out hB)
  obtain ⟨A, c, rfl, hcl, hC⟩ := Kd.R_reads hO
  have HC := Aside0.mk hC
  have HF := Aside0.mk (show ((outs.map bytesOf).drop 0).find? hyphen = some p by rw [hP]; exact hfind)
  have HOL := Aside0.mk (show ∀ s ∈ outs, s.size ≤ 8589934592 from fun s hs => by
    have := parts_len (bytesOf a) (bytesOf s) (by rw [← hP]; exact List.mem_map_of_mem hs)
    rw [bytes_len, bytes_len] at this
    omega)
  have hol : outs.length ≤ 8589934593 := by
    have := parts_count (bytesOf a)
    rw [← hP, List.length_map, bytes_len] at this
    omega
  clear hB hO hP hfind hC HB1
  go_wp2_with fail
  go_loopw [13] (fun i wr => ∃ j : Nat, i = .int .i64 j ∧ j ≤ outs.length ∧ Aside0 (((outs.map bytesOf).drop j).find? hyphen = some p) ∧ Aside0 (Below w.heap.size w wr) ∧ Aside0 (Kd.string.C wr A outs.length outs)) (fun i _ => outs.length - (intOf i).toNat)
  case atStart => exact ⟨0, rfl, Nat.zero_le _, HF, HB2, HC⟩
  case round =>
    obtain ⟨j, rfl, hj, HG, HB, HD⟩ := hrel
    have hlt : j < outs.length := by
      apply Nat.lt_of_not_le
      intro hge
      have hG := HG.out
      rw [List.drop_eq_nil_of_le (by rw [List.length_map]; exact hge)] at hG
      cases hG
    obtain ⟨ad, rfl, hx⟩ := Kd.at_string HD.out (j : Int) (by omega) (by omega)
    simp only [Int.toNat_natCast] at hx
    have he : rdOf ByteArray.empty outs (j : Int) = outs[j] := by simp [rdOf, List.getD_eq_getElem?_getD, List.getElem?_eq_getElem hlt]
    have hsz0 := HOL.out outs[j] (List.getElem_mem _)
    have hG := HG.out
    rw [List.drop_eq_getElem_cons (by rw [List.length_map]; exact hlt), List.getElem_map] at hG
    rw [he] at hx
    generalize outs[j] = s at hx hsz0 hG
    clear he
    by_cases hh : hyphen (bytesOf s) = true
    · rw [List.find?_cons_of_pos hh] at hG
      obtain rfl := Option.some.inj hG
      have hb : bytesOf s = bytesOf lit ++ bytesOf r := by
        rw [← hr, bytes_str ((Byt.of s).drop 9), ← hp, List.take_append_drop]
      have hr2 : hyphen (bytesOf r) = false := by rw [← hr, bytes_str ((Byt.of s).drop 9)]; exact hq
      have hrs : r.size ≤ 1099511627776 := by
        have : (bytesOf s).length = (bytesOf lit).length + (bytesOf r).length := by rw [hb, List.length_append]
        rw [bytes_len, bytes_len, bytes_len] at this
        omega
      clear hG hh hp hq hr
      go_wp2_with fail
      refine (commonmark_zzContains.calls _ s lit _ wr (has_yes s r (by omega) hb)).mono ?_
      rintro e w3 ⟨rfl, hD⟩
      have HB3 := Aside0.mk (below_step HB.out (Drawn0.below hD))
      clear hD
      go_wp2_with fail
      refine (commonmark_zzReplaceOne.calls _ s lit _ _ w3 (cut_yes s r (by omega) hb)).mono ?_
      rintro e w4 ⟨rfl, hD⟩
      have HB4 := Aside0.mk (below_step HB3.out (Drawn0.below hD))
      clear hD
      go_wp2_with fail
      refine (commonmark_zzReplaceOne.calls _ r lit2 _ _ w4 (cut_no r lit2 hrs (by decide) (by rw [lit2_bytes]; simp) hr2)).mono ?_
      rintro e w5 ⟨rfl, hD⟩
      have HB5 := Aside0.mk (below_step HB4.out (Drawn0.below hD))
      clear hD
      go_wp2
      go_ret
      exact ⟨rfl, HB5.out⟩
    · rw [List.find?_cons_of_neg hh] at hG
      have HG2 := Aside0.mk hG
      have hh2 : hyphen (bytesOf s) = false := by simpa using hh
      clear hG hh
      go_wp2_with fail
      refine (commonmark_zzContains.calls _ s lit _ wr (has_no s lit (by omega) (by decide) (by rw [lit_bytes]; simp) hh2)).mono ?_
      rintro e w3 ⟨rfl, hD⟩
      have HB3 := Aside0.mk (below_step HB.out (Drawn0.below hD))
      have HD3 := Aside0.mk (Kd.C_below HD.out (Drawn0.below hD))
      clear hD
      go_wp2_with fail
      refine (commonmark_zzContains.calls _ s lit2 _ w3 (has_no s lit2 (by omega) (by decide) (by rw [lit2_bytes]; simp) hh2)).mono ?_
      rintro e w4 ⟨rfl, hD⟩
      have HB4 := Aside0.mk (below_step HB3.out (Drawn0.below hD))
      have HD4 := Aside0.mk (Kd.C_below HD3.out (Drawn0.below hD))
      clear hD
      go_wp2
      go_roundw
      case rel => exact ⟨j + 1, by go_num, by omega, HG2, HB4, HD4⟩
      case measure => simp [intOf]; omega

theorem zz_calls (nb ab : Nat) (a r : ByteArray) (w : World) (cs : Array Value) (hl : langOf a = some r)
    (hn : w.heap[nb]? = some (.cells cs 44 (0, 0))) (h9 : cs[9]? = some (.slice (some ⟨ab, 0, none⟩) 1 1))
    (ha : w.heap[ab]? = some (.cells #[.string ByteArray.empty, .string ⟨#[99, 108, 97, 115, 115]⟩, .string a] 40 (0, 0))) :
    Calls Try.prog 22 #[.pointer (some ⟨nb, 0, none⟩)] w fun e w' => e = .returned (.string r) ∧ Below w.heap.size w w' := by
  have HC := code_calls nb ab a r w cs hl hn h9 ha
  clear hl hn h9 ha
  go_enter Try.func22, Try.ntmps22
  go_wp2_with fail
  refine HC.mono ?_
  rintro e w1 ⟨rfl, hB⟩
  have HB := Aside0.mk hB
  clear hB
  go_wp2
  go_ret
  exact ⟨rfl, HB.out⟩

theorem two_new (w : World) (o1 o2 : Obj) : ((w.alloc o1).alloc o2).heap[w.heap.size + 1]? = some o2 := by
  show ((w.heap.push o1).push o2)[w.heap.size + 1]? = some o2
  rw [Array.getElem?_push, Array.size_push, if_pos rfl]
theorem two_old (w : World) (o1 o2 : Obj) : ((w.alloc o1).alloc o2).heap[w.heap.size]? = some o1 := by
  show ((w.heap.push o1).push o2)[w.heap.size]? = some o1
  rw [Array.getElem?_push, Array.size_push, if_neg (by omega)]
  simp

theorem door_calls (a r : ByteArray) (w : World) (hl : langOf a = some r) :
    Calls Try.prog 14 #[.string a] w fun e w' => e = .returned (.string r) ∧ Below w.heap.size w w' := by
  have HL := Aside0.mk hl
  clear hl
  go_enter Try.func14, Try.ntmps14
  go_wp2_with fail
  refine (zz_calls _ w.heap.size a r _ _ HL.out (two_new _ _ _) rfl (two_old _ _ _)).mono ?_
  rintro e w1 ⟨rfl, hB⟩
  have HB := Aside0.mk (below_step (below_alloc (below_alloc (Below.refl w.heap.size w) _) _) hB)
  clear hB
  go_wp2
  go_ret
  exact ⟨rfl, HB.out⟩

def impl_Language.f (k : Nat) (a0 : ByteArray) : Option ByteArray := langOf a0
theorem impl_Language.mono : ∀ a0 k, LeO (impl_Language.f k a0) (impl_Language.f (k + 1) a0) := fun _ _ => LeO.refl _
theorem impl_Language.calls (k : Nat) (a0 r : ByteArray) (w : World) (h : impl_Language.f k a0 = some r) :
    Calls Try.prog 14 #[.string a0] w fun e w' => e = .returned (.string r) ∧ Below w.heap.size w w' := door_calls a0 r w h
end Go.Proofs.Ytbhcoeabhdangaa.PFnLanguage
