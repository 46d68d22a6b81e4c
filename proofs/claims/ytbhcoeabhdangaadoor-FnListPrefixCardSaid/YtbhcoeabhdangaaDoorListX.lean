/- getStartAt, getPrefixFunc's closure, ZzListPrefix, impl.ListPrefix. -/
import Derived.Test.YtbhcoeabhdangaaDoorPadX
import Derived.Lib.AtoiTie
namespace Go.Proofs.YtbhcoeabhdangaaDoor.PInl
open Go.Proofs.YtbhcoeabhdangaaDoor.Txt Go.RowKit Go.Proofs.YtbhcoeabhdangaaDoorW.PrintWords Go.Proofs.YtbhcoeabhdangaaDoorW.PrintLast Go.Proofs.YtbhcoeabhdangaaDoorW.PrintMore
set_option linter.unusedVariables false
set_option linter.unusedSimpArgs false

/-- A list's node: its name, its attribute. -/
structure NF (w : World) (nb : Nat) (data start : ByteArray) : Prop where
  d : w.cell? ⟨nb, 7, none⟩ = some (.string data)
  a : (start.size = 0 ∧ w.cell? ⟨nb, 9, none⟩ = some (.slice none 0 0)) ∨ (start.size ≠ 0 ∧ ∃ ab, w.cell? ⟨nb, 9, none⟩ = some (.slice (some ⟨ab, 0, none⟩) 1 1) ∧ w.cell? ⟨ab, 0, none⟩ = some (.string ⟨#[]⟩) ∧ w.cell? ⟨ab, 1, none⟩ = some (.string ⟨#[115, 116, 97, 114, 116]⟩) ∧ w.cell? ⟨ab, 2, none⟩ = some (.string start))
theorem NF.below {w w' : World} {nb : Nat} {data start : ByteArray} (h : NF w nb data start) (hb : Below w.heap.size w w') : NF w' nb data start := by
  refine ⟨pw_cell_below hb h.d, ?_⟩
  rcases h.a with ⟨h1, h2⟩ | ⟨h1, ab, h2, h3, h4, h5⟩
  · exact .inl ⟨h1, pw_cell_below hb h2⟩
  · exact .inr ⟨h1, ab, pw_cell_below hb h2, pw_cell_below hb h3, pw_cell_below hb h4, pw_cell_below hb h5⟩
/-- What GetAttributeOr finds. -/
def valOf (start : ByteArray) : ByteArray := if start.size = 0 then ⟨#[49]⟩ else start
theorem attr_calls (nb : Nat) (data start : ByteArray) (w : World) (hn : NF w nb data start) :
    Calls Tryd.prog 82 #[.pointer (some ⟨nb, 0, none⟩), .string ⟨#[115, 116, 97, 114, 116]⟩, .string ⟨#[49]⟩] w fun e w' => e = .returned (.string (valOf start)) ∧ Below w.heap.size w w' := by
  unfold valOf
  rcases hn.a with ⟨h1, h2⟩ | ⟨h1, ab, h2, h3, h4, h5⟩
  · rw [if_pos h1]
    go_enter Tryd.func82, Tryd.ntmps82
    go_wp2
    go_loopw [14] (fun i w' => i = .int .i64 0 ∧ w' = w) (fun _ _ => 0)
    case atStart => exact ⟨rfl, rfl⟩
    case round =>
      obtain ⟨rfl, rfl⟩ := hrel
      go_wp2
      go_ret
      exact ⟨rfl, Below.refl _ _⟩
  · rw [if_neg h1]
    go_enter Tryd.func82, Tryd.ntmps82
    go_wp2
    go_loopw [14] (fun i w' => i = .int .i64 0 ∧ w' = w) (fun _ _ => 0)
    case atStart => exact ⟨rfl, rfl⟩
    case round =>
      obtain ⟨rfl, rfl⟩ := hrel
      go_wp2
      go_ret
      exact ⟨rfl, below_alloc (Below.refl _ _) _⟩
/-- The first number of a list. -/
def stOf (start : ByteArray) : Int := match Lib.atoiAll (valOf start).data.toList with | .ok v => v | _ => 1
theorem val_size {start : ByteArray} (hs : start.size ≤ 12) : (valOf start).size ≤ 12 := by
  unfold valOf
  split
  · decide
  · exact hs
theorem start_calls (nb : Nat) (data start : ByteArray) (hs : start.size ≤ 12) (w : World) (hn : NF w nb data start) (hv : SV w) :
    Calls Tryd.prog 70 #[.pointer (some ⟨nb, 0, none⟩)] w fun e w' => e = .returned (.int .i64 (stOf start)) ∧ Below w.heap.size w w' := by
  have CA := Aside0.mk (attr_calls nb data start w hn)
  have hz := val_size hs
  have hcs : (∃ v, Lib.atoiAll (valOf start).data.toList = .ok v) ∨ Lib.atoiAll (valOf start).data.toList = Lib.NumEnd.ofOption none := by
    rw [Lib.atoiAll_short _ (by rw [data_length]; omega)]
    cases Lib.atoi (valOf start).data.toList with
    | none => exact .inr rfl
    | some v => exact .inl ⟨v, rfl⟩
  unfold stOf
  generalize valOf start = s at *
  rcases hcs with ⟨v, hc⟩ | hc
  · have CT := Aside0.mk (fun wx => Tryd.strconv_Atoi_ok s (by omega) v hc wx)
    rw [hc]
    clear hz hc hs hn hv
    go_enter Tryd.func70, Tryd.ntmps70
    go_wp2_with (first
      | (go_at_call 82; go_must (refine CA.out.mono ?_; rintro e w1 ⟨rfl, hb⟩; have HB := Aside0.mk hb; clear hb))
      | (go_at_call 83; go_must (refine (CT.out _).mono ?_; rintro e w2 ⟨rfl, hb⟩; have HB2 := Aside0.mk (show Below w.heap.size w w2 by rcases hb with rfl | ⟨t, rfl⟩; (exact HB.out); (exact bytes_below HB.out HB.out.size 5 t)); clear hb)))
    go_ret
    exact ⟨rfl, HB2.out⟩
  · obtain ⟨ev, he1, he2⟩ := hv.e
    have CT := Aside0.mk (fun (wx : World) (hb : Below w.heap.size w wx) => Tryd.strconv_Atoi_syntax s (by omega) hc ev wx (pw_cell_below hb he1) he2)
    rw [hc]
    clear hz hc hs hn hv he1 he2
    go_enter Tryd.func70, Tryd.ntmps70
    go_wp2_with (first
      | (go_at_call 82; go_must (refine CA.out.mono ?_; rintro e w1 ⟨rfl, hb⟩; have HB := Aside0.mk hb; clear hb))
      | (go_at_call 83; go_must (refine (CT.out _ HB.out).mono ?_; rintro e w2 ⟨N0, rfl, _, _, hb⟩; have HB2 := Aside0.mk (below_step HB.out hb); clear hb)))
    go_ret
    exact ⟨rfl, HB2.out⟩
/-- A numeral. -/
def numS (n : Int) : ByteArray := ⟨(Lib.itoa n).toArray⟩
theorem digs_small (u : Nat) : ∀ b ∈ Lib.decDigits u, b.toNat < 128 := by
  induction u using Nat.strongRecOn with
  | _ u ih =>
    intro b hb
    by_cases h : u < 10
    · rw [Lib.decDigits, dif_pos h] at hb
      obtain rfl := List.mem_singleton.1 hb
      rw [UInt8.toNat_ofNat']
      omega
    · rw [Lib.decDigits, dif_neg h] at hb
      rcases List.mem_append.1 hb with h1 | h1
      · exact ih (u / 10) (by omega) b h1
      · obtain rfl := List.mem_singleton.1 h1
        rw [UInt8.toNat_ofNat']
        omega
theorem digs_len (k : Nat) : ∀ u, u < 10 ^ (k + 1) → (Lib.decDigits u).length ≤ k + 1 := by
  induction k with
  | zero =>
    intro u h
    rw [Lib.decDigits, dif_pos (by simpa using h)]
    simp
  | succ k ih =>
    intro u h
    by_cases h0 : u < 10
    · rw [Lib.decDigits, dif_pos h0]; simp
    · rw [Lib.decDigits, dif_neg h0, List.length_append]
      rw [Nat.pow_succ] at h
      have := ih (u / 10) (by omega)
      simp only [List.length_singleton]
      omega
theorem num_size {n : Int} (h0 : 0 ≤ n) (h1 : n ≤ 100000000000000) : (numS n).size ≤ 20 := by
  obtain ⟨u, rfl⟩ := Int.eq_ofNat_of_zero_le h0
  show (Lib.itoa (u : Int)).toArray.size ≤ 20
  rw [Lib.itoa_nonneg]
  have := digs_len 19 u (by omega)
  simpa using this
theorem num_ascii {n : Int} (h0 : 0 ≤ n) : ∀ (j : Nat) b, (numS n).data.toList[j]? = some b → b.toNat < 128 := by
  obtain ⟨u, rfl⟩ := Int.eq_ofNat_of_zero_le h0
  intro j b hb
  have hb2 : (Lib.itoa (u : Int))[j]? = some b := hb
  rw [Lib.itoa_nonneg] at hb2
  exact digs_small u b (List.mem_of_getElem? hb2)
/-- The text ahead of an item of an ordered list. -/
def ordT (st items at_ : Int) : ByteArray := padS ((numS (st + items - 1)).size - (numS (st + at_)).size) (numS (st + at_)) ++ (⟨#[46, 32]⟩ : ByteArray)
/-- What the closure of getPrefixFunc captures. -/
structure CF (w : World) (gn gc gs gl nb : Nat) (data start bullet : ByteArray) (st items : Int) : Prop where
  n : w.cell? ⟨gn, 0, none⟩ = some (.pointer (some ⟨nb, 0, none⟩))
  c : w.cell? ⟨gc, 3, none⟩ = some (.string bullet)
  s : w.cell? ⟨gs, 0, none⟩ = some (.int .i64 st)
  l : w.cell? ⟨gl, 0, none⟩ = some (.int .i64 items)
  f : NF w nb data start
theorem CF.below {w w' : World} {gn gc gs gl nb : Nat} {data start bullet : ByteArray} {st items : Int} (h : CF w gn gc gs gl nb data start bullet st items) (hb : Below w.heap.size w w') : CF w' gn gc gs gl nb data start bullet st items :=
  ⟨pw_cell_below hb h.n, pw_cell_below hb h.c, pw_cell_below hb h.s, pw_cell_below hb h.l, h.f.below hb⟩
set_option maxRecDepth 100000 in
set_option maxHeartbeats 1000000 in
theorem pref_ul (gn gc gs gl nb : Nat) (start bullet : ByteArray) (hbl : bullet.size ≤ 1024) (st items at_ : Int) (w : World) (h : CF w gn gc gs gl nb ⟨#[117, 108]⟩ start bullet st items) :
    Calls Tryd.prog 71 #[.int .i64 at_, .pointer (some ⟨gn, 0, none⟩), .pointer (some ⟨gc, 0, none⟩), .pointer (some ⟨gs, 0, none⟩), .pointer (some ⟨gl, 0, none⟩)] w fun e w' => e = .returned (.string (bullet ++ (⟨#[32]⟩ : ByteArray))) ∧ Below w.heap.size w w' := by
  obtain ⟨h1, h2, h3, h4, h5⟩ := h
  have h6 := h5.d
  have q : bullet.size + 1 ≤ 9223372036854775807 := by omega
  clear h5
  go_enter Tryd.func71, Tryd.ntmps71
  go_wp2
  go_ret
  exact ⟨rfl, Below.refl _ _⟩
set_option maxRecDepth 100000 in
set_option maxHeartbeats 1000000 in
theorem pref_ol (gn gc gs gl nb : Nat) (start bullet : ByteArray) (st items at_ : Int) (b0 : 0 ≤ st) (b1 : st ≤ 10000000000000) (b2 : 0 ≤ at_) (b3 : at_ < items) (b4 : items ≤ 1048576) (w : World) (h : CF w gn gc gs gl nb ⟨#[111, 108]⟩ start bullet st items) (hv : SV w) :
    Calls Tryd.prog 71 #[.int .i64 at_, .pointer (some ⟨gn, 0, none⟩), .pointer (some ⟨gc, 0, none⟩), .pointer (some ⟨gs, 0, none⟩), .pointer (some ⟨gl, 0, none⟩)] w fun e w' => e = .returned (.string (ordT st items at_)) ∧ Below w.heap.size w w' := by
  obtain ⟨h1, h2, h3, h4, h5⟩ := h
  have h6 := h5.d
  have e1 : wrap64 (st + at_) = st + at_ := wrap_id (by omega) (by omega)
  have e2 : wrap64 (st + items) = st + items := wrap_id (by omega) (by omega)
  have e3 : wrap64 (st + items - 1) = st + items - 1 := wrap_id (by omega) (by omega)
  have n1 := num_size (n := st + at_) (by omega) (by omega)
  have n2 := num_size (n := st + items - 1) (by omega) (by omega)
  have CI := Aside0.mk (itoa_calls (st + items - 1) (by omega) (by omega) w hv)
  have CC := Aside0.mk (count_calls1 (numS (st + items - 1)) (by omega) (num_ascii (by omega)))
  have CP := Aside0.mk (fun (wx : World) (hb : Below w.heap.size w wx) => padded_calls (st + at_) (numS (st + items - 1)).size (by omega) (by omega) (by omega) (numS (st + at_)) rfl (by omega) wx (hv.below hb))
  have hps := padS_size ((numS (st + items - 1)).size - (numS (st + at_)).size) (numS (st + at_))
  unfold ordT
  have q : (padS ((numS (st + items - 1)).size - (numS (st + at_)).size) (numS (st + at_))).size + 2 ≤ 9223372036854775807 := by omega
  have CI : Aside0 (Calls Tryd.prog 73 #[.int .i64 (st + items - 1)] w fun e w' => e = .returned (.string (numS (st + items - 1))) ∧ Below w.heap.size w w') := CI
  generalize numS (st + items - 1) = L at *
  generalize numS (st + at_) = C at *
  generalize padS (L.size - C.size) C = X at *
  clear h5 hv b0 b1 b2 b3 b4 n1 n2 hps
  go_enter Tryd.func71, Tryd.ntmps71
  go_wp2_with (first
    | (go_at_call 73; go_must (refine CI.out.mono ?_; rintro e w1 ⟨rfl, hb⟩; have HB := Aside0.mk hb; clear hb))
    | (go_at_call 72; go_must (refine (CC.out _).mono ?_; rintro e w2 ⟨rfl, hb⟩; have HB2 := Aside0.mk (below_step HB.out hb); clear hb))
    | (go_at_call 74; go_must (refine (CP.out _ HB2.out).mono ?_; rintro e w3 ⟨rfl, hb⟩; have HB3 := Aside0.mk (below_step HB2.out hb); clear hb)))
  go_ret
  exact ⟨rfl, HB3.out⟩
theorem al_three (w : World) (o1 o2 o3 : Obj) : (((w.alloc o1).alloc o2).alloc o3).heap[w.heap.size]? = some o1 ∧ (((w.alloc o1).alloc o2).alloc o3).heap[w.heap.size + 1]? = some o2 ∧ (((w.alloc o1).alloc o2).alloc o3).heap[w.heap.size + 1 + 1]? = some o3 := by
  show (((w.heap.push o1).push o2).push o3)[w.heap.size]? = some o1 ∧ (((w.heap.push o1).push o2).push o3)[w.heap.size + 1]? = some o2 ∧ (((w.heap.push o1).push o2).push o3)[w.heap.size + 1 + 1]? = some o3
  refine ⟨?_, ?_, ?_⟩
  · rw [Array.getElem?_push, Array.size_push, Array.size_push, if_neg (by omega), Array.getElem?_push, Array.size_push, if_neg (by omega), Array.getElem?_push, if_pos rfl]
  · rw [Array.getElem?_push, Array.size_push, Array.size_push, if_neg (by omega), Array.getElem?_push, Array.size_push, if_pos rfl]
  · rw [Array.getElem?_push, Array.size_push, Array.size_push, if_pos rfl]
/-- The receiver of getPrefixFunc. -/
abbrev recA (bullet : ByteArray) : Array Value := #[.string ⟨#[]⟩, .string ⟨#[]⟩, .string ⟨#[]⟩, .string bullet, .bool false, .string ⟨#[]⟩, .string ⟨#[]⟩, .string ⟨#[]⟩, .string ⟨#[]⟩, .string ⟨#[]⟩]
set_option maxRecDepth 100000 in
theorem func_calls (nb : Nat) (data start bullet : ByteArray) (hs : start.size ≤ 12) (items : Int) (w : World) (hn : NF w nb data start) (hv : SV w) :
    Calls Tryd.prog 51 #[.agg (recA bullet), .pointer (some ⟨nb, 0, none⟩), .int .i64 items] w fun e w' => ∃ gn gc gs gl, e = .returned (.func (.func 71) #[] #[.pointer (some ⟨gn, 0, none⟩), .pointer (some ⟨gc, 0, none⟩), .pointer (some ⟨gs, 0, none⟩), .pointer (some ⟨gl, 0, none⟩)]) ∧ CF w' gn gc gs gl nb data start bullet (stOf start) items ∧ Below w.heap.size w w' := by
  have CS := Aside0.mk (fun (wx : World) (hb : Below w.heap.size w wx) => start_calls nb data start hs wx (hn.below hb) (hv.below hb))
  have A3 := fun o1 o2 o3 => Aside0.mk (al_three w o1 o2 o3)
  have HN := Aside0.mk hn
  clear hs hv hn
  generalize stOf start = st at *
  go_enter Tryd.func51, Tryd.ntmps51
  go_wp2_with fail
  have h3 := below_alloc (below_alloc (below_alloc (Below.refl w.heap.size w) (.cells (recA bullet) 84)) (.cells #[.pointer (some ⟨nb, 0, none⟩)] 44)) (.cells #[.int .i64 items] 3)
  have HB3 := Aside0.mk h3
  have a3 := A3 (.cells (recA bullet) 84) (.cells #[.pointer (some ⟨nb, 0, none⟩)] 44) (.cells #[.int .i64 items] 3)
  clear A3 h3
  generalize ((w.alloc (.cells (recA bullet) 84)).alloc (.cells #[.pointer (some ⟨nb, 0, none⟩)] 44)).alloc (.cells #[.int .i64 items] 3) = W at *
  refine (CS.out W HB3.out).mono ?_
  rintro e w1 ⟨rfl, hb⟩
  have HB1 := Aside0.mk hb
  clear hb
  go_wp2
  go_ret
  obtain ⟨x1, x2, x3⟩ := a3.out
  have hb2 := below_alloc (Below.refl w1.heap.size w1) (.cells #[.int .i64 st] 3)
  have hb3 := below_step HB1.out hb2
  refine ⟨_, _, _, _, rfl, ⟨pw_cell_below hb3 (blk_cell x2 0), pw_cell_below hb3 (blk_cell x1 3), blk_cell (heap_alloc_new w1 _) 0, pw_cell_below hb3 (blk_cell x3 0), HN.out.below (below_step HB3.out hb3)⟩, below_step HB3.out hb3⟩
/-- What an item's text begins with. -/
def preT (ord : Bool) (start bullet : ByteArray) (items at_ : Int) : ByteArray := if ord = true then ordT (stOf start) items at_ else bullet ++ (⟨#[32]⟩ : ByteArray)
def nameT (ord : Bool) : ByteArray := if ord = true then ⟨#[111, 108]⟩ else ⟨#[117, 108]⟩
theorem zz_calls (ord : Bool) (nb : Nat) (start bullet : ByteArray) (hs : start.size ≤ 12) (hbl : bullet.size ≤ 1024) (items at_ : Int) (b0 : 0 ≤ stOf start) (b1 : stOf start ≤ 10000000000000) (b2 : 0 ≤ at_) (b3 : at_ < items) (b4 : items ≤ 1048576) (w : World) (hn : NF w nb (nameT ord) start) (hv : SV w) :
    Calls Tryd.prog 35 #[.pointer (some ⟨nb, 0, none⟩), .string bullet, .int .i64 items, .int .i64 at_] w fun e w' => e = .returned (.string (preT ord start bullet items at_)) ∧ Below w.heap.size w w' := by
  have CF1 := Aside0.mk (func_calls nb (nameT ord) start bullet hs items w hn hv)
  have CC : Aside0 (∀ (gn gc gs gl : Nat) (wx : World), Below w.heap.size w wx → CF wx gn gc gs gl nb (nameT ord) start bullet (stOf start) items → Calls Tryd.prog 71 #[.int .i64 at_, .pointer (some ⟨gn, 0, none⟩), .pointer (some ⟨gc, 0, none⟩), .pointer (some ⟨gs, 0, none⟩), .pointer (some ⟨gl, 0, none⟩)] wx fun e w' => e = .returned (.string (preT ord start bullet items at_)) ∧ Below wx.heap.size wx w') := ⟨fun gn gc gs gl wx hb hc => by
    cases ord with
    | true => exact pref_ol gn gc gs gl nb start bullet (stOf start) items at_ b0 b1 b2 b3 b4 wx hc (hv.below hb)
    | false => exact pref_ul gn gc gs gl nb start bullet hbl (stOf start) items at_ wx hc⟩
  clear hs hbl b0 b1 b2 b3 b4 hn hv
  generalize preT ord start bullet items at_ = T at *
  generalize stOf start = st at *
  generalize nameT ord = nm at *
  go_enter Tryd.func35, Tryd.ntmps35
  go_wp2_with fail
  refine CF1.out.mono ?_
  rintro e w1 ⟨gn, gc, gs, gl, rfl, hc, hb⟩
  have C2 := Aside0.mk (CC.out gn gc gs gl w1 hb hc)
  have HB1 := Aside0.mk hb
  clear hb hc CC
  go_wp2_with fail
  refine C2.out.mono ?_
  rintro e w2 ⟨rfl, hb⟩
  have HB2 := Aside0.mk (below_step HB1.out hb)
  clear hb
  go_wp2
  go_ret
  exact ⟨rfl, HB2.out⟩
theorem al_new2 (w : World) (o1 o2 : Obj) : ((w.alloc o1).alloc o2).heap[w.heap.size]? = some o1 ∧ ((w.alloc o1).alloc o2).heap[w.heap.size + 1]? = some o2 := by
  show ((w.heap.push o1).push o2)[w.heap.size]? = some o1 ∧ ((w.heap.push o1).push o2)[w.heap.size + 1]? = some o2
  refine ⟨?_, ?_⟩
  · rw [Array.getElem?_push, Array.size_push, if_neg (by omega), Array.getElem?_push, if_pos rfl]
  · rw [Array.getElem?_push, Array.size_push, if_pos rfl]
theorem ilist_calls (ord : Bool) (start bullet : ByteArray) (hs : start.size ≤ 12) (hbl : bullet.size ≤ 1024) (items at_ : Int) (b0 : 0 ≤ stOf start) (b1 : stOf start ≤ 10000000000000) (b2 : 0 ≤ at_) (b3 : at_ < items) (b4 : items ≤ 1048576) (w : World) (hv : SV w) :
    Calls Tryd.prog 22 #[.bool ord, .string start, .string bullet, .int .i64 items, .int .i64 at_] w fun e w' => e = .returned (.string (preT ord start bullet items at_)) ∧ Below w.heap.size w w' := by
  have CZ := Aside0.mk (fun (wx : World) (nb : Nat) (hb : Below w.heap.size w wx) (hn : NF wx nb (nameT ord) start) => zz_calls ord nb start bullet hs hbl items at_ b0 b1 b2 b3 b4 wx hn (hv.below hb))
  clear hbl b0 b1 b2 b3 b4 hv hs
  generalize preT ord start bullet items at_ = T at *
  by_cases h0 : start.size = 0
  · obtain rfl : start = ⟨#[]⟩ := by
      apply ByteArray.ext
      exact Array.eq_empty_of_size_eq_zero h0
    cases ord with
    | true =>
      go_enter Tryd.func22, Tryd.ntmps22
      go_wp2_with fail
      refine (CZ.out _ _ (below_alloc (Below.refl _ _) _) ⟨blk_cell (heap_alloc_new w _) 7, .inl ⟨rfl, blk_cell (heap_alloc_new w _) 9⟩⟩).mono ?_
      rintro e w2 ⟨rfl, hb⟩
      have HB2 := Aside0.mk (below_step (below_alloc (Below.refl _ _) _) hb)
      clear hb
      go_wp2
      go_ret
      exact ⟨rfl, HB2.out⟩
    | false =>
      go_enter Tryd.func22, Tryd.ntmps22
      go_wp2_with fail
      refine (CZ.out _ _ (below_alloc (Below.refl _ _) _) ⟨blk_cell (heap_alloc_new w _) 7, .inl ⟨rfl, blk_cell (heap_alloc_new w _) 9⟩⟩).mono ?_
      rintro e w2 ⟨rfl, hb⟩
      have HB2 := Aside0.mk (below_step (below_alloc (Below.refl _ _) _) hb)
      clear hb
      go_wp2
      go_ret
      exact ⟨rfl, HB2.out⟩
  · have h1 : ¬ start.toList = ([] : List UInt8) := by rw [toList_nil]; exact h0
    have h3 : start.toList.isEmpty = false := by
      cases hx : start.toList with
      | nil => exact absurd hx h1
      | cons a l => rfl
    cases ord with
    | true =>
      go_enter Tryd.func22, Tryd.ntmps22
      go_wp2_with fail
      refine (CZ.out _ _ (below_alloc (below_alloc (Below.refl _ _) _) _) ⟨blk_cell (al_new2 w _ _).1 7, .inr ⟨h0, _, blk_cell (al_new2 w _ _).1 9, blk_cell (al_new2 w _ _).2 0, blk_cell (al_new2 w _ _).2 1, blk_cell (al_new2 w _ _).2 2⟩⟩).mono ?_
      rintro e w2 ⟨rfl, hb⟩
      have HB2 := Aside0.mk (below_step (below_alloc (below_alloc (Below.refl _ _) _) _) hb)
      clear hb
      go_wp2
      go_ret
      exact ⟨rfl, HB2.out⟩
    | false =>
      go_enter Tryd.func22, Tryd.ntmps22
      go_wp2_with fail
      refine (CZ.out _ _ (below_alloc (below_alloc (Below.refl _ _) _) _) ⟨blk_cell (al_new2 w _ _).1 7, .inr ⟨h0, _, blk_cell (al_new2 w _ _).1 9, blk_cell (al_new2 w _ _).2 0, blk_cell (al_new2 w _ _).2 1, blk_cell (al_new2 w _ _).2 2⟩⟩).mono ?_
      rintro e w2 ⟨rfl, hb⟩
      have HB2 := Aside0.mk (below_step (below_alloc (below_alloc (Below.refl _ _) _) _) hb)
      clear hb
      go_wp2
      go_ret
      exact ⟨rfl, HB2.out⟩
end Go.Proofs.YtbhcoeabhdangaaDoor.PInl
