/- commonmark.validateConfig: when it is nil. -/
import Derived.Test.YtbhcoeabhdangaaCountX
import Derived.Test.YtbhcoeabhdangaaEValx3
import Derived.Deep.DeepMust
import Derived.Tactics2
namespace Go.Proofs.Ytbhcoeabhdangaa.PVal
open Go.Proofs.Ytbhcoeabhdangaa.Txt Go.RowKit Go.Proofs.YtbhcoeabhdangaaW.PrintWords Go.Proofs.YtbhcoeabhdangaaW.PrintLast Go.Proofs.YtbhcoeabhdangaaW.PrintMore
set_option linter.unusedVariables false
set_option linter.unusedSimpArgs false

theorem has_ev (a : ByteArray) (l : List ByteArray) (hl : l.length ≤ 1000000) : ∃ k, commonmark_contains.f k l a = some (l.any (fun x => x.toList == a.toList)) := by
  have key : ∀ (n j : Nat), l.length = j + n → ∃ k, commonmark_contains.l0 k a l (l.length : Int) (j : Int) = some ((l.drop j).any (fun x => x.toList == a.toList)) := by
    intro n
    induction n with
    | zero =>
      intro j hj
      refine ⟨1, ?_⟩
      rw [List.drop_eq_nil_of_le (by omega)]
      simp only [commonmark_contains.l0]
      rw [if_neg (by omega)]
      rfl
    | succ n ih =>
      intro j hj
      have hlt : j < l.length := by omega
      obtain ⟨k, hk⟩ := ih (j + 1) (by omega)
      refine ⟨k + 1, ?_⟩
      have he : rdOf ByteArray.empty l (j : Int) = l[j] := by simp [rdOf, List.getD_eq_getElem?_getD, List.getElem?_eq_getElem hlt]
      rw [List.drop_eq_getElem_cons hlt]
      simp only [commonmark_contains.l0, List.any_cons]
      rw [if_pos (by omega), if_pos (by omega), if_pos (by omega), he]
      by_cases hx : l[j].toList = a.toList
      · rw [if_pos hx, beq_iff_eq.2 hx]
        rfl
      · rw [if_neg hx, beq_eq_false_iff_ne.2 hx, wrap_id (by omega) (by omega)]
        exact hk
  obtain ⟨k, hk⟩ := key l.length 0 (by omega)
  exact ⟨k, hk⟩
theorem row_C (W : World) (l : List ByteArray) (hl : l.length ≤ 1000000) : Kd.C Kd.string (W.alloc (.cells (l.map Value.string).toArray 9)) (some ⟨W.heap.size, 0, none⟩) l.length l :=
  ⟨rfl, by omega, fun _ => ⟨_, rfl, fun j p hj => ⟨[.string p], rfl, rfl, fun i u hu => by
    cases i with
    | succ i => simp at hu
    | zero =>
      have : u = .string p := by simpa using hu.symm
      subst this
      have e : (Addr.add ⟨W.heap.size, 0, none⟩ (j * Kd.string.sz + 0)) = ⟨W.heap.size, j, none⟩ := by
        have : Kd.string.sz = 1 := rfl
        simp [Addr.add, this]
        intro h
        exact h.symm
      rw [e, blk_cell (heap_alloc_new W _) j]
      simp [hj]⟩⟩⟩
theorem has_at (l : List ByteArray) (hl : l.length ≤ 1000000) (a : ByteArray) (W : World) :
    Calls Try.prog 59 #[.slice (some ⟨W.heap.size, 0, none⟩) l.length l.length, .string a] (W.alloc (.cells (l.map Value.string).toArray 9)) fun e w' => e = .returned (.bool (l.any (fun x => x.toList == a.toList))) ∧ Below W.heap.size W w' := by
  obtain ⟨k, hk⟩ := has_ev a l hl
  refine (commonmark_contains.calls k _ _ l a _ _ (row_C W l hl) (Nat.le_refl _) hk).mono ?_
  rintro e w' ⟨he, hd⟩
  exact ⟨he, below_step (below_alloc (Below.refl _ _) _) hd.below⟩
/-- A config's cells. -/
abbrev cfgC (em st hr bu : ByteArray) (le : Bool) (fe hd ls x8 x9 : ByteArray) : Array Value := #[.string em, .string st, .string hr, .string bu, .bool le, .string fe, .string hd, .string ls, .string x8, .string x9]
structure Cfg (w wx : World) (g : Nat) (cs : Array Value) : Prop where
  b : Below w.heap.size w wx
  k : wx.heap[g]? = some (.cells cs 57 (0, 0))
theorem Cfg.step {w wx w' : World} {b : Nat} {cs : Array Value} (h : Cfg w wx b cs) (hb : Below wx.heap.size wx w') : Cfg w w' b cs := ⟨below_step h.b hb, (hb.block _ (blk_lt h.k)).trans h.k⟩
/-- What a check of options returns. -/
def ValidP (ok : Bool) (w : World) (e : Ending) (w' : World) : Prop := ((ok = true ∧ e = .returned .nilIface) ∨ (ok = false ∧ ∃ t p, e = .returned (.iface t p))) ∧ Below w.heap.size w w'
theorem cnt_of (s : ByteArray) (c : UInt8) (hs : s.size ≤ 140737488355328) (n : Nat) (hn : cntFrom (c.toNat : Int) (bytesOf s) = n) (wx : World) : Calls Try.prog 58 #[.string s, .string ⟨#[c]⟩] wx fun e w' => e = .returned (.int .i64 n) ∧ Below wx.heap.size wx w' := by
  subst hn
  exact count_calls (c.toNat : Int) s ⟨#[c]⟩ wx hs rfl rfl
theorem hr_three : cntFrom ((42 : UInt8).toNat : Int) (bytesOf ⟨#[42, 32, 42, 32, 42]⟩) = 3 := by kernel_rfl
set_option maxRecDepth 100000 in
set_option maxHeartbeats 40000000 in
theorem valid_calls (em st bu fe x8 x9 : ByteArray) (le : Bool) (he : em.size ≤ 140737488355328) (hs : st.size ≤ 140737488355328) (b : Nat) (w : World)
    (n1 n2 m1 m2 : Nat) (qb qf : Bool) (hn1 : cntFrom ((95 : UInt8).toNat : Int) (bytesOf em) = n1) (hn2 : cntFrom ((42 : UInt8).toNat : Int) (bytesOf em) = n2) (hm1 : cntFrom ((95 : UInt8).toNat : Int) (bytesOf st) = m1) (hm2 : cntFrom ((42 : UInt8).toNat : Int) (bytesOf st) = m2)
    (hqb : [(⟨#[45]⟩ : ByteArray), ⟨#[43]⟩, ⟨#[42]⟩].any (fun x => x.toList == bu.toList) = qb) (hqf : [(⟨#[96, 96, 96]⟩ : ByteArray), ⟨#[126, 126, 126]⟩].any (fun x => x.toList == fe.toList) = qf)
    (hk : w.heap[b]? = some (.cells (cfgC em st ⟨#[42, 32, 42, 32, 42]⟩ bu le fe ⟨#[97, 116, 120]⟩ ⟨#[105, 110, 108, 105, 110, 101, 100]⟩ x8 x9) 57 (0, 0))) :
    Calls Try.prog 33 #[.pointer (some ⟨b, 0, none⟩)] w (ValidP ((!((n1 : Int) != 1) || !((n2 : Int) != 1)) && (!((m1 : Int) != 2) || !((m2 : Int) != 2)) && qb && qf) w) := by
  have CE1 := Aside0.mk (cnt_of em 95 he n1 hn1)
  have CE2 := Aside0.mk (cnt_of em 42 he n2 hn2)
  have CS1 := Aside0.mk (cnt_of st 95 hs m1 hm1)
  have CS2 := Aside0.mk (cnt_of st 42 hs m2 hm2)
  have CH := Aside0.mk (cnt_of ⟨#[42, 32, 42, 32, 42]⟩ 42 (by decide) 3 hr_three)
  have BB : Aside0 (∀ W : World, Calls Try.prog 59 #[.slice (some ⟨W.heap.size, 0, none⟩) 3 3, .string bu] (W.alloc (.cells #[.string ⟨#[45]⟩, .string ⟨#[43]⟩, .string ⟨#[42]⟩] 9)) fun e w' => e = .returned (.bool qb) ∧ Below W.heap.size W w') := ⟨fun W => by rw [← hqb]; exact has_at [⟨#[45]⟩, ⟨#[43]⟩, ⟨#[42]⟩] (by decide) bu W⟩
  have BF : Aside0 (∀ W : World, Calls Try.prog 59 #[.slice (some ⟨W.heap.size, 0, none⟩) 2 2, .string fe] (W.alloc (.cells #[.string ⟨#[96, 96, 96]⟩, .string ⟨#[126, 126, 126]⟩] 9)) fun e w' => e = .returned (.bool qf) ∧ Below W.heap.size W w') := ⟨fun W => by rw [← hqf]; exact has_at [⟨#[96, 96, 96]⟩, ⟨#[126, 126, 126]⟩] (by decide) fe W⟩
  have HH : Aside0 (Cfg w w b _) := ⟨⟨Below.refl _ _, hk⟩⟩
  clear he hs hn1 hn2 hm1 hm2 hqb hqf hk
  (have r0 := blk_cell HH.out.k 0; have r1 := blk_cell HH.out.k 1; have r2 := blk_cell HH.out.k 2; have r3 := blk_cell HH.out.k 3; have r4 := blk_cell HH.out.k 4; have r5 := blk_cell HH.out.k 5; have r6 := blk_cell HH.out.k 6; have r7 := blk_cell HH.out.k 7; have r8 := blk_cell HH.out.k 8; have r9 := blk_cell HH.out.k 9; have ra3 := fun o => blk_cell (((below_alloc (Below.refl _ _) o).block _ (blk_lt HH.out.k)).trans HH.out.k) 3; have ra5 := fun o => blk_cell (((below_alloc (Below.refl _ _) o).block _ (blk_lt HH.out.k)).trans HH.out.k) 5; have ra6 := fun o => blk_cell (((below_alloc (Below.refl _ _) o).block _ (blk_lt HH.out.k)).trans HH.out.k) 6; have ra7 := fun o => blk_cell (((below_alloc (Below.refl _ _) o).block _ (blk_lt HH.out.k)).trans HH.out.k) 7)
  have BH : Aside0 (∀ W : World, Calls Try.prog 59 #[.slice (some ⟨W.heap.size, 0, none⟩) 2 2, .string ⟨#[97, 116, 120]⟩] (W.alloc (.cells #[.string ⟨#[97, 116, 120]⟩, .string ⟨#[115, 101, 116, 101, 120, 116]⟩] 9)) fun e w' => e = .returned (.bool true) ∧ Below W.heap.size W w') := ⟨fun W => by
    have h := has_at [⟨#[97, 116, 120]⟩, ⟨#[115, 101, 116, 101, 120, 116]⟩] (by decide) ⟨#[97, 116, 120]⟩ W
    have e : [(⟨#[97, 116, 120]⟩ : ByteArray), ⟨#[115, 101, 116, 101, 120, 116]⟩].any (fun x => x.toList == (⟨#[97, 116, 120]⟩ : ByteArray).toList) = true := by rw [List.any_cons, toList_beq_self]; rfl
    rw [e] at h
    exact h⟩
  have BL : Aside0 (∀ W : World, Calls Try.prog 59 #[.slice (some ⟨W.heap.size, 0, none⟩) 3 3, .string ⟨#[105, 110, 108, 105, 110, 101, 100]⟩] (W.alloc (.cells #[.string ⟨#[105, 110, 108, 105, 110, 101, 100]⟩, .string ⟨#[114, 101, 102, 101, 114, 101, 110, 99, 101, 100, 95, 105, 110, 100, 101, 120]⟩, .string ⟨#[114, 101, 102, 101, 114, 101, 110, 99, 101, 100, 95, 115, 104, 111, 114, 116]⟩] 9)) fun e w' => e = .returned (.bool true) ∧ Below W.heap.size W w') := ⟨fun W => by
    have h := has_at [⟨#[105, 110, 108, 105, 110, 101, 100]⟩, ⟨#[114, 101, 102, 101, 114, 101, 110, 99, 101, 100, 95, 105, 110, 100, 101, 120]⟩, ⟨#[114, 101, 102, 101, 114, 101, 110, 99, 101, 100, 95, 115, 104, 111, 114, 116]⟩] (by decide) ⟨#[105, 110, 108, 105, 110, 101, 100]⟩ W
    have e : [(⟨#[105, 110, 108, 105, 110, 101, 100]⟩ : ByteArray), ⟨#[114, 101, 102, 101, 114, 101, 110, 99, 101, 100, 95, 105, 110, 100, 101, 120]⟩, ⟨#[114, 101, 102, 101, 114, 101, 110, 99, 101, 100, 95, 115, 104, 111, 114, 116]⟩].any (fun x => x.toList == (⟨#[105, 110, 108, 105, 110, 101, 100]⟩ : ByteArray).toList) = true := by rw [List.any_cons, toList_beq_self]; rfl
    rw [e] at h
    exact h⟩
  cases d1 : ((n1 : Int) != 1) <;> cases d2 : ((n2 : Int) != 1)
  case true.true => (go_enter Try.func33, Try.ntmps33; go_wp2_with (first | (go_at_call 58; go_must (first | with_reducible refine (CE1.out _).mono ?_ | with_reducible refine (CE2.out _).mono ?_ | with_reducible refine (CS1.out _).mono ?_ | with_reducible refine (CS2.out _).mono ?_ | with_reducible refine (CH.out _).mono ?_); (rintro e w4 ⟨rfl, hb⟩; have n_ := Aside0.mk (HH.out.step hb); clear HH hb; have HH := n_; clear n_; (have r0 := blk_cell HH.out.k 0; have r1 := blk_cell HH.out.k 1; have r2 := blk_cell HH.out.k 2; have r3 := blk_cell HH.out.k 3; have r4 := blk_cell HH.out.k 4; have r5 := blk_cell HH.out.k 5; have r6 := blk_cell HH.out.k 6; have r7 := blk_cell HH.out.k 7; have r8 := blk_cell HH.out.k 8; have r9 := blk_cell HH.out.k 9; have ra3 := fun o => blk_cell (((below_alloc (Below.refl _ _) o).block _ (blk_lt HH.out.k)).trans HH.out.k) 3; have ra5 := fun o => blk_cell (((below_alloc (Below.refl _ _) o).block _ (blk_lt HH.out.k)).trans HH.out.k) 5; have ra6 := fun o => blk_cell (((below_alloc (Below.refl _ _) o).block _ (blk_lt HH.out.k)).trans HH.out.k) 6; have ra7 := fun o => blk_cell (((below_alloc (Below.refl _ _) o).block _ (blk_lt HH.out.k)).trans HH.out.k) 7))) | (go_at_call 59; go_must (first | with_reducible refine (BB.out _).mono ?_ | with_reducible refine (BF.out _).mono ?_ | with_reducible refine (BH.out _).mono ?_ | with_reducible refine (BL.out _).mono ?_); (rintro e w4 ⟨rfl, hb⟩; have n_ := Aside0.mk (HH.out.step hb); clear HH hb; have HH := n_; clear n_; (have r0 := blk_cell HH.out.k 0; have r1 := blk_cell HH.out.k 1; have r2 := blk_cell HH.out.k 2; have r3 := blk_cell HH.out.k 3; have r4 := blk_cell HH.out.k 4; have r5 := blk_cell HH.out.k 5; have r6 := blk_cell HH.out.k 6; have r7 := blk_cell HH.out.k 7; have r8 := blk_cell HH.out.k 8; have r9 := blk_cell HH.out.k 9; have ra3 := fun o => blk_cell (((below_alloc (Below.refl _ _) o).block _ (blk_lt HH.out.k)).trans HH.out.k) 3; have ra5 := fun o => blk_cell (((below_alloc (Below.refl _ _) o).block _ (blk_lt HH.out.k)).trans HH.out.k) 5; have ra6 := fun o => blk_cell (((below_alloc (Below.refl _ _) o).block _ (blk_lt HH.out.k)).trans HH.out.k) 6; have ra7 := fun o => blk_cell (((below_alloc (Below.refl _ _) o).block _ (blk_lt HH.out.k)).trans HH.out.k) 7)))); go_ret; exact ⟨.inr ⟨rfl, _, _, rfl⟩, below_alloc HH.out.b _⟩)
  all_goals
    cases f1 : ((m1 : Int) != 2) <;> cases f2 : ((m2 : Int) != 2)
    case true.true => (go_enter Try.func33, Try.ntmps33; go_wp2_with (first | (go_at_call 58; go_must (first | with_reducible refine (CE1.out _).mono ?_ | with_reducible refine (CE2.out _).mono ?_ | with_reducible refine (CS1.out _).mono ?_ | with_reducible refine (CS2.out _).mono ?_ | with_reducible refine (CH.out _).mono ?_); (rintro e w4 ⟨rfl, hb⟩; have n_ := Aside0.mk (HH.out.step hb); clear HH hb; have HH := n_; clear n_; (have r0 := blk_cell HH.out.k 0; have r1 := blk_cell HH.out.k 1; have r2 := blk_cell HH.out.k 2; have r3 := blk_cell HH.out.k 3; have r4 := blk_cell HH.out.k 4; have r5 := blk_cell HH.out.k 5; have r6 := blk_cell HH.out.k 6; have r7 := blk_cell HH.out.k 7; have r8 := blk_cell HH.out.k 8; have r9 := blk_cell HH.out.k 9; have ra3 := fun o => blk_cell (((below_alloc (Below.refl _ _) o).block _ (blk_lt HH.out.k)).trans HH.out.k) 3; have ra5 := fun o => blk_cell (((below_alloc (Below.refl _ _) o).block _ (blk_lt HH.out.k)).trans HH.out.k) 5; have ra6 := fun o => blk_cell (((below_alloc (Below.refl _ _) o).block _ (blk_lt HH.out.k)).trans HH.out.k) 6; have ra7 := fun o => blk_cell (((below_alloc (Below.refl _ _) o).block _ (blk_lt HH.out.k)).trans HH.out.k) 7))) | (go_at_call 59; go_must (first | with_reducible refine (BB.out _).mono ?_ | with_reducible refine (BF.out _).mono ?_ | with_reducible refine (BH.out _).mono ?_ | with_reducible refine (BL.out _).mono ?_); (rintro e w4 ⟨rfl, hb⟩; have n_ := Aside0.mk (HH.out.step hb); clear HH hb; have HH := n_; clear n_; (have r0 := blk_cell HH.out.k 0; have r1 := blk_cell HH.out.k 1; have r2 := blk_cell HH.out.k 2; have r3 := blk_cell HH.out.k 3; have r4 := blk_cell HH.out.k 4; have r5 := blk_cell HH.out.k 5; have r6 := blk_cell HH.out.k 6; have r7 := blk_cell HH.out.k 7; have r8 := blk_cell HH.out.k 8; have r9 := blk_cell HH.out.k 9; have ra3 := fun o => blk_cell (((below_alloc (Below.refl _ _) o).block _ (blk_lt HH.out.k)).trans HH.out.k) 3; have ra5 := fun o => blk_cell (((below_alloc (Below.refl _ _) o).block _ (blk_lt HH.out.k)).trans HH.out.k) 5; have ra6 := fun o => blk_cell (((below_alloc (Below.refl _ _) o).block _ (blk_lt HH.out.k)).trans HH.out.k) 6; have ra7 := fun o => blk_cell (((below_alloc (Below.refl _ _) o).block _ (blk_lt HH.out.k)).trans HH.out.k) 7)))); go_ret; exact ⟨.inr ⟨rfl, _, _, rfl⟩, below_alloc HH.out.b _⟩)
    all_goals
      cases qb
      case false => (go_enter Try.func33, Try.ntmps33; go_wp2_with (first | (go_at_call 58; go_must (first | with_reducible refine (CE1.out _).mono ?_ | with_reducible refine (CE2.out _).mono ?_ | with_reducible refine (CS1.out _).mono ?_ | with_reducible refine (CS2.out _).mono ?_ | with_reducible refine (CH.out _).mono ?_); (rintro e w4 ⟨rfl, hb⟩; have n_ := Aside0.mk (HH.out.step hb); clear HH hb; have HH := n_; clear n_; (have r0 := blk_cell HH.out.k 0; have r1 := blk_cell HH.out.k 1; have r2 := blk_cell HH.out.k 2; have r3 := blk_cell HH.out.k 3; have r4 := blk_cell HH.out.k 4; have r5 := blk_cell HH.out.k 5; have r6 := blk_cell HH.out.k 6; have r7 := blk_cell HH.out.k 7; have r8 := blk_cell HH.out.k 8; have r9 := blk_cell HH.out.k 9; have ra3 := fun o => blk_cell (((below_alloc (Below.refl _ _) o).block _ (blk_lt HH.out.k)).trans HH.out.k) 3; have ra5 := fun o => blk_cell (((below_alloc (Below.refl _ _) o).block _ (blk_lt HH.out.k)).trans HH.out.k) 5; have ra6 := fun o => blk_cell (((below_alloc (Below.refl _ _) o).block _ (blk_lt HH.out.k)).trans HH.out.k) 6; have ra7 := fun o => blk_cell (((below_alloc (Below.refl _ _) o).block _ (blk_lt HH.out.k)).trans HH.out.k) 7))) | (go_at_call 59; go_must (first | with_reducible refine (BB.out _).mono ?_ | with_reducible refine (BF.out _).mono ?_ | with_reducible refine (BH.out _).mono ?_ | with_reducible refine (BL.out _).mono ?_); (rintro e w4 ⟨rfl, hb⟩; have n_ := Aside0.mk (HH.out.step hb); clear HH hb; have HH := n_; clear n_; (have r0 := blk_cell HH.out.k 0; have r1 := blk_cell HH.out.k 1; have r2 := blk_cell HH.out.k 2; have r3 := blk_cell HH.out.k 3; have r4 := blk_cell HH.out.k 4; have r5 := blk_cell HH.out.k 5; have r6 := blk_cell HH.out.k 6; have r7 := blk_cell HH.out.k 7; have r8 := blk_cell HH.out.k 8; have r9 := blk_cell HH.out.k 9; have ra3 := fun o => blk_cell (((below_alloc (Below.refl _ _) o).block _ (blk_lt HH.out.k)).trans HH.out.k) 3; have ra5 := fun o => blk_cell (((below_alloc (Below.refl _ _) o).block _ (blk_lt HH.out.k)).trans HH.out.k) 5; have ra6 := fun o => blk_cell (((below_alloc (Below.refl _ _) o).block _ (blk_lt HH.out.k)).trans HH.out.k) 6; have ra7 := fun o => blk_cell (((below_alloc (Below.refl _ _) o).block _ (blk_lt HH.out.k)).trans HH.out.k) 7)))); go_ret; exact ⟨.inr ⟨rfl, _, _, rfl⟩, below_alloc HH.out.b _⟩)
      cases qf
      case false => (go_enter Try.func33, Try.ntmps33; go_wp2_with (first | (go_at_call 58; go_must (first | with_reducible refine (CE1.out _).mono ?_ | with_reducible refine (CE2.out _).mono ?_ | with_reducible refine (CS1.out _).mono ?_ | with_reducible refine (CS2.out _).mono ?_ | with_reducible refine (CH.out _).mono ?_); (rintro e w4 ⟨rfl, hb⟩; have n_ := Aside0.mk (HH.out.step hb); clear HH hb; have HH := n_; clear n_; (have r0 := blk_cell HH.out.k 0; have r1 := blk_cell HH.out.k 1; have r2 := blk_cell HH.out.k 2; have r3 := blk_cell HH.out.k 3; have r4 := blk_cell HH.out.k 4; have r5 := blk_cell HH.out.k 5; have r6 := blk_cell HH.out.k 6; have r7 := blk_cell HH.out.k 7; have r8 := blk_cell HH.out.k 8; have r9 := blk_cell HH.out.k 9; have ra3 := fun o => blk_cell (((below_alloc (Below.refl _ _) o).block _ (blk_lt HH.out.k)).trans HH.out.k) 3; have ra5 := fun o => blk_cell (((below_alloc (Below.refl _ _) o).block _ (blk_lt HH.out.k)).trans HH.out.k) 5; have ra6 := fun o => blk_cell (((below_alloc (Below.refl _ _) o).block _ (blk_lt HH.out.k)).trans HH.out.k) 6; have ra7 := fun o => blk_cell (((below_alloc (Below.refl _ _) o).block _ (blk_lt HH.out.k)).trans HH.out.k) 7))) | (go_at_call 59; go_must (first | with_reducible refine (BB.out _).mono ?_ | with_reducible refine (BF.out _).mono ?_ | with_reducible refine (BH.out _).mono ?_ | with_reducible refine (BL.out _).mono ?_); (rintro e w4 ⟨rfl, hb⟩; have n_ := Aside0.mk (HH.out.step hb); clear HH hb; have HH := n_; clear n_; (have r0 := blk_cell HH.out.k 0; have r1 := blk_cell HH.out.k 1; have r2 := blk_cell HH.out.k 2; have r3 := blk_cell HH.out.k 3; have r4 := blk_cell HH.out.k 4; have r5 := blk_cell HH.out.k 5; have r6 := blk_cell HH.out.k 6; have r7 := blk_cell HH.out.k 7; have r8 := blk_cell HH.out.k 8; have r9 := blk_cell HH.out.k 9; have ra3 := fun o => blk_cell (((below_alloc (Below.refl _ _) o).block _ (blk_lt HH.out.k)).trans HH.out.k) 3; have ra5 := fun o => blk_cell (((below_alloc (Below.refl _ _) o).block _ (blk_lt HH.out.k)).trans HH.out.k) 5; have ra6 := fun o => blk_cell (((below_alloc (Below.refl _ _) o).block _ (blk_lt HH.out.k)).trans HH.out.k) 6; have ra7 := fun o => blk_cell (((below_alloc (Below.refl _ _) o).block _ (blk_lt HH.out.k)).trans HH.out.k) 7)))); go_ret; exact ⟨.inr ⟨rfl, _, _, rfl⟩, below_alloc HH.out.b _⟩)
      (go_enter Try.func33, Try.ntmps33; go_wp2_with (first | (go_at_call 58; go_must (first | with_reducible refine (CE1.out _).mono ?_ | with_reducible refine (CE2.out _).mono ?_ | with_reducible refine (CS1.out _).mono ?_ | with_reducible refine (CS2.out _).mono ?_ | with_reducible refine (CH.out _).mono ?_); (rintro e w4 ⟨rfl, hb⟩; have n_ := Aside0.mk (HH.out.step hb); clear HH hb; have HH := n_; clear n_; (have r0 := blk_cell HH.out.k 0; have r1 := blk_cell HH.out.k 1; have r2 := blk_cell HH.out.k 2; have r3 := blk_cell HH.out.k 3; have r4 := blk_cell HH.out.k 4; have r5 := blk_cell HH.out.k 5; have r6 := blk_cell HH.out.k 6; have r7 := blk_cell HH.out.k 7; have r8 := blk_cell HH.out.k 8; have r9 := blk_cell HH.out.k 9; have ra3 := fun o => blk_cell (((below_alloc (Below.refl _ _) o).block _ (blk_lt HH.out.k)).trans HH.out.k) 3; have ra5 := fun o => blk_cell (((below_alloc (Below.refl _ _) o).block _ (blk_lt HH.out.k)).trans HH.out.k) 5; have ra6 := fun o => blk_cell (((below_alloc (Below.refl _ _) o).block _ (blk_lt HH.out.k)).trans HH.out.k) 6; have ra7 := fun o => blk_cell (((below_alloc (Below.refl _ _) o).block _ (blk_lt HH.out.k)).trans HH.out.k) 7))) | (go_at_call 59; go_must (first | with_reducible refine (BB.out _).mono ?_ | with_reducible refine (BF.out _).mono ?_ | with_reducible refine (BH.out _).mono ?_ | with_reducible refine (BL.out _).mono ?_); (rintro e w4 ⟨rfl, hb⟩; have n_ := Aside0.mk (HH.out.step hb); clear HH hb; have HH := n_; clear n_; (have r0 := blk_cell HH.out.k 0; have r1 := blk_cell HH.out.k 1; have r2 := blk_cell HH.out.k 2; have r3 := blk_cell HH.out.k 3; have r4 := blk_cell HH.out.k 4; have r5 := blk_cell HH.out.k 5; have r6 := blk_cell HH.out.k 6; have r7 := blk_cell HH.out.k 7; have r8 := blk_cell HH.out.k 8; have r9 := blk_cell HH.out.k 9; have ra3 := fun o => blk_cell (((below_alloc (Below.refl _ _) o).block _ (blk_lt HH.out.k)).trans HH.out.k) 3; have ra5 := fun o => blk_cell (((below_alloc (Below.refl _ _) o).block _ (blk_lt HH.out.k)).trans HH.out.k) 5; have ra6 := fun o => blk_cell (((below_alloc (Below.refl _ _) o).block _ (blk_lt HH.out.k)).trans HH.out.k) 6; have ra7 := fun o => blk_cell (((below_alloc (Below.refl _ _) o).block _ (blk_lt HH.out.k)).trans HH.out.k) 7)))); go_ret; exact ⟨.inl ⟨rfl, rfl⟩, HH.out.b⟩)
end Go.Proofs.Ytbhcoeabhdangaa.PVal
