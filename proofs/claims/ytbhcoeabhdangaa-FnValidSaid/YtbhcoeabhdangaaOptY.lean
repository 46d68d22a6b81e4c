/- impl.options of four texts: a row of closures. -/
import Derived.Test.YtbhcoeabhdangaaOptX
import Derived.Deep.DeepMust
import Derived.Tactics2
import Derived.Laws.EntriesVeiled
namespace Go.Proofs.Ytbhcoeabhdangaa.PVal
open Go.Proofs.Ytbhcoeabhdangaa.Txt Go.RowKit Go.Proofs.YtbhcoeabhdangaaW.PrintWords Go.Proofs.YtbhcoeabhdangaaW.PrintLast Go.Proofs.YtbhcoeabhdangaaW.PrintMore
set_option linter.unusedVariables false
set_option linter.unusedSimpArgs false

/-- An option's closure: its function, the block of its box. -/
abbrev fnV (x : Nat × Nat) : Value := .func (.func x.1) #[] #[.pointer (some ⟨x.2, 0, none⟩)]
abbrev kF : Kd (Nat × Nat) := Kd.scalar fnV (fun _ => rfl)
theorem infoF : (Try.prog.info? 58).map (fun i => (i.zero, i.size, i.bytes)) = some (some .nilFunc, 1, 8) := by kernel_rfl
/-- A row of closures, each of its function over a box that holds its text. -/
structure OptsI (w0 : World) (xs : List (Nat × Nat)) (os : List (Nat × ByteArray)) (v : Value) (w : World) : Prop where
  row : kF.R 58 w w0.heap.size (fun _ => True) v xs
  fns : xs.map Prod.fst = os.map Prod.fst
  box : ∀ (i : Nat) (x : Nat × Nat) (o : Nat × ByteArray), xs[i]? = some x → os[i]? = some o → w.heap[x.2]? = some (.cells #[.string o.2] 9 (0, 0))
  below : Below w0.heap.size w0 w
theorem OptsI.nil (w0 : World) : OptsI w0 [] [] (.slice none 0 0) w0 := ⟨Kd.R_nil _ _ _ _ _, rfl, fun i x o h => by simp at h, Below.refl _ _⟩
theorem OptsI.old {w0 w w1 : World} {xs : List (Nat × Nat)} {os : List (Nat × ByteArray)} {v : Value} (h : OptsI w0 xs os v w) (hb : Below w.heap.size w w1) : OptsI w0 xs os v w1 :=
  ⟨Kd.R_below h.row hb, h.fns, fun i x o hx ho => (hb.block _ (blk_lt (h.box i x o hx ho))).trans (h.box i x o hx ho), below_step h.below hb⟩
theorem OptsI.push {w0 w w1 : World} {xs : List (Nat × Nat)} {os : List (Nat × ByteArray)} {v v1 : Value} {F b : Nat} {s : ByteArray} (h : OptsI w0 xs os v w) (hbx : w.heap[b]? = some (.cells #[.string s] 9 (0, 0)))
    (ho : kF.R 58 w1 w0.heap.size (fun _ => True) v1 (xs ++ [(F, b)])) (hb : Below w0.heap.size w0 w1) (hg : w.grownBy w1 v.ownBlock) : OptsI w0 (xs ++ [(F, b)]) (os ++ [(F, s)]) v1 w1 := by
  have hl : xs.length = os.length := by have := congrArg List.length h.fns; simpa using this
  refine ⟨ho, by rw [List.map_append, List.map_append, h.fns]; rfl, fun i x o hx hoo => ?_, hb⟩
  have key : ∀ {b : Nat} {t : ByteArray}, w.heap[b]? = some (.cells #[.string t] 9 (0, 0)) → w1.heap[b]? = some (.cells #[.string t] 9 (0, 0)) := fun hk => blk_grown hk hg (Kd.R_ne h.row hk (by decide))
  by_cases hi : i < xs.length
  · rw [List.getElem?_append_left hi] at hx
    rw [List.getElem?_append_left (by omega)] at hoo
    exact key (h.box i x o hx hoo)
  · rw [List.getElem?_append_right (by omega)] at hx hoo
    by_cases hie : i = xs.length
    · subst hie
      rw [hl, Nat.sub_self] at hoo
      rw [Nat.sub_self] at hx
      simp only [List.getElem?_cons_zero, Option.some.injEq] at hx hoo
      subst hx hoo
      exact key hbx
    · rw [List.getElem?_eq_none (by simp only [List.length_cons, List.length_nil]; omega)] at hx
      cases hx
/-- The options that four texts are. -/
def optL (em st bu fe : ByteArray) : List (Nat × ByteArray) := (if em.toList = ([] : List UInt8) then [] else [(61, em)]) ++ ((if st.toList = ([] : List UInt8) then [] else [(62, st)]) ++ ((if bu.toList = ([] : List UInt8) then [] else [(63, bu)]) ++ (if fe.toList = ([] : List UInt8) then [] else [(64, fe)])))
theorem OptsI.opt {w0 w : World} {xs : List (Nat × Nat)} {os os' : List (Nat × ByteArray)} {v : Value} (h : OptsI w0 xs os v w) (e : os' = os) : ∃ xs, OptsI w0 xs os' v w := ⟨xs, e ▸ h⟩
theorem is_empty (s : ByteArray) : ((s.toList == ([] : List UInt8)) = true ∧ s.toList = []) ∨ ((s.toList == ([] : List UInt8)) = false ∧ ¬ s.toList = []) := by
  by_cases e : s.toList = ([] : List UInt8)
  · exact .inl ⟨beq_iff_eq.2 e, e⟩
  · exact .inr ⟨beq_eq_false_iff_ne.2 e, e⟩
/-- The row of closures beside the box of the options. -/
structure OptsJ (w0 : World) (cs : Array Value) (xs : List (Nat × Nat)) (os : List (Nat × ByteArray)) (v : Value) (w : World) : Prop where
  i : OptsI w0 xs os v w
  bx : w.heap[w0.heap.size]? = some (.cells cs 32 (0, 0))
theorem OptsJ.old {w0 w w1 : World} {cs : Array Value} {xs : List (Nat × Nat)} {os : List (Nat × ByteArray)} {v : Value} (h : OptsJ w0 cs xs os v w) (hb : Below w.heap.size w w1) : OptsJ w0 cs xs os v w1 := ⟨h.i.old hb, (hb.block _ (blk_lt h.bx)).trans h.bx⟩
theorem OptsJ.push {w0 w w1 : World} {cs : Array Value} {xs : List (Nat × Nat)} {os : List (Nat × ByteArray)} {v v1 : Value} {F b : Nat} {s : ByteArray} (h : OptsJ w0 cs xs os v w) (hbx : w.heap[b]? = some (.cells #[.string s] 9 (0, 0)))
    (ho : kF.R 58 w1 w0.heap.size (fun _ => True) v1 (xs ++ [(F, b)])) (hb : Below w0.heap.size w0 w1) (hg : w.grownBy w1 v.ownBlock) : OptsJ w0 cs (xs ++ [(F, b)]) (os ++ [(F, s)]) v1 w1 :=
  ⟨h.i.push hbx ho hb hg, blk_grown h.bx hg (Kd.R_ne h.i.row h.bx (by decide))⟩
set_option maxRecDepth 100000 in
set_option maxHeartbeats 40000000 in
theorem options_calls (em st bu fe : ByteArray) (f9 f10 f11 f12 : Bool) (w : World) :
    Calls Try.prog 24 #[.agg #[.bool false, .string em, .string st, .string bu, .string fe, .string ⟨#[]⟩, .int .i64 0, .bool false, .bool false, .bool f9, .bool f10, .bool f11, .bool f12]] w fun e w' => ∃ v xs, e = .returned v ∧ OptsI w xs (optL em st bu fe) v w' := by
  have HO := Aside0.mk (And.intro (is_empty em) (And.intro (is_empty st) (And.intro (is_empty bu) (is_empty fe))))
  go_enter Try.func24, Try.ntmps24
  go_upto_region 1 with fail
  have HI : Aside0 (OptsJ w _ [] [] (.slice none 0 0) (w.alloc (.cells #[.bool false, .string em, .string st, .string bu, .string fe, .string ⟨#[]⟩, .int .i64 0, .bool false, .bool false, .bool f9, .bool f10, .bool f11, .bool f12] 32))) := ⟨⟨(OptsI.nil w).old (below_alloc (Below.refl _ _) _), heap_alloc_new w _⟩⟩
  generalize w.alloc _ = w1 at HI ⊢
  (have c0 := blk_cell HI.out.bx 0; have c1 := blk_cell HI.out.bx 1; have c2 := blk_cell HI.out.bx 2; have c3 := blk_cell HI.out.bx 3; have c4 := blk_cell HI.out.bx 4; have c5 := blk_cell HI.out.bx 5; have c6 := blk_cell HI.out.bx 6; have c7 := blk_cell HI.out.bx 7; have c8 := blk_cell HI.out.bx 8)
  obtain ⟨h0, h1, h2, h3⟩ := HO.out
  clear HO
  rcases h0 with ⟨q0, p0⟩ | ⟨q0, p0⟩ <;> rcases h1 with ⟨q1, p1⟩ | ⟨q1, p1⟩ <;> rcases h2 with ⟨q2, p2⟩ | ⟨q2, p2⟩ <;> rcases h3 with ⟨q3, p3⟩ | ⟨q3, p3⟩
  all_goals
    have P0 := Aside0.mk p0
    have P1 := Aside0.mk p1
    have P2 := Aside0.mk p2
    have P3 := Aside0.mk p3
    clear p0 p1 p2 p3
  all_goals
    go_wp2_with (first
      | (go_at_call 35; go_must (refine (em_calls em _).mono ?_; (rintro e w1 ⟨rfl, hbx, hbw⟩; have BX := Aside0.mk hbx; have n_ := Aside0.mk (HI.out.old hbw); clear hbx hbw HI; have HI := n_; clear n_; (have c0 := blk_cell HI.out.bx 0; have c1 := blk_cell HI.out.bx 1; have c2 := blk_cell HI.out.bx 2; have c3 := blk_cell HI.out.bx 3; have c4 := blk_cell HI.out.bx 4; have c5 := blk_cell HI.out.bx 5; have c6 := blk_cell HI.out.bx 6; have c7 := blk_cell HI.out.bx 7; have c8 := blk_cell HI.out.bx 8))))
      | (go_at_call 36; go_must (refine (strong_calls st _).mono ?_; (rintro e w1 ⟨rfl, hbx, hbw⟩; have BX := Aside0.mk hbx; have n_ := Aside0.mk (HI.out.old hbw); clear hbx hbw HI; have HI := n_; clear n_; (have c0 := blk_cell HI.out.bx 0; have c1 := blk_cell HI.out.bx 1; have c2 := blk_cell HI.out.bx 2; have c3 := blk_cell HI.out.bx 3; have c4 := blk_cell HI.out.bx 4; have c5 := blk_cell HI.out.bx 5; have c6 := blk_cell HI.out.bx 6; have c7 := blk_cell HI.out.bx 7; have c8 := blk_cell HI.out.bx 8))))
      | (go_at_call 37; go_must (refine (bullet_calls bu _).mono ?_; (rintro e w1 ⟨rfl, hbx, hbw⟩; have BX := Aside0.mk hbx; have n_ := Aside0.mk (HI.out.old hbw); clear hbx hbw HI; have HI := n_; clear n_; (have c0 := blk_cell HI.out.bx 0; have c1 := blk_cell HI.out.bx 1; have c2 := blk_cell HI.out.bx 2; have c3 := blk_cell HI.out.bx 3; have c4 := blk_cell HI.out.bx 4; have c5 := blk_cell HI.out.bx 5; have c6 := blk_cell HI.out.bx 6; have c7 := blk_cell HI.out.bx 7; have c8 := blk_cell HI.out.bx 8))))
      | (go_at_call 38; go_must (refine (fence_calls fe _).mono ?_; (rintro e w1 ⟨rfl, hbx, hbw⟩; have BX := Aside0.mk hbx; have n_ := Aside0.mk (HI.out.old hbw); clear hbx hbw HI; have HI := n_; clear n_; (have c0 := blk_cell HI.out.bx 0; have c1 := blk_cell HI.out.bx 1; have c2 := blk_cell HI.out.bx 2; have c3 := blk_cell HI.out.bx 3; have c4 := blk_cell HI.out.bx 4; have c5 := blk_cell HI.out.bx 5; have c6 := blk_cell HI.out.bx 6; have c7 := blk_cell HI.out.bx 7; have c8 := blk_cell HI.out.bx 8))))
      | ((with_reducible refine gate_builtin (b := .append) (xs := #[.tmp 13, .tmp 17]) rfl ?_); at_builtin; go_must (refine Kd.R_append kF (w0 := w) w.heap.size rfl (.tmp 13) (.tmp 17) 48 58 .nilFunc 8 rfl Try.underlying48 infoF rfl (by decide) (by decide) _ _ (_, _) [fnV (_, _)] (fun _ => True) (fun _ => False) rfl rfl rfl (fun _ h => h.elim) (fun _ _ => trivial) HI.out.i.row HI.out.i.below HI.out.i.below.size (by simp only [List.length_append, List.length_cons, List.length_nil]; omega) ?_; (intro v1 w2 ho hb hg _; have n_ := Aside0.mk (HI.out.push BX.out ho hb hg); clear ho hb hg HI BX; have HI := n_; clear n_; (have c0 := blk_cell HI.out.bx 0; have c1 := blk_cell HI.out.bx 1; have c2 := blk_cell HI.out.bx 2; have c3 := blk_cell HI.out.bx 3; have c4 := blk_cell HI.out.bx 4; have c5 := blk_cell HI.out.bx 5; have c6 := blk_cell HI.out.bx 6; have c7 := blk_cell HI.out.bx 7; have c8 := blk_cell HI.out.bx 8))))
      | ((with_reducible refine gate_builtin (b := .append) (xs := #[.tmp 22, .tmp 26]) rfl ?_); at_builtin; go_must (refine Kd.R_append kF (w0 := w) w.heap.size rfl (.tmp 22) (.tmp 26) 48 58 .nilFunc 8 rfl Try.underlying48 infoF rfl (by decide) (by decide) _ _ (_, _) [fnV (_, _)] (fun _ => True) (fun _ => False) rfl rfl rfl (fun _ h => h.elim) (fun _ _ => trivial) HI.out.i.row HI.out.i.below HI.out.i.below.size (by simp only [List.length_append, List.length_cons, List.length_nil]; omega) ?_; (intro v1 w2 ho hb hg _; have n_ := Aside0.mk (HI.out.push BX.out ho hb hg); clear ho hb hg HI BX; have HI := n_; clear n_; (have c0 := blk_cell HI.out.bx 0; have c1 := blk_cell HI.out.bx 1; have c2 := blk_cell HI.out.bx 2; have c3 := blk_cell HI.out.bx 3; have c4 := blk_cell HI.out.bx 4; have c5 := blk_cell HI.out.bx 5; have c6 := blk_cell HI.out.bx 6; have c7 := blk_cell HI.out.bx 7; have c8 := blk_cell HI.out.bx 8))))
      | ((with_reducible refine gate_builtin (b := .append) (xs := #[.tmp 31, .tmp 35]) rfl ?_); at_builtin; go_must (refine Kd.R_append kF (w0 := w) w.heap.size rfl (.tmp 31) (.tmp 35) 48 58 .nilFunc 8 rfl Try.underlying48 infoF rfl (by decide) (by decide) _ _ (_, _) [fnV (_, _)] (fun _ => True) (fun _ => False) rfl rfl rfl (fun _ h => h.elim) (fun _ _ => trivial) HI.out.i.row HI.out.i.below HI.out.i.below.size (by simp only [List.length_append, List.length_cons, List.length_nil]; omega) ?_; (intro v1 w2 ho hb hg _; have n_ := Aside0.mk (HI.out.push BX.out ho hb hg); clear ho hb hg HI BX; have HI := n_; clear n_; (have c0 := blk_cell HI.out.bx 0; have c1 := blk_cell HI.out.bx 1; have c2 := blk_cell HI.out.bx 2; have c3 := blk_cell HI.out.bx 3; have c4 := blk_cell HI.out.bx 4; have c5 := blk_cell HI.out.bx 5; have c6 := blk_cell HI.out.bx 6; have c7 := blk_cell HI.out.bx 7; have c8 := blk_cell HI.out.bx 8))))
      | ((with_reducible refine gate_builtin (b := .append) (xs := #[.tmp 40, .tmp 44]) rfl ?_); at_builtin; go_must (refine Kd.R_append kF (w0 := w) w.heap.size rfl (.tmp 40) (.tmp 44) 48 58 .nilFunc 8 rfl Try.underlying48 infoF rfl (by decide) (by decide) _ _ (_, _) [fnV (_, _)] (fun _ => True) (fun _ => False) rfl rfl rfl (fun _ h => h.elim) (fun _ _ => trivial) HI.out.i.row HI.out.i.below HI.out.i.below.size (by simp only [List.length_append, List.length_cons, List.length_nil]; omega) ?_; (intro v1 w2 ho hb hg _; have n_ := Aside0.mk (HI.out.push BX.out ho hb hg); clear ho hb hg HI BX; have HI := n_; clear n_; (have c0 := blk_cell HI.out.bx 0; have c1 := blk_cell HI.out.bx 1; have c2 := blk_cell HI.out.bx 2; have c3 := blk_cell HI.out.bx 3; have c4 := blk_cell HI.out.bx 4; have c5 := blk_cell HI.out.bx 5; have c6 := blk_cell HI.out.bx 6; have c7 := blk_cell HI.out.bx 7; have c8 := blk_cell HI.out.bx 8)))))
    obtain ⟨xs, hx⟩ := HI.out.i.opt (os' := optL em st bu fe) (by
      unfold optL
      first | rw [if_pos P0.out] | rw [if_neg P0.out]
      first | rw [if_pos P1.out] | rw [if_neg P1.out]
      first | rw [if_pos P2.out] | rw [if_neg P2.out]
      first | rw [if_pos P3.out] | rw [if_neg P3.out]
      rfl)
    go_ret
    exact ⟨_, xs, rfl, hx⟩
end Go.Proofs.Ytbhcoeabhdangaa.PVal
