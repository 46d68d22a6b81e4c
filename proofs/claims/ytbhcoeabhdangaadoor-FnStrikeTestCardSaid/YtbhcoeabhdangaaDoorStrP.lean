/- Printed by the program extprint.py of this session, out of the kit's print and contracts of this session's own; Lean checks it. -/
import Derived.Test.YtbhcoeabhdangaaDoorEInlx0
import Derived.Test.YtbhcoeabhdangaaDoorSpaceX
namespace Go.Proofs.YtbhcoeabhdangaaDoor.PInl
open Go.RowKit Go.Proofs.YtbhcoeabhdangaaDoorW.PrintWords Go.Proofs.YtbhcoeabhdangaaDoorW.PrintLast Go.Proofs.YtbhcoeabhdangaaDoorW.PrintMore
attribute [local go_sem] max2_int min2_int max_two min_two max_three min_three max_four min_four   -- for this text's walks alone
set_option linter.unusedVariables false
set_option linter.unusedSimpArgs false







/-! ### escape_getNextAsRune: function 75 -/
def escape_getNextAsRune.l0 : Nat → List Int → Int → Option (Int)
  | 0, _, _ => none
  | k + 1, x0, x5 => if x5 < (x0.length : Int) then (if 0 ≤ x5 then (if (rd x0 x5) = 7 then (escape_getNextAsRune.l0 k x0 (wrap64 (x5 + 1))) else (if x5 ≤ (x0.length : Int) then ((utf8_DecodeRune.f k (x0.drop (x5 : Int).toNat)).bind fun bt107 => (some bt107.1)) else (none))) else (none)) else (some 0)
def escape_getNextAsRune.f (k : Nat) (l0 : List Int) (a1 : Int) : Option (Int) := escape_getNextAsRune.l0 k l0 (wrap64 (a1 + 1))
theorem escape_getNextAsRune.mono_l : ∀ k, (∀ y0 y1, LeO (escape_getNextAsRune.l0 k y0 y1) (escape_getNextAsRune.l0 (k + 1) y0 y1))
  | 0 => fun _ _ r h => by simp [escape_getNextAsRune.l0] at h
  | k + 1 => by
    have ih0 := escape_getNextAsRune.mono_l k
    · intro y0 y1
      unfold escape_getNextAsRune.l0
      repeat' first
      | (with_reducible exact ih0 _ _)
      | (with_reducible exact utf8_DecodeRune.mono _ _)
      | (with_reducible exact LeO.refl _)
      | (with_reducible exact LeO.none _)
      | (with_reducible refine LeO.ite ?_ ?_)
      | (with_reducible refine LeO.bind ?_ (fun _ => ?_))
      | exact ih0 _ _
      | exact utf8_DecodeRune.mono _ _
      | exact LeO.none _
      | refine LeO.ite ?_ ?_
      | refine LeO.bind ?_ (fun _ => ?_)
theorem escape_getNextAsRune.mono : ∀ a0 a1 k, LeO (escape_getNextAsRune.f k a0 a1) (escape_getNextAsRune.f (k + 1) a0 a1) := by
  intro a0 a1 k
  have ih0 := escape_getNextAsRune.mono_l k
  unfold escape_getNextAsRune.f
  repeat' first
      | (with_reducible exact ih0 _ _)
      | (with_reducible exact utf8_DecodeRune.mono _ _)
      | (with_reducible exact LeO.refl _)
      | (with_reducible exact LeO.none _)
      | (with_reducible refine LeO.ite ?_ ?_)
      | (with_reducible refine LeO.bind ?_ (fun _ => ?_))
      | exact ih0 _ _
      | exact utf8_DecodeRune.mono _ _
      | exact LeO.none _
      | refine LeO.ite ?_ ?_
      | refine LeO.bind ?_ (fun _ => ?_)
set_option maxHeartbeats 8000000 in
set_option maxRecDepth 100000 in
theorem escape_getNextAsRune.calls (k : Nat) (A0 : Option Addr) (c0 : Nat) (l0 : List Int) (a1 : Int) (r : Int) (w : World) (hr0 : Kd.C (Kd.int .u8) w A0 l0.length l0) (hc0 : l0.length ≤ c0) (h : escape_getNextAsRune.f k l0 a1 = some r) :
    Calls Tryd.prog 75 #[.slice A0 l0.length c0, .int .i64 a1] w fun e w' => e = .returned (.int .i32 r) ∧ Below w.heap.size w w' := by
  have HR0 := Aside0.mk hr0
  have HC0 := Aside0.mk hc0
  clear hr0 hc0
  have HB := Aside0.mk (Below.refl w.heap.size w)
  have H : (escape_getNextAsRune.l0 k l0 (wrap64 (a1 + 1))) = some r := h
  clear h
  have H' := Aside0.mk H
  clear H
  go_enter Tryd.func75, Tryd.ntmps75
  go_wp2
  go_loopg [5] k (fun kq v5 w' => ∃ (x5_1 : Int), v5 = .int .i64 x5_1 ∧ Aside0 (escape_getNextAsRune.l0 kq l0 x5_1 = some r) ∧ Aside0 (kq ≤ k) ∧ Aside0 (Below w.heap.size w w'))
  case atStart => exact ⟨(wrap64 (a1 + 1)), (by first | rfl | (simp; done) | (simp [*]; done)), H', ⟨Nat.le_refl _⟩, ⟨by repeat (first | (with_reducible first | exact HB.out | apply below_alloc | apply pw_below_drewN | apply below_drew1) | exact HB.out)⟩⟩
  case round =>
    clear H'
    try clear p2
    obtain ⟨x5_1, rfl, HA, HK1, HB⟩ := hrel
    cases gk with
    | zero => exact absurd HA.out (by simp [escape_getNextAsRune.l0])
    | succ k1 =>
      have H := HA.out
      clear HA
      simp only [escape_getNextAsRune.l0] at H
      by_cases c3 : x5_1 < (l0.length : Int)
      · rw [if_pos c3] at H
        have c3b0 : decide (x5_1 < (l0.length : Int)) = true := decide_eq_true c3
        clear c3
        by_cases c4 : 0 ≤ x5_1
        · rw [if_pos c4] at H
          have c4b0 : decide (0 ≤ x5_1) = true := decide_eq_true c4
          clear c4
          by_cases c5 : (rd l0 x5_1) = 7
          · rw [if_pos c5] at H
            have c5b0 : ((rd l0 x5_1) == 7) = true := beq_iff_eq.mpr c5
            have c5b1 : ((rd l0 x5_1) != 7) = false := bne_eq_false_iff_eq.mpr c5
            clear c5
            have H' := Aside0.mk H
            clear H
            have p105 : 0 ≤ (x5_1 : Int) := of_decide_eq_true (by first | (with_reducible assumption) | assumption)
            have q105 : x5_1 < (l0.length : Int) := of_decide_eq_true (by first | (with_reducible assumption) | assumption)
            obtain ⟨ad105, e105, hx105_0⟩ := Kd.at_int HR0.out x5_1 p105 q105
            cases e105
            replace hx105_0 := (HB.out.cell (World.block_lt_of_cell? w _ hx105_0)).trans hx105_0
            replace p105 := eq_true p105
            replace q105 := eq_true q105
            go_wp2
            go_roundg k1
            case measure => have := HK1.out; omega
            case rel => exact ⟨(wrap64 (x5_1 + 1)), (by first | rfl | (simp; done) | (simp [*]; done)), H', ⟨by have := HK1.out; omega⟩, ⟨by repeat (first | (with_reducible first | exact HB.out | apply below_alloc | apply pw_below_drewN | apply below_drew1) | exact HB.out)⟩⟩
          · rw [if_neg c5] at H
            have c5b0 : ((rd l0 x5_1) == 7) = false := beq_eq_false_iff_ne.mpr c5
            have c5b1 : ((rd l0 x5_1) != 7) = true := bne_iff_ne.mpr c5
            have c6b0 := eq_true (of_decide_eq_true (by first | (with_reducible assumption) | assumption) : 0 ≤ x5_1)
            by_cases c7 : x5_1 ≤ (l0.length : Int)
            · rw [if_pos c7] at H
              have c7b0 := eq_true c7
              have c7b1 : decide (x5_1 ≤ (l0.length : Int)) = true := decide_eq_true c7
              clear c7
              replace H := Option.bind_eq_some_iff.mp H
              obtain ⟨⟨t107, t108⟩, A80, H⟩ := H
              replace H : (some t107) = some r := H
              have A8 := Aside0.mk A80
              clear A80
              obtain rfl := Option.some.inj H
              have p105 : 0 ≤ (x5_1 : Int) := of_decide_eq_true (by first | (with_reducible assumption) | assumption)
              have q105 : x5_1 < (l0.length : Int) := of_decide_eq_true (by first | (with_reducible assumption) | assumption)
              obtain ⟨ad105, e105, hx105_0⟩ := Kd.at_int HR0.out x5_1 p105 q105
              cases e105
              replace hx105_0 := (HB.out.cell (World.block_lt_of_cell? w _ hx105_0)).trans hx105_0
              replace p105 := eq_true p105
              replace q105 := eq_true q105
              obtain ⟨i09, hi09, _, hsz9, _⟩ := info_parts info5
              obtain ⟨A9, hcut9, hA9, hC9⟩ := print_drop_of (P := Tryd.prog) (Value.int .u8) 0 40 5 .i64 Tryd.underlying40 hi09 hsz9 (some ad105) c0 l0 x5_1 (of_decide_eq_true (by first | (with_reducible assumption) | assumption)) (of_decide_eq_true (by first | (with_reducible assumption) | assumption)) HC0.out
              have HR106 := Aside0.mk (Kd.C_of_reads (h1 := fun _ => rfl) (hA9 _ (Kd.reads_of_C HR0.out)))
              have HC106 := Aside0.mk hC9
              clear hA9 hC9 hi09 hsz9
              go_wp2_with (first | ((with_reducible refine gate_callee (f := 39) rfl ?_); refine goesL_ (some 25) rfl rfl Tryd.func39 (by kernel_rfl) rfl #[.slice A9 (l0.drop (x5_1 : Int).toNat).length (c0 - x5_1.toNat)] rfl (by (try simp only [List.map_toArray, List.map_cons, List.map_nil]); first | done | (rw [show (l0.drop (x5_1 : Int).toNat).length = (l0.length - x5_1.toNat) from List.length_drop] <;> rfl) | rfl | (simp only [List.length_drop, List.length_take]; rfl)) ?_; (with_reducible refine (utf8_DecodeRune.calls k1 _ _ (l0.drop (x5_1 : Int).toNat) t107 t108 _ ?side1 ?side2 A8.out).mono ?_); (case side1 => repeat (first | exact (Kd.C_below HR106.out HB.out) | (with_reducible refine Kd.C_alloc ?_ _) | (with_reducible refine Kd.C_drewN ?_ _) | (with_reducible refine Kd.C_drew ?_))); (case side2 => exact HC106.out); rintro e w10 ⟨rfl, hb⟩; refine ⟨_, rfl, ?_⟩; have n0_ := Aside0.mk (below_step (by repeat (first | (with_reducible first | exact HB.out | apply below_alloc | apply pw_below_drewN | apply below_drew1) | exact HB.out)) hb); clear HB; have HB := n0_; clear n0_; (try clear hb); (try clear hb2); (try clear hk); (try clear hi)))
              go_ret
              exact ⟨by first | rfl | (simp [errW_none, errW_some] <;> rfl) | (simp [*, errW_none, errW_some] <;> rfl), by repeat (first | (with_reducible first | exact HB.out | apply below_alloc | apply pw_below_drewN | apply below_drew1) | exact HB.out)⟩
            · rw [if_neg c7] at H
              exact absurd H (by simp)
        · rw [if_neg c4] at H
          exact absurd H (by simp)
      · rw [if_neg c3] at H
        have c3b0 : decide (x5_1 < (l0.length : Int)) = false := decide_eq_false c3
        clear c3
        obtain rfl := Option.some.inj H
        go_wp2
        go_ret
        exact ⟨by first | rfl | (simp [errW_none, errW_some] <;> rfl) | (simp [*, errW_none, errW_some] <;> rfl), by repeat (first | (with_reducible first | exact HB.out | apply below_alloc | apply pw_below_drewN | apply below_drew1) | exact HB.out)⟩

/-! ### escape_GetNextAsRune: function 52 -/
def escape_GetNextAsRune.f (k : Nat) (l0 : List Int) (a1 : Int) : Option (Int) := (escape_getNextAsRune.f k l0 a1).bind fun t109 => (some t109)
theorem escape_GetNextAsRune.mono : ∀ a0 a1 k, LeO (escape_GetNextAsRune.f k a0 a1) (escape_GetNextAsRune.f (k + 1) a0 a1) := by
  intro a0 a1 k
  unfold escape_GetNextAsRune.f
  repeat' first
      | (with_reducible exact escape_getNextAsRune.mono _ _ _)
      | (with_reducible exact LeO.refl _)
      | (with_reducible exact LeO.none _)
      | (with_reducible refine LeO.ite ?_ ?_)
      | (with_reducible refine LeO.bind ?_ (fun _ => ?_))
      | exact escape_getNextAsRune.mono _ _ _
      | exact LeO.none _
      | refine LeO.ite ?_ ?_
      | refine LeO.bind ?_ (fun _ => ?_)
set_option maxHeartbeats 8000000 in
set_option maxRecDepth 100000 in
theorem escape_GetNextAsRune.calls (k : Nat) (A0 : Option Addr) (c0 : Nat) (l0 : List Int) (a1 : Int) (r : Int) (w : World) (hr0 : Kd.C (Kd.int .u8) w A0 l0.length l0) (hc0 : l0.length ≤ c0) (h : escape_GetNextAsRune.f k l0 a1 = some r) :
    Calls Tryd.prog 52 #[.slice A0 l0.length c0, .int .i64 a1] w fun e w' => e = .returned (.int .i32 r) ∧ Below w.heap.size w w' := by
  have HR0 := Aside0.mk hr0
  have HC0 := Aside0.mk hc0
  clear hr0 hc0
  have HB := Aside0.mk (Below.refl w.heap.size w)
  have H : ((escape_getNextAsRune.f k l0 a1).bind fun t109 => (some t109)) = some r := h
  clear h
  replace H := Option.bind_eq_some_iff.mp H
  obtain ⟨t109, A30, H⟩ := H
  replace H : (some t109) = some r := H
  have A3 := Aside0.mk A30
  clear A30
  obtain rfl := Option.some.inj H
  go_enter Tryd.func52, Tryd.ntmps52
  go_wp2_with (first | ((with_reducible refine gate_callee (f := 75) rfl ?_); refine goesL_ (some 7) rfl rfl Tryd.func75 (by kernel_rfl) rfl #[.slice A0 l0.length c0, .int .i64 a1] rfl (by (try simp only [List.map_toArray, List.map_cons, List.map_nil]); first | done | rfl | (simp only [List.length_drop, List.length_take]; rfl)) ?_; (with_reducible refine (escape_getNextAsRune.calls k _ _ l0 a1 t109 _ ?side1 ?side2 A3.out).mono ?_); (case side1 => repeat (first | exact HR0.out | (with_reducible refine Kd.C_alloc ?_ _) | (with_reducible refine Kd.C_drewN ?_ _) | (with_reducible refine Kd.C_drew ?_))); (case side2 => exact HC0.out); rintro e w4 ⟨rfl, hb⟩; refine ⟨_, rfl, ?_⟩; have n0_ := Aside0.mk (below_step (by repeat (first | (with_reducible first | exact HB.out | apply below_alloc | apply pw_below_drewN | apply below_drew1) | exact HB.out)) hb); clear HB; have HB := n0_; clear n0_; (try clear hb); (try clear hb2); (try clear hk); (try clear hi)))
  go_ret
  exact ⟨by first | rfl | (simp [errW_none, errW_some] <;> rfl) | (simp [*, errW_none, errW_some] <;> rfl), by repeat (first | (with_reducible first | exact HB.out | apply below_alloc | apply pw_below_drewN | apply below_drew1) | exact HB.out)⟩

/-- A state of type 57 at block g of W; what its slices lead to came in by w0. -/
def IsS57 (w0 W : World) (g : Nat) (f0 : ByteArray) : Prop := W.heap[g]? = some (.cells #[.string f0] 57 (0, 0)) ∧ w0.heap.size ≤ g
theorem IsS57.grown {w0 W : World} {g : Nat} {f0 : ByteArray} {W1 : World} {row : Option Nat} (h : IsS57 w0 W g f0) (hw : W.grownBy W1 row) (hne : some g ≠ row) : IsS57 w0 W1 g f0 := by
  obtain ⟨hb, hg⟩ := h
  exact ⟨blk_grown hb hw hne, hg⟩
theorem IsS57.own_neN {w0 W : World} {g : Nat} {f0 : ByteArray} {α : Type} {d : Kd α} {e : Nat} {base : Nat} {ok : Nat → Prop} {v : Value} {xs : List α} (h : IsS57 w0 W g f0) (ho : Kd.N d e W base ok v xs) (ht : e ≠ 57) : some g ≠ v.ownBlock := by
  obtain ⟨hb, hg⟩ := h
  exact Kd.N_ne ho hb ht
theorem IsS57.fresh {w0 W : World} {g : Nat} {f0 : ByteArray} (h : IsS57 w0 W g f0) : ∀ k, W.heap.size ≤ k → k ≠ g := by
  obtain ⟨hb, hg⟩ := h
  exact Kd.freshB hb
theorem IsS57.kept {w0 W : World} {g : Nat} {f0 : ByteArray} {W1 : World} {S : Nat → Prop} (h : IsS57 w0 W g f0) (hk : Kept W W1 S) (hne : ¬ S g) : IsS57 w0 W1 g f0 := by
  obtain ⟨hb, hg⟩ := h
  exact ⟨blk_kept hb hk hne, hg⟩
theorem IsS57.below {w0 W : World} {g : Nat} {f0 : ByteArray} {W1 : World} (h : IsS57 w0 W g f0) (hw : Below W.heap.size W W1) : IsS57 w0 W1 g f0 := h.grown (grown_of_below hw none) (by simp)
theorem IsS57.alloc {w0 W : World} {g : Nat} {f0 : ByteArray} (h : IsS57 w0 W g f0) (o : Obj) : IsS57 w0 (W.alloc o) g f0 := h.below (below_alloc (Below.refl _ _) o)
theorem IsS57.drewN {w0 W : World} {g : Nat} {f0 : ByteArray} (h : IsS57 w0 W g f0) (m : Nat) : IsS57 w0 (W.drewN m) g f0 := h
theorem IsS57.drew {w0 W : World} {g : Nat} {f0 : ByteArray} (h : IsS57 w0 W g f0) : IsS57 w0 W.drew g f0 := h
theorem IsS57.at_ {w0 W : World} {g : Nat} {f0 : ByteArray} {w' : World} {m : Nat} (hq : W.drewN m = w') (h : IsS57 w0 W g f0) : IsS57 w0 w' g f0 := by subst hq; exact IsS57.drewN h m
theorem IsS57.apart {w0 W : World} {g : Nat} {f0 : ByteArray} {α : Type} {d : Kd α} {e : Nat} {base : Nat} {ok : Nat → Prop} {v : Value} {xs : List α} (h : IsS57 w0 W g f0) (ho : d.R e W base ok v xs) (ht : ∀ q, q ∈ e :: d.E → q ≠ 57) : d.R e W base (fun k => ok k ∧ k ≠ g) v xs := by
  obtain ⟨hb, hg⟩ := h
  exact Kd.R_types ho hb ht
theorem IsS57.own_ne {w0 W : World} {g : Nat} {f0 : ByteArray} {α : Type} {d : Kd α} {e : Nat} {base : Nat} {ok : Nat → Prop} {v : Value} {xs : List α} (h : IsS57 w0 W g f0) (ho : d.R e W base ok v xs) (ht : e ≠ 57) : some g ≠ v.ownBlock := by
  obtain ⟨hb, hg⟩ := h
  exact Kd.R_ne ho hb ht
theorem IsS57.apartQ {w0 W : World} {g : Nat} {f0 : ByteArray} {α : Type} {d : Kd α} {e : Nat} {base : Nat} {ok : Nat → Prop} {v : Value} {xs : List α} (h : IsS57 w0 W g f0) (ho : d.Q e W base ok v xs) (ht : ∀ q, q ∈ e :: d.E → q ≠ 57) : d.Q e W base (fun k => ok k ∧ k ≠ g) v xs := by
  obtain ⟨hb, hg⟩ := h
  exact Kd.Q_types ho hb ht
theorem IsS57.own_neQ {w0 W : World} {g : Nat} {f0 : ByteArray} {α : Type} {d : Kd α} {e : Nat} {base : Nat} {ok : Nat → Prop} {v : Value} {xs : List α} (h : IsS57 w0 W g f0) (ho : d.Q e W base ok v xs) (ht : e ≠ 57) : some g ≠ v.ownBlock := by
  obtain ⟨hb, hg⟩ := h
  exact Kd.Q_ne ho hb ht
theorem IsS57.apartS {w0 W : World} {g : Nat} {f0 : ByteArray} {α : Type} {d : Kd α} {e : Nat} {base : Nat} {ok : Nat → Prop} {v : Value} {xs : List α} (h : IsS57 w0 W g f0) (ho : d.S e W base ok v xs) (ht : ∀ q, q ∈ e :: d.E → q ≠ 57) : d.S e W base (fun k => ok k ∧ k ≠ g) v xs := by
  obtain ⟨hb, hg⟩ := h
  exact Kd.S_types ho hb ht
theorem IsS57.own_neS {w0 W : World} {g : Nat} {f0 : ByteArray} {α : Type} {d : Kd α} {e : Nat} {base : Nat} {ok : Nat → Prop} {v : Value} {xs : List α} (h : IsS57 w0 W g f0) (ho : d.S e W base ok v xs) (ht : e ≠ 57) : some g ≠ v.ownBlock := by
  obtain ⟨hb, hg⟩ := h
  exact Kd.S_ne ho hb ht
theorem IsS57.lt {w0 W : World} {g : Nat} {f0 : ByteArray} (h : IsS57 w0 W g f0) : g < W.heap.size := by
  obtain ⟨hb, hg⟩ := h
  exact blk_lt hb
theorem IsS57.ge {w0 W : World} {g : Nat} {f0 : ByteArray} (h : IsS57 w0 W g f0) : w0.heap.size ≤ g := by
  obtain ⟨hb, hg⟩ := h
  exact hg
theorem IsS57.ne_blk {w0 W : World} {g : Nat} {f0 : ByteArray} {a : Nat} {cs : Array Value} {t : TypeId} {fr : Nat × Nat} (h : IsS57 w0 W g f0) (hb2 : W.heap[a]? = some (.cells cs t fr)) (ht : t ≠ 57) : g ≠ a := by
  obtain ⟨hb, hg⟩ := h
  rintro rfl
  rw [hb] at hb2
  injection hb2 with hb2
  injection hb2 with _ ht2
  exact ht ht2.symm
theorem IsS57.far {w0 W : World} {g : Nat} {f0 : ByteArray} {p : Addr} (h : IsS57 w0 W g f0) (hne : g ≠ p.block) (u : Value) : IsS57 w0 (W.setCell p u) g f0 := by
  obtain ⟨hb, hg⟩ := h
  exact ⟨blk_far hb hne u, hg⟩
theorem cellS57_0 {W : World} {g : Nat} {f0 : ByteArray} (h : W.heap[g]? = some (.cells #[.string f0] 57 (0, 0))) : W.cell? ⟨g, 0, none⟩ = some (.string f0) := (blk_cell h 0).trans rfl
theorem IsS57.set_0 {w0 W : World} {g : Nat} {f0 : ByteArray} (h : IsS57 w0 W g f0) (x : ByteArray) : IsS57 w0 (W.setCell ⟨g, 0, none⟩ (.string x)) g x := by
  obtain ⟨hb, hg⟩ := h
  exact ⟨by simpa using blk_set hb 0 (.string x), hg⟩
theorem IsS57.new (w0 W : World) (f0 : ByteArray) (hB : Below w0.heap.size w0 W) : IsS57 w0 (W.alloc (.cells #[.string f0] 57)) W.heap.size f0 := ⟨by simpa using heap_alloc_new W _, hB.size⟩

/-! ### strikethrough_strikethroughPlugin_handleUnEscapers: function 38 -/
def strikethrough_strikethroughPlugin_handleUnEscapers.f (k : Nat) (s0_0 : ByteArray) (l1 : List Int) (a2 : Int) : Option (Int × ByteArray) := if 0 ≤ a2 then (if a2 < (l1.length : Int) then (if (rd l1 a2) = 126 then ((escape_GetNextAsRune.f k l1 a2).bind fun t111 => ((unicode_IsSpace.f k t111).bind fun t112 => (if t112 = true then (some ((-1), s0_0)) else (if t111 = 0 then (some ((-1), s0_0)) else (some (1, s0_0)))))) else (some ((-1), s0_0))) else (none)) else (none)
theorem strikethrough_strikethroughPlugin_handleUnEscapers.mono : ∀ a0 a1 a2 k, LeO (strikethrough_strikethroughPlugin_handleUnEscapers.f k a0 a1 a2) (strikethrough_strikethroughPlugin_handleUnEscapers.f (k + 1) a0 a1 a2) := by
  intro a0 a1 a2 k
  unfold strikethrough_strikethroughPlugin_handleUnEscapers.f
  repeat' first
      | (with_reducible exact escape_GetNextAsRune.mono _ _ _)
      | (with_reducible exact unicode_IsSpace.mono _ _)
      | (with_reducible exact LeO.refl _)
      | (with_reducible exact LeO.none _)
      | (with_reducible refine LeO.ite ?_ ?_)
      | (with_reducible refine LeO.bind ?_ (fun _ => ?_))
      | exact escape_GetNextAsRune.mono _ _ _
      | exact unicode_IsSpace.mono _ _
      | exact LeO.none _
      | refine LeO.ite ?_ ?_
      | refine LeO.bind ?_ (fun _ => ?_)
set_option maxHeartbeats 8000000 in
set_option maxRecDepth 100000 in
theorem strikethrough_strikethroughPlugin_handleUnEscapers.calls (k : Nat) (g : Nat) (s0_0 : ByteArray) (A1 : Option Addr) (c1 : Nat) (l1 : List Int) (a2 : Int) (r1 : Int) (r2 : ByteArray) (w0 w : World) (hI : IsS57 w0 w g s0_0) (hB : Below w0.heap.size w0 w) (hr1 : Kd.C (Kd.int .u8) w A1 l1.length l1) (hc1 : l1.length ≤ c1) (hf1 : ∀ ad, A1 = some ad → 0 < l1.length → ad.block ≠ g) (h : strikethrough_strikethroughPlugin_handleUnEscapers.f k s0_0 l1 a2 = some (r1, r2)) :
    Calls Tryd.prog 38 #[.pointer (some ⟨g, 0, none⟩), .slice A1 l1.length c1, .int .i64 a2] w fun e w' => e = .returned (.int .i64 r1) ∧ IsS57 w0 w' g r2 ∧ Below w0.heap.size w0 w' ∧ KeepBut w w' g none := by
  have HR1 := Aside0.mk hr1
  have HC1 := Aside0.mk hc1
  clear hr1 hc1
  have HI0 := Aside0.mk hI
  have HK := Aside0.mk (KeepBut.refl w g none)
  have HL := Aside0.mk hB.size
  clear hI
  have HW0 := Aside0.mk hB.size
  have HB := Aside0.mk hB
  clear hB
  have H : (if 0 ≤ a2 then (if a2 < (l1.length : Int) then (if (rd l1 a2) = 126 then ((escape_GetNextAsRune.f k l1 a2).bind fun t111 => ((unicode_IsSpace.f k t111).bind fun t112 => (if t112 = true then (some ((-1), s0_0)) else (if t111 = 0 then (some ((-1), s0_0)) else (some (1, s0_0)))))) else (some ((-1), s0_0))) else (none)) else (none)) = some (r1, r2) := h
  clear h
  by_cases c4 : 0 ≤ a2
  · rw [if_pos c4] at H
    have c4b0 : decide (0 ≤ a2) = true := decide_eq_true c4
    clear c4
    by_cases c5 : a2 < (l1.length : Int)
    · rw [if_pos c5] at H
      have c5b0 : decide (a2 < (l1.length : Int)) = true := decide_eq_true c5
      clear c5
      by_cases c6 : (rd l1 a2) = 126
      · rw [if_pos c6] at H
        have c6b0 : ((rd l1 a2) == 126) = true := beq_iff_eq.mpr c6
        have c6b1 : ((rd l1 a2) != 126) = false := bne_eq_false_iff_eq.mpr c6
        clear c6
        replace H := Option.bind_eq_some_iff.mp H
        obtain ⟨t111, A70, H⟩ := H
        replace H : ((unicode_IsSpace.f k t111).bind fun t112 => (if t112 = true then (some ((-1), s0_0)) else (if t111 = 0 then (some ((-1), s0_0)) else (some (1, s0_0))))) = some (r1, r2) := H
        have A7 := Aside0.mk A70
        clear A70
        replace H := Option.bind_eq_some_iff.mp H
        obtain ⟨t112, A80, H⟩ := H
        replace H : (if t112 = true then (some ((-1), s0_0)) else (if t111 = 0 then (some ((-1), s0_0)) else (some (1, s0_0)))) = some (r1, r2) := H
        have A8 := Aside0.mk A80
        clear A80
        by_cases c9 : t112 = true
        · subst c9
          have H1 : (some ((-1), s0_0)) = some (r1, r2) := by rw [if_pos rfl] at H; exact H
          clear H
          have H := H1
          clear H1
          simp only [Option.some.injEq, Prod.mk.injEq] at H
          obtain ⟨rfl, rfl⟩ := H
          have p110 : 0 ≤ (a2 : Int) := of_decide_eq_true (by first | (with_reducible assumption) | assumption)
          have q110 : a2 < (l1.length : Int) := of_decide_eq_true (by first | (with_reducible assumption) | assumption)
          obtain ⟨ad110, e110, hx110_0⟩ := Kd.at_int HR1.out a2 p110 q110
          cases e110
          replace hx110_0 := keep_cell HK.out hx110_0 (by first | (rw [add_block]; exact hf1 _ rfl (by omega)) | exact hf1 _ rfl (by omega) | exact hf1 ad110 rfl (by omega))
          replace p110 := eq_true p110
          replace q110 := eq_true q110
          go_enter Tryd.func38, Tryd.ntmps38
          go_wp2_with (first | ((with_reducible refine gate_callee (f := 52) rfl ?_); refine goesL_ (some 16) rfl rfl Tryd.func52 (by kernel_rfl) rfl #[.slice (some ad110) l1.length c1, .int .i64 a2] rfl (by (try simp only [List.map_toArray, List.map_cons, List.map_nil]); first | done | rfl | (simp only [List.length_drop, List.length_take]; rfl)) ?_; (with_reducible refine (escape_GetNextAsRune.calls k _ _ l1 a2 t111 _ ?side1 ?side2 A7.out).mono ?_); (case side1 => exact Kd.C_keep 0 HR1.out (by repeat (first | (with_reducible first | exact HK.out | apply KeepBut.set_ | apply keep_drewN | apply keep_drew | apply keep_alloc) | exact HK.out)) hf1); (case side2 => exact HC1.out); rintro e w10 ⟨rfl, hb⟩; refine ⟨_, rfl, ?_⟩; have n0_ := Aside0.mk (IsS57.below (by repeat (first | (with_reducible first | exact HI0.out | apply IsS57.alloc | apply IsS57.drewN | apply IsS57.drew | apply IsS57.set_0) | exact HI0.out)) hb); have n1_ := Aside0.mk (KeepBut.trans (by repeat (first | (with_reducible first | exact HK.out | apply KeepBut.set_ | apply keep_drewN | apply keep_drew | apply keep_alloc) | exact HK.out)) (KeepBut.of_below hb g none) (.inl rfl)); have n2_ := Aside0.mk (below_step (by repeat (first | (with_reducible first | exact HB.out | apply below_alloc | apply pw_below_drewN | apply below_drew1 | refine below_set ?_ (IsS57.ge HI0.out)) | exact HB.out)) hb); clear HI0; clear HK; clear HB; have HI0 := n0_; have HK := n1_; have HB := n2_; clear n0_ n1_ n2_; (try clear hb); (try clear hb2); (try clear hk); (try clear hi)) | ((with_reducible refine gate_callee (f := 32) rfl ?_); refine goesL_ (some 18) rfl rfl Tryd.func32 (by kernel_rfl) rfl #[.int .i32 t111] rfl (by (try simp only [List.map_toArray, List.map_cons, List.map_nil]); first | done | rfl | (simp only [List.length_drop, List.length_take]; rfl)) ?_; (with_reducible refine (unicode_IsSpace.calls k t111 true _ A8.out).mono ?_); rintro e w11 ⟨rfl, hb⟩; refine ⟨_, rfl, ?_⟩; have n0_ := Aside0.mk (IsS57.below (by repeat (first | (with_reducible first | exact HI0.out | apply IsS57.alloc | apply IsS57.drewN | apply IsS57.drew | apply IsS57.set_0) | exact HI0.out)) hb); have n1_ := Aside0.mk (KeepBut.trans (by repeat (first | (with_reducible first | exact HK.out | apply KeepBut.set_ | apply keep_drewN | apply keep_drew | apply keep_alloc) | exact HK.out)) (KeepBut.of_below hb g none) (.inl rfl)); have n2_ := Aside0.mk (below_step (by repeat (first | (with_reducible first | exact HB.out | apply below_alloc | apply pw_below_drewN | apply below_drew1 | refine below_set ?_ (IsS57.ge HI0.out)) | exact HB.out)) hb); clear HI0; clear HK; clear HB; have HI0 := n0_; have HK := n1_; have HB := n2_; clear n0_ n1_ n2_; (try clear hb); (try clear hb2); (try clear hk); (try clear hi)))
          go_ret
          exact ⟨by first | rfl | (simp [errW_none, errW_some] <;> rfl) | (simp [*, errW_none, errW_some] <;> rfl), by repeat (first | (with_reducible first | exact HI0.out | apply IsS57.alloc | apply IsS57.drewN | apply IsS57.drew | apply IsS57.set_0) | exact HI0.out), by repeat (first | (with_reducible first | exact HB.out | apply below_alloc | apply pw_below_drewN | apply below_drew1 | refine below_set ?_ (IsS57.ge HI0.out)) | exact HB.out), by repeat (first | (with_reducible first | exact HK.out | apply KeepBut.set_ | apply keep_drewN | apply keep_drew | apply keep_alloc) | exact HK.out)⟩
        · replace c9 := Bool.eq_false_iff.mpr c9
          subst c9
          have H1 : (if t111 = 0 then (some ((-1), s0_0)) else (some (1, s0_0))) = some (r1, r2) := by rw [if_neg (show ¬ (false = true) by decide)] at H; exact H
          clear H
          have H := H1
          clear H1
          by_cases c12 : t111 = 0
          · rw [if_pos c12] at H
            have c12b0 : (t111 == 0) = true := beq_iff_eq.mpr c12
            have c12b1 : (t111 != 0) = false := bne_eq_false_iff_eq.mpr c12
            clear c12
            simp only [Option.some.injEq, Prod.mk.injEq] at H
            obtain ⟨rfl, rfl⟩ := H
            have p110 : 0 ≤ (a2 : Int) := of_decide_eq_true (by first | (with_reducible assumption) | assumption)
            have q110 : a2 < (l1.length : Int) := of_decide_eq_true (by first | (with_reducible assumption) | assumption)
            obtain ⟨ad110, e110, hx110_0⟩ := Kd.at_int HR1.out a2 p110 q110
            cases e110
            replace hx110_0 := keep_cell HK.out hx110_0 (by first | (rw [add_block]; exact hf1 _ rfl (by omega)) | exact hf1 _ rfl (by omega) | exact hf1 ad110 rfl (by omega))
            replace p110 := eq_true p110
            replace q110 := eq_true q110
            go_enter Tryd.func38, Tryd.ntmps38
            go_wp2_with (first | ((with_reducible refine gate_callee (f := 52) rfl ?_); refine goesL_ (some 16) rfl rfl Tryd.func52 (by kernel_rfl) rfl #[.slice (some ad110) l1.length c1, .int .i64 a2] rfl (by (try simp only [List.map_toArray, List.map_cons, List.map_nil]); first | done | rfl | (simp only [List.length_drop, List.length_take]; rfl)) ?_; (with_reducible refine (escape_GetNextAsRune.calls k _ _ l1 a2 t111 _ ?side1 ?side2 A7.out).mono ?_); (case side1 => exact Kd.C_keep 0 HR1.out (by repeat (first | (with_reducible first | exact HK.out | apply KeepBut.set_ | apply keep_drewN | apply keep_drew | apply keep_alloc) | exact HK.out)) hf1); (case side2 => exact HC1.out); rintro e w13 ⟨rfl, hb⟩; refine ⟨_, rfl, ?_⟩; have n0_ := Aside0.mk (IsS57.below (by repeat (first | (with_reducible first | exact HI0.out | apply IsS57.alloc | apply IsS57.drewN | apply IsS57.drew | apply IsS57.set_0) | exact HI0.out)) hb); have n1_ := Aside0.mk (KeepBut.trans (by repeat (first | (with_reducible first | exact HK.out | apply KeepBut.set_ | apply keep_drewN | apply keep_drew | apply keep_alloc) | exact HK.out)) (KeepBut.of_below hb g none) (.inl rfl)); have n2_ := Aside0.mk (below_step (by repeat (first | (with_reducible first | exact HB.out | apply below_alloc | apply pw_below_drewN | apply below_drew1 | refine below_set ?_ (IsS57.ge HI0.out)) | exact HB.out)) hb); clear HI0; clear HK; clear HB; have HI0 := n0_; have HK := n1_; have HB := n2_; clear n0_ n1_ n2_; (try clear hb); (try clear hb2); (try clear hk); (try clear hi)) | ((with_reducible refine gate_callee (f := 32) rfl ?_); refine goesL_ (some 18) rfl rfl Tryd.func32 (by kernel_rfl) rfl #[.int .i32 t111] rfl (by (try simp only [List.map_toArray, List.map_cons, List.map_nil]); first | done | rfl | (simp only [List.length_drop, List.length_take]; rfl)) ?_; (with_reducible refine (unicode_IsSpace.calls k t111 false _ A8.out).mono ?_); rintro e w14 ⟨rfl, hb⟩; refine ⟨_, rfl, ?_⟩; have n0_ := Aside0.mk (IsS57.below (by repeat (first | (with_reducible first | exact HI0.out | apply IsS57.alloc | apply IsS57.drewN | apply IsS57.drew | apply IsS57.set_0) | exact HI0.out)) hb); have n1_ := Aside0.mk (KeepBut.trans (by repeat (first | (with_reducible first | exact HK.out | apply KeepBut.set_ | apply keep_drewN | apply keep_drew | apply keep_alloc) | exact HK.out)) (KeepBut.of_below hb g none) (.inl rfl)); have n2_ := Aside0.mk (below_step (by repeat (first | (with_reducible first | exact HB.out | apply below_alloc | apply pw_below_drewN | apply below_drew1 | refine below_set ?_ (IsS57.ge HI0.out)) | exact HB.out)) hb); clear HI0; clear HK; clear HB; have HI0 := n0_; have HK := n1_; have HB := n2_; clear n0_ n1_ n2_; (try clear hb); (try clear hb2); (try clear hk); (try clear hi)))
            go_ret
            exact ⟨by first | rfl | (simp [errW_none, errW_some] <;> rfl) | (simp [*, errW_none, errW_some] <;> rfl), by repeat (first | (with_reducible first | exact HI0.out | apply IsS57.alloc | apply IsS57.drewN | apply IsS57.drew | apply IsS57.set_0) | exact HI0.out), by repeat (first | (with_reducible first | exact HB.out | apply below_alloc | apply pw_below_drewN | apply below_drew1 | refine below_set ?_ (IsS57.ge HI0.out)) | exact HB.out), by repeat (first | (with_reducible first | exact HK.out | apply KeepBut.set_ | apply keep_drewN | apply keep_drew | apply keep_alloc) | exact HK.out)⟩
          · rw [if_neg c12] at H
            have c12b0 : (t111 == 0) = false := beq_eq_false_iff_ne.mpr c12
            have c12b1 : (t111 != 0) = true := bne_iff_ne.mpr c12
            simp only [Option.some.injEq, Prod.mk.injEq] at H
            obtain ⟨rfl, rfl⟩ := H
            have p110 : 0 ≤ (a2 : Int) := of_decide_eq_true (by first | (with_reducible assumption) | assumption)
            have q110 : a2 < (l1.length : Int) := of_decide_eq_true (by first | (with_reducible assumption) | assumption)
            obtain ⟨ad110, e110, hx110_0⟩ := Kd.at_int HR1.out a2 p110 q110
            cases e110
            replace hx110_0 := keep_cell HK.out hx110_0 (by first | (rw [add_block]; exact hf1 _ rfl (by omega)) | exact hf1 _ rfl (by omega) | exact hf1 ad110 rfl (by omega))
            replace p110 := eq_true p110
            replace q110 := eq_true q110
            go_enter Tryd.func38, Tryd.ntmps38
            go_wp2_with (first | ((with_reducible refine gate_callee (f := 52) rfl ?_); refine goesL_ (some 16) rfl rfl Tryd.func52 (by kernel_rfl) rfl #[.slice (some ad110) l1.length c1, .int .i64 a2] rfl (by (try simp only [List.map_toArray, List.map_cons, List.map_nil]); first | done | rfl | (simp only [List.length_drop, List.length_take]; rfl)) ?_; (with_reducible refine (escape_GetNextAsRune.calls k _ _ l1 a2 t111 _ ?side1 ?side2 A7.out).mono ?_); (case side1 => exact Kd.C_keep 0 HR1.out (by repeat (first | (with_reducible first | exact HK.out | apply KeepBut.set_ | apply keep_drewN | apply keep_drew | apply keep_alloc) | exact HK.out)) hf1); (case side2 => exact HC1.out); rintro e w15 ⟨rfl, hb⟩; refine ⟨_, rfl, ?_⟩; have n0_ := Aside0.mk (IsS57.below (by repeat (first | (with_reducible first | exact HI0.out | apply IsS57.alloc | apply IsS57.drewN | apply IsS57.drew | apply IsS57.set_0) | exact HI0.out)) hb); have n1_ := Aside0.mk (KeepBut.trans (by repeat (first | (with_reducible first | exact HK.out | apply KeepBut.set_ | apply keep_drewN | apply keep_drew | apply keep_alloc) | exact HK.out)) (KeepBut.of_below hb g none) (.inl rfl)); have n2_ := Aside0.mk (below_step (by repeat (first | (with_reducible first | exact HB.out | apply below_alloc | apply pw_below_drewN | apply below_drew1 | refine below_set ?_ (IsS57.ge HI0.out)) | exact HB.out)) hb); clear HI0; clear HK; clear HB; have HI0 := n0_; have HK := n1_; have HB := n2_; clear n0_ n1_ n2_; (try clear hb); (try clear hb2); (try clear hk); (try clear hi)) | ((with_reducible refine gate_callee (f := 32) rfl ?_); refine goesL_ (some 18) rfl rfl Tryd.func32 (by kernel_rfl) rfl #[.int .i32 t111] rfl (by (try simp only [List.map_toArray, List.map_cons, List.map_nil]); first | done | rfl | (simp only [List.length_drop, List.length_take]; rfl)) ?_; (with_reducible refine (unicode_IsSpace.calls k t111 false _ A8.out).mono ?_); rintro e w16 ⟨rfl, hb⟩; refine ⟨_, rfl, ?_⟩; have n0_ := Aside0.mk (IsS57.below (by repeat (first | (with_reducible first | exact HI0.out | apply IsS57.alloc | apply IsS57.drewN | apply IsS57.drew | apply IsS57.set_0) | exact HI0.out)) hb); have n1_ := Aside0.mk (KeepBut.trans (by repeat (first | (with_reducible first | exact HK.out | apply KeepBut.set_ | apply keep_drewN | apply keep_drew | apply keep_alloc) | exact HK.out)) (KeepBut.of_below hb g none) (.inl rfl)); have n2_ := Aside0.mk (below_step (by repeat (first | (with_reducible first | exact HB.out | apply below_alloc | apply pw_below_drewN | apply below_drew1 | refine below_set ?_ (IsS57.ge HI0.out)) | exact HB.out)) hb); clear HI0; clear HK; clear HB; have HI0 := n0_; have HK := n1_; have HB := n2_; clear n0_ n1_ n2_; (try clear hb); (try clear hb2); (try clear hk); (try clear hi)))
            go_ret
            exact ⟨by first | rfl | (simp [errW_none, errW_some] <;> rfl) | (simp [*, errW_none, errW_some] <;> rfl), by repeat (first | (with_reducible first | exact HI0.out | apply IsS57.alloc | apply IsS57.drewN | apply IsS57.drew | apply IsS57.set_0) | exact HI0.out), by repeat (first | (with_reducible first | exact HB.out | apply below_alloc | apply pw_below_drewN | apply below_drew1 | refine below_set ?_ (IsS57.ge HI0.out)) | exact HB.out), by repeat (first | (with_reducible first | exact HK.out | apply KeepBut.set_ | apply keep_drewN | apply keep_drew | apply keep_alloc) | exact HK.out)⟩
      · rw [if_neg c6] at H
        have c6b0 : ((rd l1 a2) == 126) = false := beq_eq_false_iff_ne.mpr c6
        have c6b1 : ((rd l1 a2) != 126) = true := bne_iff_ne.mpr c6
        simp only [Option.some.injEq, Prod.mk.injEq] at H
        obtain ⟨rfl, rfl⟩ := H
        have p110 : 0 ≤ (a2 : Int) := of_decide_eq_true (by first | (with_reducible assumption) | assumption)
        have q110 : a2 < (l1.length : Int) := of_decide_eq_true (by first | (with_reducible assumption) | assumption)
        obtain ⟨ad110, e110, hx110_0⟩ := Kd.at_int HR1.out a2 p110 q110
        cases e110
        replace hx110_0 := keep_cell HK.out hx110_0 (by first | (rw [add_block]; exact hf1 _ rfl (by omega)) | exact hf1 _ rfl (by omega) | exact hf1 ad110 rfl (by omega))
        replace p110 := eq_true p110
        replace q110 := eq_true q110
        go_enter Tryd.func38, Tryd.ntmps38
        go_wp2
        go_ret
        exact ⟨by first | rfl | (simp [errW_none, errW_some] <;> rfl) | (simp [*, errW_none, errW_some] <;> rfl), by repeat (first | (with_reducible first | exact HI0.out | apply IsS57.alloc | apply IsS57.drewN | apply IsS57.drew | apply IsS57.set_0) | exact HI0.out), by repeat (first | (with_reducible first | exact HB.out | apply below_alloc | apply pw_below_drewN | apply below_drew1 | refine below_set ?_ (IsS57.ge HI0.out)) | exact HB.out), by repeat (first | (with_reducible first | exact HK.out | apply KeepBut.set_ | apply keep_drewN | apply keep_drew | apply keep_alloc) | exact HK.out)⟩
    · rw [if_neg c5] at H
      exact absurd H (by simp)
  · rw [if_neg c4] at H
    exact absurd H (by simp)





end Go.Proofs.YtbhcoeabhdangaaDoor.PInl
