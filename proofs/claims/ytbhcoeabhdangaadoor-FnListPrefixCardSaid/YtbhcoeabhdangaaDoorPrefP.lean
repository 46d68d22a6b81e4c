/- Printed by the program extprint.py of this session, out of the kit's print and contracts of this session's own; Lean checks it. -/
import Derived.Test.YtbhcoeabhdangaaDoorEInlx0
import Derived.Test.YtbhcoeabhdangaaDoorStartP
namespace Go.Proofs.YtbhcoeabhdangaaDoor.PInl
open Go.RowKit Go.Proofs.YtbhcoeabhdangaaDoorW.PrintWords Go.Proofs.YtbhcoeabhdangaaDoorW.PrintLast Go.Proofs.YtbhcoeabhdangaaDoorW.PrintMore
attribute [local go_sem] max2_int min2_int max_two min_two max_three min_three max_four min_four   -- for this text's walks alone
set_option linter.unusedVariables false
set_option linter.unusedSimpArgs false







/-! ### spec_Digits: function 36 -/
def spec_Digits.f : Nat → Int → Option (ByteArray)
  | 0, _ => none
  | k + 1, a0 => if a0 < 0 then ((spec_Digits.f k (wrap64 (-a0))).bind fun t256 => (if 1 + t256.size ≤ 9223372036854775807 then (some ((⟨#[45]⟩ : ByteArray) ++ t256)) else (none))) else (if a0 < 10 then (some (strOfNums (([(wrap64 (48 + a0)) % 256] : List Int)))) else ((spec_Digits.f k (wrap64 (Int.tdiv a0 10))).bind fun t260 => ((spec_Digits.f k (Int.tmod a0 10)).bind fun t261 => (if t260.size + t261.size ≤ 9223372036854775807 then (some (t260 ++ t261)) else (none)))))
theorem spec_Digits.mono_l : ∀ k, (∀ y0, LeO (spec_Digits.f k y0) (spec_Digits.f (k + 1) y0))
  | 0 => fun _ r h => by simp [spec_Digits.f] at h
  | k + 1 => by
    have ih0 := spec_Digits.mono_l k
    · intro y0
      unfold spec_Digits.f
      repeat' first
      | (with_reducible exact ih0 _)
      | (with_reducible exact LeO.refl _)
      | (with_reducible exact LeO.none _)
      | (with_reducible refine LeO.ite ?_ ?_)
      | (with_reducible refine LeO.bind ?_ (fun _ => ?_))
      | exact ih0 _
      | exact LeO.none _
      | refine LeO.ite ?_ ?_
      | refine LeO.bind ?_ (fun _ => ?_)
theorem spec_Digits.mono : ∀ a0 k, LeO (spec_Digits.f k a0) (spec_Digits.f (k + 1) a0) := by
  intro a0 k
  have ih0 := spec_Digits.mono_l k
  exact ih0 a0
set_option maxHeartbeats 8000000 in
set_option maxRecDepth 100000 in
theorem spec_Digits.calls (k : Nat) : ∀ (a0 : Int) (r : ByteArray) (w : World) (h : spec_Digits.f k a0 = some r),
    Calls Tryd.prog 36 #[.int .i64 a0] w fun e w' => e = .returned (.string r) ∧ Below w.heap.size w w' := by
  induction k using Nat.strongRecOn with
  | _ k ih =>
  intro a0 r w h
  cases k with
  | zero => exact absurd h (by simp [spec_Digits.f])
  | succ k =>
  simp only [spec_Digits.f] at h
  have HB := Aside0.mk (Below.refl w.heap.size w)
  have H : (if a0 < 0 then ((spec_Digits.f k (wrap64 (-a0))).bind fun t256 => (if 1 + t256.size ≤ 9223372036854775807 then (some ((⟨#[45]⟩ : ByteArray) ++ t256)) else (none))) else (if a0 < 10 then (some (strOfNums (([(wrap64 (48 + a0)) % 256] : List Int)))) else ((spec_Digits.f k (wrap64 (Int.tdiv a0 10))).bind fun t260 => ((spec_Digits.f k (Int.tmod a0 10)).bind fun t261 => (if t260.size + t261.size ≤ 9223372036854775807 then (some (t260 ++ t261)) else (none)))))) = some r := h
  clear h
  by_cases c2 : a0 < 0
  · rw [if_pos c2] at H
    have c2b0 : decide (a0 < 0) = true := decide_eq_true c2
    clear c2
    replace H := Option.bind_eq_some_iff.mp H
    obtain ⟨t256, A30, H⟩ := H
    replace H : (if 1 + t256.size ≤ 9223372036854775807 then (some ((⟨#[45]⟩ : ByteArray) ++ t256)) else (none)) = some r := H
    have A3 := Aside0.mk A30
    clear A30
    by_cases c4 : 1 + t256.size ≤ 9223372036854775807
    · rw [if_pos c4] at H
      have c4b0 := eq_true c4
      have c4b1 : decide (1 + t256.size ≤ 9223372036854775807) = true := decide_eq_true c4
      try have c4b2 : (9223372036854775807 < 1 + t256.size) = False := eq_false (Nat.not_lt.2 c4)
      obtain rfl := Option.some.inj H
      go_enter Tryd.func36, Tryd.ntmps36
      go_wp2_with (first | ((with_reducible refine gate_callee (f := 36) rfl ?_); refine goesL_ (some 7) rfl rfl Tryd.func36 (by kernel_rfl) rfl #[.int .i64 (wrap64 (-a0))] rfl (by (try simp only [List.map_toArray, List.map_cons, List.map_nil]); first | done | rfl | (simp only [List.length_drop, List.length_take]; rfl)) ?_; (with_reducible refine (ih k (by omega) (wrap64 (-a0)) t256 _ A3.out).mono ?_); rintro e w5 ⟨rfl, hb⟩; refine ⟨_, rfl, ?_⟩; have n0_ := Aside0.mk (below_step (by repeat (first | (with_reducible first | exact HB.out | apply below_alloc | apply pw_below_drewN | apply below_drew1) | exact HB.out)) hb); clear HB; have HB := n0_; clear n0_; (try clear hb); (try clear hb2); (try clear hk); (try clear hi)))
      go_ret
      exact ⟨by first | rfl | (simp [errW_none, errW_some] <;> rfl) | (simp [*, errW_none, errW_some] <;> rfl), by repeat (first | (with_reducible first | exact HB.out | apply below_alloc | apply pw_below_drewN | apply below_drew1) | exact HB.out)⟩
    · rw [if_neg c4] at H
      exact absurd H (by simp)
  · rw [if_neg c2] at H
    have c2b0 : decide (a0 < 0) = false := decide_eq_false c2
    clear c2
    by_cases c6 : a0 < 10
    · rw [if_pos c6] at H
      have c6b0 : decide (a0 < 10) = true := decide_eq_true c6
      clear c6
      obtain ⟨y257, hy257⟩ : ∃ y_ : List Int, y_ = (([(wrap64 (48 + a0)) % 256] : List Int)) := ⟨_, rfl⟩
      replace H : (some (strOfNums y257)) = some r := by first | (rw [hy257]; with_reducible exact H) | (have H2_ := (Option.bind_some _ _).symm.trans H; rw [hy257]; with_reducible exact H2_) | (have H2_ := (Option.bind_some _ _).symm.trans H; with_reducible exact H2_) | with_reducible exact H | (rw [hy257]; exact H) | exact H
      have Ny257 := Aside0.mk hy257
      clear hy257
      obtain rfl := Option.some.inj H
      go_enter Tryd.func36, Tryd.ntmps36
      go_wp2_with (first | ((with_reducible refine gate_dst (N := 14) rfl ?_); refine Kd.R_lit (Kd.int .u8) _ 5 ?hg (N := 14) ?hd (xs := ([(wrap64 (48 + a0)) % 256] : List Int)) (inner := [.int .u8 ((wrap64 (48 + a0)) % 256)]) (ok := fun _ => True) (okp := fun _ => True) ?hr ?hp (fun _ hk => hk) trivial (Below.refl _ _) (Nat.le_refl _) (by simp) ?_; (case hd => rfl); (case hg => rfl); (case hr => first | (go_simp; done) | (go_simp; rfl)); (case hp => exact (Reps.one (show Kd.M (Kd.int .u8) _ _ _ ((wrap64 (48 + a0)) % 256) [.int .u8 ((wrap64 (48 + a0)) % 256)] from rfl) (Reps.none _ _))); intro v258 w7 ho8 hb hg_ hnew_; clear hg_ hnew_; (first | rw [← Ny257.out] at ho8 | (simp only [Int.reduceToNat] at ho8; rw [← Ny257.out] at ho8)); have n0_ := Aside0.mk (Kd.R_lower ho8 (below_size (by repeat (first | (with_reducible first | exact HB.out | apply below_alloc | apply pw_below_drewN | apply below_drew1) | exact HB.out)))); have n1_ := Aside0.mk (below_step (by repeat (first | (with_reducible first | exact HB.out | apply below_alloc | apply pw_below_drewN | apply below_drew1) | exact HB.out)) hb); clear HB; have HO259 := n0_; have HB := n1_; clear n0_ n1_; clear hb ho8; have hcv9 := own_string (P := Tryd.prog) Tryd.underlying40 Tryd.underlying5 Tryd.underlying9 (Kd.own_of_R HO259.out)))
      go_ret
      exact ⟨by first | rfl | (simp [errW_none, errW_some] <;> rfl) | (simp [*, errW_none, errW_some] <;> rfl), by repeat (first | (with_reducible first | exact HB.out | apply below_alloc | apply pw_below_drewN | apply below_drew1) | exact HB.out)⟩
    · rw [if_neg c6] at H
      have c6b0 : decide (a0 < 10) = false := decide_eq_false c6
      clear c6
      replace H := Option.bind_eq_some_iff.mp H
      obtain ⟨t260, A100, H⟩ := H
      replace H : ((spec_Digits.f k (Int.tmod a0 10)).bind fun t261 => (if t260.size + t261.size ≤ 9223372036854775807 then (some (t260 ++ t261)) else (none))) = some r := H
      have A10 := Aside0.mk A100
      clear A100
      replace H := Option.bind_eq_some_iff.mp H
      obtain ⟨t261, A110, H⟩ := H
      replace H : (if t260.size + t261.size ≤ 9223372036854775807 then (some (t260 ++ t261)) else (none)) = some r := H
      have A11 := Aside0.mk A110
      clear A110
      by_cases c12 : t260.size + t261.size ≤ 9223372036854775807
      · rw [if_pos c12] at H
        have c12b0 := eq_true c12
        have c12b1 : decide (t260.size + t261.size ≤ 9223372036854775807) = true := decide_eq_true c12
        try have c12b2 : (9223372036854775807 < t260.size + t261.size) = False := eq_false (Nat.not_lt.2 c12)
        obtain rfl := Option.some.inj H
        go_enter Tryd.func36, Tryd.ntmps36
        go_wp2_with (first | ((with_reducible refine gate_callee (f := 36) rfl ?_); refine goesL_ (some 18) rfl rfl Tryd.func36 (by kernel_rfl) rfl #[.int .i64 (wrap64 (Int.tdiv a0 10))] rfl (by (try simp only [List.map_toArray, List.map_cons, List.map_nil]); first | done | rfl | (simp only [List.length_drop, List.length_take]; rfl)) ?_; (with_reducible refine (ih k (by omega) (wrap64 (Int.tdiv a0 10)) t260 _ A10.out).mono ?_); rintro e w13 ⟨rfl, hb⟩; refine ⟨_, rfl, ?_⟩; have n0_ := Aside0.mk (below_step (by repeat (first | (with_reducible first | exact HB.out | apply below_alloc | apply pw_below_drewN | apply below_drew1) | exact HB.out)) hb); clear HB; have HB := n0_; clear n0_; (try clear hb); (try clear hb2); (try clear hk); (try clear hi)) | ((with_reducible refine gate_callee (f := 36) rfl ?_); refine goesL_ (some 21) rfl rfl Tryd.func36 (by kernel_rfl) rfl #[.int .i64 (Int.tmod a0 10)] rfl (by (try simp only [List.map_toArray, List.map_cons, List.map_nil]); first | done | rfl | (simp only [List.length_drop, List.length_take]; rfl)) ?_; (with_reducible refine (ih k (by omega) (Int.tmod a0 10) t261 _ A11.out).mono ?_); rintro e w14 ⟨rfl, hb⟩; refine ⟨_, rfl, ?_⟩; have n0_ := Aside0.mk (below_step (by repeat (first | (with_reducible first | exact HB.out | apply below_alloc | apply pw_below_drewN | apply below_drew1) | exact HB.out)) hb); clear HB; have HB := n0_; clear n0_; (try clear hb); (try clear hb2); (try clear hk); (try clear hi)))
        go_ret
        exact ⟨by first | rfl | (simp [errW_none, errW_some] <;> rfl) | (simp [*, errW_none, errW_some] <;> rfl), by repeat (first | (with_reducible first | exact HB.out | apply below_alloc | apply pw_below_drewN | apply below_drew1) | exact HB.out)⟩
      · rw [if_neg c12] at H
        exact absurd H (by simp)

/-! ### spec_Prefix: function 23 -/
def spec_Prefix.l0 : Nat → ByteArray → ByteArray → Option (ByteArray)
  | 0, _, _ => none
  | k + 1, x12, x13 => if (x12.size : Int) < (x13.size : Int) then (if 1 + x12.size ≤ 9223372036854775807 then (spec_Prefix.l0 k ((⟨#[48]⟩ : ByteArray) ++ x12) x13) else (none)) else (if x12.size + 2 ≤ 9223372036854775807 then (some (x12 ++ (⟨#[46, 32]⟩ : ByteArray))) else (none))
def spec_Prefix.f (k : Nat) (a0 : Bool) (a1 : ByteArray) (a2 : ByteArray) (a3 : Int) (a4 : Int) : Option (ByteArray) := if a0 = true then ((spec_Start.f k a1).bind fun t262 => ((spec_Digits.f k (wrap64 (t262 + a4))).bind fun t263 => ((spec_Digits.f k (wrap64 ((wrap64 (t262 + a3)) - 1))).bind fun t264 => (spec_Prefix.l0 k t263 t264)))) else (if a2.size + 1 ≤ 9223372036854775807 then (some (a2 ++ (⟨#[32]⟩ : ByteArray))) else (none))
theorem spec_Prefix.mono_l : ∀ k, (∀ y0 y1, LeO (spec_Prefix.l0 k y0 y1) (spec_Prefix.l0 (k + 1) y0 y1))
  | 0 => fun _ _ r h => by simp [spec_Prefix.l0] at h
  | k + 1 => by
    have ih0 := spec_Prefix.mono_l k
    · intro y0 y1
      unfold spec_Prefix.l0
      repeat' first
      | (with_reducible exact ih0 _ _)
      | (with_reducible exact spec_Digits.mono _ _)
      | (with_reducible exact spec_Start.mono _ _)
      | (with_reducible exact LeO.refl _)
      | (with_reducible exact LeO.none _)
      | (with_reducible refine LeO.ite ?_ ?_)
      | (with_reducible refine LeO.bind ?_ (fun _ => ?_))
      | exact ih0 _ _
      | exact spec_Digits.mono _ _
      | exact spec_Start.mono _ _
      | exact LeO.none _
      | refine LeO.ite ?_ ?_
      | refine LeO.bind ?_ (fun _ => ?_)
theorem spec_Prefix.mono : ∀ a0 a1 a2 a3 a4 k, LeO (spec_Prefix.f k a0 a1 a2 a3 a4) (spec_Prefix.f (k + 1) a0 a1 a2 a3 a4) := by
  intro a0 a1 a2 a3 a4 k
  have ih0 := spec_Prefix.mono_l k
  unfold spec_Prefix.f
  repeat' first
      | (with_reducible exact ih0 _ _)
      | (with_reducible exact spec_Digits.mono _ _)
      | (with_reducible exact spec_Start.mono _ _)
      | (with_reducible exact LeO.refl _)
      | (with_reducible exact LeO.none _)
      | (with_reducible refine LeO.ite ?_ ?_)
      | (with_reducible refine LeO.bind ?_ (fun _ => ?_))
      | exact ih0 _ _
      | exact spec_Digits.mono _ _
      | exact spec_Start.mono _ _
      | exact LeO.none _
      | refine LeO.ite ?_ ?_
      | refine LeO.bind ?_ (fun _ => ?_)
set_option maxHeartbeats 8000000 in
set_option maxRecDepth 100000 in
theorem spec_Prefix.calls (k : Nat) (a0 : Bool) (a1 : ByteArray) (a2 : ByteArray) (a3 : Int) (a4 : Int) (r : ByteArray) (w : World) (h : spec_Prefix.f k a0 a1 a2 a3 a4 = some r) :
    Calls Tryd.prog 23 #[.bool a0, .string a1, .string a2, .int .i64 a3, .int .i64 a4] w fun e w' => e = .returned (.string r) ∧ Below w.heap.size w w' := by
  have HB := Aside0.mk (Below.refl w.heap.size w)
  have H : (if a0 = true then ((spec_Start.f k a1).bind fun t262 => ((spec_Digits.f k (wrap64 (t262 + a4))).bind fun t263 => ((spec_Digits.f k (wrap64 ((wrap64 (t262 + a3)) - 1))).bind fun t264 => (spec_Prefix.l0 k t263 t264)))) else (if a2.size + 1 ≤ 9223372036854775807 then (some (a2 ++ (⟨#[32]⟩ : ByteArray))) else (none))) = some r := h
  clear h
  by_cases c6 : a0 = true
  · subst c6
    have H1 : ((spec_Start.f k a1).bind fun t262 => ((spec_Digits.f k (wrap64 (t262 + a4))).bind fun t263 => ((spec_Digits.f k (wrap64 ((wrap64 (t262 + a3)) - 1))).bind fun t264 => (spec_Prefix.l0 k t263 t264)))) = some r := by rw [if_pos rfl] at H; exact H
    clear H
    have H := H1
    clear H1
    replace H := Option.bind_eq_some_iff.mp H
    obtain ⟨t262, A70, H⟩ := H
    replace H : ((spec_Digits.f k (wrap64 (t262 + a4))).bind fun t263 => ((spec_Digits.f k (wrap64 ((wrap64 (t262 + a3)) - 1))).bind fun t264 => (spec_Prefix.l0 k t263 t264))) = some r := H
    have A7 := Aside0.mk A70
    clear A70
    replace H := Option.bind_eq_some_iff.mp H
    obtain ⟨t263, A80, H⟩ := H
    replace H : ((spec_Digits.f k (wrap64 ((wrap64 (t262 + a3)) - 1))).bind fun t264 => (spec_Prefix.l0 k t263 t264)) = some r := H
    have A8 := Aside0.mk A80
    clear A80
    replace H := Option.bind_eq_some_iff.mp H
    obtain ⟨t264, A90, H⟩ := H
    replace H : (spec_Prefix.l0 k t263 t264) = some r := H
    have A9 := Aside0.mk A90
    clear A90
    have H' := Aside0.mk H
    clear H
    go_enter Tryd.func23, Tryd.ntmps23
    go_wp2_with (first | ((with_reducible refine gate_callee (f := 21) rfl ?_); refine goesL_ (some 19) rfl rfl Tryd.func21 (by kernel_rfl) rfl #[.string a1] rfl (by (try simp only [List.map_toArray, List.map_cons, List.map_nil]); first | done | rfl | (simp only [List.length_drop, List.length_take]; rfl)) ?_; (with_reducible refine (spec_Start.calls k a1 t262 _ A7.out).mono ?_); rintro e w' ⟨rfl, ⟨nd, rfl⟩⟩; refine ⟨_, rfl, ?_⟩) | ((with_reducible refine gate_callee (f := 36) rfl ?_); refine goesL_ (some 23) rfl rfl Tryd.func36 (by kernel_rfl) rfl #[.int .i64 (wrap64 (t262 + a4))] rfl (by (try simp only [List.map_toArray, List.map_cons, List.map_nil]); first | done | rfl | (simp only [List.length_drop, List.length_take]; rfl)) ?_; (with_reducible refine (spec_Digits.calls k (wrap64 (t262 + a4)) t263 _ A8.out).mono ?_); rintro e w10 ⟨rfl, hb⟩; refine ⟨_, rfl, ?_⟩; have n0_ := Aside0.mk (below_step (by repeat (first | (with_reducible first | exact HB.out | apply below_alloc | apply pw_below_drewN | apply below_drew1) | exact HB.out)) hb); clear HB; have HB := n0_; clear n0_; (try clear hb); (try clear hb2); (try clear hk); (try clear hi)) | ((with_reducible refine gate_callee (f := 36) rfl ?_); refine goesL_ (some 28) rfl rfl Tryd.func36 (by kernel_rfl) rfl #[.int .i64 (wrap64 ((wrap64 (t262 + a3)) - 1))] rfl (by (try simp only [List.map_toArray, List.map_cons, List.map_nil]); first | done | rfl | (simp only [List.length_drop, List.length_take]; rfl)) ?_; (with_reducible refine (spec_Digits.calls k (wrap64 ((wrap64 (t262 + a3)) - 1)) t264 _ A9.out).mono ?_); rintro e w11 ⟨rfl, hb⟩; refine ⟨_, rfl, ?_⟩; have n0_ := Aside0.mk (below_step (by repeat (first | (with_reducible first | exact HB.out | apply below_alloc | apply pw_below_drewN | apply below_drew1) | exact HB.out)) hb); clear HB; have HB := n0_; clear n0_; (try clear hb); (try clear hb2); (try clear hk); (try clear hi)))
    go_loopg [12] k (fun kq v12 w' => ∃ (x12_1 : ByteArray), v12 = .string x12_1 ∧ Aside0 (spec_Prefix.l0 kq x12_1 t264 = some r) ∧ Aside0 (kq ≤ k) ∧ Aside0 (Below w.heap.size w w'))
    case atStart => exact ⟨(t263), (by first | rfl | (simp; done) | (simp [*]; done)), H', ⟨Nat.le_refl _⟩, ⟨by repeat (first | (with_reducible first | exact HB.out | apply below_alloc | apply pw_below_drewN | apply below_drew1) | exact HB.out)⟩⟩
    case round =>
      clear H'
      try clear c2
      try clear p2
      try clear c3
      try clear c6
      try clear p6
      obtain ⟨x12_1, rfl, HA, HK1, HB⟩ := hrel
      cases gk with
      | zero => exact absurd HA.out (by simp [spec_Prefix.l0])
      | succ k1 =>
        have H := HA.out
        clear HA
        simp only [spec_Prefix.l0] at H
        by_cases c12 : (x12_1.size : Int) < (t264.size : Int)
        · rw [if_pos c12] at H
          have c12b0 : decide ((x12_1.size : Int) < (t264.size : Int)) = true := decide_eq_true c12
          have c12b1 : decide (x12_1.size < t264.size) = true := decide_eq_true (Int.ofNat_lt.mp c12)
          clear c12
          by_cases c13 : 1 + x12_1.size ≤ 9223372036854775807
          · rw [if_pos c13] at H
            have c13b0 := eq_true c13
            have c13b1 : decide (1 + x12_1.size ≤ 9223372036854775807) = true := decide_eq_true c13
            try have c13b2 : (9223372036854775807 < 1 + x12_1.size) = False := eq_false (Nat.not_lt.2 c13)
            have H' := Aside0.mk H
            clear H
            go_wp2
            go_roundg k1
            case measure => have := HK1.out; omega
            case rel => exact ⟨((⟨#[48]⟩ : ByteArray) ++ x12_1), (by first | rfl | (simp; done) | (simp [*]; done)), H', ⟨by have := HK1.out; omega⟩, ⟨by repeat (first | (with_reducible first | exact HB.out | apply below_alloc | apply pw_below_drewN | apply below_drew1) | exact HB.out)⟩⟩
          · rw [if_neg c13] at H
            exact absurd H (by simp)
        · rw [if_neg c12] at H
          have c12b0 : decide ((x12_1.size : Int) < (t264.size : Int)) = false := decide_eq_false c12
          have c12b1 : decide (x12_1.size < t264.size) = false := decide_eq_false (fun h => c12 (Int.ofNat_lt.mpr h))
          clear c12
          by_cases c14 : x12_1.size + 2 ≤ 9223372036854775807
          · rw [if_pos c14] at H
            have c14b0 := eq_true c14
            have c14b1 : decide (x12_1.size + 2 ≤ 9223372036854775807) = true := decide_eq_true c14
            try have c14b2 : (9223372036854775807 < x12_1.size + 2) = False := eq_false (Nat.not_lt.2 c14)
            obtain rfl := Option.some.inj H
            go_wp2
            go_ret
            exact ⟨by first | rfl | (simp [errW_none, errW_some] <;> rfl) | (simp [*, errW_none, errW_some] <;> rfl), by repeat (first | (with_reducible first | exact HB.out | apply below_alloc | apply pw_below_drewN | apply below_drew1) | exact HB.out)⟩
          · rw [if_neg c14] at H
            exact absurd H (by simp)
  · replace c6 := Bool.eq_false_iff.mpr c6
    subst c6
    have H1 : (if a2.size + 1 ≤ 9223372036854775807 then (some (a2 ++ (⟨#[32]⟩ : ByteArray))) else (none)) = some r := by rw [if_neg (show ¬ (false = true) by decide)] at H; exact H
    clear H
    have H := H1
    clear H1
    by_cases c15 : a2.size + 1 ≤ 9223372036854775807
    · rw [if_pos c15] at H
      have c15b0 := eq_true c15
      have c15b1 : decide (a2.size + 1 ≤ 9223372036854775807) = true := decide_eq_true c15
      try have c15b2 : (9223372036854775807 < a2.size + 1) = False := eq_false (Nat.not_lt.2 c15)
      obtain rfl := Option.some.inj H
      go_enter Tryd.func23, Tryd.ntmps23
      go_wp2
      go_ret
      exact ⟨by first | rfl | (simp [errW_none, errW_some] <;> rfl) | (simp [*, errW_none, errW_some] <;> rfl), by repeat (first | (with_reducible first | exact HB.out | apply below_alloc | apply pw_below_drewN | apply below_drew1) | exact HB.out)⟩
    · rw [if_neg c15] at H
      exact absurd H (by simp)


end Go.Proofs.YtbhcoeabhdangaaDoor.PInl
