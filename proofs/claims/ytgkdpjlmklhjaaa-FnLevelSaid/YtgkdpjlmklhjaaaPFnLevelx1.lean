-- PRINTED BY print.sh 35421559b90ae4d0a3588c463048766b98c2df88dd9212a6774a882060cdf62d: not written by this session
import Derived.Test.YtgkdpjlmklhjaaaPFnLevelx0
namespace Go.Proofs.Ytgkdpjlmklhjaaa.PFnLevel
open Go.RowKit Go.Proofs.YtgkdpjlmklhjaaaW.PrintWords Go.Proofs.YtgkdpjlmklhjaaaW.PrintLast Go.Proofs.YtgkdpjlmklhjaaaW.PrintMore
attribute [local go_sem] max2_int min2_int max_two min_two max_three min_three max_four min_four   -- for this text's walks alone
set_option linter.unusedVariables false
set_option linter.unusedSimpArgs false

/-! ### commonmark_getHeadingLevel: function 26 -/
def commonmark_getHeadingLevel.f (a0 : ByteArray) : Option (Int) := if a0.toList = ([104, 49] : List UInt8) then (some 1) else (if a0.toList = ([104, 50] : List UInt8) then (some 2) else (if a0.toList = ([104, 51] : List UInt8) then (some 3) else (if a0.toList = ([104, 52] : List UInt8) then (some 4) else (if a0.toList = ([104, 53] : List UInt8) then (some 5) else (if a0.toList = ([104, 54] : List UInt8) then (some 6) else (some 6))))))
set_option maxHeartbeats 8000000 in
set_option maxRecDepth 100000 in
theorem commonmark_getHeadingLevel.calls (a0 : ByteArray) (r : Int) (w : World) (h : commonmark_getHeadingLevel.f a0 = some r) :
    Calls Try.prog 26 #[.string a0] w fun e w' => e = .returned (.int .i64 r) ∧ Drawn0 w w' := by
  have H : (if a0.toList = ([104, 49] : List UInt8) then (some 1) else (if a0.toList = ([104, 50] : List UInt8) then (some 2) else (if a0.toList = ([104, 51] : List UInt8) then (some 3) else (if a0.toList = ([104, 52] : List UInt8) then (some 4) else (if a0.toList = ([104, 53] : List UInt8) then (some 5) else (if a0.toList = ([104, 54] : List UInt8) then (some 6) else (some 6))))))) = some r := h
  clear h
  by_cases c2 : a0.toList = ([104, 49] : List UInt8)
  · rw [if_pos c2] at H
    have c2b0 : (a0.toList == ([104, 49] : List UInt8)) = true := beq_iff_eq.mpr c2
    have c2b1 : (a0.toList != ([104, 49] : List UInt8)) = false := bne_eq_false_iff_eq.mpr c2
    clear c2
    obtain rfl := Option.some.inj H
    go_enter Try.func26, Try.ntmps26
    go_wp2
    go_ret
    exact ⟨by first | rfl | (simp; done) | (simp [*]; done), by repeat (first | exact Drawn0.refl _ | apply Drawn0.step)⟩
  · rw [if_neg c2] at H
    have c2b0 : (a0.toList == ([104, 49] : List UInt8)) = false := beq_eq_false_iff_ne.mpr c2
    have c2b1 : (a0.toList != ([104, 49] : List UInt8)) = true := bne_iff_ne.mpr c2
    by_cases c3 : a0.toList = ([104, 50] : List UInt8)
    · rw [if_pos c3] at H
      have c3b0 : (a0.toList == ([104, 50] : List UInt8)) = true := beq_iff_eq.mpr c3
      have c3b1 : (a0.toList != ([104, 50] : List UInt8)) = false := bne_eq_false_iff_eq.mpr c3
      clear c3
      obtain rfl := Option.some.inj H
      go_enter Try.func26, Try.ntmps26
      go_wp2
      go_ret
      exact ⟨by first | rfl | (simp; done) | (simp [*]; done), by repeat (first | exact Drawn0.refl _ | apply Drawn0.step)⟩
    · rw [if_neg c3] at H
      have c3b0 : (a0.toList == ([104, 50] : List UInt8)) = false := beq_eq_false_iff_ne.mpr c3
      have c3b1 : (a0.toList != ([104, 50] : List UInt8)) = true := bne_iff_ne.mpr c3
      by_cases c4 : a0.toList = ([104, 51] : List UInt8)
      · rw [if_pos c4] at H
        have c4b0 : (a0.toList == ([104, 51] : List UInt8)) = true := beq_iff_eq.mpr c4
        have c4b1 : (a0.toList != ([104, 51] : List UInt8)) = false := bne_eq_false_iff_eq.mpr c4
        clear c4
        obtain rfl := Option.some.inj H
        go_enter Try.func26, Try.ntmps26
        go_wp2
        go_ret
        exact ⟨by first | rfl | (simp; done) | (simp [*]; done), by repeat (first | exact Drawn0.refl _ | apply Drawn0.step)⟩
      · rw [if_neg c4] at H
        have c4b0 : (a0.toList == ([104, 51] : List UInt8)) = false := beq_eq_false_iff_ne.mpr c4
        have c4b1 : (a0.toList != ([104, 51] : List UInt8)) = true := bne_iff_ne.mpr c4
        by_cases c5 : a0.toList = ([104, 52] : List UInt8)
        · rw [if_pos c5] at H
          have c5b0 : (a0.toList == ([104, 52] : List UInt8)) = true := beq_iff_eq.mpr c5
          have c5b1 : (a0.toList != ([104, 52] : List UInt8)) = false := bne_eq_false_iff_eq.mpr c5
          clear c5
          obtain rfl := Option.some.inj H
          go_enter Try.func26, Try.ntmps26
          go_wp2
          go_ret
          exact ⟨by first | rfl | (simp; done) | (simp [*]; done), by repeat (first | exact Drawn0.refl _ | apply Drawn0.step)⟩
        · rw [if_neg c5] at H
          have c5b0 : (a0.toList == ([104, 52] : List UInt8)) = false := beq_eq_false_iff_ne.mpr c5
          have c5b1 : (a0.toList != ([104, 52] : List UInt8)) = true := bne_iff_ne.mpr c5
          by_cases c6 : a0.toList = ([104, 53] : List UInt8)
          · rw [if_pos c6] at H
            have c6b0 : (a0.toList == ([104, 53] : List UInt8)) = true := beq_iff_eq.mpr c6
            have c6b1 : (a0.toList != ([104, 53] : List UInt8)) = false := bne_eq_false_iff_eq.mpr c6
            clear c6
            obtain rfl := Option.some.inj H
            go_enter Try.func26, Try.ntmps26
            go_wp2
            go_ret
            exact ⟨by first | rfl | (simp; done) | (simp [*]; done), by repeat (first | exact Drawn0.refl _ | apply Drawn0.step)⟩
          · rw [if_neg c6] at H
            have c6b0 : (a0.toList == ([104, 53] : List UInt8)) = false := beq_eq_false_iff_ne.mpr c6
            have c6b1 : (a0.toList != ([104, 53] : List UInt8)) = true := bne_iff_ne.mpr c6
            by_cases c7 : a0.toList = ([104, 54] : List UInt8)
            · rw [if_pos c7] at H
              have c7b0 : (a0.toList == ([104, 54] : List UInt8)) = true := beq_iff_eq.mpr c7
              have c7b1 : (a0.toList != ([104, 54] : List UInt8)) = false := bne_eq_false_iff_eq.mpr c7
              clear c7
              obtain rfl := Option.some.inj H
              go_enter Try.func26, Try.ntmps26
              go_wp2
              go_ret
              exact ⟨by first | rfl | (simp; done) | (simp [*]; done), by repeat (first | exact Drawn0.refl _ | apply Drawn0.step)⟩
            · rw [if_neg c7] at H
              have c7b0 : (a0.toList == ([104, 54] : List UInt8)) = false := beq_eq_false_iff_ne.mpr c7
              have c7b1 : (a0.toList != ([104, 54] : List UInt8)) = true := bne_iff_ne.mpr c7
              obtain rfl := Option.some.inj H
              go_enter Try.func26, Try.ntmps26
              go_wp2
              go_ret
              exact ⟨by first | rfl | (simp; done) | (simp [*]; done), by repeat (first | exact Drawn0.refl _ | apply Drawn0.step)⟩

/-! ### commonmark_ZzLevel: function 19 -/
def commonmark_ZzLevel.f (a0 : ByteArray) : Option (Int) := (commonmark_getHeadingLevel.f a0).bind fun t101 => (some t101)
set_option maxHeartbeats 8000000 in
set_option maxRecDepth 100000 in
theorem commonmark_ZzLevel.calls (a0 : ByteArray) (r : Int) (w : World) (h : commonmark_ZzLevel.f a0 = some r) :
    Calls Try.prog 19 #[.string a0] w fun e w' => e = .returned (.int .i64 r) ∧ Drawn0 w w' := by
  have H : ((commonmark_getHeadingLevel.f a0).bind fun t101 => (some t101)) = some r := h
  clear h
  replace H := Option.bind_eq_some_iff.mp H
  obtain ⟨t101, A20, H⟩ := H
  replace H : (some t101) = some r := H
  have A2 := Aside0.mk A20
  clear A20
  obtain rfl := Option.some.inj H
  go_enter Try.func19, Try.ntmps19
  go_wp2_with (first | ((with_reducible refine gate_callee (f := 26) rfl ?_); refine goesL_ (some 4) rfl rfl Try.func26 (by kernel_rfl) rfl #[.string a0] rfl (by (try simp only [List.map_toArray, List.map_cons, List.map_nil]); first | done | rfl | (simp only [List.length_drop, List.length_take]; rfl)) ?_; (with_reducible refine (commonmark_getHeadingLevel.calls a0 t101 _ A2.out).mono ?_); rintro e w' ⟨rfl, ⟨nd, rfl⟩⟩; refine ⟨_, rfl, ?_⟩))
  go_ret
  exact ⟨by first | rfl | (simp; done) | (simp [*]; done), by repeat (first | exact Drawn0.refl _ | apply Drawn0.step)⟩

/-! ### impl_Level: function 10 -/
def impl_Level.f (a0 : ByteArray) : Option (Int) := (commonmark_ZzLevel.f a0).bind fun t102 => (some t102)
set_option maxHeartbeats 8000000 in
set_option maxRecDepth 100000 in
theorem impl_Level.calls (a0 : ByteArray) (r : Int) (w : World) (h : impl_Level.f a0 = some r) :
    Calls Try.prog 10 #[.string a0] w fun e w' => e = .returned (.int .i64 r) ∧ Drawn0 w w' := by
  have H : ((commonmark_ZzLevel.f a0).bind fun t102 => (some t102)) = some r := h
  clear h
  replace H := Option.bind_eq_some_iff.mp H
  obtain ⟨t102, A20, H⟩ := H
  replace H : (some t102) = some r := H
  have A2 := Aside0.mk A20
  clear A20
  obtain rfl := Option.some.inj H
  go_enter Try.func10, Try.ntmps10
  go_wp2_with (first | ((with_reducible refine gate_callee (f := 19) rfl ?_); refine goesL_ (some 4) rfl rfl Try.func19 (by kernel_rfl) rfl #[.string a0] rfl (by (try simp only [List.map_toArray, List.map_cons, List.map_nil]); first | done | rfl | (simp only [List.length_drop, List.length_take]; rfl)) ?_; (with_reducible refine (commonmark_ZzLevel.calls a0 t102 _ A2.out).mono ?_); rintro e w' ⟨rfl, ⟨nd, rfl⟩⟩; refine ⟨_, rfl, ?_⟩))
  go_ret
  exact ⟨by first | rfl | (simp; done) | (simp [*]; done), by repeat (first | exact Drawn0.refl _ | apply Drawn0.step)⟩

/-! ### spec_Digits: function 11 -/
def spec_Digits.f : Nat → Int → Option (ByteArray)
  | 0, _ => none
  | k + 1, a0 => if a0 < 0 then ((spec_Digits.f k (wrap64 (-a0))).bind fun t103 => (if 1 + t103.size ≤ 9223372036854775807 then (some ((⟨#[45]⟩ : ByteArray) ++ t103)) else (none))) else (if a0 < 10 then (some (strOfNums (([(wrap64 (48 + a0)) % 256] : List Int)))) else ((spec_Digits.f k (wrap64 (Int.tdiv a0 10))).bind fun t107 => ((spec_Digits.f k (Int.tmod a0 10)).bind fun t108 => (if t107.size + t108.size ≤ 9223372036854775807 then (some (t107 ++ t108)) else (none)))))
theorem spec_Digits.mono_l : ∀ k, (∀ y0, LeO (spec_Digits.f k y0) (spec_Digits.f (k + 1) y0))
  | 0 => fun _ r h => by simp [spec_Digits.f] at h
  | k + 1 => by
    have ih0 := spec_Digits.mono_l k
    · intro y0
      unfold spec_Digits.f
      repeat' first
      | (with_reducible exact ih0 _)
      | (with_reducible exact LeO.refl _)
      | (with_reducible exact LeO.none _)
      | (with_reducible refine LeO.ite ?_ ?_)
      | (with_reducible refine LeO.bind ?_ (fun _ => ?_))
      | exact ih0 _
      | exact LeO.none _
      | refine LeO.ite ?_ ?_
      | refine LeO.bind ?_ (fun _ => ?_)
theorem spec_Digits.mono : ∀ a0 k, LeO (spec_Digits.f k a0) (spec_Digits.f (k + 1) a0) := by
  intro a0 k
  have ih0 := spec_Digits.mono_l k
  exact ih0 a0
set_option maxHeartbeats 8000000 in
set_option maxRecDepth 100000 in
theorem spec_Digits.calls (k : Nat) : ∀ (a0 : Int) (r : ByteArray) (w : World) (h : spec_Digits.f k a0 = some r),
    Calls Try.prog 11 #[.int .i64 a0] w fun e w' => e = .returned (.string r) ∧ Below w.heap.size w w' := by
  induction k using Nat.strongRecOn with
  | _ k ih =>
  intro a0 r w h
  cases k with
  | zero => exact absurd h (by simp [spec_Digits.f])
  | succ k =>
  simp only [spec_Digits.f] at h
  have HB := Aside0.mk (Below.refl w.heap.size w)
  have H : (if a0 < 0 then ((spec_Digits.f k (wrap64 (-a0))).bind fun t103 => (if 1 + t103.size ≤ 9223372036854775807 then (some ((⟨#[45]⟩ : ByteArray) ++ t103)) else (none))) else (if a0 < 10 then (some (strOfNums (([(wrap64 (48 + a0)) % 256] : List Int)))) else ((spec_Digits.f k (wrap64 (Int.tdiv a0 10))).bind fun t107 => ((spec_Digits.f k (Int.tmod a0 10)).bind fun t108 => (if t107.size + t108.size ≤ 9223372036854775807 then (some (t107 ++ t108)) else (none)))))) = some r := h
  clear h
  by_cases c2 : a0 < 0
  · rw [if_pos c2] at H
    have c2b0 : decide (a0 < 0) = true := decide_eq_true c2
    clear c2
    replace H := Option.bind_eq_some_iff.mp H
    obtain ⟨t103, A30, H⟩ := H
    replace H : (if 1 + t103.size ≤ 9223372036854775807 then (some ((⟨#[45]⟩ : ByteArray) ++ t103)) else (none)) = some r := H
    have A3 := Aside0.mk A30
    clear A30
    by_cases c4 : 1 + t103.size ≤ 9223372036854775807
    · rw [if_pos c4] at H
      have c4b0 := eq_true c4
      have c4b1 : decide (1 + t103.size ≤ 9223372036854775807) = true := decide_eq_true c4
      try have c4b2 : (9223372036854775807 < 1 + t103.size) = False := eq_false (Nat.not_lt.2 c4)
      obtain rfl := Option.some.inj H
      go_enter Try.func11, Try.ntmps11
      go_wp2_with (first | ((with_reducible refine gate_callee (f := 11) rfl ?_); refine goesL_ (some 7) rfl rfl Try.func11 (by kernel_rfl) rfl #[.int .i64 (wrap64 (-a0))] rfl (by (try simp only [List.map_toArray, List.map_cons, List.map_nil]); first | done | rfl | (simp only [List.length_drop, List.length_take]; rfl)) ?_; (with_reducible refine (ih k (by omega) (wrap64 (-a0)) t103 _ A3.out).mono ?_); rintro e w5 ⟨rfl, hb⟩; refine ⟨_, rfl, ?_⟩; have n0_ := Aside0.mk (below_step (by repeat (first | (with_reducible first | exact HB.out | apply below_alloc | apply pw_below_drewN | apply below_drew1) | exact HB.out)) hb); clear HB; have HB := n0_; clear n0_; (try clear hb); (try clear hb2); (try clear hk); (try clear hi)))
      go_ret
      exact ⟨by first | rfl | (simp [errW_none, errW_some] <;> rfl) | (simp [*, errW_none, errW_some] <;> rfl), by repeat (first | (with_reducible first | exact HB.out | apply below_alloc | apply pw_below_drewN | apply below_drew1) | exact HB.out)⟩
    · rw [if_neg c4] at H
      exact absurd H (by simp)
  · rw [if_neg c2] at H
    have c2b0 : decide (a0 < 0) = false := decide_eq_false c2
    clear c2
    by_cases c6 : a0 < 10
    · rw [if_pos c6] at H
      have c6b0 : decide (a0 < 10) = true := decide_eq_true c6
      clear c6
      obtain ⟨y104, hy104⟩ : ∃ y_ : List Int, y_ = (([(wrap64 (48 + a0)) % 256] : List Int)) := ⟨_, rfl⟩
      replace H : (some (strOfNums y104)) = some r := by first | (rw [hy104]; with_reducible exact H) | (have H2_ := (Option.bind_some _ _).symm.trans H; rw [hy104]; with_reducible exact H2_) | (have H2_ := (Option.bind_some _ _).symm.trans H; with_reducible exact H2_) | with_reducible exact H | (rw [hy104]; exact H) | exact H
      have Ny104 := Aside0.mk hy104
      clear hy104
      obtain rfl := Option.some.inj H
      go_enter Try.func11, Try.ntmps11
      go_wp2_with (first | ((with_reducible refine gate_dst (N := 14) rfl ?_); refine Kd.R_lit (Kd.int .u8) _ 5 ?hg (N := 14) ?hd (xs := ([(wrap64 (48 + a0)) % 256] : List Int)) (inner := [.int .u8 ((wrap64 (48 + a0)) % 256)]) (ok := fun _ => True) (okp := fun _ => True) ?hr ?hp (fun _ hk => hk) trivial (Below.refl _ _) (Nat.le_refl _) (by simp) ?_; (case hd => rfl); (case hg => rfl); (case hr => first | (go_simp; done) | (go_simp; rfl)); (case hp => exact (Reps.one (show Kd.M (Kd.int .u8) _ _ _ ((wrap64 (48 + a0)) % 256) [.int .u8 ((wrap64 (48 + a0)) % 256)] from rfl) (Reps.none _ _))); intro v105 w7 ho8 hb hg_ hnew_; clear hg_ hnew_; (first | rw [← Ny104.out] at ho8 | (simp only [Int.reduceToNat] at ho8; rw [← Ny104.out] at ho8)); have n0_ := Aside0.mk (Kd.R_lower ho8 (below_size (by repeat (first | (with_reducible first | exact HB.out | apply below_alloc | apply pw_below_drewN | apply below_drew1) | exact HB.out)))); have n1_ := Aside0.mk (below_step (by repeat (first | (with_reducible first | exact HB.out | apply below_alloc | apply pw_below_drewN | apply below_drew1) | exact HB.out)) hb); clear HB; have HO106 := n0_; have HB := n1_; clear n0_ n1_; clear hb ho8; have hcv9 := own_string (P := Try.prog) Try.underlying37 Try.underlying5 Try.underlying9 (Kd.own_of_R HO106.out)))
      go_ret
      exact ⟨by first | rfl | (simp [errW_none, errW_some] <;> rfl) | (simp [*, errW_none, errW_some] <;> rfl), by repeat (first | (with_reducible first | exact HB.out | apply below_alloc | apply pw_below_drewN | apply below_drew1) | exact HB.out)⟩
    · rw [if_neg c6] at H
      have c6b0 : decide (a0 < 10) = false := decide_eq_false c6
      clear c6
      replace H := Option.bind_eq_some_iff.mp H
      obtain ⟨t107, A100, H⟩ := H
      replace H : ((spec_Digits.f k (Int.tmod a0 10)).bind fun t108 => (if t107.size + t108.size ≤ 9223372036854775807 then (some (t107 ++ t108)) else (none))) = some r := H
      have A10 := Aside0.mk A100
      clear A100
      replace H := Option.bind_eq_some_iff.mp H
      obtain ⟨t108, A110, H⟩ := H
      replace H : (if t107.size + t108.size ≤ 9223372036854775807 then (some (t107 ++ t108)) else (none)) = some r := H
      have A11 := Aside0.mk A110
      clear A110
      by_cases c12 : t107.size + t108.size ≤ 9223372036854775807
      · rw [if_pos c12] at H
        have c12b0 := eq_true c12
        have c12b1 : decide (t107.size + t108.size ≤ 9223372036854775807) = true := decide_eq_true c12
        try have c12b2 : (9223372036854775807 < t107.size + t108.size) = False := eq_false (Nat.not_lt.2 c12)
        obtain rfl := Option.some.inj H
        go_enter Try.func11, Try.ntmps11
        go_wp2_with (first | ((with_reducible refine gate_callee (f := 11) rfl ?_); refine goesL_ (some 18) rfl rfl Try.func11 (by kernel_rfl) rfl #[.int .i64 (wrap64 (Int.tdiv a0 10))] rfl (by (try simp only [List.map_toArray, List.map_cons, List.map_nil]); first | done | rfl | (simp only [List.length_drop, List.length_take]; rfl)) ?_; (with_reducible refine (ih k (by omega) (wrap64 (Int.tdiv a0 10)) t107 _ A10.out).mono ?_); rintro e w13 ⟨rfl, hb⟩; refine ⟨_, rfl, ?_⟩; have n0_ := Aside0.mk (below_step (by repeat (first | (with_reducible first | exact HB.out | apply below_alloc | apply pw_below_drewN | apply below_drew1) | exact HB.out)) hb); clear HB; have HB := n0_; clear n0_; (try clear hb); (try clear hb2); (try clear hk); (try clear hi)) | ((with_reducible refine gate_callee (f := 11) rfl ?_); refine goesL_ (some 21) rfl rfl Try.func11 (by kernel_rfl) rfl #[.int .i64 (Int.tmod a0 10)] rfl (by (try simp only [List.map_toArray, List.map_cons, List.map_nil]); first | done | rfl | (simp only [List.length_drop, List.length_take]; rfl)) ?_; (with_reducible refine (ih k (by omega) (Int.tmod a0 10) t108 _ A11.out).mono ?_); rintro e w14 ⟨rfl, hb⟩; refine ⟨_, rfl, ?_⟩; have n0_ := Aside0.mk (below_step (by repeat (first | (with_reducible first | exact HB.out | apply below_alloc | apply pw_below_drewN | apply below_drew1) | exact HB.out)) hb); clear HB; have HB := n0_; clear n0_; (try clear hb); (try clear hb2); (try clear hk); (try clear hi)))
        go_ret
        exact ⟨by first | rfl | (simp [errW_none, errW_some] <;> rfl) | (simp [*, errW_none, errW_some] <;> rfl), by repeat (first | (with_reducible first | exact HB.out | apply below_alloc | apply pw_below_drewN | apply below_drew1) | exact HB.out)⟩
      · rw [if_neg c12] at H
        exact absurd H (by simp)

/-! ### laws_FnLevel: function 4 -/
def laws_FnLevel.f (k : Nat) (a0 : Int) : Option (Bool) := if a0 < 1 then (some true) else (if a0 > 6 then (some true) else ((spec_Digits.f k a0).bind fun t109 => (if 1 + t109.size ≤ 9223372036854775807 then ((impl_Level.f ((⟨#[104]⟩ : ByteArray) ++ t109)).bind fun t110 => (some (t110 == a0))) else (none))))
theorem laws_FnLevel.mono : ∀ a0 k, LeO (laws_FnLevel.f k a0) (laws_FnLevel.f (k + 1) a0) := by
  intro a0 k
  unfold laws_FnLevel.f
  repeat' first
      | (with_reducible exact spec_Digits.mono _ _)
      | (with_reducible exact LeO.refl _)
      | (with_reducible exact LeO.none _)
      | (with_reducible refine LeO.ite ?_ ?_)
      | (with_reducible refine LeO.bind ?_ (fun _ => ?_))
      | exact spec_Digits.mono _ _
      | exact LeO.none _
      | refine LeO.ite ?_ ?_
      | refine LeO.bind ?_ (fun _ => ?_)
set_option maxHeartbeats 8000000 in
set_option maxRecDepth 100000 in
theorem laws_FnLevel.calls (k : Nat) (a0 : Int) (r : Bool) (w : World) (h : laws_FnLevel.f k a0 = some r) :
    Calls Try.prog 4 #[.int .i64 a0] w fun e w' => e = .returned (.bool r) ∧ Below w.heap.size w w' := by
  have HB := Aside0.mk (Below.refl w.heap.size w)
  have H : (if a0 < 1 then (some true) else (if a0 > 6 then (some true) else ((spec_Digits.f k a0).bind fun t109 => (if 1 + t109.size ≤ 9223372036854775807 then ((impl_Level.f ((⟨#[104]⟩ : ByteArray) ++ t109)).bind fun t110 => (some (t110 == a0))) else (none))))) = some r := h
  clear h
  by_cases c2 : a0 < 1
  · rw [if_pos c2] at H
    have c2b0 : decide (a0 < 1) = true := decide_eq_true c2
    clear c2
    obtain rfl := Option.some.inj H
    go_enter Try.func4, Try.ntmps4
    go_wp2
    go_ret
    exact ⟨by first | rfl | (simp [errW_none, errW_some] <;> rfl) | (simp [*, errW_none, errW_some] <;> rfl), by repeat (first | (with_reducible first | exact HB.out | apply below_alloc | apply pw_below_drewN | apply below_drew1) | exact HB.out)⟩
  · rw [if_neg c2] at H
    have c2b0 : decide (a0 < 1) = false := decide_eq_false c2
    clear c2
    by_cases c3 : a0 > 6
    · rw [if_pos c3] at H
      have c3b0 : decide (6 < a0) = true := decide_eq_true c3
      clear c3
      obtain rfl := Option.some.inj H
      go_enter Try.func4, Try.ntmps4
      go_wp2
      go_ret
      exact ⟨by first | rfl | (simp [errW_none, errW_some] <;> rfl) | (simp [*, errW_none, errW_some] <;> rfl), by repeat (first | (with_reducible first | exact HB.out | apply below_alloc | apply pw_below_drewN | apply below_drew1) | exact HB.out)⟩
    · rw [if_neg c3] at H
      have c3b0 : decide (6 < a0) = false := decide_eq_false c3
      clear c3
      replace H := Option.bind_eq_some_iff.mp H
      obtain ⟨t109, A40, H⟩ := H
      replace H : (if 1 + t109.size ≤ 9223372036854775807 then ((impl_Level.f ((⟨#[104]⟩ : ByteArray) ++ t109)).bind fun t110 => (some (t110 == a0))) else (none)) = some r := H
      have A4 := Aside0.mk A40
      clear A40
      by_cases c5 : 1 + t109.size ≤ 9223372036854775807
      · rw [if_pos c5] at H
        have c5b0 := eq_true c5
        have c5b1 : decide (1 + t109.size ≤ 9223372036854775807) = true := decide_eq_true c5
        try have c5b2 : (9223372036854775807 < 1 + t109.size) = False := eq_false (Nat.not_lt.2 c5)
        replace H := Option.bind_eq_some_iff.mp H
        obtain ⟨t110, A60, H⟩ := H
        replace H : (some (t110 == a0)) = some r := H
        have A6 := Aside0.mk A60
        clear A60
        obtain rfl := Option.some.inj H
        go_enter Try.func4, Try.ntmps4
        go_wp2_with (first | (go_at_call 11; (with_reducible refine (spec_Digits.calls k a0 t109 _ A4.out).mono ?_); rintro e w7 ⟨rfl, hb⟩; have n0_ := Aside0.mk (below_step (by repeat (first | (with_reducible first | exact HB.out | apply below_alloc | apply pw_below_drewN | apply below_drew1) | exact HB.out)) hb); clear HB; have HB := n0_; clear n0_; (try clear hb); (try clear hb2); (try clear hk); (try clear hi)) | (go_at_call 10; (with_reducible refine (impl_Level.calls ((⟨#[104]⟩ : ByteArray) ++ t109) t110 _ A6.out).mono ?_); rintro e w' ⟨rfl, ⟨nd, rfl⟩⟩))
        go_ret
        exact ⟨by first | rfl | (simp [errW_none, errW_some] <;> rfl) | (simp [*, errW_none, errW_some] <;> rfl), by repeat (first | (with_reducible first | exact HB.out | apply below_alloc | apply pw_below_drewN | apply below_drew1) | exact HB.out)⟩
      · rw [if_neg c5] at H
        exact absurd H (by simp)

/-- THE ONE PURE STATEMENT of laws_FnLevel: yours. -/
def laws_FnLevel.Pure : Prop := ∀ (a0 : Int), (Lit.int .i64 a0).wf = true → ∃ k, laws_FnLevel.f k a0 = some true
theorem laws_FnLevel.walk (P : laws_FnLevel.Pure) (a0 : Int) (w : World) (w0 : (Lit.int .i64 a0).wf = true) :
    Calls Try.prog 4 #[.int .i64 a0] w fun e w' => e = .returned (.bool true) ∧ Below w.heap.size w w' := by
  obtain ⟨k, h⟩ := P a0 w0
  refine (laws_FnLevel.calls k a0 true w h).mono ?_
  rintro e w' ⟨rfl, hd⟩
  exact ⟨rfl, hd⟩

end Go.Proofs.Ytgkdpjlmklhjaaa.PFnLevel
