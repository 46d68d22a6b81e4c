/- bytes.TrimLeftFunc(s, unicode.IsSpace), bytes.HasSuffix, at rows of ASCII that are read. -/
import Derived.Test.YtbhcoeabhdangaaDoorSpaceX
import Derived.Test.YtbhcoeabhdangaaDoorTxt
import Derived.Deep.DeepMust
import Derived.Tactics2
namespace Go.Proofs.YtbhcoeabhdangaaDoor.PInl
open Go.Proofs.YtbhcoeabhdangaaDoor.Txt Go.RowKit Go.Proofs.YtbhcoeabhdangaaDoorW.PrintWords Go.Proofs.YtbhcoeabhdangaaDoorW.PrintLast Go.Proofs.YtbhcoeabhdangaaDoorW.PrintMore
set_option linter.unusedVariables false
set_option linter.unusedSimpArgs false

/-- ASCII. -/
def A7 (l : List Int) : Prop := ∀ x ∈ l, 0 ≤ x ∧ x < 128
theorem A7.drop {l : List Int} (h : A7 l) (n : Nat) : A7 (l.drop n) := fun x hx => h x (List.mem_of_mem_drop hx)
theorem A7.take {l : List Int} (h : A7 l) (n : Nat) : A7 (l.take n) := fun x hx => h x (List.mem_of_mem_take hx)
/-- A text from its first sign on that is no white space. -/
def tl (m : List Int) : List Int := m.dropWhile spc
/-- Where that lies: -1: there is none. -/
def idxS : List Int → Nat → Int
  | [], _ => -1
  | x :: m, j => if spc x = true then idxS m (j + 1) else (j : Int)
theorem idxS_drop (m : List Int) : ∀ j : Nat, (idxS m j = -1 ∧ tl m = []) ∨ ∃ k, k < m.length ∧ idxS m j = ((j + k : Nat) : Int) ∧ tl m = m.drop k := by
  induction m with
  | nil => intro j; exact .inl ⟨rfl, rfl⟩
  | cons x m ih =>
    intro j
    by_cases h : spc x = true
    · rcases ih (j + 1) with ⟨h1, h2⟩ | ⟨k, hk, h1, h2⟩
      · exact .inl ⟨by rw [idxS, if_pos h]; exact h1, by unfold tl at *; rw [List.dropWhile_cons, if_pos h]; exact h2⟩
      · refine .inr ⟨k + 1, by simp; exact hk, ?_, ?_⟩
        · rw [idxS, if_pos h, h1]
          congr 1
          omega
        · unfold tl at *
          rw [List.dropWhile_cons, if_pos h, h2]
          rfl
    · refine .inr ⟨0, by simp, ?_, ?_⟩
      · rw [idxS, if_neg h]; rfl
      · unfold tl
        rw [List.dropWhile_cons, if_neg h]
        rfl
set_option maxRecDepth 100000 in
theorem index_calls (A : Option Addr) (c : Nat) (m : List Int) (hc : m.length ≤ c) (hn : m.length ≤ 2147483647) (ha : A7 m) (w : World) (hr : ReadsInt w .u8 A m.length m) :
    Calls Tryd.prog 60 #[.slice A m.length c, .func (.func 32) #[] #[], .bool false] w fun e w' => e = .returned (.int .i64 (idxS m 0)) ∧ w' = w := by
  have HR := Aside0.mk hr
  have HA := Aside0.mk ha
  have hen : ∀ (args : Array Value) (w : World), (callFunc 32 args).run Tryd.prog w = .ok (.enter 32 args) w := fun _ _ => by kernel_rfl
  obtain ⟨i0, hi0, _, hsz0, _⟩ := info_parts (show (Tryd.prog.info? 5).map (fun i => (i.zero, i.size, i.bytes)) = some (some (.int .u8 0), 1, 1) by kernel_rfl)
  have HI := Aside0.mk hi0
  have HSZ := Aside0.mk hsz0
  clear hr ha hi0 hsz0
  go_enter Tryd.func60, Tryd.ntmps60
  go_wp2
  go_loopg [7] m.length (fun n vi wr => ∃ j : Nat, n = m.length - j ∧ j ≤ m.length ∧ vi = .int .i64 j ∧ wr = w ∧ Aside0 (idxS m 0 = idxS (m.drop j) j))
  case atStart => exact ⟨0, rfl, Nat.zero_le _, rfl, rfl, ⟨by rw [List.drop_zero]⟩⟩
  case round =>
    obtain ⟨j, rfl, hj, rfl, rfl, HX⟩ := hrel
    by_cases hlt : j < m.length
    · obtain ⟨A', hcut, hA', hC'⟩ := print_drop_of (P := Tryd.prog) (Value.int .u8) (0 : Int) 40 5 .i64 Tryd.underlying40 HI.out HSZ.out A c m (j : Int) (by omega) (by omega) hc
      rw [Int.toNat_natCast] at hcut hA' hC'
      have hx := HA.out m[j] (List.getElem_mem hlt)
      obtain ⟨ad, hA2, hcell⟩ := ReadsInt.at_ (hA' wr HR.out) 0 (by omega) (by rw [List.length_drop]; omega)
      subst hA2
      have e0 : ad.add ((0 : Int)).toNat = ad := by unfold Addr.add; simp
      have e1 : rd (m.drop j) 0 = m[j] := by rw [List.drop_eq_getElem_cons hlt]; rfl
      rw [e0, e1] at hcell
      have hdl : (m.drop j).length = m.length - j := List.length_drop
      rw [hdl] at hcut
      have HD := Aside0.mk (dec_calls ad (m.length - j) (c - j) m[j] wr hx.1 hx.2 (by omega) hcell)
      have HS := Aside0.mk (space_calls m[j] wr hx.1 hx.2)
      have hstep : idxS (m.drop j) j = (if spc m[j] = true then idxS (m.drop (j + 1)) (j + 1) else (j : Int)) := by rw [List.drop_eq_getElem_cons hlt]; rfl
      have HST := Aside0.mk hstep
      have hwj : wrap64 ((j : Int) + 1) = ((j + 1 : Nat) : Int) := by rw [wrap_id (by omega) (by omega)]; omega
      clear hA' hC' hcell e0 e1 hdl hstep
      generalize m[j] = x at *
      cases hsp : spc x with
      | true =>
        rw [hsp] at HS HST
        rw [if_pos rfl] at HST
        go_wp2_with (first
          | (go_at_call 39; go_must (refine HD.out.mono ?_; rintro e w1 ⟨rfl, rfl⟩))
          | (go_at_call 32; go_must (refine HS.out.mono ?_; rintro e w1 ⟨rfl, rfl⟩)))
        go_roundg (m.length - (j + 1))
        case rel => exact ⟨j + 1, rfl, hlt, by first | rfl | (rw [hwj]), rfl, ⟨by rw [HX.out, HST.out]⟩⟩
        case measure => omega
      | false =>
        rw [hsp] at HS HST
        rw [if_neg (by simp)] at HST
        have HF := Aside0.mk (HX.out.trans HST.out)
        go_wp2_with (first
          | (go_at_call 39; go_must (refine HD.out.mono ?_; rintro e w1 ⟨rfl, rfl⟩))
          | (go_at_call 32; go_must (refine HS.out.mono ?_; rintro e w1 ⟨rfl, rfl⟩)))
        go_ret
        exact ⟨by rw [HF.out]; rfl, rfl⟩
    · have hje : j = m.length := by omega
      have HF : Aside0 (idxS m 0 = -1) := ⟨by rw [HX.out, hje, List.drop_length]; rfl⟩
      go_wp2
      go_ret
      exact ⟨by rw [HF.out]; rfl, rfl⟩
theorem left_calls (A : Option Addr) (c : Nat) (m : List Int) (hc : m.length ≤ c) (hn : m.length ≤ 2147483647) (ha : A7 m) (w : World) (hr : ReadsInt w .u8 A m.length m) :
    Calls Tryd.prog 44 #[.slice A m.length c, .func (.func 32) #[] #[]] w fun e w' => ∃ A' c', e = .returned (.slice A' (tl m).length c') ∧ ReadsInt w .u8 A' (tl m).length (tl m) ∧ (tl m).length ≤ c' ∧ w' = w := by
  have HC := Aside0.mk (index_calls A c m hc hn ha w hr)
  have HR := Aside0.mk hr
  obtain ⟨i0, hi0, _, hsz0, _⟩ := info_parts (show (Tryd.prog.info? 5).map (fun i => (i.zero, i.size, i.bytes)) = some (some (.int .u8 0), 1, 1) by kernel_rfl)
  rcases idxS_drop m 0 with ⟨h1, h2⟩ | ⟨k, hk, h1, h2⟩
  · rw [h1] at HC
    rw [h2]
    clear hr hi0 h1 h2
    go_enter Tryd.func44, Tryd.ntmps44
    go_wp2_with (go_at_call 60; go_must (refine HC.out.mono ?_; rintro e w1 ⟨rfl, rfl⟩))
    go_ret
    exact ⟨none, 0, rfl, ReadsInt.nil _ _, Nat.le_refl _, rfl⟩
  · rw [h1] at HC
    rw [h2]
    obtain ⟨A', hcut, hA', hC'⟩ := print_drop_of (P := Tryd.prog) (Value.int .u8) (0 : Int) 40 5 .i64 Tryd.underlying40 hi0 hsz0 A c m (k : Int) (by omega) (by omega) hc
    rw [Int.toNat_natCast] at hcut hA' hC'
    have hdl : (m.drop k).length = m.length - k := List.length_drop
    have HX := Aside0.mk (hA' w HR.out)
    have HY := Aside0.mk hC'
    rw [hdl] at hcut
    rw [show ((0 + k : Nat) : Int) = (k : Int) from by rw [Nat.zero_add]] at HC
    have hk0 : ¬ (k : Int) = -1 := by omega
    have hkb : ((k : Int) == -1) = false := beq_eq_false_iff_ne.2 hk0
    clear hr hi0 h1 h2 hA' hC'
    go_enter Tryd.func44, Tryd.ntmps44
    go_wp2_with (go_at_call 60; go_must (refine HC.out.mono ?_; rintro e w1 ⟨rfl, rfl⟩))
    go_ret
    exact ⟨A', c - k, by rw [hdl]; rfl, HX.out, HY.out, rfl⟩
end Go.Proofs.YtbhcoeabhdangaaDoor.PInl
