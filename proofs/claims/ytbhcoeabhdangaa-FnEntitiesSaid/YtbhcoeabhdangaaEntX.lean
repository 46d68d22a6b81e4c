/- zzEntities: angles as entities. -/
import Derived.Test.YtbhcoeabhdangaaQuotX
import Derived.Deep.DeepMust
import Derived.Tactics2
namespace Go.Proofs.Ytbhcoeabhdangaa.PEnt
open Go.Proofs.Ytbhcoeabhdangaa.Keep Go.RowKit Go.Proofs.YtbhcoeabhdangaaW.PrintWords Go.Proofs.YtbhcoeabhdangaaW.PrintLast Go.Proofs.YtbhcoeabhdangaaW.PrintMore
set_option linter.unusedVariables false
set_option linter.unusedSimpArgs false

def ent1 (c : Int) : List Int := if c = 60 then [38, 108, 116, 59] else if c = 62 then [38, 103, 116, 59] else [c]
def entL (l : List Int) : List Int := l.flatMap ent1
theorem bt_nth (s : ByteArray) (j : Nat) (h : j < s.size) : (bytesOf s)[j]? = some (bt s (j : Int)) := by
  have h2 : j < s.data.toList.length := by rw [Array.length_toList]; exact h
  unfold bytesOf
  rw [List.getElem?_map, List.getElem?_eq_getElem h2, ← bt_at s (j : Int) (by simpa using h)]
  simp
  rfl
theorem entL_succ (s : ByteArray) (j : Nat) (h : j < s.size) : entL ((bytesOf s).take (j + 1)) = entL ((bytesOf s).take j) ++ ent1 (bt s (j : Int)) := by
  rw [List.take_add_one, bt_nth s j h]
  unfold entL
  rw [List.flatMap_append]
  simp
theorem entL_len (l : List Int) : (entL l).length ≤ 4 * l.length := by
  induction l with
  | nil => exact Nat.le_refl _
  | cons a l ih =>
    have : (ent1 a).length ≤ 4 := by
      unfold ent1
      repeat' split
      all_goals simp
    show (ent1 a ++ entL l).length ≤ _
    rw [List.length_append, List.length_cons]
    omega
theorem ent_calls (a0 : ByteArray) (w : World) (hs : a0.size ≤ 2147483647) :
    Calls Try.prog 26 #[.string a0] w fun e w' => e = .returned (.string (strOfNums (entL (bytesOf a0)))) ∧ Below w.heap.size w w' := by
  have hs64 : a0.size ≤ 9223372036854775807 := by omega
  have HS := Aside0.mk hs
  clear hs
  go_enter Try.func26, Try.ntmps26
  obtain ⟨w1, hmk, ho1, hg1⟩ := run_make_own (P := Try.prog) w w.heap.size 34 5 (Try.prog.info? 5).get! (.int .u8 0) 1 Try.underlying34 (by kernel_rfl) (by kernel_rfl) (by kernel_rfl) .i64 .i64 a0.size (by rw [show ((Try.prog.info? 5).get!).bytes = 1 from by kernel_rfl]; have := HS.out; omega) hs64 (Nat.le_refl _)
  have HO1 := Aside0.mk ho1
  have HB1 := Aside0.mk (Below.grown (Below.refl w.heap.size w) hg1 (Nat.le_refl _) (fun _ h => by cases h))
  clear ho1 hg1
  go_wp2_with fail
  go_loopw [3, 4] (fun v i wr => ∃ j : Nat, j ≤ a0.size ∧ i = .int .i64 (j : Int) ∧ Aside0 (wr.ownsRow w.heap.size 5 1 v (entL ((bytesOf a0).take j)).length (nums .u8 (entL ((bytesOf a0).take j)))) ∧ Aside0 (Below w.heap.size w wr)) (fun _ i _ => a0.size - (intOf i).toNat)
  case atStart => exact ⟨0, Nat.zero_le _, rfl, HO1, HB1⟩
  case round =>
    obtain ⟨j, hj, rfl, HO, HB⟩ := hrel
    by_cases hlt : j < a0.size
    · obtain ⟨x, hxj⟩ : ∃ x : Int, x = (j : Int) := ⟨_, rfl⟩
      have hx8 := bt_at a0 x
      have HSU := Aside0.mk (entL_succ a0 j hlt)
      rw [← hxj] at HSU ⊢
      have HXJ := Aside0.mk hxj
      have HLN := Aside0.mk (show (entL ((bytesOf a0).take j)).length ≤ 4 * 2147483647 from by
        have h1 := entL_len ((bytesOf a0).take j)
        have h2 := List.length_take_le j (bytesOf a0)
        have := HS.out
        omega)
      generalize entL ((bytesOf a0).take j) = xs at HO HSU HLN
      have p8 : (0 ≤ x) = True := eq_true (by omega)
      have q8 : (x < (a0.size : Int)) = True := eq_true (by omega)
      have HLT := Aside0.mk hlt
      have HJ := Aside0.mk hj
      clear hmk hxj hlt hj
      by_cases h60 : bt a0 x = 60
      · rw [h60, show ent1 60 = bytesOf ⟨#[38, 108, 116, 59]⟩ from rfl] at HSU
        have c0 : decide (bt a0 x = 60) = true := decide_eq_true h60
        have c1 : (bt a0 x == 60) = true := beq_iff_eq.2 h60
        clear h60
        go_wp2_with (at_builtin; go_loud (refine print_append_str (w0 := w) w.heap.size rfl (.tmp 25) _ 34 9 5 rfl Try.underlying34 Try.underlying9 info5 u3 xs ⟨#[38, 108, 116, 59]⟩ rfl rfl HO.out HB.out HB.out.size (by have := HLN.out; show xs.length + 4 ≤ _; omega) ?_))
        intro v1 w2 ho hb hg
        have HO2 := Aside0.mk ho
        have HB2 := Aside0.mk hb
        clear ho hb hg
        go_wp2
        go_roundw
        case rel => exact ⟨j + 1, by have := HLT.out; omega, by have := HLT.out; have := HS.out; rw [HXJ.out]; congr 1; unfold wrap64; omega, ⟨by rw [HSU.out, List.length_append]; first | exact HO2.out | (rw [List.length_append] at HO2; exact HO2.out)⟩, HB2⟩
        case measure => have := HLT.out; have := HXJ.out; have := HS.out; simp [intOf]; unfold wrap64; omega
      · have d0 : decide (bt a0 x = 60) = false := decide_eq_false h60
        have d1 : (bt a0 x == 60) = false := beq_eq_false_iff_ne.2 h60
        by_cases h62 : bt a0 x = 62
        · rw [h62, show ent1 62 = bytesOf ⟨#[38, 103, 116, 59]⟩ from rfl] at HSU
          have c0 : decide (bt a0 x = 62) = true := decide_eq_true h62
          have c1 : (bt a0 x == 62) = true := beq_iff_eq.2 h62
          clear h62 h60
          go_wp2_with (at_builtin; go_loud (refine print_append_str (w0 := w) w.heap.size rfl (.tmp 29) _ 34 9 5 rfl Try.underlying34 Try.underlying9 info5 u3 xs ⟨#[38, 103, 116, 59]⟩ rfl rfl HO.out HB.out HB.out.size (by have := HLN.out; show xs.length + 4 ≤ _; omega) ?_))
          intro v1 w2 ho hb hg
          have HO2 := Aside0.mk ho
          have HB2 := Aside0.mk hb
          clear ho hb hg
          go_wp2
          go_roundw
          case rel => exact ⟨j + 1, by have := HLT.out; omega, by have := HLT.out; have := HS.out; rw [HXJ.out]; congr 1; unfold wrap64; omega, ⟨by rw [HSU.out, List.length_append]; first | exact HO2.out | (rw [List.length_append] at HO2; exact HO2.out)⟩, HB2⟩
          case measure => have := HLT.out; have := HXJ.out; have := HS.out; simp [intOf]; unfold wrap64; omega
        · have e : ent1 (bt a0 x) = [bt a0 x] := by unfold ent1; rw [if_neg h60, if_neg h62]
          rw [e] at HSU
          have c0 : decide (bt a0 x = 62) = false := decide_eq_false h62
          have c1 : (bt a0 x == 62) = false := beq_eq_false_iff_ne.2 h62
          clear h62 h60 e
          go_wp2_with (at_builtin; go_loud (refine print_append_num (w0 := w) w.heap.size rfl (.tmp 17) (.tmp 21) 34 5 .u8 1 rfl Try.underlying34 info5 (by decide) u3 xs (bt a0 x) rfl rfl HO.out HB.out HB.out.size (by have := HLN.out; omega) ?_))
          intro v1 w2 ho hb hg _
          have HO2 := Aside0.mk ho
          have HB2 := Aside0.mk hb
          clear ho hb hg
          go_wp2
          go_roundw
          case rel => exact ⟨j + 1, by have := HLT.out; omega, by have := HLT.out; have := HS.out; rw [HXJ.out]; congr 1; unfold wrap64; omega, ⟨by rw [HSU.out, List.length_append]; first | exact HO2.out | (rw [List.length_append] at HO2; exact HO2.out)⟩, HB2⟩
          case measure => have := HLT.out; have := HXJ.out; have := HS.out; simp [intOf]; unfold wrap64; omega
    · have hje : j = a0.size := by omega
      subst hje
      have hO := HO.out
      rw [List.take_of_length_le (by rw [bytesOf_length]; exact Nat.le_refl _)] at hO
      have hown := own_string (P := Try.prog) Try.underlying34 Try.underlying5 Try.underlying9 hO
      clear hmk
      go_wp2
      go_ret
      exact ⟨rfl, HB.out⟩
theorem zzent_calls (a0 : ByteArray) (w : World) (hs : a0.size ≤ 2147483647) :
    Calls Try.prog 18 #[.string a0] w fun e w' => e = .returned (.string (strOfNums (entL (bytesOf a0)))) ∧ Below w.heap.size w w' := by
  go_enter Try.func18, Try.ntmps18
  go_wp2_with (go_at_call 26; go_must (refine (ent_calls a0 w hs).mono ?_; rintro e w1 ⟨rfl, hB⟩; have HB := Aside0.mk hB; clear hB))
  go_ret
  exact ⟨rfl, HB.out⟩
def impl_Entities.f (_ : Nat) (a0 : ByteArray) : Option ByteArray := if a0.size ≤ 2147483647 then some (strOfNums (entL (bytesOf a0))) else none
theorem impl_Entities.mono : ∀ a0 k, LeO (impl_Entities.f k a0) (impl_Entities.f (k + 1) a0) := fun _ _ => LeO.refl _
theorem impl_Entities.calls (k : Nat) (a0 : ByteArray) (r : ByteArray) (w : World) (h : impl_Entities.f k a0 = some r) :
    Calls Try.prog 8 #[.string a0] w fun e w' => e = .returned (.string r) ∧ Below w.heap.size w w' := by
  unfold impl_Entities.f at h
  by_cases hs : a0.size ≤ 2147483647
  · rw [if_pos hs] at h
    obtain rfl := Option.some.inj h
    clear h
    go_enter Try.func8, Try.ntmps8
    go_wp2_with (go_at_call 18; go_must (refine (zzent_calls a0 w hs).mono ?_; rintro e w1 ⟨rfl, hB⟩; have HB := Aside0.mk hB; clear hB))
    go_ret
    exact ⟨rfl, HB.out⟩
  · rw [if_neg hs] at h
    cases h
end Go.Proofs.Ytbhcoeabhdangaa.PEnt
