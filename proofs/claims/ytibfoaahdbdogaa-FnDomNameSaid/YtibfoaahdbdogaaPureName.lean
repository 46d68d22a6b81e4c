/- FnDomName: the plain law, and the law's walk for trees that fit. -/
import Derived.Test.YtibfoaahdbdogaaDomTot
import Derived.Test.YtibfoaahdbdogaaFDomName
namespace Go.Proofs.Ytibfoaahdbdogaa.PDom
open Go.RowKit Go.Proofs.YtibfoaahdbdogaaW.PrintWords Go.Proofs.YtibfoaahdbdogaaW.PrintLast Go.Proofs.YtibfoaahdbdogaaW.PrintMore Go.Proofs.Ytibfoaahdbdogaa.Dom
set_option linter.unusedVariables false
set_option linter.unusedSimpArgs false

theorem toList_same (a : ByteArray) : (a.toList == a.toList) = true := by simp
theorem name_pure {t : T} (ht : FitS t) : ∃ k, laws_FnDomName.f k t.f0 t.f1 t.f2 t.f3 t.f4 = some true := by
  have hl : t.f3.length ≤ 4611686018427387904 := by
    obtain ⟨_, _, ha, _, _⟩ := ht
    omega
  obtain ⟨b1, h1⟩ := fits2_tot t.f0 t.f1 t.f2 t.f3 t.f4 hl (t.f3.length + 1) (by omega)
  obtain ⟨k2, b2, h2⟩ := tree_tot ht
  obtain ⟨k3, h3⟩ := fit_fitB ht.fit
  have u1 := up (fun k => laws_zzFits2.mono t.f0 t.f1 t.f2 t.f3 t.f4 k) (show t.f3.length + 1 ≤ t.f3.length + 1 + k2 + k3 by omega) h1
  have u2 := up (fun k => laws_tree29.mono t.f0 t.f1 t.f2 t.f3 t.f4 k) (show k2 ≤ t.f3.length + 1 + k2 + k3 by omega) h2
  have u3 := fitB_le (show k3 ≤ t.f3.length + 1 + k2 + k3 by omega) h3
  refine ⟨t.f3.length + 1 + k2 + k3, ?_⟩
  generalize t.f3.length + 1 + k2 + k3 = k at u1 u2 u3
  unfold laws_FnDomName.f
  rw [u1, Option.bind_some]
  cases b1 with
  | false => rfl
  | true =>
    rw [if_pos rfl, u2, Option.bind_some]
    cases b2 with
    | false => rfl
    | true =>
      have hn : impl_NameOf.f k t.f0 t.f1 t.f2 t.f3 t.f4 = some (if t.f0 = 3 then docName else t.f1) := by
        unfold impl_NameOf.f
        rw [u2, Option.bind_some, if_pos rfl]
        have u4 : fitB k ⟨t.f0, t.f1, t.f2, t.f3, t.f4⟩ = true := by cases t; exact u3
        rw [if_pos u4]
      rw [if_pos rfl, hn]
      by_cases h3 : t.f0 = 3
      · rw [if_pos h3, if_pos h3]
        decide +kernel
      · rw [if_neg h3, if_neg h3, Option.bind_some, toList_same]

theorem law_calls (t : T) (ht : FitS t) (A3 : Option Addr) (c3 : Nat) (A4 : Option Addr) (c4 : Nat) (w : World) (h3 : Kd.C k78 w A3 t.f3.length t.f3) (l3 : t.f3.length ≤ c3) (h4 : Kd.C k25 w A4 t.f4.length t.f4) (l4 : t.f4.length ≤ c4) :
    Calls Try.prog 3 #[.agg #[.int .i64 t.f0, .string t.f1, .string t.f2, .slice A3 t.f3.length c3, .slice A4 t.f4.length c4]] w fun e w' => e = .returned (.bool true) ∧ Below w.heap.size w w' := by
  obtain ⟨k, h⟩ := name_pure ht
  exact laws_FnDomName.calls k t.f0 t.f1 t.f2 A3 c3 t.f3 A4 c4 t.f4 true w h3 l3 h4 l4 h
theorem row_calls (t : T) (A3 : Option Addr) (c3 : Nat) (A4 : Option Addr) (c4 : Nat) (w : World) (ht : FitS t) (h3 : Kd.C k78 w A3 t.f3.length t.f3) (l3 : t.f3.length ≤ c3) (h4 : Kd.C k25 w A4 t.f4.length t.f4) (l4 : t.f4.length ≤ c4) :
    Calls Try.prog 3 #[.agg #[.int .i64 t.f0, .string t.f1, .string t.f2, .slice A3 t.f3.length c3, .slice A4 t.f4.length c4]] w fun e w' => e = .returned (.bool true) ∧ Below w.heap.size w w' := law_calls t ht A3 c3 A4 c4 w h3 l3 h4 l4
end Go.Proofs.Ytibfoaahdbdogaa.PDom
