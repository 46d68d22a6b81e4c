/- FnDomAll: the plain law, and the law's walk for trees that fit. -/
import Derived.Test.YtibfoaahdbdogaaPaths29
import Derived.Test.YtibfoaahdbdogaaFDomAll
namespace Go.Proofs.Ytibfoaahdbdogaa.PDom
open Go.RowKit Go.Proofs.YtibfoaahdbdogaaW.PrintWords Go.Proofs.YtibfoaahdbdogaaW.PrintLast Go.Proofs.YtibfoaahdbdogaaW.PrintMore Go.Proofs.Ytibfoaahdbdogaa.Dom
set_option linter.unusedVariables false
set_option linter.unusedSimpArgs false

theorem all_pure {t : T} (ht : FitS t) : ∃ k, laws_FnDomAll.f k t.f0 t.f1 t.f2 t.f3 t.f4 = some true := by
  have hf := ht.fit
  obtain ⟨b1, e1⟩ := fits2_ev t hf
  obtain ⟨b2, e2⟩ := tree_ev t ht
  obtain ⟨K3, e3⟩ := fitB_ev t hf
  refine Ev.rounds ?_
  refine Ev.congr (f := fun k => _) (fun k => by rw [laws_FnDomAll.f]) ?_
  refine Ev.bind e1 ?_
  cases b1 with
  | false => exact Ev.now _
  | true =>
    simp only [if_true]
    refine Ev.bind e2 ?_
    cases b2 with
    | false => exact Ev.now _
    | true =>
      simp only [if_true]
      obtain ⟨hn, hc, _⟩ := tree_norm hf (show laws_tree29.f _ t.f0 t.f1 t.f2 t.f3 t.f4 = some true from e2.choose_spec _ (Nat.le_refl _))
      have ea : Ev (fun k => impl_AllNodes.f k t.f0 t.f1 t.f2 t.f3 t.f4) (pathsT [] t) := by
        obtain ⟨K2, h2⟩ := e2
        refine ⟨K2 + K3, fun k hk => ?_⟩
        have h4 : laws_tree29.f k t.f0 t.f1 t.f2 t.f3 t.f4 = some true := h2 k (by omega)
        show impl_AllNodes.f k _ _ _ _ _ = _
        unfold impl_AllNodes.f
        rw [h4, Option.bind_some, if_pos rfl, if_pos (e3 k (by omega))]
        cases t
        rfl
      refine Ev.bind ea ?_
      refine Ev.bind (walk_ev hf [] (by simp; omega)) ?_
      refine Ev.bind (paths_self _ (by rw [pathsT_len]; omega) (fun q hq => ?_)) (Ev.now _)
      have := pathsT_small [] t q hq
      simp at this
      omega
theorem row_calls_all (t : T) (A3 : Option Addr) (c3 : Nat) (A4 : Option Addr) (c4 : Nat) (w : World) (ht : FitS t) (h3 : Kd.C k78 w A3 t.f3.length t.f3) (l3 : t.f3.length ≤ c3) (h4 : Kd.C k25 w A4 t.f4.length t.f4) (l4 : t.f4.length ≤ c4) :
    Calls Try.prog 4 #[.agg #[.int .i64 t.f0, .string t.f1, .string t.f2, .slice A3 t.f3.length c3, .slice A4 t.f4.length c4]] w fun e w' => e = .returned (.bool true) ∧ Below w.heap.size w w' := by
  obtain ⟨k, h⟩ := all_pure ht
  exact laws_FnDomAll.calls k t.f0 t.f1 t.f2 A3 c3 t.f3 A4 c4 t.f4 true w h3 l3 h4 l4 h
end Go.Proofs.Ytibfoaahdbdogaa.PDom
