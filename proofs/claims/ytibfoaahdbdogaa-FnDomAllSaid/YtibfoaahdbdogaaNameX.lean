/- impl.NameOf of a tree. -/
import Derived.Test.YtibfoaahdbdogaaNodeX
namespace Go.Proofs.Ytibfoaahdbdogaa.PDom
open Go.RowKit Go.Proofs.YtibfoaahdbdogaaW.PrintWords Go.Proofs.YtibfoaahdbdogaaW.PrintLast Go.Proofs.YtibfoaahdbdogaaW.PrintMore Go.Proofs.Ytibfoaahdbdogaa.Dom
set_option linter.unusedVariables false
set_option linter.unusedSimpArgs false

/-- A tree of rows that fit, told within so many steps. -/
def fitB : Nat → T → Bool
  | 0, _ => false
  | n + 1, t => decide (t.f3.length ≤ 4398046510976) && (decide (t.f4.length ≤ 4398046510976) && t.f4.all (fitB n))
theorem fitB_fit : ∀ (n : Nat) (t : T), fitB n t = true → Fit t
  | 0, _, h => by cases h
  | n + 1, t, h => by
    simp only [fitB, Bool.and_eq_true, decide_eq_true_eq, List.all_eq_true] at h
    exact Fit.mk t h.1 h.2.1 (fun y hy => fitB_fit n y (h.2.2 y hy))
theorem fitB_mono : ∀ (n : Nat) (t : T), fitB n t = true → fitB (n + 1) t = true
  | 0, _, h => by cases h
  | n + 1, t, h => by
    simp only [fitB, Bool.and_eq_true, decide_eq_true_eq, List.all_eq_true] at h ⊢
    refine ⟨h.1, h.2.1, fun y hy => ?_⟩
    have := fitB_mono n y (h.2.2 y hy)
    simpa only [fitB, Bool.and_eq_true, decide_eq_true_eq, List.all_eq_true] using this
theorem fitB_le {n m : Nat} (h : n ≤ m) {t : T} (hn : fitB n t = true) : fitB m t = true := by
  induction h with
  | refl => exact hn
  | step _ ih => exact fitB_mono _ _ ih
theorem fit_fitB {t : T} (h : Fit t) : ∃ n, fitB n t = true := by
  induction h with
  | mk t ha hk h ih =>
    have key : ∀ l : List T, (∀ y ∈ l, ∃ n, fitB n y = true) → ∃ n, ∀ y ∈ l, fitB n y = true := by
      intro l
      induction l with
      | nil => exact fun _ => ⟨0, fun y hy => by cases hy⟩
      | cons x l ihl =>
        intro hl
        obtain ⟨n1, h1⟩ := hl x List.mem_cons_self
        obtain ⟨n2, h2⟩ := ihl (fun y hy => hl y (List.mem_cons_of_mem _ hy))
        refine ⟨n1 + n2, fun y hy => ?_⟩
        rcases List.mem_cons.1 hy with rfl | hy
        · exact fitB_le (by omega) h1
        · exact fitB_le (by omega) (h2 y hy)
    obtain ⟨n, hn⟩ := key t.f4 ih
    refine ⟨n + 1, ?_⟩
    simp only [fitB, Bool.and_eq_true, decide_eq_true_eq, List.all_eq_true]
    exact ⟨ha, hk, hn⟩

theorem tree_kind {k : Nat} {f0 : Int} {f1 f2 : ByteArray} {f3 : List S78} {f4 : List S25} (h : laws_tree29.f k f0 f1 f2 f3 f4 = some true) : f0 = 0 ∨ f0 = 3 := by
  unfold laws_tree29.f at h
  by_cases h0 : f0 = 0
  · exact .inl h0
  · by_cases h3 : f0 = 3
    · exact .inr h3
    · rw [if_neg h0, if_neg h3] at h
      cases h

def impl_NameOf.f (k : Nat) (a0_0 : Int) (a0_1 : ByteArray) (a0_2 : ByteArray) (l0_3 : List (S78)) (l0_4 : List (S25)) : Option ByteArray :=
  (laws_tree29.f k a0_0 a0_1 a0_2 l0_3 l0_4).bind fun b => if b = true then (if fitB k ⟨a0_0, a0_1, a0_2, l0_3, l0_4⟩ = true then some (if a0_0 = 3 then docName else a0_1) else none) else none
theorem impl_NameOf.mono : ∀ a0 a1 a2 a3 a4 k, LeO (impl_NameOf.f k a0 a1 a2 a3 a4) (impl_NameOf.f (k + 1) a0 a1 a2 a3 a4) := by
  intro a0 a1 a2 a3 a4 k
  unfold impl_NameOf.f
  refine LeO.bind (laws_tree29.mono _ _ _ _ _ _) (fun b => ?_)
  by_cases hb : b = true
  · rw [if_pos hb, if_pos hb]
    by_cases hf : fitB k ⟨a0, a1, a2, a3, a4⟩ = true
    · rw [if_pos hf, if_pos (fitB_mono _ _ hf)]
      exact LeO.refl _
    · rw [if_neg hf]
      exact LeO.none _
  · rw [if_neg hb]
    exact LeO.none _
theorem impl_NameOf.calls (k : Nat) (a0_0 : Int) (a0_1 : ByteArray) (a0_2 : ByteArray) (A0_3 : Option Addr) (c0_3 : Nat) (l0_3 : List (S78)) (A0_4 : Option Addr) (c0_4 : Nat) (l0_4 : List (S25)) (r : ByteArray) (w : World) (hr0_3 : Kd.C k78 w A0_3 l0_3.length l0_3) (hc0_3 : l0_3.length ≤ c0_3) (hr0_4 : Kd.C k25 w A0_4 l0_4.length l0_4) (hc0_4 : l0_4.length ≤ c0_4) (h : impl_NameOf.f k a0_0 a0_1 a0_2 l0_3 l0_4 = some r) :
    Calls Try.prog 11 #[.agg #[.int .i64 a0_0, .string a0_1, .string a0_2, .slice A0_3 l0_3.length c0_3, .slice A0_4 l0_4.length c0_4]] w fun e w' => e = .returned (.string r) ∧ Below w.heap.size w w' := by
  obtain ⟨hkind, hfit, hr⟩ : (a0_0 = 0 ∨ a0_0 = 3) ∧ fitB k ⟨a0_0, a0_1, a0_2, l0_3, l0_4⟩ = true ∧ (if a0_0 = 3 then docName else a0_1) = r := by
    unfold impl_NameOf.f at h
    obtain ⟨b, hb, h2⟩ := Option.bind_eq_some_iff.1 h
    split at h2
    case isFalse => cases h2
    rename_i hbt
    subst hbt
    split at h2
    case isFalse => cases h2
    rename_i hf
    exact ⟨tree_kind hb, hf, Option.some.inj h2⟩
  have HB0 := Aside0.mk (below_alloc (Below.refl w.heap.size w) (Obj.cells #[Value.int IntKind.i64 a0_0, Value.string a0_1, Value.string a0_2, Value.slice A0_3 l0_3.length c0_3, Value.slice A0_4 l0_4.length c0_4] 25))
  have HM := Aside0.mk (made_calls _ ⟨a0_0, a0_1, a0_2, l0_3, l0_4⟩ (Nat.le_refl _) (fitB_fit _ _ hfit) _ A0_3 c0_3 A0_4 c0_4 (Kd.C_below hr0_3 HB0.out) hc0_3 (Kd.C_below hr0_4 HB0.out) hc0_4)
  clear h hfit hr0_3 hc0_3 hr0_4 hc0_4
  go_enter Try.func11, Try.ntmps11
  go_wp2_with fail
  refine HM.out.mono ?_
  rintro e w1 ⟨b, D, rfl, hm⟩
  obtain ⟨_, _, i, hi, hma, _, _⟩ := hm.tree
  have hty : i.ty = 1 ∨ i.ty = 2 ∨ i.ty = 3 ∨ i.ty = 4 := by
    rw [hma.ty]
    show tyOf a0_0 = 1 ∨ tyOf a0_0 = 2 ∨ tyOf a0_0 = 3 ∨ tyOf a0_0 = 4
    rcases hkind with h | h <;> (rw [h]; decide)
  have hn : nameOf i = r := by
    rw [← hr]
    unfold nameOf
    rw [hma.ty, hma.data]
    rcases hkind with h | h <;> subst h
    · rfl
    · rfl
  have HN := Aside0.mk (node_calls w1 D b i hm.dom hi hty)
  have HB := Aside0.mk (below_step HB0.out hm.below)
  clear hm hi hma hty HM
  simp only [ptr] at HN
  go_wp2_with fail
  refine HN.out.mono ?_
  rintro e w2 ⟨rfl, rfl⟩
  go_wp2
  go_ret
  exact ⟨by rw [← hn]; rfl, HB.out⟩
end Go.Proofs.Ytibfoaahdbdogaa.PDom
