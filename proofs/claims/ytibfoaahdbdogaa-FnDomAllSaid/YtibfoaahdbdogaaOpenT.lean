/- A tree that comes in as an argument: what it reads as in memory, and that it fits. -/
import Derived.Test.YtibfoaahdbdogaaDomTot
import Derived.Test.YtibfoaahdbdogaaOpen
namespace Go.Proofs.Ytibfoaahdbdogaa.PDom
open Go.RowKit Go.ChangeShapes Go.WideShapes Go.Proofs.YtibfoaahdbdogaaW.PrintWords Go.Proofs.YtibfoaahdbdogaaW.PrintLast Go.Proofs.YtibfoaahdbdogaaW.PrintMore Go.Proofs.Ytibfoaahdbdogaa.Dom Go.Proofs.Ytibfoaahdbdogaa.Open
set_option linter.unusedVariables false
set_option linter.unusedSimpArgs false

theorem opens_attr (fuel : Nat) : Opens Try.prog 78 k78 (fun _ => True) fuel := by
  have h := opens_struct (α := S78) (fuel := fuel) Try.underlying78 (by kernel_rfl) (fun x : S78 => (x.f0, x.f1)) (fun y => ⟨y.1, y.2⟩) (fun _ => rfl)
    (fun n _ => opens_cons (P := Try.prog) (o := 0) rfl (by kernel_rfl) (opens_string Try.underlying9 n) (opens_last (o := 1) rfl (by kernel_rfl) (opens_string Try.underlying9 n)))
  intro H enc W base spare held cs x hx hw
  obtain ⟨y, hK, _⟩ := h H enc W base spare held cs x hx hw
  exact ⟨y, hK, trivial⟩
theorem opens_T (fuel : Nat) : Opens Try.prog 25 k25 FitS fuel := by
  induction fuel using Nat.strongRecOn with
  | _ fuel ih =>
    have h := opens_struct (α := T) (fuel := fuel) Try.underlying25 (by kernel_rfl) (fun x : T => (x.f0, x.f1, x.f2, x.f3, x.f4)) (fun y => ⟨y.1, y.2.1, y.2.2.1, y.2.2.2.1, y.2.2.2.2⟩) (fun _ => rfl)
      (fun n hn => opens_cons (P := Try.prog) (o := 0) rfl (by kernel_rfl) (opens_int (k := .i64) Try.underlying3 n)
        (opens_cons (o := 1) rfl (by kernel_rfl) (opens_string Try.underlying9 n) (opens_cons (o := 2) rfl (by kernel_rfl) (opens_string Try.underlying9 n)
          (opens_cons (o := 3) rfl (by kernel_rfl) (opens_slice (k := k78) Try.underlying22 (by kernel_rfl) (B := 32) (by kernel_rfl) n (fun m _ => opens_attr m))
            (opens_last (o := 4) rfl (by kernel_rfl) (opens_slice (k := k25) Try.underlying23 (by kernel_rfl) (B := 88) (by kernel_rfl) n (fun m hm => ih m (by omega))))))))
    intro H enc W base spare held cs x hx hw
    obtain ⟨y, hK, hG⟩ := h H enc W base spare held cs x hx hw
    obtain ⟨_, _, rfl, rfl, ⟨_, _, rfl, rfl, ⟨_, _, rfl, rfl, ⟨_, _, rfl, ⟨A3, c3, rfl, l3, g3⟩, ⟨A4, c4, rfl, l4, g4⟩⟩⟩⟩⟩ := hK
    obtain ⟨_, hn, _, ⟨ha, _⟩, ⟨hb, hy⟩⟩ := hG
    have ha2 : y.f3.length * 32 ≤ 140737488351232 := ha
    have hb2 : y.f4.length * 88 ≤ 140737488351232 := hb
    exact ⟨y, k25_mk W y l3 g3 l4 g4, FitS.mk y hn (by omega) (by omega) hy⟩
theorem open_T {H : Type} {enc : TypeId × Value → H} {W : World} {base : Nat} {spare : Nat → Bool} {held : Bool} {v : Value} {d : DataW H} {ps : List MemPlace} {ts : List TypeId} {ds : List (DataW H)} {j : Nat} {t : TypeId} (e : t = 25)
    (hd : DataW.Trod enc Try.prog W base spare held t v d ps) (hsz : (DataW.weightsEach Try.prog ts ds).all (· ≤ reachBytes) = true) (ht : ts[j]? = some t) (hdj : ds[j]? = some d) :
    ∃ (y : T) (A3 : Option Addr) (c3 : Nat) (A4 : Option Addr) (c4 : Nat), FitS y ∧ v.cells.toList = [.int .i64 y.f0, .string y.f1, .string y.f2, .slice A3 y.f3.length c3, .slice A4 y.f4.length c4] ∧ k78.C W A3 y.f3.length y.f3 ∧ y.f3.length ≤ c3 ∧ k25.C W A4 y.f4.length y.f4 ∧ y.f4.length ≤ c4 := by
  subst e
  obtain ⟨fuel, hf⟩ := hd
  obtain ⟨y, hK, hG⟩ := opens_T fuel H enc W base spare held _ _ hf (fun n hn => by
    have := List.all_eq_true.1 hsz n (DataW.weights_mem_each ht hdj n hn)
    simpa using this)
  obtain ⟨A3, c3, A4, c4, hcs, l3, g3, l4, g4⟩ := k25_open hK
  exact ⟨y, A3, c3, A4, c4, hG, hcs, g3, l3, g4, l4⟩
end Go.Proofs.Ytibfoaahdbdogaa.PDom
