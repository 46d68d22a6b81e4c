/- White space to one blank a run, as plain data. -/
import Derived.Test.YtbhcoeabhdangaaDoorWMore
namespace Go.Proofs.YtbhcoeabhdangaaDoor.Blank
set_option linter.unusedVariables false
set_option linter.unusedSimpArgs false

def ws (c : Int) : Bool := decide (c = 32) || decide (c = 13) || decide (c = 10) || decide (c = 9)
/-- Runs of white space are one blank; b: whether white space stands right ahead. -/
def norm : Bool → List Int → List Int
  | _, [] => []
  | b, c :: l => if ws c = true then (if b = true then norm true l else 32 :: norm true l) else c :: norm false l
def endW : Bool → List Int → Bool
  | b, [] => b
  | _, c :: l => endW (ws c) l
theorem norm_append (l m : List Int) : ∀ b, norm b (l ++ m) = norm b l ++ norm (endW b l) m := by
  induction l with
  | nil => intro b; rfl
  | cons c l ih =>
    intro b
    rw [List.cons_append]
    simp only [norm, endW]
    cases hw : ws c with
    | true =>
      simp only [if_true]
      rw [ih true]
      cases b with
      | true => simp
      | false => simp
    | false => simp [ih false]
theorem endW_append (l m : List Int) : ∀ b, endW b (l ++ m) = endW (endW b l) m := by
  induction l with
  | nil => intro b; rfl
  | cons c l ih => intro b; exact ih _
theorem norm_ws (l : List Int) (h : ∀ c ∈ l, ws c = true) : norm true l = [] := by
  induction l with
  | nil => rfl
  | cons c l ih =>
    simp only [norm]
    rw [if_pos (h c List.mem_cons_self), if_pos trivial]
    exact ih (fun x hx => h x (List.mem_cons_of_mem _ hx))
theorem norm_run (l : List Int) (h : ∀ c ∈ l, ws c = true) (hne : l ≠ []) : norm false l = [32] := by
  cases l with
  | nil => exact absurd rfl hne
  | cons c l =>
    simp only [norm]
    rw [if_pos (h c List.mem_cons_self), if_neg (by simp), norm_ws l (fun x hx => h x (List.mem_cons_of_mem _ hx))]
theorem endW_run (l : List Int) (h : ∀ c ∈ l, ws c = true) (hne : l ≠ []) : ∀ b, endW b l = true := by
  induction l with
  | nil => exact absurd rfl hne
  | cons c l ih =>
    intro b
    show endW (ws c) l = true
    rw [h c List.mem_cons_self]
    cases l with
    | nil => rfl
    | cons d l => exact ih (fun x hx => h x (List.mem_cons_of_mem _ hx)) (by simp) true
open Go.Proofs.YtbhcoeabhdangaaDoorW.PrintWords in
theorem bt_nth (s : ByteArray) (j : Nat) (h : j < s.size) : (bytesOf s)[j]? = some (bt s (j : Int)) := by
  have h2 : j < s.data.toList.length := by rw [Array.length_toList]; exact h
  unfold bytesOf
  rw [List.getElem?_map, List.getElem?_eq_getElem h2, ← bt_at s (j : Int) (by simpa using h)]
  simp
  rfl
end Go.Proofs.YtbhcoeabhdangaaDoor.Blank
