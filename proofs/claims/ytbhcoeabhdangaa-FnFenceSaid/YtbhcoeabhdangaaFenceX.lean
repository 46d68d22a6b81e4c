/- The longest run of a character: the spec's loop, and the package's list of runs. For texts of less than 2^31 bytes. -/
import Derived.Test.YtbhcoeabhdangaaPFnFencex1
import Derived.Test.YtbhcoeabhdangaaTxt
import Derived.Lib.RuneCountTail
import Derived.Laws.RangeString
import Derived.Shelf.Utf8.RuneCount
namespace Go.Proofs.Ytbhcoeabhdangaa.PFnFence
open Go.Proofs.Ytbhcoeabhdangaa.Txt Go.RowKit Go.Proofs.YtbhcoeabhdangaaW.PrintWords Go.Proofs.YtbhcoeabhdangaaW.PrintLast Go.Proofs.YtbhcoeabhdangaaW.PrintMore
attribute [local go_sem] max2_int min2_int max_two min_two max_three min_three max_four min_four
set_option linter.unusedVariables false
set_option linter.unusedSimpArgs false

/-- A text's characters, as Go ranges over them. -/
def runesFrom (s : ByteArray) : Nat → Nat → List Int
  | 0, _ => []
  | f + 1, pos => if pos < s.size then ((Utf8.decode s pos).1 : Int) :: runesFrom s f (pos + (Utf8.decode s pos).2) else []
def runes (s : ByteArray) : List Int := runesFrom s s.size 0
theorem runesFrom_end (s : ByteArray) (f pos : Nat) (h : ¬ pos < s.size) : runesFrom s f pos = [] := by
  cases f <;> simp [runesFrom, h]
theorem runesFrom_len (s : ByteArray) : ∀ f pos, (runesFrom s f pos).length ≤ f
  | 0, _ => by simp [runesFrom]
  | f + 1, pos => by
    simp only [runesFrom]
    split
    · have := runesFrom_len s f (pos + (Utf8.decode s pos).2)
      rw [List.length_cons]; omega
    · simp
/-- The longest run so far, and the run that ends here. -/
def step (c : Int) (a : Nat × Nat) (x : Int) : Nat × Nat := if x = c then (max a.1 (a.2 + 1), a.2 + 1) else (a.1, 0)
def run (c : Int) (s : ByteArray) : Nat := ((runes s).foldl (step c) (0, 0)).1
theorem run_le (c : Int) (s : ByteArray) : run c s ≤ s.size := by
  have key : ∀ (l : List Int) (a : Nat × Nat) (n : Nat), a.1 ≤ n → a.2 ≤ n → (l.foldl (step c) a).1 ≤ n + l.length := by
    intro l
    induction l with
    | nil => intro a n h1 h2; simpa using h1
    | cons x l ih =>
      intro a n h1 h2
      rw [List.foldl_cons, List.length_cons]
      have h3 : (step c a x).1 ≤ n + 1 ∧ (step c a x).2 ≤ n + 1 := by
        unfold step
        split
        · exact ⟨by show max _ _ ≤ _; omega, by show _ + 1 ≤ _; omega⟩
        · exact ⟨by show a.1 ≤ _; omega, Nat.zero_le _⟩
      have := ih _ (n + 1) h3.1 h3.2
      omega
  have h := key (runes s) (0, 0) 0 (Nat.le_refl _) (Nat.le_refl _)
  have h2 := runesFrom_len s s.size 0
  unfold run
  unfold runes at h ⊢
  omega

theorem run_calls (c : Int) (s : ByteArray) (w : World) (hs : s.size ≤ 2147483647) :
    Calls Try.prog 12 #[.int .i32 c, .string s] w fun e w' => e = .returned (.int .i64 (run c s)) ∧ Below w.heap.size w w' := by
  go_enter Try.func12, Try.ntmps12
  go_wp2
  go_loopw [5, 6] (fun vm vn w' => ∃ (pos b m k : Nat), w' = w.iter s pos ∧ vm = .int .i64 m ∧ vn = .int .i64 k ∧ Aside0 (((runesFrom s b pos).foldl (step c) (m, k)).1 = run c s) ∧ s.size ≤ pos + b ∧ m ≤ pos ∧ k ≤ pos) (fun _ _ w' => s.size - w'.iterPos w.heap.size)
  case atStart => exact ⟨0, s.size, 0, 0, rfl, rfl, rfl, ⟨rfl⟩, by omega, Nat.le_refl _, Nat.le_refl _⟩
  case round =>
    obtain ⟨pos, b, m, k, rfl, rfl, rfl, HC, hb, hm, hk⟩ := hrel
    by_cases hp : pos < s.size
    · have hnx : ∀ ty, (Instr.next (.pointer (some ⟨w.heap.size, 0, none⟩)) true ty).run Try.prog (w.iter s pos) = _ := fun ty => run_next_any w s pos ty hp
      have hwd := Lib.decode_width_pos s pos hp
      obtain ⟨b, rfl⟩ : ∃ q, b = q + 1 := ⟨b - 1, by omega⟩
      have hstep : (runesFrom s (b + 1) pos).foldl (step c) (m, k) = (runesFrom s b (pos + (Utf8.decode s pos).2)).foldl (step c) (step c (m, k) ((Utf8.decode s pos).1 : Int)) := by
        simp only [runesFrom, hp, if_true, List.foldl_cons]
      by_cases hx : ((Utf8.decode s pos).1 : Int) = c
      · have hx1 : ((((Utf8.decode s pos).1 : Int) != c)) = false := bne_eq_false_iff_eq.mpr hx
        have H2 := Aside0.mk (show ((runesFrom s b (pos + (Utf8.decode s pos).2)).foldl (step c) (max m (k + 1), k + 1)).1 = run c s by
          have h := HC.out
          rw [hstep] at h
          unfold step at h
          rw [if_pos hx] at h
          exact h)
        clear hx hstep
        go_wp2
        go_roundw
        case rel => exact ⟨pos + (Utf8.decode s pos).2, b, max m (k + 1), k + 1, rfl, by go_num, by go_num, H2, by omega, by omega, by omega⟩
        case measure =>
          simp
          omega
      · have hx1 : ((((Utf8.decode s pos).1 : Int) != c)) = true := bne_iff_ne.mpr hx
        have H2 := Aside0.mk (show ((runesFrom s b (pos + (Utf8.decode s pos).2)).foldl (step c) (m, 0)).1 = run c s by
          have h := HC.out
          rw [hstep] at h
          unfold step at h
          rw [if_neg hx] at h
          exact h)
        clear hx hstep
        go_wp2
        go_roundw
        case rel => exact ⟨pos + (Utf8.decode s pos).2, b, m, 0, rfl, rfl, rfl, H2, by omega, by omega, by omega⟩
        case measure =>
          simp
          omega
    · have hnx : ∀ ty, (Instr.next (.pointer (some ⟨w.heap.size, 0, none⟩)) true ty).run Try.prog (w.iter s pos) = _ := fun ty => run_next_end w s pos ty hp
      go_wp2
      go_ret
      have hc := HC.out
      rw [runesFrom_end s b pos hp] at hc
      have hc' : m = run c s := hc
      rw [hc']
      exact ⟨rfl, below_alloc (Below.refl _ _) _⟩

end Go.Proofs.Ytbhcoeabhdangaa.PFnFence
