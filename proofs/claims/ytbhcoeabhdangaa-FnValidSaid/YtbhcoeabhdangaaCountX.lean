/- commonmark.zzCount of one byte. -/
import Derived.Test.YtbhcoeabhdangaaEValx0
import Derived.Test.YtbhcoeabhdangaaTxt
import Derived.Laws.Strings2
import Derived.Deep.DeepMust
import Derived.Tactics2
namespace Go.Proofs.Ytbhcoeabhdangaa.PVal
open Go.Proofs.Ytbhcoeabhdangaa.Txt Go.RowKit Go.Proofs.YtbhcoeabhdangaaW.PrintWords Go.Proofs.YtbhcoeabhdangaaW.PrintLast Go.Proofs.YtbhcoeabhdangaaW.PrintMore
set_option linter.unusedVariables false
set_option linter.unusedSimpArgs false

/-- How often a byte stands in a text from a place on. -/
def cntFrom (c : Int) (l : List Int) : Nat := l.countP (· == c)
set_option maxRecDepth 100000 in
theorem count_calls (c : Int) (s sub : ByteArray) (w : World) (hs : s.size ≤ 140737488355328) (hsub : sub.size = 1) (hone : bytesOf sub = [c]) :
    Calls Try.prog 58 #[.string s, .string sub] w fun e w' => e = .returned (.int .i64 (cntFrom c (bytesOf s))) ∧ Below w.heap.size w w' := by
  have HONE := Aside0.mk hone
  clear hone
  go_enter Try.func58, Try.ntmps58
  go_wp2
  go_loopg [5, 6] s.size (fun n vn vi wr => ∃ (i k : Nat), n = s.size - i ∧ i ≤ s.size ∧ k ≤ i ∧ vi = .int .i64 i ∧ vn = .int .i64 k ∧ Aside0 (k + cntFrom c ((bytesOf s).drop i) = cntFrom c (bytesOf s)) ∧ Aside0 (Below w.heap.size w wr))
  case atStart => exact ⟨0, 0, rfl, Nat.zero_le _, Nat.zero_le _, rfl, rfl, ⟨by simp⟩, ⟨Below.refl _ _⟩⟩
  case round =>
    obtain ⟨i, k, rfl, hi, hki, rfl, rfl, HC, HB⟩ := hrel
    have hl : (bytesOf s).length = s.size := bytesOf_length s
    by_cases hlt : i < s.size
    · have hlt' : i < (bytesOf s).length := by omega
      have hsl0 := fun (wx : World) => run_slice_string (P := Try.prog) (w := wx) 9 s .i64 .i64 (i : Int) ((i : Int) + 1) Try.underlying9 (by omega) (by omega) (by omega)
      have hone := HONE.out
      have e1 : ((i : Int)).toNat = i := by omega
      have e2 : ((i : Int) + 1).toNat = i + 1 := by omega
      rw [e1, e2] at hsl0
      have hex : bytesOf (s.extract i (i + 1)) = [(bytesOf s)[i]] := by rw [bytes_extract, take_one_drop hlt']
      have hd : cntFrom c ((bytesOf s).drop i) = (if (bytesOf s)[i] = c then 1 else 0) + cntFrom c ((bytesOf s).drop (i + 1)) := by
        rw [List.drop_eq_getElem_cons hlt']
        unfold cntFrom
        rw [List.countP_cons]
        simp only [beq_iff_eq]
        omega
      have HI := Aside0.mk hi
      have HK := Aside0.mk hki
      by_cases hc : (bytesOf s)[i] = c
      · rw [if_pos hc] at hd
        have hx : s.extract i (i + 1) = sub := bytes_inj (by rw [hex, hone, hc])
        rw [hx] at hsl0
        have hq := toList_beq_self sub
        have HD := Aside0.mk hd
        clear hd hex hx hone hc e1 e2 hl hlt'
        go_wp2
        go_roundg (s.size - (i + 1))
        case rel => exact ⟨i + 1, k + 1, rfl, hlt, by omega, rfl, rfl, ⟨by have := HC.out; have := HD.out; omega⟩, HB⟩
        case measure => omega
      · rw [if_neg hc] at hd
        have hx : s.extract i (i + 1) ≠ sub := fun e => hc (by have := congrArg bytesOf e; rw [hex, hone] at this; simpa using this)
        have hq : ((s.extract i (i + 1)).toList == sub.toList) = false := beq_eq_false_iff_ne.2 (fun e => hx (toList_inj e))
        have HD := Aside0.mk hd
        clear hd hex hx hone hc e1 e2 hl hlt'
        generalize s.extract i (i + 1) = sx at *
        go_wp2
        go_roundg (s.size - (i + 1))
        case rel => exact ⟨i + 1, k, rfl, hlt, by omega, rfl, rfl, ⟨by have := HC.out; have := HD.out; omega⟩, HB⟩
        case measure => omega
    · have hie : i = s.size := by omega
      have h0 : (bytesOf s).drop i = [] := List.drop_eq_nil_of_le (by omega)
      have hk : k = cntFrom c (bytesOf s) := by
        have := HC.out
        rw [h0] at this
        simpa [cntFrom] using this
      subst hk
      go_wp2
      go_ret
      exact ⟨rfl, HB.out⟩
def commonmark_zzCount.f (_ : Nat) (s sub : ByteArray) : Option Int := if s.size ≤ 140737488355328 ∧ sub.size = 1 then some (cntFrom (rd (bytesOf sub) 0) (bytesOf s) : Int) else none
theorem commonmark_zzCount.mono : ∀ a0 a1 k, LeO (commonmark_zzCount.f k a0 a1) (commonmark_zzCount.f (k + 1) a0 a1) := fun _ _ _ => LeO.refl _
theorem commonmark_zzCount.calls (k : Nat) (a0 a1 : ByteArray) (r : Int) (w : World) (h : commonmark_zzCount.f k a0 a1 = some r) :
    Calls Try.prog 58 #[.string a0, .string a1] w fun e w' => e = .returned (.int .i64 r) ∧ Below w.heap.size w w' := by
  unfold commonmark_zzCount.f at h
  split at h
  · rename_i hc
    obtain ⟨h1, h2⟩ := hc
    obtain rfl := Option.some.inj h
    obtain ⟨⟨l⟩⟩ := a1
    obtain ⟨c, rfl⟩ : ∃ c, l = [c] := by
      have : l.length = 1 := h2
      exact List.length_eq_one_iff.1 this
    exact count_calls (rd (bytesOf ⟨⟨[c]⟩⟩) 0) a0 _ w h1 h2 rfl
  · cases h
end Go.Proofs.Ytbhcoeabhdangaa.PVal
