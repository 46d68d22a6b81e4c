/- What laws.inlineASCII leaves of a text: at most 300 bytes, each a printed one, a tab or a line feed. For texts of less than 2^47 bytes. -/
import Derived.Test.YtbhcoeabhdangaaDoorEInlx1
import Derived.Test.YtbhcoeabhdangaaDoorTxt
namespace Go.Proofs.YtbhcoeabhdangaaDoor.PInl
open Go.Proofs.YtbhcoeabhdangaaDoor.Txt Go.RowKit Go.Proofs.YtbhcoeabhdangaaDoorW.PrintWords Go.Proofs.YtbhcoeabhdangaaDoorW.PrintLast Go.Proofs.YtbhcoeabhdangaaDoorW.PrintMore

def Asc (l : List Int) : Prop := ∀ x ∈ l, x = 9 ∨ x = 10 ∨ (32 ≤ x ∧ x ≤ 126)
theorem Asc.byt {l : List Int} (h : Asc l) : Byt l := fun x hx => by
  have := h x hx
  omega
theorem Asc.snoc {l : List Int} {x : Int} (h : Asc l) (hx : x = 9 ∨ x = 10 ∨ (32 ≤ x ∧ x ≤ 126)) : Asc (l ++ [x]) := fun y hy => by
  rcases List.mem_append.1 hy with h1 | h1
  · exact h y h1
  · obtain rfl : y = x := by simpa using h1
    exact hx

theorem ascii_loop (s : ByteArray) (N : Int) (hN : N ≤ s.size) (hN3 : N ≤ 300) (d : Nat) : ∀ (k : Nat) (i : Int) (acc : List Int), 0 ≤ i → i ≤ N → N - i = d → d < k → (acc.length : Int) ≤ i → Asc acc →
    ∃ r, laws_inlineASCII.l0 k s acc N i = some (strOfNums r) ∧ (r.length : Int) ≤ N ∧ Asc r := by
  induction d with
  | zero =>
    intro k i acc h0 h1 hd hk ha hA
    obtain ⟨k, rfl⟩ : ∃ m, k = m + 1 := ⟨k - 1, by omega⟩
    have hx : ¬ i < N := by omega
    exact ⟨acc, by simp only [laws_inlineASCII.l0]; rw [if_neg hx], by omega, hA⟩
  | succ d ih =>
    intro k i acc h0 h1 hd hk ha hA
    obtain ⟨k, rfl⟩ : ∃ m, k = m + 1 := ⟨k - 1, by omega⟩
    have hlt : i < N := by omega
    have hls : i < (s.size : Int) := by omega
    have hacc : acc.length < 140737488355328 := by omega
    have hw : wrap64 (i + 1) = i + 1 := wrap_id (by omega) (by omega)
    simp only [laws_inlineASCII.l0, hw]
    rw [if_pos hlt, if_pos h0, if_pos hls]
    repeat' split
    all_goals first
      | exact ih k (i + 1) acc (by omega) (by omega) (by omega) (by omega) (by omega) hA
      | exact ih k (i + 1) (acc ++ [bt s i]) (by omega) (by omega) (by omega) (by omega) (by simp; omega) (hA.snoc (by omega))
      | (exfalso; omega)

theorem ascii (s : ByteArray) (hs : s.size ≤ 140737488351232) : ∃ r, (∀ k, 301 < k → laws_inlineASCII.f k s = some (strOfNums r)) ∧ r.length ≤ 300 ∧ Asc r := by
  have hN : mn (s.size : Int) 300 ≤ s.size := by unfold mn; omega
  have hN3 : mn (s.size : Int) 300 ≤ 300 := by unfold mn; omega
  have hN0 : 0 ≤ mn (s.size : Int) 300 := by unfold mn; omega
  obtain ⟨r, h, hl, hA⟩ := ascii_loop s _ hN hN3 (mn (s.size : Int) 300).toNat 302 0 [] (by omega) (by omega) (by omega) (by omega) (by simp) (fun _ h => by cases h)
  refine ⟨r, fun k hk => ?_, by omega, hA⟩
  exact at_rounds (fun k => laws_inlineASCII.mono s k) (show 302 ≤ k by omega) h

end Go.Proofs.YtbhcoeabhdangaaDoor.PInl
