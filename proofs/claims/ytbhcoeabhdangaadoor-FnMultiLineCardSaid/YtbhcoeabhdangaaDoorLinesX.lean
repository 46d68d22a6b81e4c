/- textutils.zzLines: a row of slices into the text. -/
import Derived.Test.YtbhcoeabhdangaaDoorSuffX
namespace Go.Proofs.YtbhcoeabhdangaaDoor.PInl
open Go.Proofs.YtbhcoeabhdangaaDoor.Txt Go.RowKit Go.Proofs.YtbhcoeabhdangaaDoorW.PrintWords Go.Proofs.YtbhcoeabhdangaaDoorW.PrintLast Go.Proofs.YtbhcoeabhdangaaDoorW.PrintMore
set_option linter.unusedVariables false
set_option linter.unusedSimpArgs false

/-- A slice into the row at ad: where it begins, its length, its room. -/
def sEnc (ad : Addr) (x : Nat × Nat × Nat) : Value := .slice (some (if x.2.2 = 0 then ad else ad.add x.1)) x.2.1 x.2.2
abbrev kS (ad : Addr) : Kd (Nat × Nat × Nat) := Kd.scalar (sEnc ad) (fun _ => rfl)
theorem infoS : (Tryd.prog.info? 40).map (fun i => (i.zero, i.size, i.bytes)) = some (some (.slice none 0 0), 1, 24) := by kernel_rfl
theorem cut3 (ad : Addr) (n c f j : Nat) (h1 : f ≤ j) (h2 : j ≤ n) (h3 : n ≤ c) (W : World) : (Instr.slice 40 (.slice (some ad) n c) (some (.int .i64 (f : Int))) (some (.int .i64 (j : Int))) (some (.int .i64 (j : Int)))).run Tryd.prog W = .ok (sEnc ad (f, j - f, j - f)) W := by
  obtain ⟨i0, hi0, _, hsz0, _⟩ := info_parts (show (Tryd.prog.info? 5).map (fun i => (i.zero, i.size, i.bytes)) = some (some (.int .u8 0), 1, 1) by kernel_rfl)
  have hel : Tryd.prog.elem 40 = 5 := by simp [Program.elem, Tryd.underlying40]
  have hu : Tryd.prog.underlying 40 = some (.slice (Tryd.prog.elem 40)) := by rw [hel]; exact Tryd.underlying40
  rw [run_slice_lhm W 40 (some ad) n c hu .i64 .i64 .i64 (f : Int) (j : Int) (j : Int) (by omega) (by omega) (by omega) (by omega), hel]
  simp [sizeOf, typeInfo, hi0, hsz0, sliced, Result.andThen, sEnc]
  by_cases e : j = f
  · subst e
    simp
  · have e1 : j - f ≠ 0 := by omega
    simp [e, e1]
theorem cut1 (ad : Addr) (n c f : Nat) (h1 : f ≤ n) (h3 : n ≤ c) (W : World) : (Instr.slice 40 (.slice (some ad) n c) (some (.int .i64 (f : Int))) none none).run Tryd.prog W = .ok (sEnc ad (f, n - f, c - f)) W := by
  obtain ⟨i0, hi0, _, hsz0, _⟩ := info_parts (show (Tryd.prog.info? 5).map (fun i => (i.zero, i.size, i.bytes)) = some (some (.int .u8 0), 1, 1) by kernel_rfl)
  have hel : Tryd.prog.elem 40 = 5 := by simp [Program.elem, Tryd.underlying40]
  have hu : Tryd.prog.underlying 40 = some (.slice (Tryd.prog.elem 40)) := by rw [hel]; exact Tryd.underlying40
  rw [run_slice_l W 40 (some ad) n c hu .i64 (f : Int) (by omega) (by omega), hel]
  simp [sizeOf, typeInfo, hi0, hsz0, sliced, Result.andThen, sEnc]
  by_cases e : c = f
  · subst e
    simp
  · have e1 : c - f ≠ 0 := by omega
    simp [e, e1]
/-- The lines that end ahead of a place, and where the next one begins. -/
def segUp (l : List Int) : Nat → List (Nat × Nat × Nat) × Nat
  | 0 => ([], 0)
  | j + 1 => if rd l (j : Int) = 10 then ((segUp l j).1 ++ [((segUp l j).2, j - (segUp l j).2, j - (segUp l j).2)], j + 1) else segUp l j
theorem segUp_le (l : List Int) (j : Nat) : (segUp l j).2 ≤ j ∧ (segUp l j).1.length ≤ j := by
  induction j with
  | zero => exact ⟨Nat.le_refl _, Nat.le_refl _⟩
  | succ j ih =>
    unfold segUp
    split
    · exact ⟨Nat.le_refl _, by rw [List.length_append, List.length_singleton]; omega⟩
    · exact ⟨by omega, by omega⟩
/-- All lines. -/
def segs (l : List Int) (c : Nat) : List (Nat × Nat × Nat) := (segUp l l.length).1 ++ [((segUp l l.length).2, l.length - (segUp l l.length).2, c - (segUp l l.length).2)]
set_option maxRecDepth 100000 in
set_option maxHeartbeats 1000000 in
theorem lines_calls (ad : Addr) (c : Nat) (l : List Int) (hc : l.length ≤ c) (hn : l.length ≤ 1000) (w : World) (hr : ReadsInt w .u8 (some ad) l.length l) :
    Calls Tryd.prog 43 #[.slice (some ad) l.length c] w fun e w' => ∃ v, e = .returned v ∧ (kS ad).R 40 w' w.heap.size (fun _ => True) v (segs l c) ∧ Below w.heap.size w w' := by
  have HR := Aside0.mk hr
  have HC3 := Aside0.mk (fun f j (h1 : f ≤ j) (h2 : j ≤ l.length) => cut3 ad l.length c f j h1 h2 hc)
  have HC1 := Aside0.mk (fun f (h1 : f ≤ l.length) => cut1 ad l.length c f h1 hc)
  clear hr
  go_enter Tryd.func43, Tryd.ntmps43
  go_wp2
  go_loopg [3, 4, 5] l.length (fun n vo vf vi wr => ∃ j : Nat, n = l.length - j ∧ j ≤ l.length ∧ vi = .int .i64 j ∧ vf = .int .i64 ((segUp l j).2 : Nat) ∧ Aside0 ((kS ad).R 40 wr w.heap.size (fun _ => True) vo (segUp l j).1) ∧ Aside0 (Below w.heap.size w wr))
  case atStart => exact ⟨0, rfl, Nat.zero_le _, rfl, rfl, ⟨Kd.R_nil _ _ _ _ _⟩, ⟨Below.refl _ _⟩⟩
  case round =>
    obtain ⟨j, rfl, hj, rfl, rfl, HO, HB⟩ := hrel
    have hle := segUp_le l j
    by_cases hlt : j < l.length
    · have rj := fun (wx : World) (hb : Below w.heap.size w wx) => (HR.out.below hb).at_ (j : Int) (by omega) (by omega)
      obtain ⟨ad', ha, hcell⟩ := rj wr HB.out
      obtain rfl := Option.some.inj ha
      rw [Int.toNat_natCast] at hcell
      have hst : segUp l (j + 1) = if rd l (j : Int) = 10 then ((segUp l j).1 ++ [((segUp l j).2, j - (segUp l j).2, j - (segUp l j).2)], j + 1) else segUp l j := rfl
      have hwj : wrap64 ((j : Int) + 1) = ((j + 1 : Nat) : Int) := by rw [wrap_id (by omega) (by omega)]; omega
      have hcut := HC3.out (segUp l j).2 j hle.1 (by omega)
      generalize hq : segUp l j = q at *
      obtain ⟨q, f⟩ := q
      simp only at hst hcut hle HO ⊢
      have HQ := Aside0.mk hq
      have HST := Aside0.mk hst
      clear hq hst rj
      by_cases h10 : rd l (j : Int) = 10
      · rw [if_pos h10] at HST
        rw [h10] at hcell
        clear h10
        obtain ⟨a1, ha1⟩ : ∃ a1, sEnc ad (f, j - f, j - f) = .slice (some a1) (j - f) (j - f) := ⟨_, rfl⟩
        rw [ha1] at hcut
        have HA1 := Aside0.mk ha1
        clear ha1
        go_wp2_with ((with_reducible refine gate_builtin (b := .append) (xs := #[.tmp 17, .tmp 23]) rfl ?_); at_builtin; go_must (refine Kd.R_append (kS ad) (w0 := w) w.heap.size rfl (.tmp 17) (.tmp 23) 60 40 (.slice none 0 0) 24 rfl Tryd.underlying60 infoS rfl Nat.zero_lt_one (by decide) u3 q (f, j - f, j - f) [.slice (some a1) (j - f) (j - f)] (fun _ => True) (fun _ => False) rfl rfl (congrArg (fun v => [v]) HA1.out.symm) (fun _ h => h.elim) (fun _ _ => trivial) HO.out HB.out HB.out.size (by omega) ?_; intro v1 w2 ho hb hg _; have HO2 := Aside0.mk ho; have HB2 := Aside0.mk hb; clear ho hb hg))
        go_roundg (l.length - (j + 1))
        case rel => exact ⟨j + 1, rfl, hlt, by first | rfl | rw [hwj], by rw [HST.out]; first | rfl | rw [hwj], ⟨by rw [HST.out]; exact HO2.out⟩, HB2⟩
        case measure => omega
      · rw [if_neg h10] at HST
        have h10b : (rd l (j : Int) == 10) = false := beq_eq_false_iff_ne.2 h10
        clear h10
        generalize rd l (j : Int) = x at *
        go_wp2
        go_roundg (l.length - (j + 1))
        case rel => exact ⟨j + 1, rfl, hlt, by first | rfl | rw [hwj], by rw [HST.out], ⟨by rw [HST.out]; exact HO.out⟩, HB⟩
        case measure => omega
    · obtain rfl : j = l.length := by omega
      have hcut := HC1.out (segUp l l.length).2 hle.1
      have hsg : segs l c = (segUp l l.length).1 ++ [((segUp l l.length).2, l.length - (segUp l l.length).2, c - (segUp l l.length).2)] := rfl
      have HSG := Aside0.mk hsg
      clear hsg
      generalize segUp l l.length = q at *
      obtain ⟨q, f⟩ := q
      simp only at hcut hle HO HSG ⊢
      obtain ⟨a1, ha1⟩ : ∃ a1, sEnc ad (f, l.length - f, c - f) = .slice (some a1) (l.length - f) (c - f) := ⟨_, rfl⟩
      rw [ha1] at hcut
      have HA1 := Aside0.mk ha1
      clear ha1
      go_wp2_with ((with_reducible refine gate_builtin (b := .append) (xs := #[.tmp 27, .tmp 31]) rfl ?_); at_builtin; go_must (refine Kd.R_append (kS ad) (w0 := w) w.heap.size rfl (.tmp 27) (.tmp 31) 60 40 (.slice none 0 0) 24 rfl Tryd.underlying60 infoS rfl Nat.zero_lt_one (by decide) u3 q (f, l.length - f, c - f) [.slice (some a1) (l.length - f) (c - f)] (fun _ => True) (fun _ => False) rfl rfl (congrArg (fun v => [v]) HA1.out.symm) (fun _ h => h.elim) (fun _ _ => trivial) HO.out HB.out HB.out.size (by omega) ?_; intro v1 w2 ho hb hg _; have HO2 := Aside0.mk ho; have HB2 := Aside0.mk hb; clear ho hb hg))
      go_ret
      exact ⟨_, rfl, by rw [HSG.out]; exact HO2.out, HB2.out⟩
end Go.Proofs.YtbhcoeabhdangaaDoor.PInl
