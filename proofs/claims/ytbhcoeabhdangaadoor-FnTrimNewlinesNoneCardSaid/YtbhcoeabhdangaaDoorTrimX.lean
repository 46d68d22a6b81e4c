/- impl.TrimNewlines, over the printed walk of TrimConsecutiveNewlines (module TrimP). -/
import Derived.Test.YtbhcoeabhdangaaDoorTrimP
import Derived.Test.YtbhcoeabhdangaaDoorTxt
namespace Go.Proofs.YtbhcoeabhdangaaDoor.PInl
open Go.Proofs.YtbhcoeabhdangaaDoor.Txt Go.RowKit Go.Proofs.YtbhcoeabhdangaaDoorW.PrintWords Go.Proofs.YtbhcoeabhdangaaDoorW.PrintLast Go.Proofs.YtbhcoeabhdangaaDoorW.PrintMore
set_option linter.unusedVariables false
set_option linter.unusedSimpArgs false

theorem trim_any (k : Nat) (A0 : Option Addr) (n c0 : Nat) (l0 : List Int) (hn : l0.length = n) (r : List Int) (w : World) (hr0 : Kd.C (Kd.int .u8) w A0 n l0) (hc0 : n ≤ c0) (h : textutils_TrimConsecutiveNewlines.f k l0 = some r) :
    Calls Tryd.prog 27 #[.slice A0 n c0] w fun e w' => ∃ v0_ : Value, e = .returned (v0_) ∧ Kd.R (Kd.int .u8) 5 w' w.heap.size (fun _ => True) v0_ r ∧ Below w.heap.size w w' := by
  subst hn
  exact textutils_TrimConsecutiveNewlines.calls k A0 c0 l0 r w hr0 hc0 h
def impl_TrimNewlines.f (k : Nat) (a0 : ByteArray) : Option ByteArray := if a0.size ≤ 2147483647 then (textutils_TrimConsecutiveNewlines.f k (bytesOf a0)).bind fun l => some (strOfNums l) else none
theorem impl_TrimNewlines.mono : ∀ a0 k, LeO (impl_TrimNewlines.f k a0) (impl_TrimNewlines.f (k + 1) a0) := by
  intro a0 k
  unfold impl_TrimNewlines.f
  split
  · exact LeO.bind (textutils_TrimConsecutiveNewlines.mono _ _) (fun _ => LeO.refl _)
  · exact LeO.refl _
theorem impl_TrimNewlines.calls (k : Nat) (a0 : ByteArray) (r : ByteArray) (w : World) (h : impl_TrimNewlines.f k a0 = some r) :
    Calls Tryd.prog 13 #[.string a0] w fun e w' => e = .returned (.string r) ∧ Below w.heap.size w w' := by
  unfold impl_TrimNewlines.f at h
  split at h
  case isFalse => cases h
  rename_i hs
  obtain ⟨l, hl, h2⟩ := Option.bind_eq_some_iff.1 h
  obtain rfl := Option.some.inj h2
  have kb := fun W => print_bytes (P := Tryd.prog) 9 40 5 Tryd.underlying9 Tryd.underlying40 Tryd.underlying5 a0 W
  have H := Aside0.mk hl
  clear h h2 hl
  go_enter Tryd.func13, Tryd.ntmps13
  go_wp2_with fail
  refine (trim_any k _ _ _ _ (bytesOf_length a0) l _ (Kd.C_of_reads (d := (0 : Int)) (bytes_reads w 5 a0 (by omega))) (grownCap_ge _ _ _ _) H.out).mono ?_
  rintro e w' ⟨v0, rfl, hR, hB⟩
  have hown := own_string (P := Tryd.prog) Tryd.underlying40 Tryd.underlying5 Tryd.underlying9 (Kd.own_of_R hR)
  go_wp2
  go_ret
  exact ⟨rfl, below_step (bytes_below (Below.refl _ _) (Nat.le_refl _) 5 a0) hB⟩
end Go.Proofs.YtbhcoeabhdangaaDoor.PInl
