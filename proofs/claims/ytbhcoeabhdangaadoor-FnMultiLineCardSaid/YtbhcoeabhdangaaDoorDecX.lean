/- utf8.DecodeRune at a byte of ASCII. -/
import Derived.Test.YtbhcoeabhdangaaDoorTxt
import Derived.Test.YtbhcoeabhdangaaDoorProg
import Derived.Deep.DeepMust
import Derived.Tactics2
namespace Go.Proofs.YtbhcoeabhdangaaDoor.PInl
open Go.Proofs.YtbhcoeabhdangaaDoor.Txt Go.RowKit Go.Proofs.YtbhcoeabhdangaaDoorW.PrintWords Go.Proofs.YtbhcoeabhdangaaDoorW.PrintLast Go.Proofs.YtbhcoeabhdangaaDoorW.PrintMore
set_option linter.unusedVariables false
set_option linter.unusedSimpArgs false

theorem dec_calls (ad : Addr) (n c : Nat) (x : Int) (w : World) (h0 : 0 ≤ x) (h1 : x < 128) (hn : 0 < n) (hc : w.cell? ad = some (.int .u8 x)) :
    Calls Tryd.prog 39 #[.slice (some ad) n c] w fun e w' => e = .returned (.tuple #[.int .i32 x, .int .i64 1]) ∧ w' = w := by
  have h2 : (0 : Int) < (n : Int) := by omega
  have h3 : wrap32 x = x := by unfold wrap32; omega
  go_enter Tryd.func39, Tryd.ntmps39
  go_wp2
  go_loop [8] (fun i => i = .int .i64 0) (fun _ => 0)
  case atStart => rfl
  case round =>
    subst hrel
    go_wp2
    go_ret2
    exact ⟨rfl, rfl⟩
def utf8_DecodeRune.f (_ : Nat) (l0 : List Int) : Option (Int × Int) := match l0 with | [] => none | x :: _ => if 0 ≤ x ∧ x < 128 then some (x, 1) else none
theorem utf8_DecodeRune.mono : ∀ l0 k, LeO (utf8_DecodeRune.f k l0) (utf8_DecodeRune.f (k + 1) l0) := fun _ _ => LeO.refl _
theorem utf8_DecodeRune.calls (k : Nat) (A0 : Option Addr) (c0 : Nat) (l0 : List Int) (r1 r2 : Int) (w : World) (hr0 : Kd.C (Kd.int .u8) w A0 l0.length l0) (hc0 : l0.length ≤ c0) (h : utf8_DecodeRune.f k l0 = some (r1, r2)) :
    Calls Tryd.prog 39 #[.slice A0 l0.length c0] w fun e w' => e = .returned (.tuple #[.int .i32 r1, .int .i64 r2]) ∧ Below w.heap.size w w' := by
  cases l0 with
  | nil => cases h
  | cons x l =>
    unfold utf8_DecodeRune.f at h
    simp only at h
    split at h
    · rename_i hx
      obtain ⟨rfl, rfl⟩ := Prod.mk.inj (Option.some.inj h)
      obtain ⟨ad, cc, rfl, hcl, hK, hcc⟩ := Kd.C_get hr0 0 0 (by omega) (by simp)
      have hx0 := hcc 0 (.int .u8 x) (by rw [hK]; rfl)
      have e0 : ad.add 0 = ad := by unfold Addr.add; simp
      have hx1 : w.cell? ad = some (.int .u8 x) := by
        rw [← e0]
        simpa using hx0
      refine (dec_calls ad _ c0 x w hx.1 hx.2 (by simp) hx1).mono ?_
      rintro e w' ⟨rfl, rfl⟩
      exact ⟨rfl, Below.refl _ _⟩
    · cases h
end Go.Proofs.YtbhcoeabhdangaaDoor.PInl
