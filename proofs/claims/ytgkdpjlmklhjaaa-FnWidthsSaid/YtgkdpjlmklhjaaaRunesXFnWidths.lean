/- The contracts of Runes in the form that the printed functions take. -/
import Derived.Test.YtgkdpjlmklhjaaaRunes
namespace Go.Proofs.Ytgkdpjlmklhjaaa.PFnWidths
open Go.Proofs.Ytgkdpjlmklhjaaa.Txt Go.Proofs.Ytgkdpjlmklhjaaa.Runes Go.RowKit Go.Proofs.YtgkdpjlmklhjaaaW.PrintWords Go.Proofs.YtgkdpjlmklhjaaaW.PrintLast Go.Proofs.YtgkdpjlmklhjaaaW.PrintMore

def spec_Runes29.f (a0 : ByteArray) : Option Int := if a0.size < 9223372036854775807 then some (Lib.runeCount a0) else none
theorem spec_Runes29.calls (a0 : ByteArray) (r : Int) (w : World) (h : spec_Runes29.f a0 = some r) :
    Calls Try.prog 14 #[.string a0] w fun e w' => e = .returned (.int .i64 r) ∧ Below w.heap.size w w' := by
  unfold spec_Runes29.f at h
  split at h
  case isFalse => cases h
  rename_i hs
  obtain rfl := Option.some.inj h
  exact spec_calls a0 w hs

def utf8_RuneCount.f (l0 : List Int) : Option Int := if l0.length < 9223372036854775807 then (if l0.all (fun x => decide (0 ≤ x ∧ x < 256)) = true then some (Lib.runeCount (strOfNums l0)) else none) else none
theorem utf8_RuneCount.calls (A0 : Option Addr) (c0 : Nat) (l0 : List Int) (r : Int) (w : World) (hr0 : Kd.C (Kd.int .u8) w A0 l0.length l0) (hc0 : l0.length ≤ c0) (h : utf8_RuneCount.f l0 = some r) :
    Calls Try.prog 33 #[.slice A0 l0.length c0] w fun e w' => e = .returned (.int .i64 r) ∧ Below w.heap.size w w' := by
  unfold utf8_RuneCount.f at h
  split at h
  case isFalse => cases h
  rename_i hs
  split at h
  case isFalse => cases h
  rename_i hb
  obtain rfl := Option.some.inj h
  refine count_bytes l0 (fun x hx => ?_) A0 c0 w (Kd.reads_of_C (enc := Value.int .u8) (d := (0 : Int)) (h1 := fun _ => rfl) hr0) hc0 hs
  have := List.all_eq_true.1 hb x hx
  exact of_decide_eq_true this

end Go.Proofs.Ytgkdpjlmklhjaaa.PFnWidths
