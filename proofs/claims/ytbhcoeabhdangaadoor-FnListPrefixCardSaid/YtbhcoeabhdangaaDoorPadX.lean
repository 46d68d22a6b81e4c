/- commonmark.zzPadded, dom.GetAttributeOr, getStartAt; what the listed variables say of a world. -/
import Derived.Test.YtbhcoeabhdangaaDoorShelfN
import Derived.Test.YtbhcoeabhdangaaDoorTxt
import Derived.Test.YtbhcoeabhdangaaDoorEInlx0
import Derived.Lib.AppendIntMem
import Derived.Lib.ItoaMem
namespace Go.Proofs.YtbhcoeabhdangaaDoor.PInl
open Go.Proofs.YtbhcoeabhdangaaDoor.Txt Go.RowKit Go.Proofs.YtbhcoeabhdangaaDoorW.PrintWords Go.Proofs.YtbhcoeabhdangaaDoorW.PrintLast Go.Proofs.YtbhcoeabhdangaaDoorW.PrintMore
set_option linter.unusedVariables false
set_option linter.unusedSimpArgs false

theorem var_below {P : Program} {B g : Nat} {W W' : World} {n : String} {cs : Array Value} (h : Below B W W') (hg : P.globalNamed n = some g) (hgB : g < B) (hv : W.var? P n = some cs) : W'.var? P n = some cs := by
  unfold World.var? at *
  rw [hg] at hv ⊢
  simp only [Option.bind_some] at hv ⊢
  rw [h.block g hgB]
  exact hv
/-- What the walk needs of the listed variables: ErrSyntax's cell, the table of powers. -/
structure SV (w : World) : Prop where
  e : ∃ ev, w.cell? ⟨4, 0, none⟩ = some ev ∧ (ev = .nilIface ∨ ∃ te pe, ev = .iface te pe)
  t : Lib.TabIs Tryd.prog w "internal/strconv.uint64pow10" .u64 Lib.pow10Tab
theorem SV.below {w w' : World} (h : SV w) (hb : Below w.heap.size w w') : SV w' := by
  obtain ⟨ev, h1, h2⟩ := h.e
  refine ⟨⟨ev, pw_cell_below hb h1, h2⟩, ?_⟩
  have hg : Tryd.prog.globalNamed "internal/strconv.uint64pow10" = some 6 := by kernel_rfl
  have hc := World.var?_cell hg h.t 0
  have hlt : 6 < w.heap.size := World.block_lt_of_cell? w ⟨6, 0, none⟩ (u := .int .u64 1) (by rw [hc]; kernel_rfl)
  exact var_below hb hg hlt h.t
/-- Zeros ahead of a numeral. -/
def padS : Nat → ByteArray → ByteArray
  | 0, s => s
  | j + 1, s => (⟨#[48]⟩ : ByteArray) ++ padS j s
theorem padS_size (j : Nat) (s : ByteArray) : (padS j s).size = j + s.size := by
  induction j with
  | zero => simp [padS]
  | succ j ih =>
    show ((⟨#[48]⟩ : ByteArray) ++ padS j s).size = _
    rw [ByteArray.size_append, ih]
    show 1 + (j + s.size) = _
    omega
theorem itoa_calls (n : Int) (h0 : -9223372036854775808 ≤ n) (h1 : n ≤ 9223372036854775807) (w : World) (hv : SV w) :
    Calls Tryd.prog 73 #[.int .i64 n] w fun e w' => e = .returned (.string ⟨(Lib.itoa n).toArray⟩) ∧ Below w.heap.size w w' := by
  refine (Tryd.strconv_Itoa n h0 h1 w hv.t).mono ?_
  rintro e w' ⟨rfl, k, os, rfl⟩
  exact ⟨rfl, Lib.below_grow _ _ (Nat.le_refl _) _ _⟩
theorem count_calls1 (s : ByteArray) (hs : s.size < 4294967281) (ha : ∀ (j : Nat) b, s.data.toList[j]? = some b → b.toNat < 128) (w : World) :
    Calls Tryd.prog 72 #[.string s] w fun e w' => e = .returned (.int .i64 s.size) ∧ Below w.heap.size w w' := by
  refine (Tryd.utf8_RuneCountInString_ascii s w hs ha).mono ?_
  rintro e w' ⟨rfl, rfl⟩
  exact ⟨rfl, below_alloc (Below.refl _ _) _⟩
set_option maxRecDepth 100000 in
set_option maxHeartbeats 1000000 in
theorem padded_calls (n : Int) (wd : Nat) (h0 : 0 ≤ n) (h1 : n ≤ 9223372036854775807) (hwd : wd ≤ 1000) (s : ByteArray) (hs : s = ⟨(Lib.itoa n).toArray⟩) (hsz : s.size ≤ 1000) (w : World) (hv : SV w) :
    Calls Tryd.prog 74 #[.int .i64 n, .int .i64 wd] w fun e w' => e = .returned (.string (padS (wd - s.size) s)) ∧ Below w.heap.size w w' := by
  have CI := Aside0.mk (itoa_calls n (by omega) h1 w hv)
  rw [← hs] at CI
  have hn1 : ¬ n < 0 := by omega
  have hn2 : decide (n < 0) = false := decide_eq_false hn1
  have HWD := Aside0.mk hwd
  have HSZ := Aside0.mk hsz
  clear hs hv h0 h1 hwd hsz
  go_enter Tryd.func74, Tryd.ntmps74
  go_wp2_with (go_at_call 73; go_must (refine CI.out.mono ?_; rintro e w1 ⟨rfl, hb⟩; have HB := Aside0.mk hb; clear hb))
  go_loopg [5] (wd - s.size) (fun k vd wr => ∃ j : Nat, k = wd - s.size - j ∧ j ≤ wd - s.size ∧ vd = .string (padS j s) ∧ Aside0 (Below w.heap.size w wr))
  case atStart => exact ⟨0, rfl, Nat.zero_le _, rfl, HB⟩
  case round =>
    obtain ⟨j, rfl, hj, rfl, HB⟩ := hrel
    have hps := padS_size j s
    have hsm : (padS j s).size ≤ 2000 := by have := HWD.out; have := HSZ.out; omega
    by_cases hlt : j < wd - s.size
    · have q1 : ((padS j s).size : Int) < (wd : Int) := by omega
      have hst : (⟨#[48]⟩ : ByteArray) ++ padS j s = padS (j + 1) s := rfl
      have q2 : wrap64 ((padS j s).size : Int) = ((padS j s).size : Int) := wrap_id (by omega) (by omega)
      have q3 : 1 + (padS j s).size ≤ 9223372036854775807 := by omega
      generalize padS j s = x at *
      go_wp2
      go_roundg (wd - s.size - (j + 1))
      case rel => exact ⟨j + 1, rfl, hlt, by first | rfl | rw [hst], HB⟩
      case measure => omega
    · have hje : j = wd - s.size := by omega
      have q1 : ¬ ((padS j s).size : Int) < (wd : Int) := by omega
      have q2 : wrap64 ((padS j s).size : Int) = ((padS j s).size : Int) := wrap_id (by omega) (by omega)
      have q3 : 0 + (padS j s).size ≤ 9223372036854775807 := by omega
      subst hje
      generalize hgx : padS (wd - s.size) s = x at *
      have q4 : (⟨#[]⟩ : ByteArray) ++ x = x := by
        apply ByteArray.ext
        rw [ByteArray.data_append]
        simp
      go_wp2
      go_ret
      refine ⟨?_, HB.out⟩
      show Ending.returned (.string ((⟨#[]⟩ : ByteArray) ++ x)) = _
      rw [q4]
end Go.Proofs.YtbhcoeabhdangaaDoor.PInl
