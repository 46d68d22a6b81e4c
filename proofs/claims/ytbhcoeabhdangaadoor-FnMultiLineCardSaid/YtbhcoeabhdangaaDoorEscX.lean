/- textutils.EscapeMultiLine, impl.MultiLine. -/
import Derived.Test.YtbhcoeabhdangaaDoorLinesX
import Derived.Test.YtbhcoeabhdangaaDoorKeep
import Derived.Laws.MakeOwn
namespace Go.Proofs.YtbhcoeabhdangaaDoor.PInl
open Go.Proofs.YtbhcoeabhdangaaDoor.Txt Go.Proofs.YtbhcoeabhdangaaDoor.Keep Go.RowKit Go.Proofs.YtbhcoeabhdangaaDoorW.PrintWords Go.Proofs.YtbhcoeabhdangaaDoorW.PrintLast Go.Proofs.YtbhcoeabhdangaaDoorW.PrintMore
set_option linter.unusedVariables false
set_option linter.unusedSimpArgs false

/-- A line's text. -/
def sx (l : List Int) (x : Nat × Nat × Nat) : List Int := (l.drop x.1).take x.2.1
theorem seg_ok (l : List Int) (c : Nat) (hc : l.length ≤ c) : (∀ x ∈ segs l c, x.1 + x.2.1 ≤ l.length ∧ x.2.1 ≤ x.2.2) ∧ (segs l c).length ≤ l.length + 1 := by
  have h : ∀ j, j ≤ l.length → ∀ x ∈ (segUp l j).1, x.1 + x.2.1 ≤ l.length ∧ x.2.1 ≤ x.2.2 := by
    intro j
    induction j with
    | zero => intro _ x hx; simp [segUp] at hx
    | succ j ih =>
      intro hj x hx
      unfold segUp at hx
      have hle := (segUp_le l j).1
      split at hx
      · rcases List.mem_append.1 hx with h | h
        · exact ih (by omega) x h
        · obtain rfl := List.mem_singleton.1 h
          exact ⟨by show (segUp l j).2 + (j - (segUp l j).2) ≤ _; omega, Nat.le_refl _⟩
      · exact ih (by omega) x hx
  have hl := segUp_le l l.length
  refine ⟨fun x hx => ?_, ?_⟩
  · rcases List.mem_append.1 hx with h' | h'
    · exact h _ (Nat.le_refl _) x h'
    · obtain rfl := List.mem_singleton.1 h'
      exact ⟨by show (segUp l l.length).2 + (l.length - (segUp l l.length).2) ≤ _; omega, by show l.length - (segUp l l.length).2 ≤ c - (segUp l l.length).2; omega⟩
  · unfold segs
    rw [List.length_append, List.length_singleton]
    omega
theorem seg_reads {w : World} {ad : Addr} {l : List Int} (hr : ReadsInt w .u8 (some ad) l.length l) (x : Nat × Nat × Nat) (h1 : x.1 + x.2.1 ≤ l.length) (h2 : x.2.1 ≤ x.2.2) :
    ∃ a1, sEnc ad x = .slice (some a1) x.2.1 x.2.2 ∧ ReadsInt w .u8 (some a1) (sx l x).length (sx l x) ∧ (sx l x).length = x.2.1 := by
  obtain ⟨o, n, c⟩ := x
  simp only at h1 h2
  have hl : (sx l (o, n, c)).length = n := by
    show ((l.drop o).take n).length = n
    rw [List.length_take, List.length_drop]
    omega
  refine ⟨_, rfl, ⟨rfl, by rw [hl]; have := hr.2.1; omega, fun h0 => ⟨_, rfl, fun j hj => ?_⟩⟩, hl⟩
  rw [hl] at hj
  have hc0 : ¬ c = 0 := by omega
  simp only [if_neg hc0]
  obtain ⟨a2, ha, hcell⟩ := hr.at_ ((o + j : Nat) : Int) (by omega) (by omega)
  obtain rfl := Option.some.inj ha
  rw [Int.toNat_natCast] at hcell
  rw [add_add, hcell]
  congr 2
  have e : (sx l (o, n, c)).getD j 0 = l[o + j]'(by omega) := by
    show ((l.drop o).take n).getD j 0 = _
    rw [List.getD_eq_getElem?_getD, List.getElem?_take_of_lt hj, List.getElem?_drop, List.getElem?_eq_getElem (by omega)]
    rfl
  rw [rd_get (by omega)]
  exact e.symm
/-- What a line becomes. -/
def escP (last : Bool) (m : List Int) : List Int := if tl m = [] then [92, 10] else if last = true then tl m else tl m ++ (if hsuf (tl m) = true then [10] else [32, 32, 10])
/-- What the first j lines become. -/
def escUp (ss : List (List Int)) : Nat → List Int
  | 0 => []
  | j + 1 => escUp ss j ++ escP (decide (j + 1 = ss.length)) (ss.getD j [])
theorem escUp_len (ss : List (List Int)) (B : Nat) (h : ∀ m ∈ ss, m.length ≤ B) (j : Nat) : (escUp ss j).length ≤ j * (B + 3) := by
  have ht : ∀ m : List Int, (tl m).length ≤ m.length := fun m => by
    rcases idxS_drop m 0 with ⟨_, h2⟩ | ⟨k, _, _, h2⟩
    · rw [h2]; simp
    · rw [h2, List.length_drop]; omega
  induction j with
  | zero => simp [escUp]
  | succ j ih =>
    have hm : (ss.getD j []).length ≤ B := by
      rw [List.getD_eq_getElem?_getD]
      cases hx : ss[j]? with
      | none => simp
      | some m => exact h m (List.mem_of_getElem? hx)
    have hp : (escP (decide (j + 1 = ss.length)) (ss.getD j [])).length ≤ B + 3 := by
      generalize ss.getD j [] = m at hm
      have := ht m
      unfold escP
      split
      · simp
      · split
        · omega
        · rw [List.length_append]
          split <;> simp <;> omega
    have e : escUp ss (j + 1) = escUp ss j ++ escP (decide (j + 1 = ss.length)) (ss.getD j []) := rfl
    rw [e, List.length_append, Nat.succ_mul]
    omega
theorem parts_grown {ad : Addr} {wr w1 : World} {vo vp : Value} {S : List (Nat × Nat × Nat)} {b base n : Nat} {xs : List Value} (hp : (kS ad).R 40 wr base (fun _ => True) vp S) (ho : wr.ownsRow b 5 1 vo n xs) (hg : wr.grownBy w1 vo.ownBlock) : (kS ad).R 40 w1 base (fun _ => True) vp S :=
  Kd.R_grown2 hp rfl hg (fun k hk e => by
    rcases own_type_ne ho (Kd.own_of_R hp) (by decide) with h | h
    · rw [h] at hk; cases hk
    · exact h (hk.trans e))
theorem infoU : (Tryd.prog.info? 5).map (fun i => (i.zero, i.size, i.bytes)) = some (some (.int .u8 0), 1, 1) := by kernel_rfl
/-- What EscapeMultiLine makes of a text. -/
def escL (l : List Int) (c : Nat) : List Int := if (segs l c).length = 1 then l else escUp ((segs l c).map (sx l)) (segs l c).length
set_option maxRecDepth 100000 in
set_option maxHeartbeats 4000000 in
theorem esc_calls (ad : Addr) (c : Nat) (l : List Int) (hc : l.length ≤ c) (hn : l.length ≤ 1000) (ha : A7 l) (w : World) (hr : ReadsInt w .u8 (some ad) l.length l) (hcv : ∀ wx, Below w.heap.size w wx → (convert 40 9 (.slice (some ad) l.length c)).run Tryd.prog wx = .ok (.string (strOfNums l)) wx) :
    Calls Tryd.prog 31 #[.slice (some ad) l.length c] w fun e w' => ∃ v, e = .returned v ∧ (convert 40 9 v).run Tryd.prog w' = .ok (.string (strOfNums (escL l c))) w' ∧ Below w.heap.size w w' := by
  have HCV := Aside0.mk hcv
  clear hcv
  have HLC := Aside0.mk (lines_calls ad c l hc hn w hr)
  have HR := Aside0.mk hr
  obtain ⟨hok, hsl⟩ := seg_ok l c hc
  have HOK := Aside0.mk hok
  have hup := escUp_len ((segs l c).map (sx l)) 1000 (fun m hm => by
    obtain ⟨x, hx, rfl⟩ := List.mem_map.1 hm
    show ((l.drop x.1).take x.2.1).length ≤ 1000
    rw [List.length_take, List.length_drop]
    omega)
  have HUP := Aside0.mk hup
  have hne : 0 < (segs l c).length := by unfold segs; rw [List.length_append]; simp
  have HA := Aside0.mk ha
  have HHC := Aside0.mk hc
  unfold escL
  clear hr hok hup ha
  generalize segs l c = S at *
  by_cases h1 : S.length = 1
  · rw [if_pos h1]
    go_enter Tryd.func31, Tryd.ntmps31
    go_wp2_with (go_at_call 43; go_must (refine HLC.out.mono ?_; rintro e w1 ⟨v, rfl, hv, hb⟩; obtain ⟨A2, c2, rfl, hc2, hC2⟩ := Kd.R_reads hv; have HB := Aside0.mk hb; clear hv hb; have h1i : ((S.length : Int) == 1) = true := beq_iff_eq.2 (by omega)))
    go_ret
    exact ⟨_, rfl, HCV.out _ HB.out, HB.out⟩
  · rw [if_neg h1]
    have h1i : ((S.length : Int) == 1) = false := beq_eq_false_iff_ne.2 (by omega)
    have h1j : ¬ ((S.length : Int) = 1) := by omega
    have hl64 : l.length ≤ maxLen := by unfold maxLen; omega
    go_enter Tryd.func31, Tryd.ntmps31
    go_wp2_with (go_at_call 43; go_must (refine HLC.out.mono ?_; rintro e w1 ⟨v, rfl, hv, hb⟩; obtain ⟨A2, c2, rfl, hc2, _⟩ := Kd.R_reads hv; have HB1 := Aside0.mk hb; have HP1 := Aside0.mk hv; clear hv hb; obtain ⟨w3, hmk, ho3, hg3⟩ := run_make_own (P := Tryd.prog) w1 w.heap.size 40 5 (Tryd.prog.info? 5).get! (.int .u8 0) 1 Tryd.underlying40 (by kernel_rfl) (by kernel_rfl) (by kernel_rfl) .i64 .i64 l.length (by rw [show ((Tryd.prog.info? 5).get!).bytes = 1 from by kernel_rfl]; omega) hl64 HB1.out.size; have HO3 := Aside0.mk ho3; have HB3 := Aside0.mk (Below.grown HB1.out hg3 HB1.out.size (fun _ h => by cases h)); have HG3 := Aside0.mk (Below.grown (Below.refl w1.heap.size w1) hg3 (Nat.le_refl _) (fun _ h => by cases h)); clear ho3 hg3))
    go_loopg [4, 19] S.length (fun n vo vi wr => ∃ j : Nat, n = S.length - j ∧ j ≤ S.length ∧ vi = .int .i64 j ∧ Aside0 (wr.ownsRow w.heap.size 5 1 vo (escUp (S.map (sx l)) j).length (nums .u8 (escUp (S.map (sx l)) j))) ∧ Aside0 (Below w.heap.size w wr) ∧ Aside0 ((kS ad).R 40 wr w.heap.size (fun _ => True) (.slice A2 S.length c2) S))
    case atStart => exact ⟨0, rfl, Nat.zero_le _, rfl, HO3, HB3, ⟨Kd.R_below HP1.out HG3.out⟩⟩
    case round =>
      obtain ⟨j, rfl, hj, rfl, HO, HB, HP⟩ := hrel
      obtain ⟨_, _, hCC⟩ := Kd.R_reads' HP.out
      have HCC := Aside0.mk hCC
      clear hCC
      by_cases hlt : j < S.length
      · obtain ⟨ad', cc', rfl, hcl, hK, hcc⟩ := Kd.C_get HCC.out (0, 0, 0) (j : Int) (by omega) (by omega)
        have he : S.getD j (0, 0, 0) = S[j] := by simp [List.getD_eq_getElem?_getD, List.getElem?_eq_getElem hlt]
        have hx := hcc 0 (sEnc ad (S.getD j (0, 0, 0))) (by rw [hK]; rfl)
        have hsz1 : (kS ad).sz = 1 := rfl
        simp only [Int.toNat_natCast, hsz1, Nat.mul_one, Nat.add_zero, he] at hx
        obtain ⟨hb1, hb2⟩ := HOK.out S[j] (List.getElem_mem hlt)
        obtain ⟨a0, hse, hsr, hsl0⟩ := seg_reads (HR.out.below HB.out) S[j] hb1 hb2
        rw [hse] at hx
        have hup : escUp (S.map (sx l)) (j + 1) = escUp (S.map (sx l)) j ++ escP (decide (j + 1 = S.length)) (sx l S[j]) := by
          show escUp (S.map (sx l)) j ++ escP (decide (j + 1 = (S.map (sx l)).length)) ((S.map (sx l)).getD j []) = _
          rw [List.length_map]
          congr 2
          simp [List.getD_eq_getElem?_getD, List.getElem?_eq_getElem hlt]
        have HST := Aside0.mk hup
        have HLN := Aside0.mk (show (escUp (S.map (sx l)) j).length ≤ 2000000 by have := HUP.out j; have : j * (1000 + 3) ≤ 1001 * 1003 := Nat.mul_le_mul (by omega) (by omega); omega)
        have hwj : wrap64 ((j : Int) + 1) = ((j + 1 : Nat) : Int) := by rw [wrap_id (by omega) (by omega)]; omega
        have hm0 : (sx l S[j]).length ≤ 1000 := by omega
        have HLF := Aside0.mk (fun (wx : World) (hwx : ReadsInt wx .u8 (some a0) (sx l S[j]).length (sx l S[j])) => left_calls (some a0) S[j].2.2 (sx l S[j]) (by omega) (by omega) (fun y hy => HA.out y (List.mem_of_mem_drop (List.mem_of_mem_take hy))) wx hwx)
        have HSR := Aside0.mk hsr
        rw [hsl0] at HLF
        generalize hmm : sx l S[j] = m0 at *
        generalize escUp (S.map (sx l)) j = xs at *
        have HJL := Aside0.mk (show S.length ≤ 1001 by omega)
        clear hcl hK hcc he hsz1 hb1 hb2 hse hsr hup hmm
        generalize S[j].2.1 = n0 at *
        generalize S[j].2.2 = c0 at *
        have kc := mark_two wr
        have hlt1 : (j : Int) < (S.length : Int) := by omega
        have htm : (tl m0).length ≤ 1000 := by
          rcases idxS_drop m0 0 with ⟨_, h2⟩ | ⟨k, _, _, h2⟩
          · rw [h2]; simp
          · rw [h2, List.length_drop]; omega
        have HTM := Aside0.mk htm
        have HEP : Aside0 (escP (decide (j + 1 = S.length)) m0 = if tl m0 = [] then [92, 10] else if decide (j + 1 = S.length) = true then tl m0 else tl m0 ++ (if hsuf (tl m0) = true then [10] else [32, 32, 10])) := ⟨rfl⟩
        have HLF2 := Aside0.mk (HLF.out wr (by rw [hsl0] at HSR; exact HSR.out))
        clear htm HLF hsl0 hm0
        have hsb : wrap64 ((S.length : Int) - 1) = (S.length : Int) - 1 := wrap_id (by omega) (by omega)
        generalize htl : tl m0 = m at *
        clear htl
        by_cases hm : m = []
        · subst hm
          rw [if_pos rfl] at HEP
          go_wp2_with (first
            | (go_at_call 44; go_must (refine HLF2.out.mono ?_; rintro e w4 ⟨A4, c4, rfl, hr4, hc4, rfl⟩; have HM := Aside0.mk hr4; have HMC := Aside0.mk hc4; clear hr4 hc4))
            | ((with_reducible refine gate_builtin (b := .append) (xs := #[.tmp 30, .const (.string ⟨#[92, 10]⟩)]) rfl ?_); at_builtin; go_must (refine print_append_str (w0 := w) w.heap.size rfl (.tmp 30) _ 40 9 5 rfl Tryd.underlying40 Tryd.underlying9 infoU _ (xs) ⟨#[92, 10]⟩ rfl rfl HO.out HB.out HB.out.size (by have := HLN.out; have := HTM.out; rw [show (⟨#[92, 10]⟩ : ByteArray).size = 2 from rfl]; first | omega | (rw [List.length_append]; omega)) ?_; intro v1 w6 ho hb hg; have n1 := Aside0.mk ho; have n2 := Aside0.mk hb; have n3 := Aside0.mk (parts_grown HP.out HO.out hg); clear HO HB HP ho hb hg; have HO := n1; have HB := n2; have HP := n3; clear n1 n2 n3)))
          go_roundg (S.length - (j + 1))
          case rel => exact ⟨j + 1, rfl, hlt, by first | rfl | rw [hwj], ⟨by rw [HST.out, HEP.out]; exact HO.out⟩, HB, HP⟩
          case measure => omega
        · rw [if_neg hm] at HEP
          have hm1 : ((m.length : Int) == 0) = false := beq_eq_false_iff_ne.2 (fun e => hm (List.eq_nil_of_length_eq_zero (by omega)))
          have hm2 : ¬ ((m.length : Int) = 0) := fun e => hm (List.eq_nil_of_length_eq_zero (by omega))
          by_cases hlast : j + 1 = S.length
          · rw [decide_eq_true hlast] at HST
            rw [decide_eq_true hlast, if_pos rfl] at HEP
            have hl1 : ((j : Int) == (S.length : Int) - 1) = true := beq_iff_eq.2 (by omega)
            have HLA := Aside0.mk hlast
            clear hlast
            go_wp2_with (first
              | (go_at_call 44; go_must (refine HLF2.out.mono ?_; rintro e w4 ⟨A4, c4, rfl, hr4, hc4, rfl⟩; have HM := Aside0.mk hr4; have HMC := Aside0.mk hc4; clear hr4 hc4))
              | ((with_reducible refine gate_builtin (b := .append) (xs := #[.tmp 38, .tmp 39]) rfl ?_); at_builtin; go_must (refine append_row_keep (w0 := w) w.heap.size rfl (.tmp 38) (.tmp 39) 40 5 .u8 1 rfl Tryd.underlying40 infoU (by decide) _ xs m _ m.length _ rfl rfl HO.out HM.out HB.out HB.out.size (by have := HLN.out; have := HTM.out; omega) ?_; intro v1 w5 ho _ hb hg _; have n1 := Aside0.mk ho; have n2 := Aside0.mk hb; have n3 := Aside0.mk (parts_grown HP.out HO.out hg); clear HO HB HP ho hb hg; have HO := n1; have HB := n2; have HP := n3; clear n1 n2 n3)))
            go_roundg (S.length - (j + 1))
            case rel => exact ⟨j + 1, rfl, hlt, by first | rfl | rw [hwj], ⟨by rw [HST.out, HEP.out]; exact HO.out⟩, HB, HP⟩
            case measure => omega
          · rw [decide_eq_false hlast] at HST
            rw [decide_eq_false hlast, if_neg (by simp)] at HEP
            have hl1 : ((j : Int) == (S.length : Int) - 1) = false := beq_eq_false_iff_ne.2 (by omega)
            cases hsf : hsuf m with
            | true =>
              rw [hsf, if_pos rfl] at HEP
              go_wp2_with (first
                | (go_at_call 44; go_must (refine HLF2.out.mono ?_; rintro e w4 ⟨A4, c4, rfl, hr4, hc4, rfl⟩; have HM := Aside0.mk hr4; have HMC := Aside0.mk hc4; clear hr4 hc4))
                | (go_at_call 45; go_must (refine (suffix_calls _ _ _ _ m HMC.out (by have := HTM.out; omega) _ (HM.out.below (boxed2_below _)) (boxed2_reads _)).mono ?_; rw [hsf]; rintro e w4 ⟨rfl, rfl⟩; have n1 := Aside0.mk (pw_own_below HO.out (boxed2_below _)); have n2 := Aside0.mk (below_step HB.out (boxed2_below _)); have n3 := Aside0.mk (Kd.R_below HP.out (boxed2_below _)); have n4 := Aside0.mk (HM.out.below (boxed2_below _)); clear HO HB HP HM; have HO := n1; have HB := n2; have HP := n3; have HM := n4; clear n1 n2 n3 n4))
                | ((with_reducible refine gate_builtin (b := .append) (xs := #[.tmp 45, .tmp 46]) rfl ?_); at_builtin; go_must (refine append_row_keep (w0 := w) w.heap.size rfl (.tmp 45) (.tmp 46) 40 5 .u8 1 rfl Tryd.underlying40 infoU (by decide) _ xs m _ m.length _ rfl rfl HO.out HM.out HB.out HB.out.size (by have := HLN.out; have := HTM.out; omega) ?_; intro v1 w5 ho _ hb hg _; have n1 := Aside0.mk ho; have n2 := Aside0.mk hb; have n3 := Aside0.mk (parts_grown HP.out HO.out hg); clear HO HB HP ho hb hg; have HO := n1; have HB := n2; have HP := n3; clear n1 n2 n3))
                | ((with_reducible refine gate_builtin (b := .append) (xs := #[.tmp 48, .const (.string ⟨#[10]⟩)]) rfl ?_); at_builtin; go_must (refine print_append_str (w0 := w) w.heap.size rfl (.tmp 48) _ 40 9 5 rfl Tryd.underlying40 Tryd.underlying9 infoU _ (xs ++ m) ⟨#[10]⟩ rfl rfl HO.out HB.out HB.out.size (by have := HLN.out; have := HTM.out; rw [show (⟨#[10]⟩ : ByteArray).size = 1 from rfl]; first | omega | (rw [List.length_append]; omega)) ?_; intro v1 w6 ho hb hg; have n1 := Aside0.mk ho; have n2 := Aside0.mk hb; have n3 := Aside0.mk (parts_grown HP.out HO.out hg); clear HO HB HP ho hb hg; have HO := n1; have HB := n2; have HP := n3; clear n1 n2 n3)))
              go_roundg (S.length - (j + 1))
              case rel => exact ⟨j + 1, rfl, hlt, by first | rfl | rw [hwj], ⟨by rw [HST.out, HEP.out]; exact by rw [← List.append_assoc]; exact HO.out⟩, HB, HP⟩
              case measure => omega
            | false =>
              rw [hsf, if_neg (by simp)] at HEP
              go_wp2_with (first
                | (go_at_call 44; go_must (refine HLF2.out.mono ?_; rintro e w4 ⟨A4, c4, rfl, hr4, hc4, rfl⟩; have HM := Aside0.mk hr4; have HMC := Aside0.mk hc4; clear hr4 hc4))
                | (go_at_call 45; go_must (refine (suffix_calls _ _ _ _ m HMC.out (by have := HTM.out; omega) _ (HM.out.below (boxed2_below _)) (boxed2_reads _)).mono ?_; rw [hsf]; rintro e w4 ⟨rfl, rfl⟩; have n1 := Aside0.mk (pw_own_below HO.out (boxed2_below _)); have n2 := Aside0.mk (below_step HB.out (boxed2_below _)); have n3 := Aside0.mk (Kd.R_below HP.out (boxed2_below _)); have n4 := Aside0.mk (HM.out.below (boxed2_below _)); clear HO HB HP HM; have HO := n1; have HB := n2; have HP := n3; have HM := n4; clear n1 n2 n3 n4))
                | ((with_reducible refine gate_builtin (b := .append) (xs := #[.tmp 50, .tmp 51]) rfl ?_); at_builtin; go_must (refine append_row_keep (w0 := w) w.heap.size rfl (.tmp 50) (.tmp 51) 40 5 .u8 1 rfl Tryd.underlying40 infoU (by decide) _ xs m _ m.length _ rfl rfl HO.out HM.out HB.out HB.out.size (by have := HLN.out; have := HTM.out; omega) ?_; intro v1 w5 ho _ hb hg _; have n1 := Aside0.mk ho; have n2 := Aside0.mk hb; have n3 := Aside0.mk (parts_grown HP.out HO.out hg); clear HO HB HP ho hb hg; have HO := n1; have HB := n2; have HP := n3; clear n1 n2 n3))
                | ((with_reducible refine gate_builtin (b := .append) (xs := #[.tmp 53, .const (.string ⟨#[32, 32, 10]⟩)]) rfl ?_); at_builtin; go_must (refine print_append_str (w0 := w) w.heap.size rfl (.tmp 53) _ 40 9 5 rfl Tryd.underlying40 Tryd.underlying9 infoU _ (xs ++ m) ⟨#[32, 32, 10]⟩ rfl rfl HO.out HB.out HB.out.size (by have := HLN.out; have := HTM.out; rw [show (⟨#[32, 32, 10]⟩ : ByteArray).size = 3 from rfl]; first | omega | (rw [List.length_append]; omega)) ?_; intro v1 w6 ho hb hg; have n1 := Aside0.mk ho; have n2 := Aside0.mk hb; have n3 := Aside0.mk (parts_grown HP.out HO.out hg); clear HO HB HP ho hb hg; have HO := n1; have HB := n2; have HP := n3; clear n1 n2 n3)))
              go_roundg (S.length - (j + 1))
              case rel => exact ⟨j + 1, rfl, hlt, by first | rfl | rw [hwj], ⟨by rw [HST.out, HEP.out]; exact by rw [← List.append_assoc]; exact HO.out⟩, HB, HP⟩
              case measure => omega
      · have hje : j = S.length := by omega
        subst hje
        have HSV := Aside0.mk (own_string (P := Tryd.prog) (dst := 9) Tryd.underlying40 Tryd.underlying5 Tryd.underlying9 HO.out)
        go_wp2
        go_ret
        first
          | exact ⟨_, rfl, HSV.out, HB.out⟩
          | exact ⟨HSV.out, HB.out⟩
/-- The capacities beside, a text's lines are the same. -/
theorem escL_cap (l : List Int) (c c' : Nat) : escL l c = escL l c' := by
  have h1 : (segs l c).map (sx l) = (segs l c').map (sx l) := by
    unfold segs
    rw [List.map_append, List.map_append]
    rfl
  have h2 : (segs l c).length = (segs l c').length := by
    unfold segs
    rw [List.length_append, List.length_append]
    rfl
  unfold escL
  rw [h1, h2]
theorem esc_cv (wx : World) (b c n : Nat) (l : List Int) (hr : ReadsInt wx .u8 (some ⟨b, 0, none⟩) n l) : (convert 40 9 (.slice (some ⟨b, 0, none⟩) n c)).run Tryd.prog wx = .ok (.string (strOfNums l)) wx := by
  refine run_convert_bytes_arg wx 40 5 Tryd.underlying40 Tryd.underlying5 b 0 n c l hr.1 (fun i hi => ?_) 9 Tryd.underlying9
  obtain ⟨a2, ha, hcell⟩ := hr.at_ (i : Int) (by omega) (by omega)
  obtain rfl := Option.some.inj ha
  rw [Int.toNat_natCast] at hcell
  rw [rd_get (by rw [hr.1]; exact hi)] at hcell
  rw [add_plain] at hcell
  rw [Nat.zero_add, hcell, List.getD_eq_getElem?_getD, List.getElem?_eq_getElem (by rw [hr.1]; exact hi)]
  rfl
theorem esc_any (b c n : Nat) (l : List Int) (hl : l.length = n) (hc : n ≤ c) (hn : l.length ≤ 1000) (ha : A7 l) (w : World) (hr : ReadsInt w .u8 (some ⟨b, 0, none⟩) n l) (hcv : ∀ wx, Below w.heap.size w wx → (convert 40 9 (.slice (some ⟨b, 0, none⟩) n c)).run Tryd.prog wx = .ok (.string (strOfNums l)) wx) :
    Calls Tryd.prog 31 #[.slice (some ⟨b, 0, none⟩) n c] w fun e w' => ∃ v, e = .returned v ∧ (convert 40 9 v).run Tryd.prog w' = .ok (.string (strOfNums (escL l c))) w' ∧ Below w.heap.size w w' := by
  subst hl
  exact esc_calls _ c l hc hn ha w hr hcv
def impl_MultiLine.f (_ : Nat) (a0 : ByteArray) : Option ByteArray := if a0.size ≤ 1000 ∧ (∀ x ∈ bytesOf a0, x < 128) then some (strOfNums (escL (bytesOf a0) 0)) else none
theorem impl_MultiLine.mono : ∀ a0 k, LeO (impl_MultiLine.f k a0) (impl_MultiLine.f (k + 1) a0) := fun _ _ => LeO.refl _
theorem impl_MultiLine.calls (k : Nat) (a0 : ByteArray) (r : ByteArray) (w : World) (h : impl_MultiLine.f k a0 = some r) :
    Calls Tryd.prog 16 #[.string a0] w fun e w' => e = .returned (.string r) ∧ Below w.heap.size w w' := by
  unfold impl_MultiLine.f at h
  split at h
  case isFalse => cases h
  rename_i hs
  obtain rfl := Option.some.inj h
  have kb := fun W => print_bytes (P := Tryd.prog) 9 40 5 Tryd.underlying9 Tryd.underlying40 Tryd.underlying5 a0 W
  have HS := Aside0.mk hs
  clear h hs
  rw [escL_cap _ 0 (grownCap w a0.size 0 5)]
  go_enter Tryd.func16, Tryd.ntmps16
  go_wp2_with fail
  have hrd := bytes_reads w 5 a0 (by have := HS.out.1; omega)
  refine (esc_any _ _ _ (bytesOf a0) (bytesOf_length a0) (grownCap_ge _ _ _ _) (by rw [bytesOf_length]; exact HS.out.1) (fun x hx => ⟨(Byt.of a0 x hx).1, HS.out.2 x hx⟩) _ hrd (fun wx hB => esc_cv wx _ _ _ _ (hrd.below (by exact hB)))).mono ?_
  rintro e w' ⟨v, rfl, hC, hB⟩
  go_wp2
  go_ret
  exact ⟨rfl, below_step (bytes_below (Below.refl _ _) (Nat.le_refl _) 5 a0) hB⟩
end Go.Proofs.YtbhcoeabhdangaaDoor.PInl
