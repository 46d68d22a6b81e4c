/- replaceAnyWhitespaceWithSpace: the walk. -/
import Derived.Test.YtbhcoeabhdangaaDoorBlankX
import Derived.Test.YtbhcoeabhdangaaDoorBlankS
import Derived.Deep.DeepCutAuto
import Derived.StillTailTactics
import Derived.Test.YtbhcoeabhdangaaDoorTxt
namespace Go.Proofs.YtbhcoeabhdangaaDoor.Blank
open Go.RowKit Go.Proofs.YtbhcoeabhdangaaDoorW.PrintWords Go.Proofs.YtbhcoeabhdangaaDoorW.PrintLast Go.Proofs.YtbhcoeabhdangaaDoorW.PrintMore
set_option linter.unusedVariables false
set_option linter.unusedSimpArgs false

def smV : Option Nat → Int
  | none => -1
  | some m => (m : Int)
/-- The row is there exactly behind a first turn. -/
def Rows1 (sn : Nat) (v : Value) (R : List Int) : Prop := (sn = 0 ∧ v = .slice none 0 0 ∧ R = []) ∨ (0 < sn ∧ ∃ g c, v = .slice (some ⟨g, 0, none⟩) R.length c)
theorem start_bx (w : World) (s : ByteArray) : Bx w w.heap.size (w.heap.size + 1) s ((w.alloc (.cells #[.string s] 9)).alloc (.cells #[.slice none 0 0] 40)) (.slice none 0 0) [] := by
  refine ⟨blk_alloc (blk_new w _) _, ?_, ⟨rfl, .inl ⟨rfl, rfl⟩⟩, below_alloc (below_alloc (Below.refl _ _) _) _⟩
  have := blk_new (w.alloc (.cells #[.string s] 9)) (.cells #[.slice none 0 0] 40)
  rw [show (w.alloc (.cells #[.string s] 9)).heap.size = w.heap.size + 1 from Array.size_push _] at this
  exact this
theorem ret_str {a b : ByteArray} (h : a = b) : Ending.returned (.string a) = Ending.returned (.string b) := by rw [h]
theorem slice_part (a0 : ByteArray) (sn m : Nat) (y : Int) (hy : y = (m : Int)) (h1 : sn ≤ m) (h2 : m ≤ a0.size) :
    ∃ q, bytesOf q = seg (bytesOf a0) sn m ∧ q.size = (seg (bytesOf a0) sn m).length ∧ ∀ W, (Instr.slice 9 (.string a0) (some (.int .i64 (sn : Int))) (some (.int .i64 y)) none).run Tryd.prog W = .ok (.string q) W := by
  subst hy
  have e : bytesOf (a0.extract sn m) = seg (bytesOf a0) sn m := by rw [Txt.bytes_extract]; rfl
  refine ⟨a0.extract sn m, e, by rw [← e, bytesOf_length], fun W => ?_⟩
  rw [run_slice_string W 9 a0 .i64 .i64 (sn : Int) (m : Int) Tryd.underlying9 (by omega) (by omega) (by omega)]
  rfl
theorem slice_tail (a0 : ByteArray) (sn : Nat) (h1 : sn ≤ a0.size) :
    ∃ q, bytesOf q = seg (bytesOf a0) sn (bytesOf a0).length ∧ q.size = (seg (bytesOf a0) sn (bytesOf a0).length).length ∧ ∀ W, (Instr.slice 9 (.string a0) (some (.int .i64 (sn : Int))) none none).run Tryd.prog W = .ok (.string q) W := by
  have e : bytesOf (a0.extract sn a0.size) = seg (bytesOf a0) sn (bytesOf a0).length := by rw [Txt.bytes_extract, bytesOf_length]; rfl
  refine ⟨a0.extract sn a0.size, e, by rw [← e, bytesOf_length], fun W => ?_⟩
  rw [run_slice_string_l W 9 a0 Tryd.underlying9 .i64 (sn : Int) (by omega) (by omega)]
  rfl
set_option maxHeartbeats 4000000 in
set_option maxRecDepth 100000 in
theorem blank_calls (a0 : ByteArray) (w : World) (hs : a0.size ≤ 2147483647) (hne : a0.size ≠ 0) :
    Calls Tryd.prog 54 #[.string a0] w fun e w' => e = .returned (.string (strOfNums (norm false (bytesOf a0)))) ∧ Below w.heap.size w w' := by
  have hmf : ∀ (fn : Fn) (first cap : Array Value) (w : World), (Instr.makeFunc fn first cap).run Tryd.prog w = .ok (.func fn first cap) w := fun _ _ _ _ => rfl
  have hl64 : a0.size ≤ 9223372036854775807 := by omega
  have hnl : ¬ a0.toList = [] := fun h => hne (by
    rw [ByteArray.toList_eq] at h
    show a0.data.size = 0
    rw [← Array.length_toList, h]
    rfl)
  have n0 : decide (a0.toList = []) = false := decide_eq_false hnl
  have n1 : (a0.toList == []) = false := beq_eq_false_iff_ne.2 hnl
  have HS := Aside0.mk hs
  have HNE := Aside0.mk hne
  clear hs hne
  go_enter Tryd.func54, Tryd.ntmps54
  go_wp2_with fail
  go_loopw [5, 6, 7] (fun v5 v6 v7 wr => ∃ (sn i : Nat) (sm : Option Nat) (v : Value) (R : List Int), v5 = .int .i64 (sn : Int) ∧ v6 = .int .i64 (smV sm) ∧ v7 = .int .i64 (i : Int) ∧ i ≤ a0.size ∧ Aside0 (Bx w w.heap.size (w.heap.size + 1) a0 wr v R) ∧ Aside0 (Rows1 sn v R) ∧ Aside0 (St (bytesOf a0) sn sm i R)) (fun _ _ i _ => a0.size - (intOf i).toNat)
  case atStart =>
    refine ⟨0, 0, none, .slice none 0 0, [], rfl, rfl, rfl, Nat.zero_le _, ⟨?_⟩, ⟨.inl ⟨rfl, rfl, rfl⟩⟩, ⟨St.start _⟩⟩
    exact start_bx w a0
  case round =>
    obtain ⟨sn, i, sm, v, R, rfl, rfl, rfl, hi, HX, HV, HT⟩ := hrel
    have hcs : wr.cell? ⟨w.heap.size, 0, none⟩ = some (.string a0) := blk_cell HX.out.src 0
    by_cases hlt : i < a0.size
    · obtain ⟨x, hxi⟩ : ∃ x : Int, x = (i : Int) := ⟨_, rfl⟩
      have hx8 := bt_at a0 x
      rw [← hxi]
      have p8 : (0 ≤ x) = True := eq_true (by omega)
      have q8 : (x < (a0.size : Int)) = True := eq_true (by omega)
      have HXI := Aside0.mk hxi
      have HLT := Aside0.mk hlt
      have HI := Aside0.mk hi
      clear hxi hlt hi
      go_upto_region 10 with fail
      go_cut [8] (fun v8 wc => v8 = .bool (ws (bt a0 x)) ∧ wc = wr)
      case first =>
        by_cases h32 : bt a0 x = 32
        · have c32 := decide_eq_true h32
          have H32 := Aside0.mk h32
          have d32 : (bt a0 x == 32) = true := beq_iff_eq.2 h32
          clear h32
          go_wp2
          go_meet
          case rel => exact ⟨by simp [ws, H32.out], rfl⟩
        · have c32 := decide_eq_false h32
          have H32 := Aside0.mk h32
          have d32 : (bt a0 x == 32) = false := beq_eq_false_iff_ne.2 h32
          by_cases h13 : bt a0 x = 13
          · have c13 := decide_eq_true h13
            have H13 := Aside0.mk h13
            have d13 : (bt a0 x == 13) = true := beq_iff_eq.2 h13
            clear h32 h13
            go_wp2
            go_meet
            case rel => exact ⟨by simp [ws, H32.out, H13.out], rfl⟩
          · have c13 := decide_eq_false h13
            have H13 := Aside0.mk h13
            have d13 : (bt a0 x == 13) = false := beq_eq_false_iff_ne.2 h13
            by_cases h10 : bt a0 x = 10
            · have c10 := decide_eq_true h10
              have H10 := Aside0.mk h10
              have d10 : (bt a0 x == 10) = true := beq_iff_eq.2 h10
              clear h32 h13 h10
              go_wp2
              go_meet
              case rel => exact ⟨by simp [ws, H32.out, H13.out, H10.out], rfl⟩
            · have c10 := decide_eq_false h10
              have H10 := Aside0.mk h10
              have d10 : (bt a0 x == 10) = false := beq_eq_false_iff_ne.2 h10
              by_cases h9 : bt a0 x = 9
              · have c9 := decide_eq_true h9
                have H9 := Aside0.mk h9
                have d9 : (bt a0 x == 9) = true := beq_iff_eq.2 h9
                clear h32 h13 h10 h9
                go_wp2
                go_meet
                case rel => exact ⟨by simp [ws, H32.out, H13.out, H10.out, H9.out], rfl⟩
              · have c9 := decide_eq_false h9
                have H9 := Aside0.mk h9
                have d9 : (bt a0 x == 9) = false := beq_eq_false_iff_ne.2 h9
                clear h32 h13 h10 h9
                go_wp2
                go_meet
                case rel => exact ⟨by simp [ws, H32.out, H13.out, H10.out, H9.out], rfl⟩
      case rest =>
        obtain ⟨rfl, rfl⟩ := hcut
        have hget : (bytesOf a0)[i]? = some (bt a0 x) := by rw [HXI.out]; exact bt_nth a0 i HLT.out
        have HG := Aside0.mk hget
        clear hget
        cases hws : ws (bt a0 x) with
        | true =>
          have HWS := Aside0.mk hws
          clear hws
          cases sm with
          | none =>
            simp only [smV]
            go_wp2
            go_roundw
            case rel => exact ⟨sn, i + 1, some i, v, R, rfl, by rw [HXI.out]; rfl, by rw [HXI.out, wrap_n HS.out HLT.out], HLT.out, HX, HV, ⟨HT.out.firstG HG.out HWS.out⟩⟩
            case measure => rw [HXI.out, wrap_n HS.out HLT.out]; have := HLT.out; simp [intOf]; omega
          | some m =>
            simp only [smV]
            have e1 : ((m : Int) == -1) = false := beq_eq_false_iff_ne.2 (by omega)
            have e2 : decide ((m : Int) = -1) = false := decide_eq_false (by omega)
            go_wp2
            go_roundw
            case rel => exact ⟨sn, i + 1, some m, v, R, rfl, rfl, by rw [HXI.out, wrap_n HS.out HLT.out], HLT.out, HX, HV, ⟨HT.out.moreG HG.out HWS.out⟩⟩
            case measure => rw [HXI.out, wrap_n HS.out HLT.out]; have := HLT.out; simp [intOf]; omega
        | false =>
          have HWS := Aside0.mk hws
          clear hws
          cases sm with
          | none =>
            simp only [smV]
            go_wp2
            go_roundw
            case rel => exact ⟨sn, i + 1, none, v, R, rfl, rfl, by rw [HXI.out, wrap_n HS.out HLT.out], HLT.out, HX, HV, ⟨HT.out.plainG HG.out HWS.out⟩⟩
            case measure => rw [HXI.out, wrap_n HS.out HLT.out]; have := HLT.out; simp [intOf]; omega
          | some m =>
            simp only [smV]
            have e1 : ((m : Int) == -1) = false := beq_eq_false_iff_ne.2 (by omega)
            have e2 : decide ((m : Int) = -1) = false := decide_eq_false (by omega)
            have HMI := Aside0.mk (HT.out.some_ m rfl).2.1
            have HSM := Aside0.mk (HT.out.some_ m rfl).1
            obtain ⟨y, hym⟩ : ∃ y : Int, y = (m : Int) := ⟨_, rfl⟩
            rw [← hym] at e1 e2 ⊢
            have e3 : (y != -1) = true := by rw [bne, e1]; rfl
            have hy8 := bt_at a0 y
            have py : (0 ≤ y) = True := eq_true (by omega)
            have qy : (y < (a0.size : Int)) = True := eq_true (by have := HMI.out; have := HLT.out; omega)
            have HGM := Aside0.mk (show (bytesOf a0)[m]? = some (bt a0 y) by rw [hym]; exact bt_nth a0 m (by have := HMI.out; have := HLT.out; omega))
            have HYM := Aside0.mk hym
            clear hym
            by_cases hone : i = m + 1
            · have hsub : wrap64 (x - y) = 1 := by rw [HXI.out, HYM.out, hone]; unfold wrap64; omega
              have HONE := Aside0.mk hone
              clear hone
              by_cases hb : bt a0 y = 32
              · have c32 := decide_eq_true hb
                have d32 : (bt a0 y == 32) = true := beq_iff_eq.2 hb
                rw [hb] at HGM
                clear hb
                go_wp2_with fail
                go_roundw
                case rel => exact ⟨sn, i + 1, none, v, R, rfl, rfl, by rw [HXI.out, wrap_n HS.out HLT.out], HLT.out, HX, HV, ⟨HT.out.sameG HG.out HWS.out HONE.out HGM.out⟩⟩
                case measure => rw [HXI.out, wrap_n HS.out HLT.out]; have := HLT.out; simp [intOf]; omega
              · have c32 := decide_eq_false hb
                have d32 : (bt a0 y == 32) = false := beq_eq_false_iff_ne.2 hb
                clear hb
                obtain ⟨q, hqb, hqs, hsl⟩ := slice_part a0 sn m y HYM.out HSM.out (by have := HMI.out; have := HLT.out; omega)
                have HQB := Aside0.mk hqb
                have HQS := Aside0.mk hqs
                clear hqb hqs
                go_wp2_with (go_at_call 76; go_must (refine (make_calls w wc w.heap.size (w.heap.size + 1) a0 v R HS.out (by omega) (by omega) HX.out).mono ?_; rintro e w1 ⟨rfl, g1, c1, hb1⟩; have HB1 := Aside0.mk (hb1.drewN 1); obtain ⟨hr1, hf1, hs1⟩ := hb1.cells; clear hb1))
                go_still_tail 5, (by kernel_rfl)
                change wpList _ _ _ _ _ (w1.drewN 1)
                clear hsl hcs hr1 hf1 hs1
                generalize w1.drewN 1 = w2 at HB1 ⊢
                clear w1
                go_wp2_with (at_builtin; go_must (refine print_append_str (w0 := w) w.heap.size rfl (.tmp 68) (.tmp 72) 40 9 5 rfl Tryd.underlying40 Tryd.underlying9 infoU8 (.slice (some ⟨g1, 0, none⟩) R.length c1) R q rfl rfl HB1.out.own HB1.out.below HB1.out.below.size (by rw [HQS.out]; have := HT.out.len_some; have := bytesOf_length a0; have := HS.out; omega) ?_))
                intro v1 w3 ho hb hg
                have ho1 : w3.ownsRow w.heap.size 5 1 v1 (R ++ seg (bytesOf a0) sn m).length (nums .u8 (R ++ seg (bytesOf a0) sn m)) := by simpa only [HQB.out, List.length_append, List.nil_append, List.length_nil, Nat.zero_add] using ho
                obtain ⟨L1, hL1⟩ : ∃ L1, L1 = (R ++ seg (bytesOf a0) sn m).length := ⟨_, rfl⟩
                obtain ⟨A1, k1, hv1⟩ := own_slice ho1
                rw [← hL1] at hv1
                subst hv1
                clear hL1
                have HB3 := Aside0.mk (HB1.out.grow (by omega) (by omega) ho1 hb hg)
                obtain ⟨hr3, hf3, hs3⟩ := HB1.out.boxed hg
                clear ho ho1 hb hg
                go_upto_region 19 with fail
                clear hr3 hf3 hs3
                obtain ⟨hr3, hf3, hs3⟩ := HB3.out.cells
                generalize w3.setCell ⟨w.heap.size + 1, 0, none⟩ (.slice A1 L1 k1) = w4 at HB3 hr3 hf3 hs3 ⊢
                clear w3
                go_wp2_with (at_builtin; go_must (refine print_append_num (w0 := w) w.heap.size rfl (.tmp 74) (.tmp 75) 40 5 .u8 1 rfl Tryd.underlying40 infoU8 (by decide) (.slice A1 L1 k1) (R ++ seg (bytesOf a0) sn m) 32 rfl rfl HB3.out.own HB3.out.below HB3.out.below.size (by rw [List.length_append]; have := HT.out.len_some; have := bytesOf_length a0; have := HS.out; omega) ?_))
                intro v2 w5 ho hb hg _
                have ho1 : w5.ownsRow w.heap.size 5 1 v2 (R ++ seg (bytesOf a0) sn m ++ [32]).length (nums .u8 (R ++ seg (bytesOf a0) sn m ++ [32])) := by simpa only [List.length_append, List.append_assoc, List.length_cons, List.length_nil, Nat.add_assoc, Nat.zero_add, List.nil_append] using ho
                obtain ⟨L2, hL2⟩ : ∃ L2, L2 = (R ++ seg (bytesOf a0) sn m ++ [32]).length := ⟨_, rfl⟩
                obtain ⟨g3, c3, hv2, _, _⟩ := ho1.form (by rw [List.length_append]; exact Nat.succ_pos _)
                rw [← hL2] at hv2
                subst hv2
                have HL2 := Aside0.mk hL2
                clear hL2
                have HB5 := Aside0.mk (HB3.out.grow (by omega) (by omega) ho1 hb hg)
                obtain ⟨hr5, hf5, hs5⟩ := HB3.out.boxed hg
                clear ho ho1 hb hg hr3 hf3 hs3
                go_wp2_with fail
                go_roundw
                case rel => exact ⟨i, i + 1, none, _, R ++ seg (bytesOf a0) sn m ++ [32], by rw [HXI.out], rfl, by rw [HXI.out, wrap_n HS.out HLT.out], HLT.out, HB5, ⟨.inr ⟨by have := HMI.out; omega, g3, c3, by rw [HL2.out]⟩⟩, ⟨HT.out.turnG HG.out HWS.out⟩⟩
                case measure => rw [HXI.out, wrap_n HS.out HLT.out]; have := HLT.out; simp [intOf]; omega
            · have hsub : (wrap64 (x - y) == 1) = false := beq_eq_false_iff_ne.2 (by rw [HXI.out, HYM.out]; have := HMI.out; have := HLT.out; have := HS.out; unfold wrap64; omega)
              have hsub2 : decide (wrap64 (x - y) = 1) = false := decide_eq_false (beq_eq_false_iff_ne.1 hsub)
              clear hone
              obtain ⟨q, hqb, hqs, hsl⟩ := slice_part a0 sn m y HYM.out HSM.out (by have := HMI.out; have := HLT.out; omega)
              have HQB := Aside0.mk hqb
              have HQS := Aside0.mk hqs
              clear hqb hqs
              go_wp2_with (go_at_call 76; go_must (refine (make_calls w wc w.heap.size (w.heap.size + 1) a0 v R HS.out (by omega) (by omega) HX.out).mono ?_; rintro e w1 ⟨rfl, g1, c1, hb1⟩; have HB1 := Aside0.mk (hb1.drewN 1); obtain ⟨hr1, hf1, hs1⟩ := hb1.cells; clear hb1))
              go_still_tail 5, (by kernel_rfl)
              change wpList _ _ _ _ _ (w1.drewN 1)
              clear hsl hcs hr1 hf1 hs1
              generalize w1.drewN 1 = w2 at HB1 ⊢
              clear w1
              go_wp2_with (at_builtin; go_must (refine print_append_str (w0 := w) w.heap.size rfl (.tmp 68) (.tmp 72) 40 9 5 rfl Tryd.underlying40 Tryd.underlying9 infoU8 (.slice (some ⟨g1, 0, none⟩) R.length c1) R q rfl rfl HB1.out.own HB1.out.below HB1.out.below.size (by rw [HQS.out]; have := HT.out.len_some; have := bytesOf_length a0; have := HS.out; omega) ?_))
              intro v1 w3 ho hb hg
              have ho1 : w3.ownsRow w.heap.size 5 1 v1 (R ++ seg (bytesOf a0) sn m).length (nums .u8 (R ++ seg (bytesOf a0) sn m)) := by simpa only [HQB.out, List.length_append, List.nil_append, List.length_nil, Nat.zero_add] using ho
              obtain ⟨L1, hL1⟩ : ∃ L1, L1 = (R ++ seg (bytesOf a0) sn m).length := ⟨_, rfl⟩
              obtain ⟨A1, k1, hv1⟩ := own_slice ho1
              rw [← hL1] at hv1
              subst hv1
              clear hL1
              have HB3 := Aside0.mk (HB1.out.grow (by omega) (by omega) ho1 hb hg)
              obtain ⟨hr3, hf3, hs3⟩ := HB1.out.boxed hg
              clear ho ho1 hb hg
              go_upto_region 19 with fail
              clear hr3 hf3 hs3
              obtain ⟨hr3, hf3, hs3⟩ := HB3.out.cells
              generalize w3.setCell ⟨w.heap.size + 1, 0, none⟩ (.slice A1 L1 k1) = w4 at HB3 hr3 hf3 hs3 ⊢
              clear w3
              go_wp2_with (at_builtin; go_must (refine print_append_num (w0 := w) w.heap.size rfl (.tmp 74) (.tmp 75) 40 5 .u8 1 rfl Tryd.underlying40 infoU8 (by decide) (.slice A1 L1 k1) (R ++ seg (bytesOf a0) sn m) 32 rfl rfl HB3.out.own HB3.out.below HB3.out.below.size (by rw [List.length_append]; have := HT.out.len_some; have := bytesOf_length a0; have := HS.out; omega) ?_))
              intro v2 w5 ho hb hg _
              have ho1 : w5.ownsRow w.heap.size 5 1 v2 (R ++ seg (bytesOf a0) sn m ++ [32]).length (nums .u8 (R ++ seg (bytesOf a0) sn m ++ [32])) := by simpa only [List.length_append, List.append_assoc, List.length_cons, List.length_nil, Nat.add_assoc, Nat.zero_add, List.nil_append] using ho
              obtain ⟨L2, hL2⟩ : ∃ L2, L2 = (R ++ seg (bytesOf a0) sn m ++ [32]).length := ⟨_, rfl⟩
              obtain ⟨g3, c3, hv2, _, _⟩ := ho1.form (by rw [List.length_append]; exact Nat.succ_pos _)
              rw [← hL2] at hv2
              subst hv2
              have HL2 := Aside0.mk hL2
              clear hL2
              have HB5 := Aside0.mk (HB3.out.grow (by omega) (by omega) ho1 hb hg)
              obtain ⟨hr5, hf5, hs5⟩ := HB3.out.boxed hg
              clear ho ho1 hb hg hr3 hf3 hs3
              go_wp2_with fail
              go_roundw
              case rel => exact ⟨i, i + 1, none, _, R ++ seg (bytesOf a0) sn m ++ [32], by rw [HXI.out], rfl, by rw [HXI.out, wrap_n HS.out HLT.out], HLT.out, HB5, ⟨.inr ⟨by have := HMI.out; omega, g3, c3, by rw [HL2.out]⟩⟩, ⟨HT.out.turnG HG.out HWS.out⟩⟩
              case measure => rw [HXI.out, wrap_n HS.out HLT.out]; have := HLT.out; simp [intOf]; omega
    · have hie : i = a0.size := by omega
      subst hie
      rw [← bytesOf_length a0] at HT
      have HSN := Aside0.mk (show sn ≤ a0.size by have := HT.out.sni; rw [bytesOf_length] at this; exact this)
      clear hlt hi
      cases sm with
      | none =>
        simp only [smV]
        rcases HV.out with ⟨rfl, rfl, rfl⟩ | ⟨h0, g, c, rfl⟩
        · have hnil := fun (w : World) => Lib.run_eql_slice_nil (P := Tryd.prog) w 40 5 none 0 0 0 0 Tryd.underlying40
          have hcr : wr.cell? ⟨w.heap.size + 1, 0, none⟩ = some (.slice none 0 0) := blk_cell HX.out.box 0
          go_wp2_with fail
          go_ret
          exact ⟨ret_str (by rw [HT.out.end_a, Txt.str_bytes]), HX.out.below⟩
        · have s1 : ((sn : Int) == 0) = false := beq_eq_false_iff_ne.2 (by omega)
          have s2 : decide ((sn : Int) = 0) = false := decide_eq_false (by omega)
          generalize hv : Value.slice (some ⟨g, 0, none⟩) R.length c = v at HX
          clear hv h0
          obtain ⟨q, hqb, hqs, hsl⟩ := slice_tail a0 sn HSN.out
          have HQB := Aside0.mk hqb
          have HQS := Aside0.mk hqs
          clear hqb hqs
          go_wp2_with (go_at_call 76; go_must (refine (make_calls w wr w.heap.size (w.heap.size + 1) a0 v R HS.out (by omega) (by omega) HX.out).mono ?_; rintro e w1 ⟨rfl, g1, c1, hb1⟩; have HB1 := Aside0.mk (hb1.drewN 1); obtain ⟨hr1, hf1, hs1⟩ := hb1.cells; clear hb1))
          go_still_tail 4, (by kernel_rfl)
          change wpList _ _ _ _ _ (w1.drewN 1)
          clear hsl hcs hr1 hf1 hs1
          generalize w1.drewN 1 = w2 at HB1 ⊢
          clear w1
          go_wp2_with (at_builtin; go_must (refine print_append_str (w0 := w) w.heap.size rfl (.tmp 88) (.tmp 91) 40 9 5 rfl Tryd.underlying40 Tryd.underlying9 infoU8 (.slice (some ⟨g1, 0, none⟩) R.length c1) R q rfl rfl HB1.out.own HB1.out.below HB1.out.below.size (by rw [HQS.out]; have := HT.out.len_none; have := bytesOf_length a0; have := HS.out; omega) ?_))
          intro v1 w3 ho hb hg
          have ho1 : w3.ownsRow w.heap.size 5 1 v1 (R ++ seg (bytesOf a0) sn (bytesOf a0).length).length (nums .u8 (R ++ seg (bytesOf a0) sn (bytesOf a0).length)) := by simpa only [HQB.out, List.length_append, List.nil_append, List.length_nil, Nat.zero_add] using ho
          obtain ⟨L2, hL2⟩ : ∃ L2, L2 = (R ++ seg (bytesOf a0) sn (bytesOf a0).length).length := ⟨_, rfl⟩
          obtain ⟨g3, c3, hv2, _, _⟩ := ho1.form (by rw [← HT.out.end_b]; exact norm_pos (by rw [bytesOf_length]; have := HNE.out; omega))
          rw [← hL2] at hv2
          subst hv2
          clear hL2
          have HB5 := Aside0.mk (HB1.out.grow (by omega) (by omega) ho1 hb hg)
          obtain ⟨hr5, hf5, hs5⟩ := HB1.out.boxed hg
          clear ho ho1 hb hg
          have hnil := fun (w : World) => Lib.run_eql_slice_nil (P := Tryd.prog) w 40 5 (some ⟨g3, 0, none⟩) L2 c3 0 0 Tryd.underlying40
          go_upto_region 30 with fail
          clear hr5 hf5 hs5
          obtain ⟨hr5, hf5, hs5⟩ := HB5.out.cells
          have hown := own_string (P := Tryd.prog) Tryd.underlying40 Tryd.underlying5 Tryd.underlying9 HB5.out.own
          generalize w3.setCell ⟨w.heap.size + 1, 0, none⟩ (.slice (some ⟨g3, 0, none⟩) L2 c3) = w6 at HB5 hr5 hf5 hs5 hown ⊢
          go_wp2_with fail
          go_ret
          exact ⟨ret_str (by rw [HT.out.end_b]), HB5.out.below⟩
      | some m =>
        simp only [smV]
        have e1 : ((m : Int) == -1) = false := beq_eq_false_iff_ne.2 (by omega)
        have HMI := Aside0.mk (HT.out.some_ m rfl).2.1
        have HSM := Aside0.mk (HT.out.some_ m rfl).1
        obtain ⟨y, hym⟩ : ∃ y : Int, y = (m : Int) := ⟨_, rfl⟩
        rw [← hym] at e1 ⊢
        have e2 : decide (y = -1) = false := decide_eq_false (beq_eq_false_iff_ne.1 e1)
        have e3 : (y != -1) = true := by rw [bne, e1]; rfl
        have hy8 := bt_at a0 y
        have py : (0 ≤ y) = True := eq_true (by omega)
        have qy : (y < (a0.size : Int)) = True := eq_true (by have := HMI.out; have := bytesOf_length a0; omega)
        have HGM := Aside0.mk (show (bytesOf a0)[m]? = some (bt a0 y) by rw [hym]; exact bt_nth a0 m (by have := HMI.out; have := bytesOf_length a0; omega))
        have HYM := Aside0.mk hym
        clear hym
        rcases HV.out with ⟨h0, rfl, rfl⟩ | ⟨h0, g, c, rfl⟩
        · have HS0 := Aside0.mk h0
          clear h0
          have hnil := fun (w : World) => Lib.run_eql_slice_nil (P := Tryd.prog) w 40 5 none 0 0 0 0 Tryd.underlying40
          have hcr : wr.cell? ⟨w.heap.size + 1, 0, none⟩ = some (.slice none 0 0) := blk_cell HX.out.box 0
          by_cases hone : a0.size = m + 1
          · have hsub : wrap64 ((a0.size : Int) - y) = 1 := by rw [HYM.out, hone]; unfold wrap64; omega
            have HONE := Aside0.mk hone
            clear hone
            by_cases hb : bt a0 y = 32
            · have c32 := decide_eq_true hb
              have d32 : (bt a0 y == 32) = true := beq_iff_eq.2 hb
              rw [hb] at HGM
              clear hb
              go_wp2_with fail
              go_ret
              exact ⟨ret_str (by rw [(show St (bytesOf a0) 0 (some m) (bytesOf a0).length [] by have := HT.out; rw [HS0.out] at this; exact this).end_c (by rw [bytesOf_length]; exact HONE.out) HGM.out, Txt.str_bytes]), HX.out.below⟩
            · have c32 := decide_eq_false hb
              have d32 : (bt a0 y == 32) = false := beq_eq_false_iff_ne.2 hb
              clear hb
              obtain ⟨q, hqb, hqs, hsl⟩ := slice_part a0 sn m y HYM.out HSM.out (by have := HMI.out; have := bytesOf_length a0; omega)
              have HQB := Aside0.mk hqb
              have HQS := Aside0.mk hqs
              clear hqb hqs
              go_wp2_with (go_at_call 76; go_must (refine (make_calls w wr w.heap.size (w.heap.size + 1) a0 (.slice none 0 0) [] HS.out (by omega) (by omega) HX.out).mono ?_; rintro e w1 ⟨rfl, g1, c1, hb1⟩; have HB1 := Aside0.mk (hb1.drewN 1); obtain ⟨hr1, hf1, hs1⟩ := hb1.cells; clear hb1))
              go_still_tail 5, (by kernel_rfl)
              change wpList _ _ _ _ _ (w1.drewN 1)
              clear hnil hcr hsl hcs hr1 hf1 hs1
              generalize w1.drewN 1 = w2 at HB1 ⊢
              clear w1
              go_wp2_with (at_builtin; go_must (refine print_append_str (w0 := w) w.heap.size rfl (.tmp 110) (.tmp 114) 40 9 5 rfl Tryd.underlying40 Tryd.underlying9 infoU8 (.slice (some ⟨g1, 0, none⟩) 0 c1) [] q rfl rfl HB1.out.own HB1.out.below HB1.out.below.size (by rw [HQS.out]; have := HT.out.len_some; have := bytesOf_length a0; have := HS.out; omega) ?_))
              intro v1 w3 ho hb hg
              have ho1 : w3.ownsRow w.heap.size 5 1 v1 ([] ++ seg (bytesOf a0) sn m).length (nums .u8 ([] ++ seg (bytesOf a0) sn m)) := by simpa only [HQB.out, List.length_append, List.nil_append, List.length_nil, Nat.zero_add] using ho
              obtain ⟨L1, hL1⟩ : ∃ L1, L1 = ([] ++ seg (bytesOf a0) sn m).length := ⟨_, rfl⟩
              obtain ⟨A1, k1, hv1⟩ := own_slice ho1
              rw [← hL1] at hv1
              subst hv1
              clear hL1
              have HB3 := Aside0.mk (HB1.out.grow (by omega) (by omega) ho1 hb hg)
              obtain ⟨hr3, hf3, hs3⟩ := HB1.out.boxed hg
              clear ho ho1 hb hg
              go_upto_region 29 with fail
              clear hr3 hf3 hs3
              obtain ⟨hr3, hf3, hs3⟩ := HB3.out.cells
              generalize w3.setCell ⟨w.heap.size + 1, 0, none⟩ (.slice A1 L1 k1) = w4 at HB3 hr3 hf3 hs3 ⊢
              clear w3
              go_wp2_with (at_builtin; go_must (refine print_append_num (w0 := w) w.heap.size rfl (.tmp 116) (.tmp 117) 40 5 .u8 1 rfl Tryd.underlying40 infoU8 (by decide) (.slice A1 L1 k1) ([] ++ seg (bytesOf a0) sn m) 32 rfl rfl HB3.out.own HB3.out.below HB3.out.below.size (by rw [List.length_append]; have := HT.out.len_some; have := bytesOf_length a0; have := HS.out; omega) ?_))
              intro v2 w5 ho hb hg _
              have ho1 : w5.ownsRow w.heap.size 5 1 v2 ([] ++ seg (bytesOf a0) sn m ++ [32]).length (nums .u8 ([] ++ seg (bytesOf a0) sn m ++ [32])) := by simpa only [List.length_append, List.append_assoc, List.length_cons, List.length_nil, Nat.add_assoc, Nat.zero_add, List.nil_append] using ho
              obtain ⟨L2, hL2⟩ : ∃ L2, L2 = ([] ++ seg (bytesOf a0) sn m ++ [32]).length := ⟨_, rfl⟩
              obtain ⟨g3, c3, hv2, _, _⟩ := ho1.form (by rw [List.length_append]; exact Nat.succ_pos _)
              rw [← hL2] at hv2
              subst hv2
              have HL2 := Aside0.mk hL2
              clear hL2
              have HB5 := Aside0.mk (HB3.out.grow (by omega) (by omega) ho1 hb hg)
              obtain ⟨hr5, hf5, hs5⟩ := HB3.out.boxed hg
              clear ho ho1 hb hg hr3 hf3 hs3
              have hnil := fun (w : World) => Lib.run_eql_slice_nil (P := Tryd.prog) w 40 5 (some ⟨g3, 0, none⟩) L2 c3 0 0 Tryd.underlying40
              go_upto_region 30 with fail
              clear hr5 hf5 hs5
              obtain ⟨hr5, hf5, hs5⟩ := HB5.out.cells
              have hown := own_string (P := Tryd.prog) Tryd.underlying40 Tryd.underlying5 Tryd.underlying9 HB5.out.own
              generalize w5.setCell ⟨w.heap.size + 1, 0, none⟩ (.slice (some ⟨g3, 0, none⟩) L2 c3) = w6 at HB5 hr5 hf5 hs5 hown ⊢
              go_wp2_with fail
              go_ret
              exact ⟨ret_str (by rw [HT.out.end_d]; try simp only [List.append_assoc, List.nil_append]), HB5.out.below⟩
          · have hsub : (wrap64 ((a0.size : Int) - y) == 1) = false := beq_eq_false_iff_ne.2 (by rw [HYM.out]; have := HMI.out; have := bytesOf_length a0; have := HS.out; unfold wrap64; omega)
            have hsub2 : decide (wrap64 ((a0.size : Int) - y) = 1) = false := decide_eq_false (beq_eq_false_iff_ne.1 hsub)
            clear hone
            obtain ⟨q, hqb, hqs, hsl⟩ := slice_part a0 sn m y HYM.out HSM.out (by have := HMI.out; have := bytesOf_length a0; omega)
            have HQB := Aside0.mk hqb
            have HQS := Aside0.mk hqs
            clear hqb hqs
            go_wp2_with (go_at_call 76; go_must (refine (make_calls w wr w.heap.size (w.heap.size + 1) a0 (.slice none 0 0) [] HS.out (by omega) (by omega) HX.out).mono ?_; rintro e w1 ⟨rfl, g1, c1, hb1⟩; have HB1 := Aside0.mk (hb1.drewN 1); obtain ⟨hr1, hf1, hs1⟩ := hb1.cells; clear hb1))
            go_still_tail 5, (by kernel_rfl)
            change wpList _ _ _ _ _ (w1.drewN 1)
            clear hnil hcr hsl hcs hr1 hf1 hs1
            generalize w1.drewN 1 = w2 at HB1 ⊢
            clear w1
            go_wp2_with (at_builtin; go_must (refine print_append_str (w0 := w) w.heap.size rfl (.tmp 110) (.tmp 114) 40 9 5 rfl Tryd.underlying40 Tryd.underlying9 infoU8 (.slice (some ⟨g1, 0, none⟩) 0 c1) [] q rfl rfl HB1.out.own HB1.out.below HB1.out.below.size (by rw [HQS.out]; have := HT.out.len_some; have := bytesOf_length a0; have := HS.out; omega) ?_))
            intro v1 w3 ho hb hg
            have ho1 : w3.ownsRow w.heap.size 5 1 v1 ([] ++ seg (bytesOf a0) sn m).length (nums .u8 ([] ++ seg (bytesOf a0) sn m)) := by simpa only [HQB.out, List.length_append, List.nil_append, List.length_nil, Nat.zero_add] using ho
            obtain ⟨L1, hL1⟩ : ∃ L1, L1 = ([] ++ seg (bytesOf a0) sn m).length := ⟨_, rfl⟩
            obtain ⟨A1, k1, hv1⟩ := own_slice ho1
            rw [← hL1] at hv1
            subst hv1
            clear hL1
            have HB3 := Aside0.mk (HB1.out.grow (by omega) (by omega) ho1 hb hg)
            obtain ⟨hr3, hf3, hs3⟩ := HB1.out.boxed hg
            clear ho ho1 hb hg
            go_upto_region 29 with fail
            clear hr3 hf3 hs3
            obtain ⟨hr3, hf3, hs3⟩ := HB3.out.cells
            generalize w3.setCell ⟨w.heap.size + 1, 0, none⟩ (.slice A1 L1 k1) = w4 at HB3 hr3 hf3 hs3 ⊢
            clear w3
            go_wp2_with (at_builtin; go_must (refine print_append_num (w0 := w) w.heap.size rfl (.tmp 116) (.tmp 117) 40 5 .u8 1 rfl Tryd.underlying40 infoU8 (by decide) (.slice A1 L1 k1) ([] ++ seg (bytesOf a0) sn m) 32 rfl rfl HB3.out.own HB3.out.below HB3.out.below.size (by rw [List.length_append]; have := HT.out.len_some; have := bytesOf_length a0; have := HS.out; omega) ?_))
            intro v2 w5 ho hb hg _
            have ho1 : w5.ownsRow w.heap.size 5 1 v2 ([] ++ seg (bytesOf a0) sn m ++ [32]).length (nums .u8 ([] ++ seg (bytesOf a0) sn m ++ [32])) := by simpa only [List.length_append, List.append_assoc, List.length_cons, List.length_nil, Nat.add_assoc, Nat.zero_add, List.nil_append] using ho
            obtain ⟨L2, hL2⟩ : ∃ L2, L2 = ([] ++ seg (bytesOf a0) sn m ++ [32]).length := ⟨_, rfl⟩
            obtain ⟨g3, c3, hv2, _, _⟩ := ho1.form (by rw [List.length_append]; exact Nat.succ_pos _)
            rw [← hL2] at hv2
            subst hv2
            have HL2 := Aside0.mk hL2
            clear hL2
            have HB5 := Aside0.mk (HB3.out.grow (by omega) (by omega) ho1 hb hg)
            obtain ⟨hr5, hf5, hs5⟩ := HB3.out.boxed hg
            clear ho ho1 hb hg hr3 hf3 hs3
            have hnil := fun (w : World) => Lib.run_eql_slice_nil (P := Tryd.prog) w 40 5 (some ⟨g3, 0, none⟩) L2 c3 0 0 Tryd.underlying40
            go_upto_region 30 with fail
            clear hr5 hf5 hs5
            obtain ⟨hr5, hf5, hs5⟩ := HB5.out.cells
            have hown := own_string (P := Tryd.prog) Tryd.underlying40 Tryd.underlying5 Tryd.underlying9 HB5.out.own
            generalize w5.setCell ⟨w.heap.size + 1, 0, none⟩ (.slice (some ⟨g3, 0, none⟩) L2 c3) = w6 at HB5 hr5 hf5 hs5 hown ⊢
            go_wp2_with fail
            go_ret
            exact ⟨ret_str (by rw [HT.out.end_d]; try simp only [List.append_assoc, List.nil_append]), HB5.out.below⟩
        · have hnil := fun (w : World) => Lib.run_eql_slice_nil (P := Tryd.prog) w 40 5 (some ⟨g, 0, none⟩) R.length c 0 0 Tryd.underlying40
          have hcr : wr.cell? ⟨w.heap.size + 1, 0, none⟩ = some (.slice (some ⟨g, 0, none⟩) R.length c) := blk_cell HX.out.box 0
          obtain ⟨q, hqb, hqs, hsl⟩ := slice_part a0 sn m y HYM.out HSM.out (by have := HMI.out; have := bytesOf_length a0; omega)
          have HQB := Aside0.mk hqb
          have HQS := Aside0.mk hqs
          clear hqb hqs
          go_wp2_with (go_at_call 76; go_must (refine (make_calls w wr w.heap.size (w.heap.size + 1) a0 (.slice (some ⟨g, 0, none⟩) R.length c) R HS.out (by omega) (by omega) HX.out).mono ?_; rintro e w1 ⟨rfl, g1, c1, hb1⟩; have HB1 := Aside0.mk (hb1.drewN 1); obtain ⟨hr1, hf1, hs1⟩ := hb1.cells; clear hb1))
          go_still_tail 5, (by kernel_rfl)
          change wpList _ _ _ _ _ (w1.drewN 1)
          clear hnil hcr hsl hcs hr1 hf1 hs1
          generalize w1.drewN 1 = w2 at HB1 ⊢
          clear w1
          go_wp2_with (at_builtin; go_must (refine print_append_str (w0 := w) w.heap.size rfl (.tmp 110) (.tmp 114) 40 9 5 rfl Tryd.underlying40 Tryd.underlying9 infoU8 (.slice (some ⟨g1, 0, none⟩) R.length c1) R q rfl rfl HB1.out.own HB1.out.below HB1.out.below.size (by rw [HQS.out]; have := HT.out.len_some; have := bytesOf_length a0; have := HS.out; omega) ?_))
          intro v1 w3 ho hb hg
          have ho1 : w3.ownsRow w.heap.size 5 1 v1 (R ++ seg (bytesOf a0) sn m).length (nums .u8 (R ++ seg (bytesOf a0) sn m)) := by simpa only [HQB.out, List.length_append, List.nil_append, List.length_nil, Nat.zero_add] using ho
          obtain ⟨L1, hL1⟩ : ∃ L1, L1 = (R ++ seg (bytesOf a0) sn m).length := ⟨_, rfl⟩
          obtain ⟨A1, k1, hv1⟩ := own_slice ho1
          rw [← hL1] at hv1
          subst hv1
          clear hL1
          have HB3 := Aside0.mk (HB1.out.grow (by omega) (by omega) ho1 hb hg)
          obtain ⟨hr3, hf3, hs3⟩ := HB1.out.boxed hg
          clear ho ho1 hb hg
          go_upto_region 29 with fail
          clear hr3 hf3 hs3
          obtain ⟨hr3, hf3, hs3⟩ := HB3.out.cells
          generalize w3.setCell ⟨w.heap.size + 1, 0, none⟩ (.slice A1 L1 k1) = w4 at HB3 hr3 hf3 hs3 ⊢
          clear w3
          go_wp2_with (at_builtin; go_must (refine print_append_num (w0 := w) w.heap.size rfl (.tmp 116) (.tmp 117) 40 5 .u8 1 rfl Tryd.underlying40 infoU8 (by decide) (.slice A1 L1 k1) (R ++ seg (bytesOf a0) sn m) 32 rfl rfl HB3.out.own HB3.out.below HB3.out.below.size (by rw [List.length_append]; have := HT.out.len_some; have := bytesOf_length a0; have := HS.out; omega) ?_))
          intro v2 w5 ho hb hg _
          have ho1 : w5.ownsRow w.heap.size 5 1 v2 (R ++ seg (bytesOf a0) sn m ++ [32]).length (nums .u8 (R ++ seg (bytesOf a0) sn m ++ [32])) := by simpa only [List.length_append, List.append_assoc, List.length_cons, List.length_nil, Nat.add_assoc, Nat.zero_add, List.nil_append] using ho
          obtain ⟨L2, hL2⟩ : ∃ L2, L2 = (R ++ seg (bytesOf a0) sn m ++ [32]).length := ⟨_, rfl⟩
          obtain ⟨g3, c3, hv2, _, _⟩ := ho1.form (by rw [List.length_append]; exact Nat.succ_pos _)
          rw [← hL2] at hv2
          subst hv2
          have HL2 := Aside0.mk hL2
          clear hL2
          have HB5 := Aside0.mk (HB3.out.grow (by omega) (by omega) ho1 hb hg)
          obtain ⟨hr5, hf5, hs5⟩ := HB3.out.boxed hg
          clear ho ho1 hb hg hr3 hf3 hs3
          have hnil := fun (w : World) => Lib.run_eql_slice_nil (P := Tryd.prog) w 40 5 (some ⟨g3, 0, none⟩) L2 c3 0 0 Tryd.underlying40
          go_upto_region 30 with fail
          clear hr5 hf5 hs5
          obtain ⟨hr5, hf5, hs5⟩ := HB5.out.cells
          have hown := own_string (P := Tryd.prog) Tryd.underlying40 Tryd.underlying5 Tryd.underlying9 HB5.out.own
          generalize w5.setCell ⟨w.heap.size + 1, 0, none⟩ (.slice (some ⟨g3, 0, none⟩) L2 c3) = w6 at HB5 hr5 hf5 hs5 hown ⊢
          go_wp2_with fail
          go_ret
          exact ⟨ret_str (by rw [HT.out.end_d]; try simp only [List.append_assoc, List.nil_append]), HB5.out.below⟩
end Go.Proofs.YtbhcoeabhdangaaDoor.Blank
