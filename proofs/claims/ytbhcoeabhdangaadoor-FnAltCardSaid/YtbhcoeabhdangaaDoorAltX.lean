/- commonmark.escapeAlt, over the shelf's contracts of bytes.Buffer: a backslash ahead of brackets that have none. -/
import Derived.Test.YtbhcoeabhdangaaDoorTxt
import Derived.Test.YtbhcoeabhdangaaDoorShelf
import Derived.Deep.DeepMust
import Derived.Tactics2
namespace Go.Proofs.YtbhcoeabhdangaaDoor.PInl
open Go.Proofs.YtbhcoeabhdangaaDoor.Txt Go.RowKit Go.Proofs.YtbhcoeabhdangaaDoorW.PrintWords Go.Proofs.YtbhcoeabhdangaaDoorW.PrintLast Go.Proofs.YtbhcoeabhdangaaDoorW.PrintMore
set_option linter.unusedVariables false
set_option linter.unusedSimpArgs false

def altC (l : List Int) (i : Nat) : Prop := (rd l i = 91 ∨ rd l i = 93) ∧ (i = 0 ∨ rd l ((i : Int) - 1) ≠ 92)
instance (l : List Int) (i : Nat) : Decidable (altC l i) := by unfold altC; exact inferInstance
/-- What a text's first places become. -/
def altUp (l : List Int) : Nat → List Int
  | 0 => []
  | i + 1 => altUp l i ++ (if altC l i then [92, rd l i] else [rd l i])
theorem altUp_len (l : List Int) (j : Nat) : (altUp l j).length ≤ 2 * j := by
  induction j with
  | zero => simp [altUp]
  | succ j ih =>
    unfold altUp
    rw [List.length_append]
    split <;> simp <;> omega
theorem nums_one (x : List Int) : ∀ v ∈ nums .u8 x, v.oneCell' = true := by
  intro v hv
  obtain ⟨n, _, rfl⟩ := List.mem_map.1 hv
  rfl
theorem nums_cells {x : List Int} (h : Byt x) : nums .u8 x = Lib.byteCells (x.map fun n => UInt8.ofNat n.toNat) := by
  unfold nums Lib.byteCells
  rw [List.map_map]
  refine List.map_congr_left (fun n hn => ?_)
  have := h n hn
  show Value.int .u8 n = Value.int .u8 ((UInt8.ofNat n.toNat).toNat : Int)
  rw [UInt8.toNat_ofNat']
  congr 1
  omega
theorem altUp_byt {l : List Int} (h : Byt l) (j : Nat) (hj : j ≤ l.length) : Byt (altUp l j) := by
  induction j with
  | zero => exact Byt.nil
  | succ j ih =>
    have hb := h l[j] (List.getElem_mem (by omega))
    have e : rd l (j : Int) = l[j] := rd_get (by omega)
    unfold altUp
    split
    · exact (ih (by omega)).app (Byt.cons (by omega) (by omega) (Byt.one (by omega) (by omega)))
    · exact (ih (by omega)).app (Byt.one (by omega) (by omega))
/-- The buffer behind the first j places. -/
structure AltI (W1 : World) (b : Nat) (x : List Int) (w : World) : Prop where
  buf : Lib.IsBuffer 69 5 b b (nums .u8 x) w
  b : Below W1.heap.size W1 w
set_option maxRecDepth 100000 in
set_option maxHeartbeats 1000000 in
theorem escape_calls (s : ByteArray) (w : World) (hs : s.size ≤ 2147483647) :
    Calls Tryd.prog 42 #[.string s] w fun e w' => e = .returned (.string (strOfNums (altUp (bytesOf s) s.size))) ∧ Below w.heap.size w w' := by
  have kb := fun W => print_bytes (P := Tryd.prog) 9 40 5 Tryd.underlying9 Tryd.underlying40 Tryd.underlying5 s W
  have hl := bytesOf_length s
  have HL := Aside0.mk hl
  have HR := Aside0.mk (bytes_reads w 5 s (by omega))
  have HB0 := Aside0.mk (bytes_below (Below.refl w.heap.size w) (Nat.le_refl _) 5 s)
  have HBY := Aside0.mk (Byt.of s)
  clear hl
  go_enter Tryd.func42, Tryd.ntmps42
  go_upto_region 2 with fail
  generalize Lib.bytesWorld w 5 s = W1 at HR HB0 ⊢
  have HLS := Aside0.mk (Eq.refl (bytesOf s))
  generalize hls : bytesOf s = l at HL HR HBY ⊢
  replace HLS := Aside0.mk hls
  clear hls
  go_upto_region 3 with fail
  have HI : Aside0 (AltI W1 W1.heap.size [] (W1.alloc (.cells #[.slice none 0 0, .int .i64 0, .int .i8 0] 69))) := ⟨⟨Lib.fresh_isBuffer _ _ _, below_alloc (Below.refl _ _) _⟩⟩
  generalize W1.alloc _ = w2 at HI ⊢
  generalize hb : W1.heap.size = b at HI ⊢
  have HBW : Aside0 (∀ wx, AltI W1 b [] wx → True) := ⟨fun _ _ => trivial⟩
  clear HBW
  have HSB := Aside0.mk hb
  have NW : Aside0 (w.heap.size ≤ W1.heap.size) := ⟨HB0.out.size⟩
  generalize hN : w.heap.size = N at HR HB0 NW ⊢
  have HN := Aside0.mk hN
  clear hb hN
  go_wp2
  go_loopg [11] s.size (fun n vi wr => ∃ j : Nat, n = s.size - j ∧ j ≤ s.size ∧ vi = .int .i64 j ∧ Aside0 (AltI W1 b (altUp l j) wr))
  case atStart => exact ⟨0, rfl, Nat.zero_le _, rfl, HI⟩
  case round =>
    obtain ⟨j, rfl, hj, rfl, HJ⟩ := hrel
    clear HI
    by_cases hlt : j < s.size
    · have hll : j < l.length := by have := HL.out; omega
      have rat : ∀ (i : Nat), i < s.size → ∀ wx, Below W1.heap.size W1 wx → wx.cell? ⟨N, i, none⟩ = some (.int .u8 (rd l i)) := fun i hi wx hw => by
        obtain ⟨ad, ha, hc⟩ := (HR.out.below hw).at_ (i : Int) (by omega) (by omega)
        obtain rfl := Option.some.inj ha
        rw [Int.toNat_natCast, add_plain] at hc
        exact hc
      have RAT := Aside0.mk rat
      have cj := rat j hlt wr HJ.out.b
      have hbj := HBY.out l[j] (List.getElem_mem hll)
      rw [← rd_get hll] at hbj
      have hstep : altUp l (j + 1) = altUp l j ++ (if altC l j then [92, rd l j] else [rd l j]) := rfl
      have HST := Aside0.mk hstep
      have hln := altUp_len l j
      have HLN := Aside0.mk hln
      have hw1 : wrap64 ((j : Int) - 1) = (j : Int) - 1 := wrap_id (by omega) (by omega)
      clear rat hstep hln
      have CB : Aside0 (∀ (y : List Int) (q : Int) wx, y.length ≤ 2 * j + 1 → AltI W1 b y wx → Calls Tryd.prog 58 #[.pointer (some ⟨b, 0, none⟩), .int .u8 q] wx fun e w' => e = .returned .nilIface ∧ AltI W1 b (y ++ [q]) w') := ⟨fun y q wx hy h => by
        refine (Tryd.Buffer_WriteByte_k b b (nums .u8 y) q wx h.buf (by rw [← HSB.out]; exact h.b.size) (nums_one y) (by rw [nums_length]; omega)).mono ?_
        rintro e w' ⟨rfl, h1, h2, _⟩
        refine ⟨rfl, ⟨by rw [nums_append]; exact h1, ?_⟩⟩
        have := h.b
        rw [HSB.out] at this ⊢
        exact this.trans h2⟩
      have CR : Aside0 (∀ (y : List Int) wx, y.length ≤ 2 * j → AltI W1 b y wx → Calls Tryd.prog 49 #[.pointer (some ⟨b, 0, none⟩), .int .i32 92] wx fun e w' => e = .returned (.tuple #[.int .i64 1, .nilIface]) ∧ AltI W1 b (y ++ [92]) w') := ⟨fun y wx hy h => by
        refine (Tryd.Buffer_WriteRune_ascii b b (nums .u8 y) 92 (by decide) (by decide) wx h.buf (by rw [← HSB.out]; exact h.b.size) (nums_one y) (by rw [nums_length]; omega)).mono ?_
        rintro e w' ⟨rfl, h1, h2, _⟩
        refine ⟨rfl, ⟨by rw [nums_append]; exact h1, ?_⟩⟩
        have := h.b
        rw [HSB.out] at this ⊢
        exact this.trans h2⟩
      have hx : rd l (j : Int) = rd l (j : Int) := rfl
      generalize hxx : rd l (j : Int) = x at cj hbj HST
      have HX := Aside0.mk hxx
      clear hx hxx
      by_cases hbr : x = 91 ∨ x = 93
      · rcases Nat.eq_zero_or_pos j with hj0 | hj0
        · have hc : altC l j := ⟨by rw [HX.out]; exact hbr, .inl hj0⟩
          have HST2 := Aside0.mk (show altUp l (j + 1) = altUp l j ++ [92] ++ [x] by rw [HST.out, if_pos hc, List.append_assoc]; rfl)
          clear HST hc
          have HST := HST2
          clear HST2
          subst hj0
          rcases hbr with rfl | rfl
          all_goals
            go_wp2_with (first
              | (go_at_call 49; go_must (refine (CR.out _ _ HLN.out HJ.out).mono ?_; rintro e w3 ⟨rfl, hi3⟩; have HJ1 := Aside0.mk hi3; clear hi3; have cj := RAT.out _ hlt w3 HJ1.out.b; rw [HX.out] at cj))
              | (go_at_call 58; go_must (refine (CB.out _ _ _ (by have := HLN.out; rw [List.length_append, List.length_singleton]; omega) HJ1.out).mono ?_; rintro e w4 ⟨rfl, hi4⟩; have HJ2 := Aside0.mk hi4; clear hi4)))
            go_roundg (s.size - (0 + 1))
            case rel => exact ⟨0 + 1, rfl, hlt, by first | rfl | (rw [wrap_id (by omega) (by omega)]; rfl), ⟨by rw [HST.out]; exact HJ2.out⟩⟩
            case measure => omega
        · obtain ⟨m, rfl⟩ := Nat.exists_eq_succ_of_ne_zero (Nat.pos_iff_ne_zero.1 hj0)
          have hm1 : (((m + 1 : Nat) : Int)) - 1 = (m : Int) := by omega
          have cp := RAT.out m (by omega) wr HJ.out.b
          generalize hpp : rd l (m : Int) = p at cp
          have HP := Aside0.mk hpp
          have hwm : wrap64 (m : Int) = (m : Int) := wrap_id (by omega) (by omega)
          have hm0 : ¬ ((m : Int) < 0) := by omega
          clear hpp hw1
          by_cases hp : p = 92
          · have hc : ¬ altC l (m + 1) := fun h => by
              rcases h.2 with h1 | h1
              · omega
              · rw [hm1, HP.out] at h1
                exact h1 hp
            have HST2 := Aside0.mk (show altUp l (m + 1 + 1) = altUp l (m + 1) ++ [x] by rw [HST.out, if_neg hc])
            clear HST hc
            have HST := HST2
            clear HST2
            subst hp
            rcases hbr with rfl | rfl
            all_goals
              go_wp2_with (first
                | (go_at_call 49; go_must (refine (CR.out _ _ HLN.out HJ.out).mono ?_; rintro e w3 ⟨rfl, hi3⟩; have HJ1 := Aside0.mk hi3; clear hi3; have cj := RAT.out _ hlt w3 HJ1.out.b; rw [HX.out] at cj))
                | (go_at_call 58; go_must (refine (CB.out _ _ _ (by have := HLN.out; omega) HJ.out).mono ?_; rintro e w4 ⟨rfl, hi4⟩; have HJ2 := Aside0.mk hi4; clear hi4)))
              go_roundg (s.size - (m + 1 + 1))
              case rel => exact ⟨m + 1 + 1, rfl, hlt, by first | rfl | (rw [wrap_id (by omega) (by omega)]; rfl), ⟨by rw [HST.out]; exact HJ2.out⟩⟩
              case measure => omega
          · have hc : altC l (m + 1) := ⟨by rw [HX.out]; exact hbr, .inr (by rw [hm1, HP.out]; exact hp)⟩
            have HST2 := Aside0.mk (show altUp l (m + 1 + 1) = altUp l (m + 1) ++ [92] ++ [x] by rw [HST.out, if_pos hc, List.append_assoc]; rfl)
            clear HST hc
            have HST := HST2
            clear HST2
            have hpb : (p == 92) = false := beq_eq_false_iff_ne.2 hp
            rcases hbr with rfl | rfl
            all_goals
              go_wp2_with (first
                | (go_at_call 49; go_must (refine (CR.out _ _ HLN.out HJ.out).mono ?_; rintro e w3 ⟨rfl, hi3⟩; have HJ1 := Aside0.mk hi3; clear hi3; have cj := RAT.out _ hlt w3 HJ1.out.b; rw [HX.out] at cj))
                | (go_at_call 58; go_must (refine (CB.out _ _ _ (by have := HLN.out; rw [List.length_append, List.length_singleton]; omega) HJ1.out).mono ?_; rintro e w4 ⟨rfl, hi4⟩; have HJ2 := Aside0.mk hi4; clear hi4)))
              go_roundg (s.size - (m + 1 + 1))
              case rel => exact ⟨m + 1 + 1, rfl, hlt, by first | rfl | (rw [wrap_id (by omega) (by omega)]; rfl), ⟨by rw [HST.out]; exact HJ2.out⟩⟩
              case measure => omega
      · have hc : ¬ altC l j := fun h => hbr (by rw [← HX.out]; exact h.1)
        rw [if_neg hc] at HST
        clear hc
        have h91 : (x == 91) = false := beq_eq_false_iff_ne.2 (fun e => hbr (.inl e))
        have h93 : (x == 93) = false := beq_eq_false_iff_ne.2 (fun e => hbr (.inr e))
        clear hbr
        go_wp2_with (go_at_call 58; go_must (refine (CB.out _ _ _ (by have := HLN.out; omega) HJ.out).mono ?_; rintro e w4 ⟨rfl, hi4⟩; have HJ2 := Aside0.mk hi4; clear hi4))
        go_roundg (s.size - (j + 1))
        case rel => exact ⟨j + 1, rfl, hlt, by first | rfl | (rw [wrap_id (by omega) (by omega)]; rfl), ⟨by rw [HST.out]; exact HJ2.out⟩⟩
        case measure => omega
    · have hje : j = s.size := by omega
      have HF := HJ.out.buf
      rw [hje, nums_cells (altUp_byt HBY.out s.size (by rw [HL.out]; exact Nat.le_refl _))] at HF
      have CS := Aside0.mk (Tryd.Buffer_String b b _ wr HF)
      have HBB := Aside0.mk (HB0.out.trans (by rw [show N = N from rfl]; exact HJ.out.b.mono NW.out))
      clear HF
      go_wp2_with (go_at_call 59; go_must (refine CS.out.mono ?_; rintro e w4 ⟨rfl, nd, rfl⟩))
      go_ret
      rw [HLS.out]
      refine ⟨rfl, ?_⟩
      rw [HN.out]
      exact pw_below_drewN HBB.out nd
def impl_Alt.f (_ : Nat) (a0 : ByteArray) : Option ByteArray := if a0.size ≤ 2147483647 then some (strOfNums (altUp (bytesOf a0) a0.size)) else none
theorem impl_Alt.mono : ∀ a0 k, LeO (impl_Alt.f k a0) (impl_Alt.f (k + 1) a0) := fun _ _ => LeO.refl _
theorem zzalt_calls (s : ByteArray) (w : World) (hs : s.size ≤ 2147483647) :
    Calls Tryd.prog 30 #[.string s] w fun e w' => e = .returned (.string (strOfNums (altUp (bytesOf s) s.size))) ∧ Below w.heap.size w w' := by
  have C := Aside0.mk (escape_calls s w hs)
  generalize strOfNums (altUp (bytesOf s) s.size) = r at C ⊢
  go_enter Tryd.func30, Tryd.ntmps30
  go_wp2_with (go_at_call 42; go_must (refine C.out.mono ?_; rintro e w1 ⟨rfl, hB⟩; have HB := Aside0.mk hB; clear hB))
  go_ret
  exact ⟨rfl, HB.out⟩
theorem impl_Alt.calls (k : Nat) (a0 : ByteArray) (r : ByteArray) (w : World) (h : impl_Alt.f k a0 = some r) :
    Calls Tryd.prog 15 #[.string a0] w fun e w' => e = .returned (.string r) ∧ Below w.heap.size w w' := by
  unfold impl_Alt.f at h
  split at h
  case isFalse => cases h
  rename_i hs
  obtain rfl := Option.some.inj h
  have C := Aside0.mk (zzalt_calls a0 w hs)
  clear h
  generalize strOfNums (altUp (bytesOf a0) a0.size) = r at C ⊢
  go_enter Tryd.func15, Tryd.ntmps15
  go_wp2_with (go_at_call 30; go_must (refine C.out.mono ?_; rintro e w1 ⟨rfl, hB⟩; have HB := Aside0.mk hB; clear hB))
  go_ret
  exact ⟨rfl, HB.out⟩
end Go.Proofs.YtbhcoeabhdangaaDoor.PInl
