/- impl.made: a tree's nodes, as a table. -/
import Derived.Test.YtibfoaahdbdogaaMadeK
import Derived.Deep.RegionWith
import Derived.Deep.RegionLaw
import Derived.BigRegion
import Derived.Deep.DeepCutAuto
import Derived.StillTailTactics
namespace Go.Proofs.Ytibfoaahdbdogaa.Dom
open Go.RowKit Go.Proofs.YtibfoaahdbdogaaW.PrintWords Go.Proofs.YtibfoaahdbdogaaW.PrintLast Go.Proofs.YtibfoaahdbdogaaW.PrintMore Go.Proofs.Ytibfoaahdbdogaa.PDom
set_option linter.unusedVariables false
set_option linter.unusedSimpArgs false

set_option maxHeartbeats 4000000 in
set_option maxRecDepth 100000 in
theorem made_calls : ∀ (n : Nat) (t : T), SizeOf.sizeOf t ≤ n → Fit t → ∀ (w : World) (A3 : Option Addr) (c3 : Nat) (A4 : Option Addr) (c4 : Nat), k78.C w A3 t.f3.length t.f3 → t.f3.length ≤ c3 → k25.C w A4 t.f4.length t.f4 → t.f4.length ≤ c4 →
    Calls Try.prog 37 #[.agg #[.int .i64 t.f0, .string t.f1, .string t.f2, .slice A3 t.f3.length c3, .slice A4 t.f4.length c4]] w fun e w' => ∃ b D, e = .returned (ptr (some b)) ∧ Made w w' b D t := by
  intro n
  induction n with
  | zero =>
    intro t h
    cases t
    simp at h
  | succ n ih =>
    intro t hsz hfit w A3 c3 A4 c4 h3 l3 h4 l4
    obtain ⟨f0, f1, f2, f3, f4⟩ := t
    simp only at h3 l3 h4 l4 ⊢
    have HSZ := Aside0.mk hsz
    have HFIT := Aside0.mk hfit
    have H3 := Aside0.mk h3
    have H4 := Aside0.mk h4
    have L3 := Aside0.mk l3
    have L4 := Aside0.mk l4
    have IH := Aside0.mk ih
    clear hsz hfit h3 h4 l3 l4 ih
    by_cases k1 : f0 = 1
    · subst k1
      go_enter Try.func37, Try.ntmps37
      go_wp2
      go_ret
      exact ⟨_, _, rfl, leaf w _ ⟨1, f1, f2, f3, f4⟩ 1 (.inl rfl) rfl⟩
    · by_cases k2 : f0 = 2
      · subst k2
        go_enter Try.func37, Try.ntmps37
        go_wp2
        go_ret
        exact ⟨_, _, rfl, leaf w _ ⟨2, f1, f2, f3, f4⟩ 4 (.inr rfl) rfl⟩
      · by_cases k0 : f0 = 0
        · subst k0
          go_enter Try.func37, Try.ntmps37
          have ht := atom_some f1
          generalize (atom_ZzAtom.f f1).getD 0 = at_ at ht
          have HT := Aside0.mk ht
          clear ht
          go_wp2_with fail
          generalize hw1 : w.alloc (Obj.cells #[Value.int IntKind.i64 0, Value.string f1, Value.string f2, Value.slice A3 f3.length c3, Value.slice A4 f4.length c4] 25) = w1
          have hb1 : w1.cell? ⟨w.heap.size, 1, none⟩ = some (.string f1) := by rw [← hw1]; simp
          go_cut [3] (fun v3 wx => ∃ m : Nat, v3 = .pointer (some ⟨w1.heap.size, 0, none⟩) ∧ wx = (w1.drewN m).alloc (Obj.cells (Rec.cells ⟨none, none, none, none, none, 3, at_, f1, .slice none 0 0⟩) 86))
          case first =>
            go_region_with (go_at_call 57; refine (atom_ZzAtom.calls f1 _ _ HT.out).mono ?_; rintro e w' ⟨rfl, ⟨nd, rfl⟩⟩)
            all_goals (go_wp2_with fail; go_meet; exact ⟨_, rfl, rfl⟩)
          case rest =>
            obtain ⟨m, rfl, rfl⟩ := hcut
            have hs1 : w1.heap.size = w.heap.size + 1 := by rw [← hw1]; show (w.heap.push _).size = _; rw [Array.size_push]
            rw [hs1]
            have hbx : ((w1.drewN m).alloc (Obj.cells (Rec.cells ⟨none, none, none, none, none, 3, at_, f1, .slice none 0 0⟩) 86)).heap[w.heap.size]? = some (.cells #[Value.int IntKind.i64 0, Value.string f1, Value.string f2, Value.slice A3 f3.length c3, Value.slice A4 f4.length c4] 25 (0, 0)) := by
              rw [heap_alloc_old (w1.drewN m) _ (show w.heap.size < w1.heap.size by omega)]
              show w1.heap[w.heap.size]? = _
              rw [← hw1]
              exact heap_alloc_new w _
            have hnd : Has ((w1.drewN m).alloc (Obj.cells (Rec.cells ⟨none, none, none, none, none, 3, at_, f1, .slice none 0 0⟩) 86)) (w.heap.size + 1) ⟨none, none, none, none, none, 3, at_, f1, .slice none 0 0⟩ := by
              rw [← hs1]
              exact heap_alloc_new (w1.drewN m) _
            have hbl : Below w.heap.size w ((w1.drewN m).alloc (Obj.cells (Rec.cells ⟨none, none, none, none, none, 3, at_, f1, .slice none 0 0⟩) 86)) := by
              rw [← hw1]
              exact below_alloc (pw_below_drewN (below_alloc (Below.refl _ _) _) m) _
            generalize (w1.drewN m).alloc (Obj.cells (Rec.cells ⟨none, none, none, none, none, 3, at_, f1, .slice none 0 0⟩) 86) = W at *
            have x3 : W.cell? ⟨w.heap.size, 3, none⟩ = some (Value.slice A3 f3.length c3) := by rw [blk_cell hbx]; rfl
            have HBX := Aside0.mk hbx
            have HND := Aside0.mk hnd
            have HBL := Aside0.mk hbl
            clear hbx hnd hbl hs1 hb1 hw1
            go_wp2_with fail
            go_loopw [24] (fun i wr => ∃ (j : Nat) (v : Value), i = .int .i64 j ∧ j ≤ f3.length ∧ Aside0 (wr.heap[w.heap.size]? = some (.cells #[Value.int IntKind.i64 0, Value.string f1, Value.string f2, Value.slice A3 f3.length c3, Value.slice A4 f4.length c4] 25 (0, 0))) ∧ Aside0 (Has wr (w.heap.size + 1) ⟨none, none, none, none, none, 3, at_, f1, v⟩) ∧ Aside0 (kA.R 89 wr w.heap.size (fun _ => True) v ((f3.map fun a => (a.f0, a.f1)).take j)) ∧ Aside0 (Below w.heap.size w wr)) (fun i _ => f3.length - (intOf i).toNat)
            case atStart => exact ⟨0, _, rfl, Nat.zero_le _, HBX, HND, ⟨Kd.R_nil kA _ _ _ _⟩, HBL⟩
            case round =>
              obtain ⟨j, v, rfl, hj, HX, HN, HA, HB⟩ := hrel
              by_cases hlt : j < f3.length
              · obtain ⟨ad, rfl, hx0, hx1⟩ := at_T78 (Kd.C_below H3.out HB.out) (j : Int) (by omega) (by omega)
                simp only [Int.toNat_natCast] at hx0 hx1
                have he : rd_T78 f3 (j : Int) = f3[j] := by simp [rd_T78, List.getD_eq_getElem?_getD, List.getElem?_eq_getElem hlt]
                have hsn : (f3.map fun a => (a.f0, a.f1)).take (j + 1) = (f3.map fun a => (a.f0, a.f1)).take j ++ [(f3[j].f0, f3[j].f1)] := by
                  rw [List.take_succ_eq_append_getElem (by rw [List.length_map]; exact hlt), List.getElem_map]
                rw [he] at hx0 hx1
                generalize f3[j] = q at hx0 hx1 hsn
                obtain ⟨q0, q1⟩ := q
                simp only at hx0 hx1 hsn
                have HSN := Aside0.mk hsn
                clear he hsn
                go_wp2_with fail
                have hcp : (wr.alloc (Obj.cells #[Value.string q0, Value.string q1] 78)).heap[wr.heap.size]? = some (.cells #[Value.string q0, Value.string q1] 78 (0, 0)) := heap_alloc_new wr _
                have HB8 := Aside0.mk (below_alloc (Below.refl wr.heap.size wr) (Obj.cells #[Value.string q0, Value.string q1] 78))
                generalize wr.alloc (Obj.cells #[Value.string q0, Value.string q1] 78) = w8 at *
                have HN8 := Aside0.mk (HN.out.of_heap (HB8.out.block _ HN.out.lt))
                have n9' : w8.cell? ⟨w.heap.size + 1, 9, none⟩ = some v := HN8.out.cell 9
                have e0 : w8.cell? ⟨wr.heap.size, 0, none⟩ = some (.string q0) := by rw [blk_cell hcp]; rfl
                have e1 : w8.cell? ⟨wr.heap.size, 1, none⟩ = some (.string q1) := by rw [blk_cell hcp]; rfl
                have HA8 := Aside0.mk (Kd.R_below HA.out HB8.out)
                have f9' := HN8.out.frozen 9
                have hlj : ((f3.map fun a => (a.f0, a.f1)).take j).length ≤ 4398046510976 := by
                  obtain ⟨_, ha, _, _⟩ := HFIT.out
                  rw [List.length_take, List.length_map]
                  simp only at ha
                  omega
                have hnew : (w8.alloc (Obj.cells #[.string ⟨#[]⟩, .string q0, .string q1] 89)).heap[w8.heap.size]? = some (.cells #[.string ⟨#[]⟩, .string q0, .string q1] 89 (0, 0)) := heap_alloc_new w8 _
                have HNEW := Aside0.mk hnew
                have HA9 := Aside0.mk (Kd.R_below HA8.out (below_alloc (Below.refl w8.heap.size w8) (Obj.cells #[.string ⟨#[]⟩, .string q0, .string q1] 89)))
                clear hnew
                have hsz8 : w.heap.size ≤ (w8.alloc (Obj.cells #[.string ⟨#[]⟩, .string q0, .string q1] 89)).drew.heap.size := by
                  show w.heap.size ≤ (w8.heap.push _).size
                  rw [Array.size_push]
                  have := HB.out.size
                  have := HB8.out.size
                  omega
                have HSZ8 := Aside0.mk hsz8
                have HX8 := Aside0.mk ((HB8.out.block _ (Array.getElem?_eq_some_iff.1 HX.out).1).trans HX.out)
                have HB88 := Aside0.mk (below_alloc (below_step HB.out HB8.out) (Obj.cells #[.string ⟨#[]⟩, .string q0, .string q1] 89))
                have HNE := Aside0.mk (Kd.R_ne HA8.out HN8.out (by decide))
                have HNE2 := Aside0.mk (Kd.R_ne HA8.out HX8.out (by decide))
                have HBS := Aside0.mk (Kd.R_base HA8.out)
                clear hsz8
                have HLEN := Aside0.mk (show ((f3.map fun a => (a.f0, a.f1)).take j ++ [(q0, q1)]).length = j + 1 by rw [List.length_append, List.length_singleton, List.length_take, List.length_map]; omega)
                have HWJ := Aside0.mk (wrap_succ j (by obtain ⟨_, ha, _, _⟩ := HFIT.out; simp only at ha; omega))
                have n9s : (w8.alloc (Obj.cells #[.string ⟨#[]⟩, .string q0, .string q1] 89)).cell? ⟨w.heap.size + 1, 9, none⟩ = some v := by
                  have h := (heap_alloc_old w8 (Obj.cells #[.string ⟨#[]⟩, .string q0, .string q1] 89) HN8.out.lt).trans HN8.out
                  exact Has.cell h 9
                go_region_law (refine attr_step rfl (.tmp 32) (.tmp 38) 84 (.agg #[.string ⟨#[]⟩, .string ⟨#[]⟩, .string ⟨#[]⟩]) rfl Try.underlying84 infoA rfl w.heap.size HSZ8.out v ((f3.map fun a => (a.f0, a.f1)).take j) q0 q1 w8.heap.size (by simp [Act.eval, Act.put]) (by simp [Act.eval, Act.put]) HNEW.out (by exact HA9.out) hlj ?_; intro v1 w9 ho hg; obtain ⟨A9, c9, hv9⟩ := Kd.R_slice ho; rw [HLEN.out] at hv9; subst hv9; have HN9 := Aside0.mk (kept hg HN8.out HNE.out); have HX9 := Aside0.mk (kept hg HX8.out HNE2.out); have HB9 := Aside0.mk (kept_below hg HB88.out HSZ8.out HBS.out); have HO9 := Aside0.mk (attr_round (Nat.lt_succ_self _) HX9.out HN9.out ho HB9.out); clear ho hg; have n9x : w9.cell? ⟨w.heap.size + 1, 9, none⟩ = some v := Has.cell HN9.out 9; have f9x := Has.frozen HN9.out 9)
                all_goals (simp only [Exit.inBlock, Exit.then]; go_wp2_with fail; go_roundw)
                all_goals first
                  | exact ⟨j + 1, _, by rw [HWJ.out], by omega, ⟨HO9.out.1⟩, ⟨HO9.out.2.1⟩, ⟨by rw [HSN.out]; exact HO9.out.2.2.1⟩, ⟨HO9.out.2.2.2⟩⟩
                  | (rw [HWJ.out]; simp [intOf]; omega)
                  | trace_state
              · have hje : j = f3.length := by omega
                subst hje
                have HK := Aside0.mk (Kept.start (t := ⟨0, f1, f2, f3, f4⟩) HN.out (Kd.R_lower HA.out (Nat.zero_le _)) ⟨rfl, (by show at_ = atomOf _; unfold atomOf; rw [if_pos rfl, HT.out]; rfl), rfl, (by show _ = attrsOf _; unfold attrsOf; rw [if_pos rfl, List.take_of_length_le (by rw [List.length_map]; exact Nat.le_refl _)])⟩ HX.out HB.out)
                have x4 : wr.cell? ⟨w.heap.size, 4, none⟩ = some (.slice A4 f4.length c4) := by rw [blk_cell HX.out]; rfl
                clear HX HN HA HB
                go_wp2_with fail
                go_loopw [58] (fun i wr => ∃ (j : Nat) (D : Tab) (i0 : Info), i = .int .i64 j ∧ j ≤ f4.length ∧ Aside0 (Kept w wr (w.heap.size + 1) D i0 ⟨0, f1, f2, f3, f4⟩ (.cells #[Value.int IntKind.i64 0, Value.string f1, Value.string f2, Value.slice A3 f3.length c3, Value.slice A4 f4.length c4] 25 (0, 0)) j)) (fun i _ => f4.length - (intOf i).toNat)
                case atStart => exact ⟨0, _, _, rfl, Nat.zero_le _, HK⟩
                case round =>
                  obtain ⟨j, D, i0, rfl, hj, HK⟩ := hrel
                  by_cases hlt : j < f4.length
                  · obtain ⟨ad, A5, c5, A6, c6, rfl, y0, y1, y2, y3, y4, m3, g3, m4, g4⟩ := at_T25 (Kd.C_below H4.out HK.out.below) (j : Int) (by omega) (by omega)
                    have he : rd_T25 f4 (j : Int) = f4[j] := by simp [rd_T25, List.getD_eq_getElem?_getD, List.getElem?_eq_getElem hlt]
                    rw [he] at y0 y1 y2 y3 y4 m3 g3 m4 g4
                    simp only [Int.toNat_natCast] at y0 y1 y2 y3 y4
                    have hq : f4[j] ∈ f4 := List.getElem_mem _
                    have hfq : Fit f4[j] := by obtain ⟨_, _, _, hk⟩ := HFIT.out; exact hk _ hq
                    have hsq : SizeOf.sizeOf f4[j] ≤ n := by have h1 := kid_lt (t := ⟨0, f1, f2, f3, f4⟩) hq; have h2 := HSZ.out; omega
                    have hget : f4[j] = (⟨0, f1, f2, f3, f4⟩ : T).f4[j] := rfl
                    generalize hqe : f4[j] = q at *
                    have HQE := Aside0.mk hqe
                    obtain ⟨q0, q1, q2, q3, q4⟩ := q
                    simp only at y0 y1 y2 y3 y4 m3 g3 m4 g4
                    have HFQ := Aside0.mk hfq
                    have HSQ := Aside0.mk hsq
                    have G3 := Aside0.mk g3
                    have G4 := Aside0.mk g4
                    have M3 := Aside0.mk m3
                    have M4 := Aside0.mk m4
                    have HWJ := Aside0.mk (wrap_succ j (by obtain ⟨_, _, ha, _⟩ := HFIT.out; simp only at ha; omega))
                    clear he hq hfq hsq hqe m3 g3 m4 g4 hget
                    go_wp2_with fail
                    have HB1 := Aside0.mk (below_alloc (Below.refl wr.heap.size wr) (Obj.cells #[Value.int IntKind.i64 q0, Value.string q1, Value.string q2, Value.slice A5 q3.length c5, Value.slice A6 q4.length c6] 25))
                    refine (IH.out ⟨q0, q1, q2, q3, q4⟩ HSQ.out HFQ.out _ A5 c5 A6 c6 (Kd.C_below G3.out HB1.out) M3.out (Kd.C_below G4.out HB1.out) M4.out).mono ?_
                    rintro e w2 ⟨b, D', rfl, hm⟩
                    have HM := Aside0.mk hm
                    clear hm
                    obtain ⟨ic, hic, hu, hun, hub, hne, hroot, hself, hd, hlt2⟩ := HK.out.ready HB1.out HM.out
                    have RD := Aside0.mk (append_calls w2 (uni D D') (w.heap.size + 1) b i0 ic hu hun hub hne hroot hself)
                    have RS := Aside0.mk (fun w3 => Kept.step (w3 := w3) HK.out (Nat.lt_succ_self _) hlt HB1.out (by rw [← HQE.out] at HM; exact HM.out) hic hd hlt2)
                    clear hic hu hun hub hne hroot hself hd hlt2
                    simp only [ptr] at RD
                    go_wp2_with fail
                    refine RD.out.mono ?_
                    rintro e w3 ⟨rfl, hdom, ho⟩
                    have HK3 := Aside0.mk (RS.out w3 hdom ho)
                    clear hdom ho
                    go_wp2_with fail
                    go_roundw
                    case rel => exact ⟨j + 1, _, _, by rw [HWJ.out], by omega, HK3⟩
                    case measure => rw [HWJ.out]; simp [intOf]; omega
                  · have hje : j = f4.length := by omega
                    subst hje
                    go_wp2_with fail
                    go_ret
                    exact ⟨_, _, rfl, HK.out.done (Nat.lt_succ_self _) (by unfold flat; simp only; omega)⟩
        · have b0 : (f0 == 0) = false := by simp [k0]
          have b1 : (f0 == 1) = false := by simp [k1]
          have b2 : (f0 == 2) = false := by simp [k2]
          have hbx := two_old w (Obj.cells #[Value.int IntKind.i64 f0, Value.string f1, Value.string f2, Value.slice A3 f3.length c3, Value.slice A4 f4.length c4] 25) (Obj.cells #[Value.pointer none, Value.pointer none, Value.pointer none, Value.pointer none, Value.pointer none, Value.int IntKind.u32 2, Value.int IntKind.u32 0, Value.string ⟨#[]⟩, Value.string ⟨#[]⟩, Value.slice none 0 0] 86)
          have hnd : Has ((w.alloc (Obj.cells #[Value.int IntKind.i64 f0, Value.string f1, Value.string f2, Value.slice A3 f3.length c3, Value.slice A4 f4.length c4] 25)).alloc (Obj.cells #[Value.pointer none, Value.pointer none, Value.pointer none, Value.pointer none, Value.pointer none, Value.int IntKind.u32 2, Value.int IntKind.u32 0, Value.string ⟨#[]⟩, Value.string ⟨#[]⟩, Value.slice none 0 0] 86)) (w.heap.size + 1) ⟨none, none, none, none, none, 2, 0, ⟨#[]⟩, .slice none 0 0⟩ := two_new w (Obj.cells #[Value.int IntKind.i64 f0, Value.string f1, Value.string f2, Value.slice A3 f3.length c3, Value.slice A4 f4.length c4] 25) (Obj.cells #[Value.pointer none, Value.pointer none, Value.pointer none, Value.pointer none, Value.pointer none, Value.int IntKind.u32 2, Value.int IntKind.u32 0, Value.string ⟨#[]⟩, Value.string ⟨#[]⟩, Value.slice none 0 0] 86)
          have hbl : Below w.heap.size w ((w.alloc (Obj.cells #[Value.int IntKind.i64 f0, Value.string f1, Value.string f2, Value.slice A3 f3.length c3, Value.slice A4 f4.length c4] 25)).alloc (Obj.cells #[Value.pointer none, Value.pointer none, Value.pointer none, Value.pointer none, Value.pointer none, Value.int IntKind.u32 2, Value.int IntKind.u32 0, Value.string ⟨#[]⟩, Value.string ⟨#[]⟩, Value.slice none 0 0] 86)) := below_alloc (below_alloc (Below.refl _ _) _) _
          have hfl : ¬ flat (⟨f0, f1, f2, f3, f4⟩ : T) := by unfold flat; simp only; omega
          have HK := Aside0.mk (Kept.start (t := ⟨f0, f1, f2, f3, f4⟩) hnd (Kd.R_nil kA _ _ _ _) ⟨(by show (2 : Int) = tyOf f0; unfold tyOf; rw [if_neg k0, if_neg k1, if_neg k2]), (by show (0 : Int) = atomOf _; unfold atomOf; rw [if_neg k0]), (by show _ = dataOf _; unfold dataOf; rw [if_neg k0, if_neg hfl]), (by show _ = attrsOf _; unfold attrsOf; rw [if_neg k0])⟩ hbx hbl)
          clear hbx hnd hbl hfl
          go_enter Try.func37, Try.ntmps37
          go_wp2_with fail
          go_loopw [58] (fun i wr => ∃ (j : Nat) (D : Tab) (i0 : Info), i = .int .i64 j ∧ j ≤ f4.length ∧ Aside0 (Kept w wr (w.heap.size + 1) D i0 ⟨f0, f1, f2, f3, f4⟩ (.cells #[Value.int IntKind.i64 f0, Value.string f1, Value.string f2, Value.slice A3 f3.length c3, Value.slice A4 f4.length c4] 25 (0, 0)) j)) (fun i _ => f4.length - (intOf i).toNat)
          case atStart => exact ⟨0, _, _, rfl, Nat.zero_le _, HK⟩
          case round =>
            obtain ⟨j, D, i0, rfl, hj, HK⟩ := hrel
            by_cases hlt : j < f4.length
            · obtain ⟨ad, A5, c5, A6, c6, rfl, y0, y1, y2, y3, y4, m3, g3, m4, g4⟩ := at_T25 (Kd.C_below H4.out HK.out.below) (j : Int) (by omega) (by omega)
              have he : rd_T25 f4 (j : Int) = f4[j] := by simp [rd_T25, List.getD_eq_getElem?_getD, List.getElem?_eq_getElem hlt]
              rw [he] at y0 y1 y2 y3 y4 m3 g3 m4 g4
              simp only [Int.toNat_natCast] at y0 y1 y2 y3 y4
              have hq : f4[j] ∈ f4 := List.getElem_mem _
              have hfq : Fit f4[j] := by obtain ⟨_, _, _, hk⟩ := HFIT.out; exact hk _ hq
              have hsq : SizeOf.sizeOf f4[j] ≤ n := by have h1 := kid_lt (t := ⟨f0, f1, f2, f3, f4⟩) hq; have h2 := HSZ.out; omega
              have hget : f4[j] = (⟨f0, f1, f2, f3, f4⟩ : T).f4[j] := rfl
              generalize hqe : f4[j] = q at *
              have HQE := Aside0.mk hqe
              obtain ⟨q0, q1, q2, q3, q4⟩ := q
              simp only at y0 y1 y2 y3 y4 m3 g3 m4 g4
              have HFQ := Aside0.mk hfq
              have HSQ := Aside0.mk hsq
              have G3 := Aside0.mk g3
              have G4 := Aside0.mk g4
              have M3 := Aside0.mk m3
              have M4 := Aside0.mk m4
              have HWJ := Aside0.mk (wrap_succ j (by obtain ⟨_, _, ha, _⟩ := HFIT.out; simp only at ha; omega))
              clear he hq hfq hsq hqe m3 g3 m4 g4 hget
              go_wp2_with fail
              have HB1 := Aside0.mk (below_alloc (Below.refl wr.heap.size wr) (Obj.cells #[Value.int IntKind.i64 q0, Value.string q1, Value.string q2, Value.slice A5 q3.length c5, Value.slice A6 q4.length c6] 25))
              refine (IH.out ⟨q0, q1, q2, q3, q4⟩ HSQ.out HFQ.out _ A5 c5 A6 c6 (Kd.C_below G3.out HB1.out) M3.out (Kd.C_below G4.out HB1.out) M4.out).mono ?_
              rintro e w2 ⟨b, D', rfl, hm⟩
              have HM := Aside0.mk hm
              clear hm
              obtain ⟨ic, hic, hu, hun, hub, hne, hroot, hself, hd, hlt2⟩ := HK.out.ready HB1.out HM.out
              have RD := Aside0.mk (append_calls w2 (uni D D') (w.heap.size + 1) b i0 ic hu hun hub hne hroot hself)
              have RS := Aside0.mk (fun w3 => Kept.step (w3 := w3) HK.out (Nat.lt_succ_self _) hlt HB1.out (by rw [← HQE.out] at HM; exact HM.out) hic hd hlt2)
              clear hic hu hun hub hne hroot hself hd hlt2
              simp only [ptr] at RD
              go_wp2_with fail
              refine RD.out.mono ?_
              rintro e w3 ⟨rfl, hdom, ho⟩
              have HK3 := Aside0.mk (RS.out w3 hdom ho)
              clear hdom ho
              go_wp2_with fail
              go_roundw
              case rel => exact ⟨j + 1, _, _, by rw [HWJ.out], by omega, HK3⟩
              case measure => rw [HWJ.out]; simp [intOf]; omega
            · have hje : j = f4.length := by omega
              subst hje
              go_wp2_with fail
              go_ret
              exact ⟨_, _, rfl, HK.out.done (Nat.lt_succ_self _) (by unfold flat; simp only; omega)⟩
end Go.Proofs.Ytibfoaahdbdogaa.Dom
