/- A part of the proof of FnRedundant: MadeX, NodeX, RTree, PathX, AllX, SibX, NbrX, NextP, AtX, NodupT, Surg, PtrEq, SurgX, ToldX, Mapa, SurgI, Sur2, Repl, Steps, WrapX, UnwX, NameX, DomTot, NormT, AllN, SibN, Guard, Chg, Tell, RedP, FindX, NamedX, Beh, RedX, SibM, ReplX, one behind the other. -/
import Derived.Test.YtmfjbljdbkmkgaaMFnRedundant2
import Derived.Deep.RegionWith
import Derived.Deep.RegionLaw
import Derived.BigRegion
import Derived.Deep.DeepCutAuto
import Derived.StillTailTactics
import Derived.Deep.DeepMust
import Derived.Deep.LoopGhost
import Derived.Laws.EntriesVeiled
import Derived.LaidEqlPtr
import Derived.RegionTactic
import Derived.Tactics2
import Derived.Test.YtmfjbljdbkmkgaaMFnRedundant1
import Derived.Test.YtmfjbljdbkmkgaaProg
import Derived.Tactics
import Derived.Defers
import Derived.Recover
import Derived.Laws.Pointers
/- impl.made: a tree's nodes, as a table. -/
namespace Go.Proofs.Ytmfjbljdbkmkgaa.Dom
open Go.RowKit Go.Proofs.YtmfjbljdbkmkgaaW.PrintWords Go.Proofs.YtmfjbljdbkmkgaaW.PrintLast Go.Proofs.YtmfjbljdbkmkgaaW.PrintMore Go.Proofs.Ytmfjbljdbkmkgaa.PDom
set_option linter.unusedVariables false
set_option linter.unusedSimpArgs false

set_option maxHeartbeats 4000000 in
set_option maxRecDepth 100000 in
theorem made_calls : ∀ (n : Nat) (t : T), SizeOf.sizeOf t ≤ n → Fit t → ∀ (w : World) (A3 : Option Addr) (c3 : Nat) (A4 : Option Addr) (c4 : Nat), k53.C w A3 t.f3.length t.f3 → t.f3.length ≤ c3 → k25.C w A4 t.f4.length t.f4 → t.f4.length ≤ c4 →
    Calls Try.prog 65 #[.agg #[.int .i64 t.f0, .string t.f1, .string t.f2, .slice A3 t.f3.length c3, .slice A4 t.f4.length c4]] w fun e w' => ∃ b D, e = .returned (ptr (some b)) ∧ Made w w' b D t := by
  intro n
  induction n with
  | zero =>
    intro t h
    cases t
    simp at h
  | succ n ih =>
    intro t hsz hfit w A3 c3 A4 c4 h3 l3 h4 l4
    obtain ⟨f0, f1, f2, f3, f4⟩ := t
    simp only at h3 l3 h4 l4 ⊢
    have HSZ := Aside0.mk hsz
    have HFIT := Aside0.mk hfit
    have H3 := Aside0.mk h3
    have H4 := Aside0.mk h4
    have L3 := Aside0.mk l3
    have L4 := Aside0.mk l4
    have IH := Aside0.mk ih
    clear hsz hfit h3 h4 l3 l4 ih
    by_cases k1 : f0 = 1
    · subst k1
      go_enter Try.func65, Try.ntmps65
      go_wp2
      go_ret
      exact ⟨_, _, rfl, leaf w _ ⟨1, f1, f2, f3, f4⟩ 1 (.inl rfl) rfl⟩
    · by_cases k2 : f0 = 2
      · subst k2
        go_enter Try.func65, Try.ntmps65
        go_wp2
        go_ret
        exact ⟨_, _, rfl, leaf w _ ⟨2, f1, f2, f3, f4⟩ 4 (.inr rfl) rfl⟩
      · by_cases k0 : f0 = 0
        · subst k0
          go_enter Try.func65, Try.ntmps65
          have ht := atom_some f1
          generalize (atom_ZzAtom.f f1).getD 0 = at_ at ht
          have HT := Aside0.mk ht
          clear ht
          go_wp2_with fail
          generalize hw1 : w.alloc (Obj.cells #[Value.int IntKind.i64 0, Value.string f1, Value.string f2, Value.slice A3 f3.length c3, Value.slice A4 f4.length c4] 25) = w1
          have hb1 : w1.cell? ⟨w.heap.size, 1, none⟩ = some (.string f1) := by rw [← hw1]; simp
          go_cut [3] (fun v3 wx => ∃ m : Nat, v3 = .pointer (some ⟨w1.heap.size, 0, none⟩) ∧ wx = (w1.drewN m).alloc (Obj.cells (Rec.cells ⟨none, none, none, none, none, 3, at_, f1, .slice none 0 0⟩) 81))
          case first =>
            go_region_with (go_at_call 95; refine (atom_ZzAtom.calls f1 _ _ HT.out).mono ?_; rintro e w' ⟨rfl, ⟨nd, rfl⟩⟩)
            all_goals (go_wp2_with fail; go_meet; exact ⟨_, rfl, rfl⟩)
          case rest =>
            obtain ⟨m, rfl, rfl⟩ := hcut
            have hs1 : w1.heap.size = w.heap.size + 1 := by rw [← hw1]; show (w.heap.push _).size = _; rw [Array.size_push]
            rw [hs1]
            have hbx : ((w1.drewN m).alloc (Obj.cells (Rec.cells ⟨none, none, none, none, none, 3, at_, f1, .slice none 0 0⟩) 81)).heap[w.heap.size]? = some (.cells #[Value.int IntKind.i64 0, Value.string f1, Value.string f2, Value.slice A3 f3.length c3, Value.slice A4 f4.length c4] 25 (0, 0)) := by
              rw [heap_alloc_old (w1.drewN m) _ (show w.heap.size < w1.heap.size by omega)]
              show w1.heap[w.heap.size]? = _
              rw [← hw1]
              exact heap_alloc_new w _
            have hnd : Has ((w1.drewN m).alloc (Obj.cells (Rec.cells ⟨none, none, none, none, none, 3, at_, f1, .slice none 0 0⟩) 81)) (w.heap.size + 1) ⟨none, none, none, none, none, 3, at_, f1, .slice none 0 0⟩ := by
              rw [← hs1]
              exact heap_alloc_new (w1.drewN m) _
            have hbl : Below w.heap.size w ((w1.drewN m).alloc (Obj.cells (Rec.cells ⟨none, none, none, none, none, 3, at_, f1, .slice none 0 0⟩) 81)) := by
              rw [← hw1]
              exact below_alloc (pw_below_drewN (below_alloc (Below.refl _ _) _) m) _
            generalize (w1.drewN m).alloc (Obj.cells (Rec.cells ⟨none, none, none, none, none, 3, at_, f1, .slice none 0 0⟩) 81) = W at *
            have x3 : W.cell? ⟨w.heap.size, 3, none⟩ = some (Value.slice A3 f3.length c3) := by rw [blk_cell hbx]; rfl
            have HBX := Aside0.mk hbx
            have HND := Aside0.mk hnd
            have HBL := Aside0.mk hbl
            clear hbx hnd hbl hs1 hb1 hw1
            go_wp2_with fail
            go_loopw [24] (fun i wr => ∃ (j : Nat) (v : Value), i = .int .i64 j ∧ j ≤ f3.length ∧ Aside0 (wr.heap[w.heap.size]? = some (.cells #[Value.int IntKind.i64 0, Value.string f1, Value.string f2, Value.slice A3 f3.length c3, Value.slice A4 f4.length c4] 25 (0, 0))) ∧ Aside0 (Has wr (w.heap.size + 1) ⟨none, none, none, none, none, 3, at_, f1, v⟩) ∧ Aside0 (kA.R 106 wr w.heap.size (fun _ => True) v ((f3.map fun a => (a.f0, a.f1)).take j)) ∧ Aside0 (Below w.heap.size w wr)) (fun i _ => f3.length - (intOf i).toNat)
            case atStart => exact ⟨0, _, rfl, Nat.zero_le _, HBX, HND, ⟨Kd.R_nil kA _ _ _ _⟩, HBL⟩
            case round =>
              obtain ⟨j, v, rfl, hj, HX, HN, HA, HB⟩ := hrel
              by_cases hlt : j < f3.length
              · obtain ⟨ad, rfl, hx0, hx1⟩ := at_T53 (Kd.C_below H3.out HB.out) (j : Int) (by omega) (by omega)
                simp only [Int.toNat_natCast] at hx0 hx1
                have he : rd_T53 f3 (j : Int) = f3[j] := by simp [rd_T53, List.getD_eq_getElem?_getD, List.getElem?_eq_getElem hlt]
                have hsn : (f3.map fun a => (a.f0, a.f1)).take (j + 1) = (f3.map fun a => (a.f0, a.f1)).take j ++ [(f3[j].f0, f3[j].f1)] := by
                  rw [List.take_succ_eq_append_getElem (by rw [List.length_map]; exact hlt), List.getElem_map]
                rw [he] at hx0 hx1
                generalize f3[j] = q at hx0 hx1 hsn
                obtain ⟨q0, q1⟩ := q
                simp only at hx0 hx1 hsn
                have HSN := Aside0.mk hsn
                clear he hsn
                go_wp2_with fail
                have hcp : (wr.alloc (Obj.cells #[Value.string q0, Value.string q1] 53)).heap[wr.heap.size]? = some (.cells #[Value.string q0, Value.string q1] 53 (0, 0)) := heap_alloc_new wr _
                have HB8 := Aside0.mk (below_alloc (Below.refl wr.heap.size wr) (Obj.cells #[Value.string q0, Value.string q1] 53))
                generalize wr.alloc (Obj.cells #[Value.string q0, Value.string q1] 53) = w8 at *
                have HN8 := Aside0.mk (HN.out.of_heap (HB8.out.block _ HN.out.lt))
                have n9' : w8.cell? ⟨w.heap.size + 1, 9, none⟩ = some v := HN8.out.cell 9
                have e0 : w8.cell? ⟨wr.heap.size, 0, none⟩ = some (.string q0) := by rw [blk_cell hcp]; rfl
                have e1 : w8.cell? ⟨wr.heap.size, 1, none⟩ = some (.string q1) := by rw [blk_cell hcp]; rfl
                have HA8 := Aside0.mk (Kd.R_below HA.out HB8.out)
                have f9' := HN8.out.frozen 9
                have hlj : ((f3.map fun a => (a.f0, a.f1)).take j).length ≤ 4398046510976 := by
                  obtain ⟨_, ha, _, _⟩ := HFIT.out
                  rw [List.length_take, List.length_map]
                  simp only at ha
                  omega
                have hnew : (w8.alloc (Obj.cells #[.string ⟨#[]⟩, .string q0, .string q1] 106)).heap[w8.heap.size]? = some (.cells #[.string ⟨#[]⟩, .string q0, .string q1] 106 (0, 0)) := heap_alloc_new w8 _
                have HNEW := Aside0.mk hnew
                have HA9 := Aside0.mk (Kd.R_below HA8.out (below_alloc (Below.refl w8.heap.size w8) (Obj.cells #[.string ⟨#[]⟩, .string q0, .string q1] 106)))
                clear hnew
                have hsz8 : w.heap.size ≤ (w8.alloc (Obj.cells #[.string ⟨#[]⟩, .string q0, .string q1] 106)).drew.heap.size := by
                  show w.heap.size ≤ (w8.heap.push _).size
                  rw [Array.size_push]
                  have := HB.out.size
                  have := HB8.out.size
                  omega
                have HSZ8 := Aside0.mk hsz8
                have HX8 := Aside0.mk ((HB8.out.block _ (Array.getElem?_eq_some_iff.1 HX.out).1).trans HX.out)
                have HB88 := Aside0.mk (below_alloc (below_step HB.out HB8.out) (Obj.cells #[.string ⟨#[]⟩, .string q0, .string q1] 106))
                have HNE := Aside0.mk (Kd.R_ne HA8.out HN8.out (by decide))
                have HNE2 := Aside0.mk (Kd.R_ne HA8.out HX8.out (by decide))
                have HBS := Aside0.mk (Kd.R_base HA8.out)
                clear hsz8
                have HLEN := Aside0.mk (show ((f3.map fun a => (a.f0, a.f1)).take j ++ [(q0, q1)]).length = j + 1 by rw [List.length_append, List.length_singleton, List.length_take, List.length_map]; omega)
                have HWJ := Aside0.mk (wrap_succ j (by obtain ⟨_, ha, _, _⟩ := HFIT.out; simp only at ha; omega))
                have n9s : (w8.alloc (Obj.cells #[.string ⟨#[]⟩, .string q0, .string q1] 106)).cell? ⟨w.heap.size + 1, 9, none⟩ = some v := by
                  have h := (heap_alloc_old w8 (Obj.cells #[.string ⟨#[]⟩, .string q0, .string q1] 106) HN8.out.lt).trans HN8.out
                  exact Has.cell h 9
                go_region_law (refine attr_step rfl (.tmp 32) (.tmp 38) 79 (.agg #[.string ⟨#[]⟩, .string ⟨#[]⟩, .string ⟨#[]⟩]) rfl Try.underlying79 infoA rfl w.heap.size HSZ8.out v ((f3.map fun a => (a.f0, a.f1)).take j) q0 q1 w8.heap.size (by simp [Act.eval, Act.put]) (by simp [Act.eval, Act.put]) HNEW.out (by exact HA9.out) hlj ?_; intro v1 w9 ho hg; obtain ⟨A9, c9, hv9⟩ := Kd.R_slice ho; rw [HLEN.out] at hv9; subst hv9; have HN9 := Aside0.mk (kept hg HN8.out HNE.out); have HX9 := Aside0.mk (kept hg HX8.out HNE2.out); have HB9 := Aside0.mk (kept_below hg HB88.out HSZ8.out HBS.out); have HO9 := Aside0.mk (attr_round (Nat.lt_succ_self _) HX9.out HN9.out ho HB9.out); clear ho hg; have n9x : w9.cell? ⟨w.heap.size + 1, 9, none⟩ = some v := Has.cell HN9.out 9; have f9x := Has.frozen HN9.out 9)
                all_goals (simp only [Exit.inBlock, Exit.then]; go_wp2_with fail; go_roundw)
                all_goals first
                  | exact ⟨j + 1, _, by rw [HWJ.out], by omega, ⟨HO9.out.1⟩, ⟨HO9.out.2.1⟩, ⟨by rw [HSN.out]; exact HO9.out.2.2.1⟩, ⟨HO9.out.2.2.2⟩⟩
                  | (rw [HWJ.out]; simp [intOf]; omega)
                  | trace_state
              · have hje : j = f3.length := by omega
                subst hje
                have HK := Aside0.mk (Kept.start (t := ⟨0, f1, f2, f3, f4⟩) HN.out (Kd.R_lower HA.out (Nat.zero_le _)) ⟨rfl, (by show at_ = atomOf _; unfold atomOf; rw [if_pos rfl, HT.out]; rfl), rfl, (by show _ = attrsOf _; unfold attrsOf; rw [if_pos rfl, List.take_of_length_le (by rw [List.length_map]; exact Nat.le_refl _)])⟩ HX.out HB.out)
                have x4 : wr.cell? ⟨w.heap.size, 4, none⟩ = some (.slice A4 f4.length c4) := by rw [blk_cell HX.out]; rfl
                clear HX HN HA HB
                go_wp2_with fail
                go_loopw [58] (fun i wr => ∃ (j : Nat) (D : Tab) (i0 : Info), i = .int .i64 j ∧ j ≤ f4.length ∧ Aside0 (Kept w wr (w.heap.size + 1) D i0 ⟨0, f1, f2, f3, f4⟩ (.cells #[Value.int IntKind.i64 0, Value.string f1, Value.string f2, Value.slice A3 f3.length c3, Value.slice A4 f4.length c4] 25 (0, 0)) j)) (fun i _ => f4.length - (intOf i).toNat)
                case atStart => exact ⟨0, _, _, rfl, Nat.zero_le _, HK⟩
                case round =>
                  obtain ⟨j, D, i0, rfl, hj, HK⟩ := hrel
                  by_cases hlt : j < f4.length
                  · obtain ⟨ad, A5, c5, A6, c6, rfl, y0, y1, y2, y3, y4, m3, g3, m4, g4⟩ := at_T25 (Kd.C_below H4.out HK.out.below) (j : Int) (by omega) (by omega)
                    have he : rd_T25 f4 (j : Int) = f4[j] := by simp [rd_T25, List.getD_eq_getElem?_getD, List.getElem?_eq_getElem hlt]
                    rw [he] at y0 y1 y2 y3 y4 m3 g3 m4 g4
                    simp only [Int.toNat_natCast] at y0 y1 y2 y3 y4
                    have hq : f4[j] ∈ f4 := List.getElem_mem _
                    have hfq : Fit f4[j] := by obtain ⟨_, _, _, hk⟩ := HFIT.out; exact hk _ hq
                    have hsq : SizeOf.sizeOf f4[j] ≤ n := by have h1 := kid_lt (t := ⟨0, f1, f2, f3, f4⟩) hq; have h2 := HSZ.out; omega
                    have hget : f4[j] = (⟨0, f1, f2, f3, f4⟩ : T).f4[j] := rfl
                    generalize hqe : f4[j] = q at *
                    have HQE := Aside0.mk hqe
                    obtain ⟨q0, q1, q2, q3, q4⟩ := q
                    simp only at y0 y1 y2 y3 y4 m3 g3 m4 g4
                    have HFQ := Aside0.mk hfq
                    have HSQ := Aside0.mk hsq
                    have G3 := Aside0.mk g3
                    have G4 := Aside0.mk g4
                    have M3 := Aside0.mk m3
                    have M4 := Aside0.mk m4
                    have HWJ := Aside0.mk (wrap_succ j (by obtain ⟨_, _, ha, _⟩ := HFIT.out; simp only at ha; omega))
                    clear he hq hfq hsq hqe m3 g3 m4 g4 hget
                    go_wp2_with fail
                    have HB1 := Aside0.mk (below_alloc (Below.refl wr.heap.size wr) (Obj.cells #[Value.int IntKind.i64 q0, Value.string q1, Value.string q2, Value.slice A5 q3.length c5, Value.slice A6 q4.length c6] 25))
                    refine (IH.out ⟨q0, q1, q2, q3, q4⟩ HSQ.out HFQ.out _ A5 c5 A6 c6 (Kd.C_below G3.out HB1.out) M3.out (Kd.C_below G4.out HB1.out) M4.out).mono ?_
                    rintro e w2 ⟨b, D', rfl, hm⟩
                    have HM := Aside0.mk hm
                    clear hm
                    obtain ⟨ic, hic, hu, hun, hub, hne, hroot, hself, hd, hlt2⟩ := HK.out.ready HB1.out HM.out
                    have RD := Aside0.mk (append_calls w2 (uni D D') (w.heap.size + 1) b i0 ic hu hun hub hne hroot hself)
                    have RS := Aside0.mk (fun w3 => Kept.step (w3 := w3) HK.out (Nat.lt_succ_self _) hlt HB1.out (by rw [← HQE.out] at HM; exact HM.out) hic hd hlt2)
                    clear hic hu hun hub hne hroot hself hd hlt2
                    simp only [ptr] at RD
                    go_wp2_with fail
                    refine RD.out.mono ?_
                    rintro e w3 ⟨rfl, hdom, ho⟩
                    have HK3 := Aside0.mk (RS.out w3 hdom ho)
                    clear hdom ho
                    go_wp2_with fail
                    go_roundw
                    case rel => exact ⟨j + 1, _, _, by rw [HWJ.out], by omega, HK3⟩
                    case measure => rw [HWJ.out]; simp [intOf]; omega
                  · have hje : j = f4.length := by omega
                    subst hje
                    go_wp2_with fail
                    go_ret
                    exact ⟨_, _, rfl, HK.out.done (Nat.lt_succ_self _) (by unfold flat; simp only; omega)⟩
        · have b0 : (f0 == 0) = false := by simp [k0]
          have b1 : (f0 == 1) = false := by simp [k1]
          have b2 : (f0 == 2) = false := by simp [k2]
          have hbx := two_old w (Obj.cells #[Value.int IntKind.i64 f0, Value.string f1, Value.string f2, Value.slice A3 f3.length c3, Value.slice A4 f4.length c4] 25) (Obj.cells #[Value.pointer none, Value.pointer none, Value.pointer none, Value.pointer none, Value.pointer none, Value.int IntKind.u32 2, Value.int IntKind.u32 0, Value.string ⟨#[]⟩, Value.string ⟨#[]⟩, Value.slice none 0 0] 81)
          have hnd : Has ((w.alloc (Obj.cells #[Value.int IntKind.i64 f0, Value.string f1, Value.string f2, Value.slice A3 f3.length c3, Value.slice A4 f4.length c4] 25)).alloc (Obj.cells #[Value.pointer none, Value.pointer none, Value.pointer none, Value.pointer none, Value.pointer none, Value.int IntKind.u32 2, Value.int IntKind.u32 0, Value.string ⟨#[]⟩, Value.string ⟨#[]⟩, Value.slice none 0 0] 81)) (w.heap.size + 1) ⟨none, none, none, none, none, 2, 0, ⟨#[]⟩, .slice none 0 0⟩ := two_new w (Obj.cells #[Value.int IntKind.i64 f0, Value.string f1, Value.string f2, Value.slice A3 f3.length c3, Value.slice A4 f4.length c4] 25) (Obj.cells #[Value.pointer none, Value.pointer none, Value.pointer none, Value.pointer none, Value.pointer none, Value.int IntKind.u32 2, Value.int IntKind.u32 0, Value.string ⟨#[]⟩, Value.string ⟨#[]⟩, Value.slice none 0 0] 81)
          have hbl : Below w.heap.size w ((w.alloc (Obj.cells #[Value.int IntKind.i64 f0, Value.string f1, Value.string f2, Value.slice A3 f3.length c3, Value.slice A4 f4.length c4] 25)).alloc (Obj.cells #[Value.pointer none, Value.pointer none, Value.pointer none, Value.pointer none, Value.pointer none, Value.int IntKind.u32 2, Value.int IntKind.u32 0, Value.string ⟨#[]⟩, Value.string ⟨#[]⟩, Value.slice none 0 0] 81)) := below_alloc (below_alloc (Below.refl _ _) _) _
          have hfl : ¬ flat (⟨f0, f1, f2, f3, f4⟩ : T) := by unfold flat; simp only; omega
          have HK := Aside0.mk (Kept.start (t := ⟨f0, f1, f2, f3, f4⟩) hnd (Kd.R_nil kA _ _ _ _) ⟨(by show (2 : Int) = tyOf f0; unfold tyOf; rw [if_neg k0, if_neg k1, if_neg k2]), (by show (0 : Int) = atomOf _; unfold atomOf; rw [if_neg k0]), (by show _ = dataOf _; unfold dataOf; rw [if_neg k0, if_neg hfl]), (by show _ = attrsOf _; unfold attrsOf; rw [if_neg k0])⟩ hbx hbl)
          clear hbx hnd hbl hfl
          go_enter Try.func65, Try.ntmps65
          go_wp2_with fail
          go_loopw [58] (fun i wr => ∃ (j : Nat) (D : Tab) (i0 : Info), i = .int .i64 j ∧ j ≤ f4.length ∧ Aside0 (Kept w wr (w.heap.size + 1) D i0 ⟨f0, f1, f2, f3, f4⟩ (.cells #[Value.int IntKind.i64 f0, Value.string f1, Value.string f2, Value.slice A3 f3.length c3, Value.slice A4 f4.length c4] 25 (0, 0)) j)) (fun i _ => f4.length - (intOf i).toNat)
          case atStart => exact ⟨0, _, _, rfl, Nat.zero_le _, HK⟩
          case round =>
            obtain ⟨j, D, i0, rfl, hj, HK⟩ := hrel
            by_cases hlt : j < f4.length
            · obtain ⟨ad, A5, c5, A6, c6, rfl, y0, y1, y2, y3, y4, m3, g3, m4, g4⟩ := at_T25 (Kd.C_below H4.out HK.out.below) (j : Int) (by omega) (by omega)
              have he : rd_T25 f4 (j : Int) = f4[j] := by simp [rd_T25, List.getD_eq_getElem?_getD, List.getElem?_eq_getElem hlt]
              rw [he] at y0 y1 y2 y3 y4 m3 g3 m4 g4
              simp only [Int.toNat_natCast] at y0 y1 y2 y3 y4
              have hq : f4[j] ∈ f4 := List.getElem_mem _
              have hfq : Fit f4[j] := by obtain ⟨_, _, _, hk⟩ := HFIT.out; exact hk _ hq
              have hsq : SizeOf.sizeOf f4[j] ≤ n := by have h1 := kid_lt (t := ⟨f0, f1, f2, f3, f4⟩) hq; have h2 := HSZ.out; omega
              have hget : f4[j] = (⟨f0, f1, f2, f3, f4⟩ : T).f4[j] := rfl
              generalize hqe : f4[j] = q at *
              have HQE := Aside0.mk hqe
              obtain ⟨q0, q1, q2, q3, q4⟩ := q
              simp only at y0 y1 y2 y3 y4 m3 g3 m4 g4
              have HFQ := Aside0.mk hfq
              have HSQ := Aside0.mk hsq
              have G3 := Aside0.mk g3
              have G4 := Aside0.mk g4
              have M3 := Aside0.mk m3
              have M4 := Aside0.mk m4
              have HWJ := Aside0.mk (wrap_succ j (by obtain ⟨_, _, ha, _⟩ := HFIT.out; simp only at ha; omega))
              clear he hq hfq hsq hqe m3 g3 m4 g4 hget
              go_wp2_with fail
              have HB1 := Aside0.mk (below_alloc (Below.refl wr.heap.size wr) (Obj.cells #[Value.int IntKind.i64 q0, Value.string q1, Value.string q2, Value.slice A5 q3.length c5, Value.slice A6 q4.length c6] 25))
              refine (IH.out ⟨q0, q1, q2, q3, q4⟩ HSQ.out HFQ.out _ A5 c5 A6 c6 (Kd.C_below G3.out HB1.out) M3.out (Kd.C_below G4.out HB1.out) M4.out).mono ?_
              rintro e w2 ⟨b, D', rfl, hm⟩
              have HM := Aside0.mk hm
              clear hm
              obtain ⟨ic, hic, hu, hun, hub, hne, hroot, hself, hd, hlt2⟩ := HK.out.ready HB1.out HM.out
              have RD := Aside0.mk (append_calls w2 (uni D D') (w.heap.size + 1) b i0 ic hu hun hub hne hroot hself)
              have RS := Aside0.mk (fun w3 => Kept.step (w3 := w3) HK.out (Nat.lt_succ_self _) hlt HB1.out (by rw [← HQE.out] at HM; exact HM.out) hic hd hlt2)
              clear hic hu hun hub hne hroot hself hd hlt2
              simp only [ptr] at RD
              go_wp2_with fail
              refine RD.out.mono ?_
              rintro e w3 ⟨rfl, hdom, ho⟩
              have HK3 := Aside0.mk (RS.out w3 hdom ho)
              clear hdom ho
              go_wp2_with fail
              go_roundw
              case rel => exact ⟨j + 1, _, _, by rw [HWJ.out], by omega, HK3⟩
              case measure => rw [HWJ.out]; simp [intOf]; omega
            · have hje : j = f4.length := by omega
              subst hje
              go_wp2_with fail
              go_ret
              exact ⟨_, _, rfl, HK.out.done (Nat.lt_succ_self _) (by unfold flat; simp only; omega)⟩
end Go.Proofs.Ytmfjbljdbkmkgaa.Dom

/- dom.NodeName of a node of a table. -/
namespace Go.Proofs.Ytmfjbljdbkmkgaa.Dom
open Go.RowKit Go.Proofs.YtmfjbljdbkmkgaaW.PrintWords Go.Proofs.YtmfjbljdbkmkgaaW.PrintLast Go.Proofs.YtmfjbljdbkmkgaaW.PrintMore Go.Proofs.Ytmfjbljdbkmkgaa.PDom
set_option linter.unusedVariables false
set_option linter.unusedSimpArgs false

abbrev docName : ByteArray := ⟨#[35, 100, 111, 99, 117, 109, 101, 110, 116]⟩
abbrev textName : ByteArray := ⟨#[35, 116, 101, 120, 116]⟩
abbrev commentName : ByteArray := ⟨#[35, 99, 111, 109, 109, 101, 110, 116]⟩
abbrev errorName : ByteArray := ⟨#[35, 101, 114, 114, 111, 114]⟩
def nameOf (i : Info) : ByteArray := if i.ty = 0 then errorName else if i.ty = 1 then textName else if i.ty = 2 then docName else if i.ty = 4 then commentName else if i.ty = 5 then i.data else if i.ty = 3 then i.data else ⟨#[]⟩
theorem node_calls (w : World) (D : Tab) (b : Nat) (i : Info) (h : Dom w D) (hb : D b = some i) :
    Calls Try.prog 62 #[ptr (some b)] w fun e w' => e = .returned (.string (nameOf i)) ∧ w' = w := by
  obtain ⟨v, hH, _⟩ := h.has hb
  have c5 : w.cell? ⟨b, 5, none⟩ = some (.int .u32 i.ty) := hH.cell 5
  have c7 : w.cell? ⟨b, 7, none⟩ = some (.string i.data) := hH.cell 7
  unfold nameOf ptr
  clear hH h hb
  generalize i.data = d at *
  generalize i.ty = y at *
  by_cases h0 : y = 0
  · subst h0
    go_enter Try.func62, Try.ntmps62
    go_wp2; go_ret; exact ⟨rfl, rfl⟩
  · by_cases h1 : y = 1
    · subst h1
      go_enter Try.func62, Try.ntmps62
      go_wp2; go_ret; exact ⟨rfl, rfl⟩
    · by_cases h2 : y = 2
      · subst h2
        go_enter Try.func62, Try.ntmps62
        go_wp2; go_ret; exact ⟨rfl, rfl⟩
      · by_cases h4 : y = 4
        · subst h4
          go_enter Try.func62, Try.ntmps62
          go_wp2; go_ret; exact ⟨rfl, rfl⟩
        · by_cases h5 : y = 5
          · subst h5
            go_enter Try.func62, Try.ntmps62
            go_wp2; go_ret; exact ⟨rfl, rfl⟩
          · by_cases h3 : y = 3
            · subst h3
              go_enter Try.func62, Try.ntmps62
              go_wp2; go_ret; exact ⟨rfl, rfl⟩
            · have b0 : (y == 0) = false := by simp [h0]
              have b1 : (y == 1) = false := by simp [h1]
              have b2 : (y == 2) = false := by simp [h2]
              have b3 : (y == 3) = false := by simp [h3]
              have b4 : (y == 4) = false := by simp [h4]
              have b5 : (y == 5) = false := by simp [h5]
              rw [if_neg h0, if_neg h1, if_neg h2, if_neg h4, if_neg h5, if_neg h3]
              go_enter Try.func62, Try.ntmps62
              go_wp2; go_ret; exact ⟨rfl, rfl⟩
end Go.Proofs.Ytmfjbljdbkmkgaa.Dom

/- Trees of nodes, each with its block: what a table holds of one, its nodes in order, their places. Plain facts on tables. -/
namespace Go.Proofs.Ytmfjbljdbkmkgaa.Dom
open Go.RowKit Go.Proofs.YtmfjbljdbkmkgaaW.PrintWords Go.Proofs.YtmfjbljdbkmkgaaW.PrintLast Go.Proofs.YtmfjbljdbkmkgaaW.PrintMore Go.Proofs.Ytmfjbljdbkmkgaa.PDom
set_option linter.unusedVariables false
set_option linter.unusedSimpArgs false

inductive RT where
  | node (id : Nat) (ty atom : Int) (data : ByteArray) (attrs : List (ByteArray × ByteArray)) (kids : List RT) : RT
namespace RT
def id : RT → Nat | node i _ _ _ _ _ => i
def ty : RT → Int | node _ t _ _ _ _ => t
def atom : RT → Int | node _ _ a _ _ _ => a
def data : RT → ByteArray | node _ _ _ d _ _ => d
def attrs : RT → List (ByteArray × ByteArray) | node _ _ _ _ a _ => a
def kids : RT → List RT | node _ _ _ _ _ k => k
def info (p : Option Nat) : RT → Info | node _ t a d at_ ks => ⟨p, ks.map RT.id, t, a, d, at_⟩
theorem induct {P : RT → Prop} (h : ∀ i t a d at_ ks, (∀ k ∈ ks, P k) → P (node i t a d at_ ks)) : ∀ r, P r := by
  intro r
  refine RT.rec (motive_1 := P) (motive_2 := fun l => ∀ k ∈ l, P k) ?_ ?_ ?_ r
  · intro i t a d at_ ks ih
    exact h i t a d at_ ks ih
  · intro k hk
    cases hk
  · intro x l hx hl k hk
    rcases List.mem_cons.1 hk with rfl | hk
    · exact hx
    · exact hl k hk
mutual
/-- The nodes of a tree, each ahead of those in it. -/
def pre : RT → List Nat
  | node i _ _ _ _ ks => i :: preL ks
def preL : List RT → List Nat
  | [] => []
  | k :: ks => pre k ++ preL ks
end
mutual
/-- The places of these. -/
def paths (p : List Int) : RT → List (List Int)
  | node _ _ _ _ _ ks => p :: pathsL p 0 ks
def pathsL (p : List Int) (j : Nat) : List RT → List (List Int)
  | [] => []
  | k :: ks => paths (p ++ [(j : Int)]) k ++ pathsL p (j + 1) ks
end
theorem preL_append (l m : List RT) : preL (l ++ m) = preL l ++ preL m := by
  induction l with
  | nil => rfl
  | cons k l ih => simp [preL, ih]
theorem mem_preL {x : Nat} {l : List RT} : x ∈ preL l ↔ ∃ k ∈ l, x ∈ pre k := by
  induction l with
  | nil => simp [preL]
  | cons k l ih => simp [preL, ih]
theorem id_mem (r : RT) : r.id ∈ r.pre := by cases r; simp [id, pre]
end RT

/-- The table holds the tree; its root's parent is told besides. -/
inductive Is (D : Tab) : Option Nat → RT → Prop
  | mk (p : Option Nat) (i : Nat) (t a : Int) (d : ByteArray) (at_ : List (ByteArray × ByteArray)) (ks : List RT) (h : D i = some ⟨p, ks.map RT.id, t, a, d, at_⟩) (hk : ∀ k ∈ ks, Is D (some i) k) : Is D p (.node i t a d at_ ks)
theorem Is.root {D : Tab} {p : Option Nat} {r : RT} (h : Is D p r) : D r.id = some (r.info p) := by
  cases h with
  | mk _ _ _ _ _ _ _ h _ => exact h
theorem Is.kid {D : Tab} {p : Option Nat} {r k : RT} (h : Is D p r) (hk : k ∈ r.kids) : Is D (some r.id) k := by
  cases h with
  | mk _ _ _ _ _ _ _ _ h => exact h k hk
/-- The tree as plain data. -/
inductive TellsT : T → RT → Prop
  | mk (t : T) (i : Nat) (a : Int) (ks : List RT) (ha : a = atomOf t) (hl : (kidsT t).length = ks.length) (hk : ∀ j (h1 : j < (kidsT t).length) (h2 : j < ks.length), TellsT (kidsT t)[j] ks[j]) : TellsT t (.node i (tyOf t.f0) a (dataOf t) (attrsOf t) ks)
theorem list_choose {α : Type} {n : Nat} {P : Nat → α → Prop} (h : ∀ j, j < n → ∃ a, P j a) : ∃ l : List α, l.length = n ∧ ∀ j (hj : j < l.length), P j l[j] := by
  induction n with
  | zero => exact ⟨[], rfl, fun j hj => absurd hj (Nat.not_lt_zero _)⟩
  | succ n ih =>
    obtain ⟨l, hl, hp⟩ := ih (fun j hj => h j (by omega))
    obtain ⟨a, ha⟩ := h n (by omega)
    refine ⟨l ++ [a], by simp [hl], fun j hj => ?_⟩
    by_cases hjn : j < l.length
    · rw [List.getElem_append_left hjn]
      exact hp j hjn
    · have : j = n := by simp at hj; omega
      subst this
      rw [List.getElem_append_right (by omega)]
      simpa [hl] using ha
theorem IsT.rt {D : Tab} (wf : WF D) {b : Nat} {t : T} (h : IsT D b t) : ∀ i, D b = some i → ∃ r : RT, r.id = b ∧ Is D i.parent r ∧ TellsT t r := by
  induction h with
  | mk b t i h hm hl hk ih =>
    intro i' hi'
    rw [h] at hi'
    obtain rfl := Option.some.inj hi'
    have key : ∀ j, j < i.kids.length → ∃ r : RT, ∃ (h1 : j < i.kids.length) (h2 : j < (kidsT t).length), r.id = i.kids[j] ∧ Is D (some b) r ∧ TellsT (kidsT t)[j] r := by
      intro j hj
      have h2 : j < (kidsT t).length := by omega
      obtain ⟨ic, hic, hp⟩ := wf.down h (List.getElem_mem hj)
      obtain ⟨r, h3, h4, h5⟩ := ih j hj h2 ic hic
      rw [hp] at h4
      exact ⟨r, hj, h2, h3, h4, h5⟩
    obtain ⟨ks, hks, hkp⟩ := list_choose key
    have hids : ks.map RT.id = i.kids := by
      apply List.ext_getElem (by simp [hks])
      intro j h1 h2
      obtain ⟨_, _, h3, _⟩ := hkp j (by simpa using h1)
      simpa using h3
    refine ⟨.node b i.ty i.atom i.data i.attrs ks, rfl, ?_, ?_⟩
    · refine Is.mk _ _ _ _ _ _ _ ?_ ?_
      · rw [h, hids]
      · intro k hk'
        obtain ⟨j, hj, rfl⟩ := List.getElem_of_mem hk'
        obtain ⟨_, _, _, h4, _⟩ := hkp j hj
        exact h4
    · rw [hm.ty, hm.data, hm.attrs]
      refine TellsT.mk t b i.atom ks hm.atom (by omega) ?_
      intro j h1 h2
      obtain ⟨_, _, _, _, h5⟩ := hkp j h2
      exact h5

/-! ### Places -/
inductive All2 {α β : Type} (R : α → β → Prop) : List α → List β → Prop
  | nil : All2 R [] []
  | cons {a b l m} (h : R a b) (t : All2 R l m) : All2 R (a :: l) (b :: m)
theorem All2.append {α β : Type} {R : α → β → Prop} {l l' : List α} {m m' : List β} (h : All2 R l m) (h' : All2 R l' m') : All2 R (l ++ l') (m ++ m') := by
  induction h with
  | nil => exact h'
  | cons h _ ih => exact .cons h ih
theorem All2.length {α β : Type} {R : α → β → Prop} {l : List α} {m : List β} (h : All2 R l m) : l.length = m.length := by
  induction h with
  | nil => rfl
  | cons _ _ ih => simp [ih]
theorem All2.imp {α β : Type} {R S : α → β → Prop} {l : List α} {m : List β} (h : All2 R l m) (hs : ∀ a ∈ l, ∀ b, R a b → S a b) : All2 S l m := by
  induction h with
  | nil => exact .nil
  | cons h _ ih => exact .cons (hs _ List.mem_cons_self _ h) (ih fun a ha b => hs a (List.mem_cons_of_mem _ ha) b)
theorem All2.get {α β : Type} {R : α → β → Prop} {l : List α} {m : List β} (h : All2 R l m) : ∀ j (h1 : j < l.length) (h2 : j < m.length), R l[j] m[j] := by
  induction h with
  | nil => intro j h1; exact absurd h1 (Nat.not_lt_zero _)
  | cons h _ ih =>
    intro j h1 h2
    cases j with
    | zero => exact h
    | succ j => exact ih j (by simpa using h1) (by simpa using h2)
/-- The node x stands at a place below the root. -/
inductive PathTo (D : Tab) (root : Nat) : Nat → List Int → Prop
  | root (i : Info) (h : D root = some i) (hp : i.parent = none) : PathTo D root root []
  | kid (p x j : Nat) (path : List Int) (ip ix : Info) (h : PathTo D root p path) (hp : D p = some ip) (hj : ip.kids[j]? = some x) (hx : D x = some ix) (hxp : ix.parent = some p) : PathTo D root x (path ++ [(j : Int)])
theorem Is.paths {D : Tab} {root : Nat} (r : RT) : ∀ (p : Option Nat) (path : List Int), Is D p r → PathTo D root r.id path → All2 (PathTo D root) r.pre (r.paths path) := by
  induction r using RT.induct with
  | h i t a d at_ ks ih =>
    intro p path h hp
    have hD : D i = some ⟨p, ks.map RT.id, t, a, d, at_⟩ := h.root
    show All2 _ (i :: RT.preL ks) (path :: RT.pathsL path 0 ks)
    refine .cons hp ?_
    have key : ∀ (l done : List RT), ks = done ++ l → All2 (PathTo D root) (RT.preL l) (RT.pathsL path done.length l) := by
      intro l
      induction l with
      | nil => exact fun _ _ => .nil
      | cons k l ihl =>
        intro done e
        have hk : k ∈ ks := by rw [e]; simp
        have hik := h.kid (k := k) hk
        have hpk : PathTo D root k.id (path ++ [(done.length : Int)]) := PathTo.kid i k.id done.length path _ _ hp hD (by simp [e]) hik.root (by cases k; rfl)
        have h2 := ihl (done ++ [k]) (by simp [e])
        rw [List.length_append, List.length_singleton] at h2
        exact (ih k hk (some i) _ hik hpk).append h2
    exact key ks [] rfl
end Go.Proofs.Ytmfjbljdbkmkgaa.Dom

/- impl.pathOf of a node of a table: the indices on the way from the root. -/
namespace Go.Proofs.Ytmfjbljdbkmkgaa.Dom
open Go.RowKit Go.Proofs.YtmfjbljdbkmkgaaW.PrintWords Go.Proofs.YtmfjbljdbkmkgaaW.PrintLast Go.Proofs.YtmfjbljdbkmkgaaW.PrintMore Go.Proofs.Ytmfjbljdbkmkgaa.PDom
set_option linter.unusedVariables false
set_option linter.unusedSimpArgs false

/-- The sibling ahead of the m-th child. -/
theorem prev_at {l : List Nat} (hnd : l.Nodup) {m : Nat} (h : m < l.length) : prevIn l l[m] = (l.take m).getLast? := by
  have e : l = l.take m ++ l[m] :: l.drop (m + 1) := by
    rw [← List.drop_eq_getElem_cons h, List.take_append_drop]
  have hnd2 : (l.take m ++ l[m] :: l.drop (m + 1)).Nodup := by rw [← e]; exact hnd
  have h2 := (nodup_split hnd2).2.1
  have h3 := prevIn_split (l1 := l.take m) (l2 := l.drop (m + 1)) (b := l[m]) h2
  rw [← e] at h3
  exact h3
theorem next_at {l : List Nat} (hnd : l.Nodup) {m : Nat} (h : m < l.length) : nextIn l l[m] = l[m + 1]? := by
  have e : l = l.take m ++ l[m] :: l.drop (m + 1) := by
    rw [← List.drop_eq_getElem_cons h, List.take_append_drop]
  have hnd2 : (l.take m ++ l[m] :: l.drop (m + 1)).Nodup := by rw [← e]; exact hnd
  have h3 := nextIn_split (l1 := l.take m) (l2 := l.drop (m + 1)) (b := l[m]) (nodup_split hnd2).1
  rw [← e] at h3
  rw [h3]
  simp [List.head?_drop]
/-- What a child's block tells of its place. -/
theorem kid_cells {w : World} {D : Tab} (h : Dom w D) {p : Nat} {ip : Info} (hp : D p = some ip) {m : Nat} (hm : m < ip.kids.length) :
    w.cell? ⟨ip.kids[m], 0, none⟩ = some (ptr (some p)) ∧ w.cell? ⟨ip.kids[m], 3, none⟩ = some (ptr (ip.kids.take m).getLast?) ∧ w.cell? ⟨ip.kids[m], 4, none⟩ = some (ptr ip.kids[m + 1]?) := by
  obtain ⟨ix, hx, hxp⟩ := h.wf.down hp (List.getElem_mem hm)
  obtain ⟨v, hv, _⟩ := h.has hx
  refine ⟨?_, ?_, ?_⟩
  · rw [hv.cells10.1]
    show some (ptr ix.parent) = _
    rw [hxp]
  · rw [hv.cells10.2.2.2.1]
    show some (ptr (prevIn (sibs D ix) ip.kids[m])) = _
    rw [sibs_some hxp, kidsOf_some hp, prev_at (h.wf.nodup hp) hm]
  · rw [hv.cells10.2.2.2.2.1]
    show some (ptr (nextIn (sibs D ix) ip.kids[m])) = _
    rw [sibs_some hxp, kidsOf_some hp, next_at (h.wf.nodup hp) hm]

end Go.Proofs.Ytmfjbljdbkmkgaa.Dom

/- dom.AllNodes: the nodes of a tree, in order. -/
namespace Go.Proofs.Ytmfjbljdbkmkgaa.Dom
open Go.RowKit Go.Proofs.YtmfjbljdbkmkgaaW.PrintWords Go.Proofs.YtmfjbljdbkmkgaaW.PrintLast Go.Proofs.YtmfjbljdbkmkgaaW.PrintMore Go.Proofs.Ytmfjbljdbkmkgaa.PDom
set_option linter.unusedVariables false
set_option linter.unusedSimpArgs false

theorem ptr_some (x : Nat) : ptr (some x) = .pointer (some ⟨x, 0, none⟩) := rfl
theorem ptr_none : ptr none = .pointer none := rfl
/-- A pointer to a node. -/
abbrev kP : Kd Nat := Kd.scalar (fun b => ptr (some b)) (fun _ => rfl)
theorem infoP : (Try.prog.info? 47).map (fun i => (i.zero, i.size, i.bytes)) = some (some (.pointer none), 1, 8) := by kernel_rfl
/-- What a node's block tells of its first child; what a child's block tells of the next one. -/
theorem Is.first {w : World} {D : Tab} (h : Dom w D) {p : Option Nat} {r : RT} (hr : Is D p r) : w.cell? ⟨r.id, 1, none⟩ = some (ptr (r.kids[0]?.map RT.id)) := by
  obtain ⟨v, hv, _⟩ := h.has hr.root
  rw [hv.cells10.2.1]
  show some (ptr ((r.info p).kids.head?)) = _
  cases r with
  | node i t a d at_ ks =>
    show some (ptr ((ks.map RT.id).head?)) = some (ptr (ks[0]?.map RT.id))
    cases ks <;> rfl
theorem Is.next {w : World} {D : Tab} (h : Dom w D) {p : Option Nat} {r : RT} (hr : Is D p r) {j : Nat} (hj : j < r.kids.length) : w.cell? ⟨r.kids[j].id, 4, none⟩ = some (ptr (r.kids[j + 1]?.map RT.id)) := by
  have hi := hr.root
  have hk : (r.info p).kids = r.kids.map RT.id := by cases r; rfl
  have hl : j < (r.info p).kids.length := by rw [hk, List.length_map]; exact hj
  have h1 := (kid_cells h hi hl).2.2
  simpa only [hk, List.getElem_map, List.getElem?_map] using h1
def funcAll (g f : Nat) : Value := .func (Fn.func 97) #[] #[.pointer (some ⟨g, 0, none⟩), .pointer (some ⟨f, 0, none⟩)]
/-- What the finder keeps: the row of nodes so far in the box g, itself in the box f; below these all is as it was. -/
structure AllI (w0 : World) (g f : Nat) (w : World) (acc : List Nat) : Prop where
  row : ∃ v, w.heap[g]? = some (.cells #[v] 86 (0, 0)) ∧ kP.R 47 w w0.heap.size (fun _ => True) v acc
  fn : w.heap[f]? = some (.cells #[funcAll g f] 50 (0, 0))
  below : Below w0.heap.size w0 w
theorem AllI.push {w0 w w1 : World} {g f i : Nat} {v v1 : Value} {acc : List Nat} (hgb : w0.heap.size ≤ g) (hv : w.heap[g]? = some (.cells #[v] 86 (0, 0))) (hr : kP.R 47 w w0.heap.size (fun _ => True) v acc)
    (hf : w.heap[f]? = some (.cells #[funcAll g f] 50 (0, 0))) (h1 : kP.R 47 w1 w0.heap.size (fun _ => True) v1 (acc ++ [i])) (hb : Below w0.heap.size w0 w1) (hg : w.grownBy w1 v.ownBlock) :
    w1.heap[g]? = some (.cells #[v] 86 (0, 0)) ∧ AllI w0 g f (w1.setCell ⟨g, 0, none⟩ v1) (acc ++ [i]) := by
  have hg1 := blk_grown hv hg (Kd.R_ne hr hv (by decide))
  have hf1 := blk_grown hf hg (Kd.R_ne hr hf (by decide))
  refine ⟨hg1, ⟨v1, blk_set hg1 0 v1, ?_⟩, ?_, ?_⟩
  · exact Kd.R_set h1 hg1 (fun q hq => by
      have : q = 47 := by simpa [kP, Kd.scalar] using hq
      rw [this]
      decide) 0 v1
  · refine blk_far hf1 (p := ⟨g, 0, none⟩) ?_ v1
    exact blk_ne hf1 hg1 (by decide)
  · exact hb.setCell (p := ⟨g, 0, none⟩) hgb v1
set_option maxHeartbeats 4000000 in
set_option maxRecDepth 100000 in
theorem finder_calls (w0 : World) (D : Tab) (hdom : Dom w0 D) (g f bound : Nat) (hbd : bound ≤ 4398046510976) (hgb : w0.heap.size ≤ g) (r : RT) : ∀ (p : Option Nat) (hr : Is D p r) (w : World) (acc : List Nat) (h : AllI w0 g f w acc) (hl : acc.length + r.pre.length ≤ bound),
    Calls Try.prog 97 #[ptr (some r.id), .pointer (some ⟨g, 0, none⟩), .pointer (some ⟨f, 0, none⟩)] w fun e w' => e = .returned (.tuple #[]) ∧ AllI w0 g f w' (acc ++ r.pre) := by
  induction r using RT.induct with
  | h i t a d at_ ks ih =>
    intro p hr w acc h hl
    have IH := Aside0.mk ih
    clear ih
    obtain ⟨v, hv, ho⟩ := h.row
    have HR := Aside0.mk hr
    have HD := Aside0.mk hdom
    have HO := Aside0.mk ho
    have HL := Aside0.mk hl
    have HV := Aside0.mk hv
    have HF := Aside0.mk h.fn
    have HB := Aside0.mk h.below
    have hszw := h.below.size
    have cg : w.cell? ⟨g, 0, none⟩ = some v := by rw [blk_cell hv]; rfl
    have hla : (acc.length + 1) * 8 ≤ 140737488355328 := by
      have : 0 < (RT.node i t a d at_ ks).pre.length := by simp [RT.pre]
      omega
    clear hr hdom ho hl hv h
    show Calls _ _ #[ptr (some i), _, _] _ _
    unfold ptr
    go_enter Try.func97, Try.ntmps97
    go_wp2_with ((with_reducible refine gate_builtin (b := .append) (xs := #[.tmp 5, .tmp 7]) rfl ?_); at_builtin; go_must (refine Kd.R_append kP (w0 := w0) w0.heap.size rfl (.tmp 5) (.tmp 7) 86 47 (.pointer none) 8 rfl Try.underlying86 infoP rfl (by decide) (by decide) v acc i [ptr (some i)] (fun _ => True) (fun _ => False) rfl rfl rfl (fun _ h => h.elim) (fun _ _ => trivial) HO.out HB.out ?aS ?aL ?_; (case aS => exact hszw); (case aL => exact hla); intro v1 w1 ho hb hg _; obtain ⟨A1, c1, hv1, hc1, hC1⟩ := Kd.R_reads ho; rw [List.length_append, List.length_singleton] at hv1; subst hv1; clear hc1 hC1; have HI := Aside0.mk (AllI.push hgb HV.out HO.out HF.out ho hb hg); have cg1 := blk_cell HI.out.1 0; have fg1 := blk_frozen HI.out.1 0; have cf : (w1.setCell ⟨g, 0, none⟩ (.slice A1 (acc.length + 1) c1)).cell? ⟨i, 1, none⟩ = some (ptr (ks[0]?.map RT.id)) := Is.first (HD.out.below HI.out.2.below) HR.out; clear ho hb hg))
    have hi0 := HI.out.2
    generalize hwg : w1.setCell ⟨g, 0, none⟩ (Value.slice A1 (acc.length + 1) c1) = wg at *
    clear hwg HI cg1 fg1
    have HI := Aside0.mk hi0
    clear hi0
    go_loopg [4] ks.length (fun n vc wr => ∃ j, n = ks.length - j ∧ j ≤ ks.length ∧ vc = ptr (ks[j]?.map RT.id) ∧ Aside0 (AllI w0 g f wr (acc ++ [i] ++ RT.preL (ks.take j))))
    case atStart => exact ⟨0, rfl, Nat.zero_le _, rfl, ⟨by simpa [RT.preL] using HI.out⟩⟩
    case round =>
      obtain ⟨j, rfl, hj, rfl, HI⟩ := hrel
      by_cases hlt : j < ks.length
      · rw [List.getElem?_eq_getElem hlt]
        have hkm := Aside0.mk (List.getElem_mem hlt)
        have hnx : ∀ wx, Below w0.heap.size w0 wx → wx.cell? ⟨ks[j].id, 4, none⟩ = some (ptr (ks[j + 1]?.map RT.id)) := fun wx hb => Is.next (HD.out.below hb) HR.out (j := j) hlt
        have HNX := Aside0.mk hnx
        clear hnx
        have cf0 : wr.cell? ⟨f, 0, none⟩ = some (funcAll g f) := by rw [blk_cell HI.out.fn]; rfl
        have hpl : (RT.preL (ks.take (j + 1))) = RT.preL (ks.take j) ++ ks[j].pre := by rw [List.take_succ_eq_append_getElem hlt, RT.preL_append]; simp [RT.preL]
        have HPL := Aside0.mk hpl
        clear hpl
        have hlen : (acc ++ [i] ++ RT.preL (ks.take j)).length + ks[j].pre.length ≤ bound := by
          have h1 := HL.out
          have h2 : RT.preL ks = RT.preL (ks.take (j + 1)) ++ RT.preL (ks.drop (j + 1)) := by rw [← RT.preL_append, List.take_append_drop]
          have h3 := congrArg List.length h2
          rw [HPL.out] at h3
          simp only [RT.pre, List.length_append, List.length_cons, List.length_nil] at h1 h3 ⊢
          omega
        have HC := Aside0.mk (IH.out ks[j] hkm.out (some i) (HR.out.kid hkm.out) wr _ HI.out hlen)
        have HE := Aside0.mk (congrArg RT.id (Eq.refl ks[j]))
        clear hlen
        simp only [Option.map_some, ptr_some, funcAll] at HC cf0 ⊢
        clear cf
        generalize ks[j].id = x at *
        go_wp2_with (go_at_call 97; refine HC.out.mono ?_; rintro e w2 ⟨rfl, hi2⟩; have HI2 := Aside0.mk hi2; have nx2 := HNX.out w2 hi2.below; clear hi2)
        go_roundg (ks.length - (j + 1))
        case rel => exact ⟨j + 1, rfl, by omega, rfl, ⟨by rw [HPL.out, ← List.append_assoc]; exact HI2.out⟩⟩
        case measure => omega
      · have hje : j = ks.length := by omega
        subst hje
        rw [List.getElem?_eq_none (Nat.le_refl _)]
        simp only [Option.map_none, ptr_none]
        go_wp2_with fail
        go_end0
        refine ⟨rfl, ?_⟩
        have := HI.out
        rw [List.take_length] at this
        simpa [RT.pre] using this
theorem all_calls (w : World) (D : Tab) (hdom : Dom w D) (p : Option Nat) (r : RT) (hr : Is D p r) (bound : Nat) (hbd : bound ≤ 4398046510976) (hl : r.pre.length ≤ bound) :
    Calls Try.prog 67 #[ptr (some r.id)] w fun e w' => ∃ v, e = .returned v ∧ kP.R 47 w' w.heap.size (fun _ => True) v r.pre ∧ Below w.heap.size w w' := by
  have h0 : AllI w w.heap.size (w.heap.size + 1) (((w.alloc (.cells #[.slice none 0 0] 86)).alloc (.cells #[funcAll w.heap.size (w.heap.size + 1)] 50))) [] := by
    refine ⟨⟨_, two_old w _ _, Kd.R_nil _ _ _ _ _⟩, two_new w _ _, below_alloc (below_alloc (Below.refl _ _) _) _⟩
  have HC := Aside0.mk (finder_calls w D hdom w.heap.size (w.heap.size + 1) bound hbd (Nat.le_refl _) r p hr _ [] h0 (by simpa using hl))
  clear h0 hl hr
  generalize r.id = x at *
  simp only [ptr_some, funcAll] at HC ⊢
  have hmf : ∀ (fn : Fn) (first cap : Array Value) (w : World), (Instr.makeFunc fn first cap).run Try.prog w = .ok (.func fn first cap) w := fun _ _ _ _ => rfl
  go_enter Try.func67, Try.ntmps67
  go_wp2_with (go_at_call 97; go_must (refine HC.out.mono ?_; rintro e w2 ⟨rfl, hi2⟩; obtain ⟨v2, hv2, ho2⟩ := hi2.row; obtain ⟨A2, c2, rfl, hc2, hC2⟩ := Kd.R_reads ho2; have cg2 := blk_cell hv2 0; have fg2 := blk_frozen hv2 0; have HI2 := Aside0.mk hi2; have HO2 := Aside0.mk ho2; have HV2 := Aside0.mk hv2; clear hi2 hv2 ho2 hc2 hC2))
  have hs := blk_set HV2.out 0 (Value.slice A2 r.pre.length c2)
  have hx : (w2.setCell ⟨w.heap.size, 0, none⟩ (Value.slice A2 r.pre.length c2)).cell? ⟨w.heap.size, 0, none⟩ = some (Value.slice A2 r.pre.length c2) := by rw [blk_cell hs]; rfl
  refine bodyPost_ret (v := .slice A2 r.pre.length c2) (by simp [results, Try.results67, go_sem, hx]) rfl ⟨_, rfl, ?_, ?_⟩
  · have := HO2.out
    rw [List.nil_append] at this
    exact Kd.R_set this HV2.out (fun q hq => by
      have : q = 47 := by simpa [kP, Kd.scalar] using hq
      rw [this]
      decide) 0 _
  · exact HI2.out.below.setCell (p := ⟨w.heap.size, 0, none⟩) (Nat.le_refl _) _
end Go.Proofs.Ytmfjbljdbkmkgaa.Dom

/- dom's first children and siblings, of all nodes and of elements alone. Printed by the program gen_sib.py of this session. -/
namespace Go.Proofs.Ytmfjbljdbkmkgaa.Dom
open Go.RowKit Go.Proofs.YtmfjbljdbkmkgaaW.PrintWords Go.Proofs.YtmfjbljdbkmkgaaW.PrintLast Go.Proofs.YtmfjbljdbkmkgaaW.PrintMore Go.Proofs.Ytmfjbljdbkmkgaa.PDom
set_option linter.unusedVariables false
set_option linter.unusedSimpArgs false

def tyAt (D : Tab) (c : Nat) : Int := match D c with
  | some i => i.ty
  | none => 0
theorem ty_cell {w : World} {D : Tab} (h : Dom w D) {c : Nat} {i : Info} (hc : D c = some i) : w.cell? ⟨c, 5, none⟩ = some (.int .u32 (tyAt D c)) := by
  obtain ⟨v, hv, _⟩ := h.has hc
  have e : tyAt D c = i.ty := by unfold tyAt; rw [hc]
  rw [e]
  exact hv.cells10.2.2.2.2.2.1
end Go.Proofs.Ytmfjbljdbkmkgaa.Dom

/- dom.UNSTABLE_initGetNeighbor's function: the first child, or the next one beside, or the next one beside an ancestor. -/
namespace Go.Proofs.Ytmfjbljdbkmkgaa.Dom
open Go.RowKit Go.Proofs.YtmfjbljdbkmkgaaW.PrintWords Go.Proofs.YtmfjbljdbkmkgaaW.PrintLast Go.Proofs.YtmfjbljdbkmkgaaW.PrintMore Go.Proofs.Ytmfjbljdbkmkgaa.PDom
set_option linter.unusedVariables false
set_option linter.unusedSimpArgs false

def TellsB (w : World) (D : Tab) (f : Nat) (cs : Array Value) (g : Nat → Bool) : Prop := ∀ x, D x ≠ none → Calls Try.prog f (#[ptr (some x)] ++ cs) w fun e w' => e = .returned (.bool (g x)) ∧ w' = w
/-- The function has a body: a call of it enters it. -/
def Enters (f : Nat) : Prop := ∀ (args : Array Value) (w : World), (callFunc f args).run Try.prog w = .ok (.enter f args) w
theorem parent_cell {w : World} {D : Tab} (h : Dom w D) {x : Nat} {i : Info} (hx : D x = some i) : w.cell? ⟨x, 0, none⟩ = some (ptr i.parent) := by
  obtain ⟨v, hv, _⟩ := h.has hx
  exact hv.cells10.1
end Go.Proofs.Ytmfjbljdbkmkgaa.Dom

/- impl.at: the node at a place. -/
namespace Go.Proofs.Ytmfjbljdbkmkgaa.Dom
open Go.RowKit Go.Proofs.YtmfjbljdbkmkgaaW.PrintWords Go.Proofs.YtmfjbljdbkmkgaaW.PrintLast Go.Proofs.YtmfjbljdbkmkgaaW.PrintMore Go.Proofs.Ytmfjbljdbkmkgaa.PDom
set_option linter.unusedVariables false
set_option linter.unusedSimpArgs false

/-- The node at a place. -/
def RT.at_ : RT → List Int → Option RT
  | r, [] => some r
  | r, k :: l => if 0 ≤ k then (r.kids[k.toNat]?).bind fun y => RT.at_ y l else none
theorem RT.preL_len (l : List RT) : l.length ≤ (RT.preL l).length ∧ ∀ k ∈ l, k.pre.length ≤ (RT.preL l).length := by
  induction l with
  | nil => exact ⟨Nat.le_refl _, fun k hk => by cases hk⟩
  | cons x l ih =>
    have hx : 0 < x.pre.length := by cases x; simp [RT.pre]
    simp only [RT.preL, List.length_append, List.length_cons]
    refine ⟨by omega, fun k hk => ?_⟩
    rcases List.mem_cons.1 hk with rfl | hk
    · omega
    · have := ih.2 k hk
      omega
theorem RT.kids_lt (r : RT) : r.kids.length < r.pre.length := by
  cases r with
  | node i t a d at_ ks =>
    have := (RT.preL_len ks).1
    simp only [RT.kids, RT.pre, List.length_cons]
    omega
theorem RT.kid_pre {r k : RT} (h : k ∈ r.kids) : k.pre.length < r.pre.length := by
  cases r with
  | node i t a d at_ ks =>
    have := (RT.preL_len ks).2 k h
    simp only [RT.pre, List.length_cons]
    omega
end Go.Proofs.Ytmfjbljdbkmkgaa.Dom

/- A table holds one tree at a node; no node of a tree is met twice. Plain facts. -/
namespace Go.Proofs.Ytmfjbljdbkmkgaa.Dom
open Go.RowKit Go.Proofs.YtmfjbljdbkmkgaaW.PrintWords Go.Proofs.YtmfjbljdbkmkgaaW.PrintLast Go.Proofs.YtmfjbljdbkmkgaaW.PrintMore Go.Proofs.Ytmfjbljdbkmkgaa.PDom
set_option linter.unusedVariables false
set_option linter.unusedSimpArgs false

theorem Is.inj {D : Tab} (r : RT) : ∀ {p q : Option Nat} {y : RT}, Is D p r → Is D q y → r.id = y.id → r = y := by
  induction r using RT.induct with
  | h i t a d at_ ks ih =>
    intro p q y hr hy e
    cases y with
    | node i2 t2 a2 d2 at2 ks2 =>
      have e : i = i2 := e
      subst e
      have h1 : D i = some ⟨p, ks.map RT.id, t, a, d, at_⟩ := hr.root
      have h2 : D i = some ⟨q, ks2.map RT.id, t2, a2, d2, at2⟩ := hy.root
      rw [h1] at h2
      injection h2 with h2
      injection h2 with _ h3 h4 h5 h6 h7
      subst h4 h5 h6 h7
      have hl : ks.length = ks2.length := by
        have := congrArg List.length h3
        simpa using this
      have : ks = ks2 := by
        apply List.ext_getElem hl
        intro j hj1 hj2
        refine ih _ (List.getElem_mem hj1) (hr.kid (List.getElem_mem hj1)) (hy.kid (List.getElem_mem hj2)) ?_
        have h8 : (ks.map RT.id)[j]'(by simpa using hj1) = (ks2.map RT.id)[j]'(by simpa using hj2) := by simp only [h3]
        simpa using h8
      rw [this]
theorem Is.sub {D : Tab} (r : RT) : ∀ {p : Option Nat} {x : Nat}, Is D p r → x ∈ r.pre → ∃ q y, Is D q y ∧ y.id = x ∧ y.pre.length ≤ r.pre.length ∧ (x = r.id ∨ ∃ z, q = some z ∧ z ∈ r.pre) := by
  induction r using RT.induct with
  | h i t a d at_ ks ih =>
    intro p x hr hx
    have hx2 : x = i ∨ x ∈ RT.preL ks := by simpa [RT.pre] using hx
    rcases hx2 with rfl | hx2
    · exact ⟨p, _, hr, rfl, Nat.le_refl _, .inl rfl⟩
    · obtain ⟨k, hk, hxk⟩ := RT.mem_preL.1 hx2
      obtain ⟨q, y, h1, h2, h3, h4⟩ := ih k hk (hr.kid hk) hxk
      have h5 : k.pre.length < (RT.node i t a d at_ ks).pre.length := RT.kid_pre (r := .node i t a d at_ ks) hk
      rcases h4 with h4 | ⟨z, rfl, hz⟩
      · have hyk : y = k := (Is.inj k (hr.kid hk) h1 (by rw [h2, h4])).symm
        subst hyk
        exact ⟨some i, y, hr.kid hk, h2, by omega, .inr ⟨i, rfl, by simp [RT.pre]⟩⟩
      · exact ⟨some z, y, h1, h2, by omega, .inr ⟨z, rfl, by simp only [RT.pre, List.mem_cons]; exact .inr (RT.mem_preL.2 ⟨k, hk, hz⟩)⟩⟩
/-- A node isn't met again below itself. -/
theorem Is.proper {D : Tab} {p : Option Nat} {r k : RT} {x : Nat} (h : Is D p r) (hk : k ∈ r.kids) (hx : x ∈ k.pre) : x ≠ r.id := by
  intro e
  obtain ⟨q, y, h1, h2, h3, _⟩ := Is.sub k (h.kid hk) hx
  have hy : r = y := Is.inj r h h1 (by rw [h2, e])
  have h4 := RT.kid_pre hk
  rw [hy] at h4
  omega
theorem Is.parent_of {D : Tab} {q : Option Nat} {y : RT} (h : Is D q y) {i : Info} (hi : D y.id = some i) : i.parent = q := by
  have := h.root
  rw [hi] at this
  obtain rfl := Option.some.inj this
  cases y
  rfl
/-- The children's trees have no node in common. -/
theorem Is.apart {D : Tab} {p : Option Nat} {r : RT} (wf : WF D) (h : Is D p r) : ∀ (n : Nat) {k1 k2 : RT} {x : Nat}, k1 ∈ r.kids → k2 ∈ r.kids → x ∈ k1.pre → x ∈ k2.pre → k1.pre.length ≤ n → k1.id = k2.id := by
  intro n
  -- the way up from x meets a child of r in each case
  have key : ∀ (m : Nat) (k1 : RT), k1 ∈ r.kids → ∀ (q : Option Nat) (y : RT), Is D q y → y.id ∈ k1.pre → ∀ (k2 : RT), k2 ∈ r.kids → y.id ∈ k2.pre → k1.pre.length - y.pre.length ≤ m → k1.id = k2.id := by
    intro m
    induction m with
    | zero =>
      intro k1 hk1 q y hy h1 k2 hk2 h2 hm
      obtain ⟨q1, y1, a1, a2, a3, a4⟩ := Is.sub k1 (h.kid hk1) h1
      have e1 : y1 = y := Is.inj y1 a1 hy a2
      subst e1
      rcases a4 with a4 | ⟨z, rfl, hz⟩
      · obtain ⟨q2, y2, b1, b2, b3, b4⟩ := Is.sub k2 (h.kid hk2) h2
        rcases b4 with b4 | ⟨z, rfl, hz⟩
        · rw [← a4, ← b4]
        · have e2 : y2 = y1 := Is.inj y2 b1 hy b2
          subst e2
          have e3 : k1 = y2 := Is.inj k1 (h.kid hk1) hy (by rw [a4])
          subst e3
          have e4 := Is.parent_of b1 (h.kid hk1).root
          have e5 := Is.parent_of (h.kid hk1) (h.kid hk1).root
          rw [e4] at e5
          have e6 : z = r.id := Option.some.inj e5
          exact absurd e6 (h.proper hk2 hz)
      · exfalso
        obtain ⟨q3, y3, c1, c2, c3, _⟩ := Is.sub k1 (h.kid hk1) hz
        have hyk : y1.id ∈ (y3.info q3).kids := by
          obtain ⟨ip, d1, d2⟩ := wf.up a1.root (show (y1.info (some z)).parent = some z by cases y1; rfl)
          have := c1.root
          rw [c2, d1] at this
          obtain rfl := Option.some.inj this
          exact d2
        have e7 : (y3.info q3).kids = y3.kids.map RT.id := by cases y3; rfl
        rw [e7] at hyk
        obtain ⟨y4, d3, d4⟩ := List.mem_map.1 hyk
        have e8 : y4 = y1 := Is.inj y4 (c1.kid d3) a1 d4
        subst e8
        have := RT.kid_pre d3
        omega
    | succ m ih =>
      intro k1 hk1 q y hy h1 k2 hk2 h2 hm
      obtain ⟨q1, y1, a1, a2, a3, a4⟩ := Is.sub k1 (h.kid hk1) h1
      have e1 : y1 = y := Is.inj y1 a1 hy a2
      subst e1
      obtain ⟨q2, y2, b1, b2, b3, b4⟩ := Is.sub k2 (h.kid hk2) h2
      have e2 : y2 = y1 := Is.inj y2 b1 hy b2
      subst e2
      have hq : q1 = q2 := (Is.parent_of a1 a1.root).symm.trans (Is.parent_of b1 a1.root)
      subst hq
      rcases a4 with a4 | ⟨z, rfl, hz⟩
      · rcases b4 with b4 | ⟨z, rfl, hz⟩
        · rw [← a4, ← b4]
        · have e3 : k1 = y2 := Is.inj k1 (h.kid hk1) hy (by rw [a4])
          subst e3
          have e5 := Is.parent_of (h.kid hk1) (h.kid hk1).root
          rw [Is.parent_of a1 (h.kid hk1).root] at e5
          have e6 : z = r.id := Option.some.inj e5
          exact absurd e6 (h.proper hk2 hz)
      · rcases b4 with b4 | ⟨z2, hz2, hz3⟩
        · have e3 : k2 = y2 := Is.inj k2 (h.kid hk2) hy (by rw [b4])
          subst e3
          have e5 := Is.parent_of (h.kid hk2) (h.kid hk2).root
          rw [Is.parent_of a1 (h.kid hk2).root] at e5
          have e6 : z = r.id := Option.some.inj e5
          exact absurd e6 (h.proper hk1 hz)
        · have e9 : z = z2 := Option.some.inj hz2
          subst e9
          obtain ⟨q3, y3, c1, c2, c3, _⟩ := Is.sub k1 (h.kid hk1) hz
          have hyk : y2.id ∈ (y3.info q3).kids := by
            obtain ⟨ip, d1, d2⟩ := wf.up a1.root (show (y2.info (some z)).parent = some z by cases y2; rfl)
            have := c1.root
            rw [c2, d1] at this
            obtain rfl := Option.some.inj this
            exact d2
          have e7 : (y3.info q3).kids = y3.kids.map RT.id := by cases y3; rfl
          rw [e7] at hyk
          obtain ⟨y4, d3, d4⟩ := List.mem_map.1 hyk
          have e8 : y4 = y2 := Is.inj y4 (c1.kid d3) a1 d4
          subst e8
          have hlt := RT.kid_pre d3
          exact ih k1 hk1 q3 y3 c1 (by rw [c2]; exact hz) k2 hk2 (by rw [c2]; exact hz3) (by omega)
  intro k1 k2 x hk1 hk2 h1 h2 _
  obtain ⟨q, y, a1, a2, _, _⟩ := Is.sub k1 (h.kid hk1) h1
  exact key k1.pre.length k1 hk1 q y a1 (by rw [a2]; exact h1) k2 hk2 (by rw [a2]; exact h2) (by omega)
theorem Is.nodup {D : Tab} (wf : WF D) (r : RT) : ∀ {p : Option Nat}, Is D p r → r.pre.Nodup := by
  induction r using RT.induct with
  | h i t a d at_ ks ih =>
    intro p hr
    have hkn : (ks.map RT.id).Nodup := wf.nodup hr.root
    show (i :: RT.preL ks).Nodup
    rw [List.nodup_cons]
    refine ⟨fun hi => ?_, ?_⟩
    · obtain ⟨k, hk, hx⟩ := RT.mem_preL.1 hi
      exact hr.proper (r := .node i t a d at_ ks) hk hx rfl
    · have key : ∀ (l l1 : List RT), ks = l1 ++ l → (RT.preL l).Nodup := by
        intro l
        induction l with
        | nil => exact fun _ _ => List.nodup_nil
        | cons k l ihl =>
          intro l1 e
          have hk : k ∈ ks := by rw [e]; simp
          have h1 := ihl (l1 ++ [k]) (by rw [e]; simp)
          have h2 := ih k hk (hr.kid (r := .node i t a d at_ ks) hk)
          simp only [RT.preL]
          rw [List.nodup_append]
          refine ⟨h2, h1, fun x hx y hy exy => ?_⟩
          subst exy
          obtain ⟨k2, hk2, hx2⟩ := RT.mem_preL.1 hy
          have hk2' : k2 ∈ ks := by rw [e]; simp [hk2]
          have e3 := Is.apart wf hr (r := .node i t a d at_ ks) k.pre.length hk hk2' hx hx2 (Nat.le_refl _)
          rw [e, List.map_append, List.map_cons, List.nodup_append] at hkn
          have h4 := (List.nodup_cons.1 hkn.2.1).1
          exact h4 (by rw [e3]; exact List.mem_map_of_mem hk2)
      exact key ks [] rfl
end Go.Proofs.Ytmfjbljdbkmkgaa.Dom

/- A node taken out of its parent, and a node put in: what a list of stores into nodes makes of a table. Plain facts. -/
namespace Go.Proofs.Ytmfjbljdbkmkgaa.Dom
open Go.RowKit Go.Proofs.YtmfjbljdbkmkgaaW.PrintWords Go.Proofs.YtmfjbljdbkmkgaaW.PrintLast Go.Proofs.YtmfjbljdbkmkgaaW.PrintMore
set_option linter.unusedVariables false
set_option linter.unusedSimpArgs false

/-! ### A list of stores -/
def updR (r : Rec) (k : Nat) (p : Option Nat) : Rec :=
  if k = 0 then { r with parent := p } else if k = 1 then { r with first := p } else if k = 2 then { r with last := p } else if k = 3 then { r with prev := p } else { r with next := p }
abbrev Stores := List (Nat × Nat × Option Nat)
def stAll (w : World) : Stores → World
  | [] => w
  | s :: l => stAll (st w s.1 s.2.1 s.2.2) l
def updAll (r : Rec) (b : Nat) : Stores → Rec
  | [] => r
  | s :: l => updAll (if s.1 = b then updR r s.2.1 s.2.2 else r) b l
theorem Has.upd {w : World} {b : Nat} {r : Rec} (h : Has w b r) (k : Nat) (hk : k < 5) (p : Option Nat) : Has (Dom.st w b k p) b (updR r k p) := by
  rcases k with _ | _ | _ | _ | _ | k
  · exact h.put0 p
  · exact h.put1 p
  · exact h.put2 p
  · exact h.put3 p
  · exact h.put4 p
  · omega
theorem Has.stored {b : Nat} (l : Stores) : ∀ {w : World} {r : Rec}, Has w b r → (∀ s ∈ l, s.2.1 < 5) → Has (stAll w l) b (updAll r b l) := by
  induction l with
  | nil => exact fun h _ => h
  | cons s l ih =>
    intro w r h hl
    obtain ⟨x, k, p⟩ := s
    show Has (stAll (Dom.st w x k p) l) b (updAll (if x = b then updR r k p else r) b l)
    refine ih ?_ (fun s hs => hl s (List.mem_cons_of_mem _ hs))
    by_cases hb : x = b
    · subst hb
      rw [if_pos rfl]
      exact h.upd k (hl _ List.mem_cons_self) p
    · rw [if_neg hb]
      exact h.st (fun e => hb e.symm) k p
theorem AttrAt.stored {v : Value} {a : List (ByteArray × ByteArray)} (l : Stores) : ∀ {w : World}, AttrAt w v a → (∀ s ∈ l, s.2.1 < 5 ∧ ∃ r, Has w s.1 r) → AttrAt (stAll w l) v a := by
  induction l with
  | nil => exact fun h _ => h
  | cons s l ih =>
    intro w h hl
    obtain ⟨x, k, p⟩ := s
    obtain ⟨hk, r, hr⟩ := hl _ List.mem_cons_self
    refine ih (h.st hr k p) (fun s hs => ?_)
    obtain ⟨hk2, r2, hr2⟩ := hl s (List.mem_cons_of_mem _ hs)
    refine ⟨hk2, ?_⟩
    by_cases hx : s.1 = x
    · rw [hx] at hr2 ⊢
      exact ⟨_, hr2.upd k hk p⟩
    · exact ⟨_, hr2.st hx k p⟩
theorem Only.stored {D : Tab} {w0 : World} (l : Stores) : ∀ {w : World}, Only D w0 w → (∀ s ∈ l, D s.1 ≠ none) → Only D w0 (stAll w l) := by
  induction l with
  | nil => exact fun h _ => h
  | cons s l ih =>
    intro w h hl
    exact ih (h.st (hl s List.mem_cons_self) _ _) (fun s hs => hl s (List.mem_cons_of_mem _ hs))
theorem Dom.stored {w : World} {D D' : Tab} (h : Dom w D) (l : Stores) (hl : ∀ s ∈ l, D s.1 ≠ none ∧ s.2.1 < 5) (wf : WF D')
    (hd : ∀ b i', D' b = some i' → ∃ i, D b = some i ∧ i'.attrs = i.attrs ∧ ∀ v, updAll (recOf D b i v) b l = recOf D' b i' v) : Dom (stAll w l) D' := by
  refine ⟨wf, fun {b i'} hb => ?_⟩
  obtain ⟨i, hi, ha, hr⟩ := hd b i' hb
  obtain ⟨v, hv, hA⟩ := h.has hi
  refine ⟨v, ?_, ?_⟩
  · rw [← hr v]
    exact hv.stored l (fun s hs => (hl s hs).2)
  · rw [ha]
    refine hA.stored l (fun s hs => ⟨(hl s hs).2, ?_⟩)
    cases hx : D s.1 with
    | none => exact absurd hx (hl s hs).1
    | some ix =>
      obtain ⟨vx, hvx, _⟩ := h.has hx
      exact ⟨_, hvx⟩

/-! ### Neighbours, where a list is in two parts -/
theorem next_l1 {m1 m2 r : List Nat} {b : Nat} (h : b ∉ m1) : nextIn ((m1 ++ b :: m2) ++ r) b = (m2 ++ r).head? := by
  rw [List.append_assoc, List.cons_append, nextIn_split h]
theorem prev_l1 {m1 m2 r : List Nat} {b : Nat} (h2 : b ∉ m2) (h3 : b ∉ r) : prevIn ((m1 ++ b :: m2) ++ r) b = m1.getLast? := by
  rw [List.append_assoc, List.cons_append, prevIn_split (by simp [h2, h3])]
theorem next_l2 {m1 m2 r : List Nat} {b : Nat} (h : b ∉ m1) (h2 : b ∉ r) : nextIn (r ++ (m1 ++ b :: m2)) b = m2.head? := by
  rw [← List.append_assoc, nextIn_split (by simp [h, h2])]
theorem prev_l2 {m1 m2 r : List Nat} {b : Nat} (h2 : b ∉ m2) : prevIn (r ++ (m1 ++ b :: m2)) b = (r ++ m1).getLast? := by
  rw [← List.append_assoc, prevIn_split h2]

theorem gl2 (c : Nat) (m : List Nat) (y : Nat) : (c :: (m ++ [y])).getLast? = some y := by rw [← List.cons_append, List.getLast?_append]; rfl
theorem gl3 (l : List Nat) (y : Nat) : (l ++ [y]).getLast? = some y := by simp
/-! ### What changes: the children of n, the parent of c -/
def relink (D : Tab) (n c : Nat) (i ic : Info) (K : List Nat) (pc : Option Nat) : Tab := put (put D n { i with kids := K }) c { ic with parent := pc }
section
variable {D : Tab} {n c : Nat} {i ic : Info} {K : List Nat} {pc : Option Nat}
theorem relink_n (hne : n ≠ c) : relink D n c i ic K pc n = some { i with kids := K } := by unfold relink; rw [put_other _ _ hne, put_same]
theorem relink_c : relink D n c i ic K pc c = some { ic with parent := pc } := put_same _ _ _
theorem relink_o {b : Nat} (h1 : b ≠ n) (h2 : b ≠ c) : relink D n c i ic K pc b = D b := by unfold relink; rw [put_other _ _ h2, put_other _ _ h1]
theorem relink_kids (hne : n ≠ c) (hc : D c = some ic) (p : Nat) : kidsOf (relink D n c i ic K pc) p = if p = n then K else kidsOf D p := by
  unfold relink
  rw [kidsOf_put, kidsOf_put]
  by_cases hp : p = c
  · subst hp
    rw [if_pos rfl, if_neg (fun e => hne e.symm), kidsOf_some hc]
  · rw [if_neg hp]
theorem relink_sibs (hne : n ≠ c) (hc : D c = some ic) {j : Info} (hj : j.parent ≠ some n) : sibs (relink D n c i ic K pc) j = sibs D j := by
  unfold sibs
  cases hp : j.parent with
  | none => rfl
  | some p =>
    simp only [hp]
    rw [relink_kids hne hc, if_neg (fun e => hj (by rw [hp, e]))]
end

/-! ### Taken out -/
def rmStores (n c : Nat) (l1 l2 : List Nat) : Stores :=
  (if l1 = [] then [(n, 1, l2.head?)] else []) ++ ((match l2.head? with | some y => [(y, 3, l1.getLast?)] | none => []) ++ ((if l2 = [] then [(n, 2, l1.getLast?)] else []) ++ ((match l1.getLast? with | some x => [(x, 4, l2.head?)] | none => []) ++ [(c, 0, none), (c, 3, none), (c, 4, none)])))
theorem updAll_append (r : Rec) (b : Nat) (l m : Stores) : updAll r b (l ++ m) = updAll (updAll r b l) b m := by
  induction l generalizing r with
  | nil => rfl
  | cons s l ih => exact ih _
theorem rm_upd (r : Rec) (b n c : Nat) (l1 l2 : List Nat) : updAll r b (rmStores n c l1 l2) =
    { r with
      parent := if c = b then none else r.parent
      first := if n = b ∧ l1 = [] then l2.head? else r.first
      last := if n = b ∧ l2 = [] then l1.getLast? else r.last
      prev := if c = b then none else if l2.head? = some b then l1.getLast? else r.prev
      next := if c = b then none else if l1.getLast? = some b then l2.head? else r.next } := by
  have h1 : ∀ r : Rec, updAll r b (if l1 = [] then [(n, 1, l2.head?)] else []) = { r with first := if n = b ∧ l1 = [] then l2.head? else r.first } := by
    intro r
    by_cases hl : l1 = []
    · rw [if_pos hl]
      by_cases hn : n = b <;> simp [updAll, updR, hn, hl]
    · rw [if_neg hl]
      simp [updAll, hl]
  have h2 : ∀ r : Rec, updAll r b (match l2.head? with | some y => [(y, 3, l1.getLast?)] | none => []) = { r with prev := if l2.head? = some b then l1.getLast? else r.prev } := by
    intro r
    cases l2.head? with
    | none => simp [updAll]
    | some y => by_cases hn : y = b <;> simp [updAll, updR, hn]
  have h3 : ∀ r : Rec, updAll r b (if l2 = [] then [(n, 2, l1.getLast?)] else []) = { r with last := if n = b ∧ l2 = [] then l1.getLast? else r.last } := by
    intro r
    by_cases hl : l2 = []
    · rw [if_pos hl]
      by_cases hn : n = b <;> simp [updAll, updR, hn, hl]
    · rw [if_neg hl]
      simp [updAll, hl]
  have h4 : ∀ r : Rec, updAll r b (match l1.getLast? with | some x => [(x, 4, l2.head?)] | none => []) = { r with next := if l1.getLast? = some b then l2.head? else r.next } := by
    intro r
    cases l1.getLast? with
    | none => simp [updAll]
    | some y => by_cases hn : y = b <;> simp [updAll, updR, hn]
  have h5 : ∀ r : Rec, updAll r b [(c, 0, none), (c, 3, none), (c, 4, none)] = { r with parent := if c = b then none else r.parent, prev := if c = b then none else r.prev, next := if c = b then none else r.next } := by
    intro r
    by_cases hn : c = b <;> simp [updAll, updR, hn]
  unfold rmStores
  rw [updAll_append, updAll_append, updAll_append, updAll_append, h1, h2, h3, h4, h5]
theorem Dom.no_loop {w : World} {D : Tab} (h : Dom w D) {n : Nat} {i : Info} (hn : D n = some i) (hself : i.parent ≠ some n) : n ∉ i.kids := fun hm => by
  have := h.kid_parent hn hn hm
  exact hself this
/-- RemoveChild, as stores. -/
theorem Dom.remove {w : World} {D : Tab} (h : Dom w D) {n c : Nat} {i ic : Info} {l1 l2 : List Nat} (hn : D n = some i) (hc : D c = some ic) (hK : i.kids = l1 ++ c :: l2) (hself : i.parent ≠ some n) :
    Dom (stAll w (rmStores n c l1 l2)) (relink D n c i ic (l1 ++ l2) none) ∧ Only D w (stAll w (rmStores n c l1 l2)) := by
  have hcm : c ∈ i.kids := by rw [hK]; simp
  have hpc : ic.parent = some n := h.kid_parent hn hc hcm
  have hne : n ≠ c := fun e => h.no_loop hn hself (by rw [e]; rw [← e] at hcm ⊢; exact hcm)
  have hnd0 := h.wf.nodup hn
  rw [hK] at hnd0
  obtain ⟨d1, d2, d3⟩ := nodup_split hnd0
  have in1 : ∀ x ∈ l1, x ∈ i.kids := fun x hx => by rw [hK]; simp [hx]
  have in2 : ∀ x ∈ l2, x ∈ i.kids := fun x hx => by rw [hK]; simp [hx]
  have kd : ∀ x ∈ i.kids, D x ≠ none := fun x hx => by
    obtain ⟨ix, h1, _⟩ := h.wf.down hn hx
    rw [h1]; simp
  have hl : ∀ s ∈ rmStores n c l1 l2, D s.1 ≠ none ∧ s.2.1 < 5 := by
    intro s hs
    unfold rmStores at hs
    rcases List.mem_append.1 hs with hs | hs
    · split at hs
      · obtain rfl := List.mem_singleton.1 hs
        exact ⟨by rw [hn]; simp, by simp⟩
      · cases hs
    rcases List.mem_append.1 hs with hs | hs
    · split at hs
      · rename_i y hy
        obtain rfl := List.mem_singleton.1 hs
        exact ⟨kd _ (in2 _ (List.mem_of_mem_head? hy)), by simp⟩
      · cases hs
    rcases List.mem_append.1 hs with hs | hs
    · split at hs
      · obtain rfl := List.mem_singleton.1 hs
        exact ⟨by rw [hn]; simp, by simp⟩
      · cases hs
    rcases List.mem_append.1 hs with hs | hs
    · split at hs
      · rename_i y hy
        obtain rfl := List.mem_singleton.1 hs
        exact ⟨kd _ (in1 _ (List.mem_of_getLast? hy)), by simp⟩
      · cases hs
    · simp only [List.mem_cons, List.not_mem_nil, or_false] at hs
      rcases hs with rfl | rfl | rfl <;> exact ⟨by rw [hc]; simp, by simp⟩
  refine ⟨h.stored _ hl ?_ ?_, (Only.refl D w).stored _ (fun s hs => (hl s hs).1)⟩
  · refine ⟨?_, ?_, ?_⟩
    · intro b j p hb hp
      have hbc : b ≠ c := fun e => by
        subst e
        rw [relink_c] at hb
        obtain rfl := Option.some.inj hb
        cases hp
      have key : ∃ j0, D b = some j0 ∧ j0.parent = some p := by
        by_cases hbn : b = n
        · subst hbn
          rw [relink_n hne] at hb
          obtain rfl := Option.some.inj hb
          exact ⟨i, hn, hp⟩
        · rw [relink_o hbn hbc] at hb
          exact ⟨j, hb, hp⟩
      obtain ⟨j0, h0, hp0⟩ := key
      obtain ⟨ip, hip, hm⟩ := h.wf.up h0 hp0
      by_cases hpn : p = n
      · subst hpn
        rw [hn] at hip
        obtain rfl := Option.some.inj hip
        rw [hK] at hm
        exact ⟨_, relink_n hne, by simp at hm ⊢; rcases hm with h1 | h1 | h1; exact .inl h1; exact absurd h1 hbc; exact .inr h1⟩
      · by_cases hpc2 : p = c
        · subst hpc2
          rw [hc] at hip
          obtain rfl := Option.some.inj hip
          exact ⟨_, relink_c, hm⟩
        · exact ⟨ip, by rw [relink_o hpn hpc2]; exact hip, hm⟩
    · intro b j x hb hx
      have key : ∃ j0, D b = some j0 ∧ x ∈ j0.kids ∧ (b = n → x ≠ c) := by
        by_cases hbn : b = n
        · subst hbn
          rw [relink_n hne] at hb
          obtain rfl := Option.some.inj hb
          have hx' : x ∈ l1 ++ l2 := hx
          refine ⟨i, hn, by rw [hK]; simp at hx' ⊢; rcases hx' with h1 | h1; exact .inl h1; exact .inr (.inr h1), fun _ e => ?_⟩
          subst e
          rcases List.mem_append.1 hx' with h1 | h1
          · exact d1 h1
          · exact d2 h1
        · by_cases hbc : b = c
          · subst hbc
            rw [relink_c] at hb
            obtain rfl := Option.some.inj hb
            exact ⟨ic, hc, hx, fun e => absurd e hbn⟩
          · rw [relink_o hbn hbc] at hb
            exact ⟨j, hb, hx, fun e => absurd e hbn⟩
      obtain ⟨j0, h0, hx0, hxc0⟩ := key
      obtain ⟨ix, hix, hpx⟩ := h.wf.down h0 hx0
      have hxc : x ≠ c := fun e => by
        subst e
        rw [hc] at hix
        obtain rfl := Option.some.inj hix
        rw [hpc] at hpx
        exact hxc0 (Option.some.inj hpx).symm rfl
      by_cases hxn : x = n
      · subst hxn
        rw [hn] at hix
        obtain rfl := Option.some.inj hix
        exact ⟨_, relink_n hne, hpx⟩
      · exact ⟨ix, by rw [relink_o hxn hxc]; exact hix, hpx⟩
    · intro b j hb
      by_cases hbn : b = n
      · subst hbn
        rw [relink_n hne] at hb
        obtain rfl := Option.some.inj hb
        exact d3
      · by_cases hbc : b = c
        · subst hbc
          rw [relink_c] at hb
          obtain rfl := Option.some.inj hb
          show ic.kids.Nodup
          exact h.wf.nodup hc
        · rw [relink_o hbn hbc] at hb
          exact h.wf.nodup hb
  · intro b j hb
    have hnl : n ∉ i.kids := h.no_loop hn hself
    by_cases hbn : b = n
    · subst hbn
      rw [relink_n hne] at hb
      obtain rfl := Option.some.inj hb
      refine ⟨i, hn, rfl, fun v => ?_⟩
      rw [rm_upd]
      have e1 : l2.head? ≠ some b := fun e => hnl (in2 _ (List.mem_of_mem_head? e))
      have e2 : l1.getLast? ≠ some b := fun e => hnl (in1 _ (List.mem_of_getLast? e))
      have e3 : c ≠ b := fun e => hne e.symm
      unfold recOf
      rw [relink_sibs (j := { i with kids := l1 ++ l2 }) hne hc hself]
      simp only [if_neg e1, if_neg e2, if_neg e3, true_and, hK]
      congr 1
      · cases l1 <;> simp
      · rcases List.eq_nil_or_concat l2 with rfl | ⟨m, y, rfl⟩
        · simp
        · simp [gl2]
    · by_cases hbc : b = c
      · subst hbc
        rw [relink_c] at hb
        obtain rfl := Option.some.inj hb
        refine ⟨ic, hc, rfl, fun v => ?_⟩
        rw [rm_upd]
        have e3 : ¬ n = b := hne
        unfold recOf
        rw [sibs_none (i := { ic with parent := none }) rfl]
        simp only [if_true, e3, false_and, if_false]
        rfl
      · rw [relink_o hbn hbc] at hb
        refine ⟨j, hb, rfl, fun v => ?_⟩
        rw [rm_upd]
        have e3 : ¬ n = b := fun e => hbn e.symm
        have e4 : ¬ c = b := fun e => hbc e.symm
        unfold recOf
        simp only [e3, e4, false_and, if_false]
        by_cases hp : j.parent = some n
        · have hm : b ∈ i.kids := h.kid_of hn hb hp
          rw [sibs_some hp, sibs_some hp, relink_kids hne hc, if_pos rfl, kidsOf_some hn, hK]
          rw [hK] at hm
          rcases List.mem_append.1 hm with hm | hm
          · obtain ⟨m1, m2, rfl⟩ := List.append_of_mem hm
            have hnd2 : ((m1 ++ b :: m2) ++ (c :: l2)).Nodup := by simpa using hnd0
            rw [List.nodup_append] at hnd2
            obtain ⟨x1, x2, x3⟩ := hnd2
            obtain ⟨y1, y2, _⟩ := nodup_split x1
            have y3 : b ∉ c :: l2 := fun hx => x3 b (by simp) b hx rfl
            have y4 : b ∉ l2 := fun hx => y3 (List.mem_cons_of_mem _ hx)
            have e5 : l2.head? ≠ some b := fun e => y4 (List.mem_of_mem_head? e)
            rw [next_l1 y1, next_l1 y1, prev_l1 y2 y3, prev_l1 y2 y4, if_neg e5]
            rcases List.eq_nil_or_concat m2 with rfl | ⟨m, y, rfl⟩
            · simp
            · have e6 : (m1 ++ b :: (m ++ [y])).getLast? ≠ some b := by
                intro e
                rw [show m1 ++ b :: (m ++ [y]) = (m1 ++ b :: m) ++ [y] by simp, gl3] at e
                obtain rfl := Option.some.inj e
                exact y2 (by simp)
              rw [if_neg (by simpa using e6)]
              cases m <;> simp
          · have hm2 : b ∈ l2 := by
              rcases List.mem_cons.1 hm with h1 | h1
              · exact absurd h1 hbc
              · exact h1
            obtain ⟨m1, m2, rfl⟩ := List.append_of_mem hm2
            have hnd2 : (l1 ++ [c] ++ (m1 ++ b :: m2)).Nodup := by simpa using hnd0
            rw [List.nodup_append] at hnd2
            obtain ⟨x1, x2, x3⟩ := hnd2
            obtain ⟨y1, y2, _⟩ := nodup_split x2
            have y3 : b ∉ l1 ++ [c] := fun hx => x3 b hx b (by simp) rfl
            have y4 : b ∉ l1 := fun hx => y3 (by simp [hx])
            have e5 : l1.getLast? ≠ some b := fun e => y4 (List.mem_of_getLast? e)
            rw [if_neg e5, show l1 ++ c :: (m1 ++ b :: m2) = (l1 ++ [c]) ++ (m1 ++ b :: m2) by simp, next_l2 y1 y3, next_l2 y1 y4, prev_l2 y2, prev_l2 y2]
            cases m1 with
            | nil => simp
            | cons y m =>
              have e6 : ((y :: m) ++ b :: m2).head? ≠ some b := by
                intro e
                have : y = b := by simpa using e
                subst this
                exact y1 (by simp)
              rw [if_neg e6]
              rcases List.eq_nil_or_concat (y :: m) with h0 | ⟨m', y', h0⟩
              · cases h0
              · rw [h0]
                simp [gl2]
        · have hbk : b ∉ i.kids := fun hm => hp (h.kid_parent hn hb hm)
          have e5 : l2.head? ≠ some b := fun e => hbk (in2 _ (List.mem_of_mem_head? e))
          have e6 : l1.getLast? ≠ some b := fun e => hbk (in1 _ (List.mem_of_getLast? e))
          rw [if_neg e5, if_neg e6, relink_sibs hne hc hp]
/-! ### Put in -/
def inStores (n c : Nat) (l1 l2 : List Nat) : Stores :=
  (match l1.getLast? with | some x => [(x, 4, some c)] | none => [(n, 1, some c)]) ++ ((match l2.head? with | some y => [(y, 3, some c)] | none => [(n, 2, some c)]) ++ [(c, 0, some n), (c, 3, l1.getLast?), (c, 4, l2.head?)])
theorem in_upd (r : Rec) (b n c : Nat) (l1 l2 : List Nat) : updAll r b (inStores n c l1 l2) =
    { r with
      parent := if c = b then some n else r.parent
      first := if n = b ∧ l1.getLast? = none then some c else r.first
      last := if n = b ∧ l2.head? = none then some c else r.last
      prev := if c = b then l1.getLast? else if l2.head? = some b then some c else r.prev
      next := if c = b then l2.head? else if l1.getLast? = some b then some c else r.next } := by
  have h1 : ∀ r : Rec, updAll r b (match l1.getLast? with | some x => [(x, 4, some c)] | none => [(n, 1, some c)]) = { r with first := if n = b ∧ l1.getLast? = none then some c else r.first, next := if l1.getLast? = some b then some c else r.next } := by
    intro r
    cases l1.getLast? with
    | none => by_cases hn : n = b <;> simp [updAll, updR, hn]
    | some y => by_cases hn : y = b <;> simp [updAll, updR, hn]
  have h2 : ∀ r : Rec, updAll r b (match l2.head? with | some y => [(y, 3, some c)] | none => [(n, 2, some c)]) = { r with last := if n = b ∧ l2.head? = none then some c else r.last, prev := if l2.head? = some b then some c else r.prev } := by
    intro r
    cases l2.head? with
    | none => by_cases hn : n = b <;> simp [updAll, updR, hn]
    | some y => by_cases hn : y = b <;> simp [updAll, updR, hn]
  have h5 : ∀ r : Rec, updAll r b [(c, 0, some n), (c, 3, l1.getLast?), (c, 4, l2.head?)] = { r with parent := if c = b then some n else r.parent, prev := if c = b then l1.getLast? else r.prev, next := if c = b then l2.head? else r.next } := by
    intro r
    by_cases hn : c = b <;> simp [updAll, updR, hn]
  unfold inStores
  rw [updAll_append, updAll_append, h1, h2, h5]
/-- InsertBefore and AppendChild, as stores. -/
theorem Dom.insert {w : World} {D : Tab} (h : Dom w D) {n c : Nat} {i ic : Info} {l1 l2 : List Nat} (hn : D n = some i) (hc : D c = some ic) (hK : i.kids = l1 ++ l2) (hne : n ≠ c) (hroot : ic.parent = none) (hself : i.parent ≠ some n) :
    Dom (stAll w (inStores n c l1 l2)) (relink D n c i ic (l1 ++ c :: l2) (some n)) ∧ Only D w (stAll w (inStores n c l1 l2)) := by
  have hcn : c ∉ i.kids := h.kid_ne hn hc hroot
  have hnd0 := h.wf.nodup hn
  rw [hK] at hnd0 hcn
  have c1 : c ∉ l1 := fun hx => hcn (by simp [hx])
  have c2 : c ∉ l2 := fun hx => hcn (by simp [hx])
  have in1 : ∀ x ∈ l1, x ∈ i.kids := fun x hx => by rw [hK]; simp [hx]
  have in2 : ∀ x ∈ l2, x ∈ i.kids := fun x hx => by rw [hK]; simp [hx]
  have kd : ∀ x ∈ i.kids, D x ≠ none := fun x hx => by
    obtain ⟨ix, h1, _⟩ := h.wf.down hn hx
    rw [h1]; simp
  have hl : ∀ s ∈ inStores n c l1 l2, D s.1 ≠ none ∧ s.2.1 < 5 := by
    intro s hs
    unfold inStores at hs
    rcases List.mem_append.1 hs with hs | hs
    · split at hs
      · rename_i y hy
        obtain rfl := List.mem_singleton.1 hs
        exact ⟨kd _ (in1 _ (List.mem_of_getLast? hy)), by simp⟩
      · obtain rfl := List.mem_singleton.1 hs
        exact ⟨by rw [hn]; simp, by simp⟩
    rcases List.mem_append.1 hs with hs | hs
    · split at hs
      · rename_i y hy
        obtain rfl := List.mem_singleton.1 hs
        exact ⟨kd _ (in2 _ (List.mem_of_mem_head? hy)), by simp⟩
      · obtain rfl := List.mem_singleton.1 hs
        exact ⟨by rw [hn]; simp, by simp⟩
    · simp only [List.mem_cons, List.not_mem_nil, or_false] at hs
      rcases hs with rfl | rfl | rfl <;> exact ⟨by rw [hc]; simp, by simp⟩
  refine ⟨h.stored _ hl ?_ ?_, (Only.refl D w).stored _ (fun s hs => (hl s hs).1)⟩
  · refine ⟨?_, ?_, ?_⟩
    · intro b j p hb hp
      by_cases hbc : b = c
      · subst hbc
        rw [relink_c] at hb
        obtain rfl := Option.some.inj hb
        obtain rfl := Option.some.inj hp
        exact ⟨_, relink_n hne, by simp⟩
      · have key : ∃ j0, D b = some j0 ∧ j0.parent = some p := by
          by_cases hbn : b = n
          · subst hbn
            rw [relink_n hne] at hb
            obtain rfl := Option.some.inj hb
            exact ⟨i, hn, hp⟩
          · rw [relink_o hbn hbc] at hb
            exact ⟨j, hb, hp⟩
        obtain ⟨j0, h0, hp0⟩ := key
        obtain ⟨ip, hip, hm⟩ := h.wf.up h0 hp0
        by_cases hpn : p = n
        · subst hpn
          rw [hn] at hip
          obtain rfl := Option.some.inj hip
          rw [hK] at hm
          exact ⟨_, relink_n hne, by simp at hm ⊢; rcases hm with h1 | h1; exact .inl h1; exact .inr (.inr h1)⟩
        · by_cases hpc2 : p = c
          · subst hpc2
            rw [hc] at hip
            obtain rfl := Option.some.inj hip
            exact ⟨_, relink_c, hm⟩
          · exact ⟨ip, by rw [relink_o hpn hpc2]; exact hip, hm⟩
    · intro b j x hb hx
      by_cases hxc : x = c
      · subst hxc
        by_cases hbn : b = n
        · subst hbn
          exact ⟨_, relink_c, rfl⟩
        · exfalso
          have key : ∃ j0, D b = some j0 ∧ x ∈ j0.kids := by
            by_cases hbc : b = x
            · subst hbc
              rw [relink_c] at hb
              obtain rfl := Option.some.inj hb
              exact ⟨ic, hc, hx⟩
            · rw [relink_o hbn hbc] at hb
              exact ⟨j, hb, hx⟩
          obtain ⟨j0, h0, hx0⟩ := key
          have := h.kid_parent h0 hc hx0
          rw [hroot] at this
          cases this
      · have key : ∃ j0, D b = some j0 ∧ x ∈ j0.kids := by
          by_cases hbn : b = n
          · subst hbn
            rw [relink_n hne] at hb
            obtain rfl := Option.some.inj hb
            have hx' : x ∈ l1 ++ c :: l2 := hx
            refine ⟨i, hn, ?_⟩
            rw [hK]
            simp at hx' ⊢
            rcases hx' with h1 | h1 | h1
            · exact .inl h1
            · exact absurd h1 hxc
            · exact .inr h1
          · by_cases hbc : b = c
            · subst hbc
              rw [relink_c] at hb
              obtain rfl := Option.some.inj hb
              exact ⟨ic, hc, hx⟩
            · rw [relink_o hbn hbc] at hb
              exact ⟨j, hb, hx⟩
        obtain ⟨j0, h0, hx0⟩ := key
        obtain ⟨ix, hix, hpx⟩ := h.wf.down h0 hx0
        by_cases hxn : x = n
        · subst hxn
          rw [hn] at hix
          obtain rfl := Option.some.inj hix
          exact ⟨_, relink_n hne, hpx⟩
        · exact ⟨ix, by rw [relink_o hxn hxc]; exact hix, hpx⟩
    · intro b j hb
      by_cases hbn : b = n
      · subst hbn
        rw [relink_n hne] at hb
        obtain rfl := Option.some.inj hb
        show (l1 ++ c :: l2).Nodup
        rw [List.nodup_append] at hnd0 ⊢
        obtain ⟨x1, x2, x3⟩ := hnd0
        refine ⟨x1, List.nodup_cons.2 ⟨c2, x2⟩, fun a ha y hy e => ?_⟩
        rcases List.mem_cons.1 hy with rfl | hy
        · exact c1 (e ▸ ha)
        · exact x3 a ha y hy e
      · by_cases hbc : b = c
        · subst hbc
          rw [relink_c] at hb
          obtain rfl := Option.some.inj hb
          show ic.kids.Nodup
          exact h.wf.nodup hc
        · rw [relink_o hbn hbc] at hb
          exact h.wf.nodup hb
  · intro b j hb
    have hnl : n ∉ i.kids := h.no_loop hn hself
    by_cases hbn : b = n
    · subst hbn
      rw [relink_n hne] at hb
      obtain rfl := Option.some.inj hb
      refine ⟨i, hn, rfl, fun v => ?_⟩
      rw [in_upd]
      have e1 : l2.head? ≠ some b := fun e => hnl (in2 _ (List.mem_of_mem_head? e))
      have e2 : l1.getLast? ≠ some b := fun e => hnl (in1 _ (List.mem_of_getLast? e))
      have e3 : c ≠ b := fun e => hne e.symm
      unfold recOf
      rw [relink_sibs (j := { i with kids := l1 ++ c :: l2 }) hne hc hself]
      simp only [if_neg e1, if_neg e2, if_neg e3, true_and, hK]
      congr 1
      · cases l1 <;> simp
      · rcases List.eq_nil_or_concat l2 with rfl | ⟨m, y, rfl⟩
        · simp
        · cases m <;> simp
    · by_cases hbc : b = c
      · subst hbc
        rw [relink_c] at hb
        obtain rfl := Option.some.inj hb
        refine ⟨ic, hc, rfl, fun v => ?_⟩
        rw [in_upd]
        have e3 : ¬ n = b := hne
        have hs : sibs (relink D n b i ic (l1 ++ b :: l2) (some n)) { ic with parent := some n } = l1 ++ b :: l2 := by rw [sibs_some (i := { ic with parent := some n }) rfl, relink_kids hne hc, if_pos rfl]
        unfold recOf
        rw [hs, prevIn_split c2, nextIn_split c1]
        simp only [if_true, e3, false_and, if_false]
      · rw [relink_o hbn hbc] at hb
        refine ⟨j, hb, rfl, fun v => ?_⟩
        rw [in_upd]
        have e3 : ¬ n = b := fun e => hbn e.symm
        have e4 : ¬ c = b := fun e => hbc e.symm
        unfold recOf
        simp only [e3, e4, false_and, if_false]
        by_cases hp : j.parent = some n
        · have hm : b ∈ i.kids := h.kid_of hn hb hp
          rw [sibs_some hp, sibs_some hp, relink_kids hne hc, if_pos rfl, kidsOf_some hn, hK]
          rw [hK] at hm
          rw [List.nodup_append] at hnd0
          obtain ⟨x1, x2, x3⟩ := hnd0
          rcases List.mem_append.1 hm with hm | hm
          · obtain ⟨m1, m2, rfl⟩ := List.append_of_mem hm
            obtain ⟨y1, y2, _⟩ := nodup_split x1
            have y4 : b ∉ l2 := fun hx => x3 b (by simp) b hx rfl
            have y3 : b ∉ c :: l2 := fun hx => by
              rcases List.mem_cons.1 hx with h1 | h1
              · exact hbc h1
              · exact y4 h1
            have e5 : l2.head? ≠ some b := fun e => y4 (List.mem_of_mem_head? e)
            rw [next_l1 y1, next_l1 y1, prev_l1 y2 y3, prev_l1 y2 y4, if_neg e5]
            rcases List.eq_nil_or_concat m2 with rfl | ⟨m, y, rfl⟩
            · simp
            · have e6 : (m1 ++ b :: (m ++ [y])).getLast? ≠ some b := by
                intro e
                rw [show m1 ++ b :: (m ++ [y]) = (m1 ++ b :: m) ++ [y] by simp, gl3] at e
                obtain rfl := Option.some.inj e
                exact y2 (by simp)
              rw [if_neg (by simpa using e6)]
              cases m <;> simp
          · obtain ⟨m1, m2, rfl⟩ := List.append_of_mem hm
            obtain ⟨y1, y2, _⟩ := nodup_split x2
            have y4 : b ∉ l1 := fun hx => x3 b hx b (by simp) rfl
            have y3 : b ∉ l1 ++ [c] := fun hx => by
              rcases List.mem_append.1 hx with h1 | h1
              · exact y4 h1
              · exact hbc (List.mem_singleton.1 h1)
            have e5 : l1.getLast? ≠ some b := fun e => y4 (List.mem_of_getLast? e)
            rw [if_neg e5, show l1 ++ c :: (m1 ++ b :: m2) = (l1 ++ [c]) ++ (m1 ++ b :: m2) by simp, next_l2 y1 y3, next_l2 y1 y4, prev_l2 y2, prev_l2 y2]
            cases m1 with
            | nil => simp
            | cons y m =>
              have e6 : ((y :: m) ++ b :: m2).head? ≠ some b := by
                intro e
                have : y = b := by simpa using e
                subst this
                exact y1 (by simp)
              rw [if_neg e6]
              rcases List.eq_nil_or_concat (y :: m) with h0 | ⟨m', y', h0⟩
              · cases h0
              · rw [h0]
                simp [gl2]
        · have hbk : b ∉ i.kids := fun hm => hp (h.kid_parent hn hb hm)
          have e5 : l2.head? ≠ some b := fun e => hbk (in2 _ (List.mem_of_mem_head? e))
          have e6 : l1.getLast? ≠ some b := fun e => hbk (in1 _ (List.mem_of_getLast? e))
          rw [if_neg e5, if_neg e6, relink_sibs hne hc hp]
end Go.Proofs.Ytmfjbljdbkmkgaa.Dom

/- Two nodes compared. -/
namespace Go.Proofs.Ytmfjbljdbkmkgaa.Dom
open Go.RowKit Go.Proofs.YtmfjbljdbkmkgaaW.PrintWords Go.Proofs.YtmfjbljdbkmkgaaW.PrintLast Go.Proofs.YtmfjbljdbkmkgaaW.PrintMore
set_option linter.unusedVariables false
set_option linter.unusedSimpArgs false

theorem infoN : (Try.prog.info? 81).map (fun i => i.size) = some 10 := by kernel_rfl
theorem eql_in {w : World} {x y : Nat} {r r' : Rec} (hx : Has w x r) (hy : Has w y r') (d : Nat) : (Op.equalIn (d + 1) 47 (.pointer (some ⟨x, 0, none⟩)) (.pointer (some ⟨y, 0, none⟩))).run Try.prog w = .ok (x == y) w := by
  obtain ⟨j, hj, hs⟩ := Option.map_eq_some_iff.1 infoN
  by_cases h : x = y
  · subst h
    simp [Op.equalIn, run_underlying Try.underlying47, sizeOf, typeInfo, hj, run_sameAddr_same]
  · have hne : (⟨x, 0, none⟩ : Addr) ≠ ⟨y, 0, none⟩ := fun e => h (congrArg Addr.block e)
    simp [Op.equalIn, run_underlying Try.underlying47, sizeOf, typeInfo, hj, hs, run_sameAddr_other w hne hx hy, h]
theorem eql_nodes {w : World} {x y : Nat} {r r' : Rec} (hx : Has w x r) (hy : Has w y r') : (binOp .eql 47 (.pointer (some ⟨x, 0, none⟩)) (.pointer (some ⟨y, 0, none⟩))).run Try.prog w = .ok (.bool (x == y)) w := by
  simp only [binOp]
  simp [Op.equal, Op.maxDepth, eql_in hx hy 9999]
theorem neq_nodes {w : World} {x y : Nat} {r r' : Rec} (hx : Has w x r) (hy : Has w y r') : (binOp .neq 47 (.pointer (some ⟨x, 0, none⟩)) (.pointer (some ⟨y, 0, none⟩))).run Try.prog w = .ok (.bool (x != y)) w := by
  simp only [binOp]
  simp [Op.equal, Op.maxDepth, eql_in hx hy 9999, bne]
end Go.Proofs.Ytmfjbljdbkmkgaa.Dom

/- (*html.Node).RemoveChild and InsertBefore: their contracts over a table. -/
namespace Go.Proofs.Ytmfjbljdbkmkgaa.Dom
open Go.RowKit Go.Proofs.YtmfjbljdbkmkgaaW.PrintWords Go.Proofs.YtmfjbljdbkmkgaaW.PrintLast Go.Proofs.YtmfjbljdbkmkgaaW.PrintMore
set_option linter.unusedVariables false
set_option linter.unusedSimpArgs false

theorem snoc_or (l : List Nat) : l = [] ∨ ∃ k x, l = k ++ [x] := by
  rcases List.eq_nil_or_concat l with h | ⟨k, x, h⟩
  · exact .inl h
  · exact .inr ⟨k, x, by rw [h]; simp⟩
theorem Dom.moved {w w' : World} {D : Tab} (h : Dom w D) (hb : Below w.heap.size w w') : Dom w' D :=
  ⟨h.wf, fun hd => by
    obtain ⟨v, h1, h2⟩ := h.has hd
    exact ⟨v, h1.of_heap (hb.block _ h1.lt), h2.below hb⟩⟩
theorem Only.drewN {D : Tab} {w w' : World} (h : Only D w w') (k : Nat) : Only D w (w'.drewN k) := ⟨h.os, h.tape, h.output, h.size, h.block⟩
theorem Dom.drewN {w : World} {D : Tab} (h : Dom w D) (k : Nat) : Dom (w.drewN k) D := h.moved (pw_below_drewN (Below.refl _ _) k)
set_option maxHeartbeats 4000000 in
set_option maxRecDepth 100000 in
theorem remove_calls (w : World) (D : Tab) (n c : Nat) (i ic : Info) (l1 l2 : List Nat) (h : Dom w D) (hn : D n = some i) (hc : D c = some ic) (hK : i.kids = l1 ++ c :: l2) (hself : i.parent ≠ some n) :
    Calls Try.prog 98 #[ptr (some n), ptr (some c)] w fun e w' => e = .returned (.tuple #[]) ∧ Dom w' (relink D n c i ic (l1 ++ l2) none) ∧ Only D w w' := by
  have R := Aside0.mk (h.remove hn hc hK hself)
  obtain ⟨vn, hHn, _⟩ := h.has hn
  obtain ⟨vc, hHc, _⟩ := h.has hc
  have hcm : c ∈ i.kids := by rw [hK]; simp
  have hpc : ic.parent = some n := h.kid_parent hn hc hcm
  have hne : n ≠ c := fun e => h.no_loop hn hself (by rw [e]; rw [← e] at hcm ⊢; exact hcm)
  have hnd0 := h.wf.nodup hn
  rw [hK] at hnd0
  obtain ⟨d1, d2, d3⟩ := nodup_split hnd0
  have c0 : w.cell? ⟨c, 0, none⟩ = some (.pointer (some ⟨n, 0, none⟩)) := by rw [hHc.cells10.1]; show some (ptr ic.parent) = _; rw [hpc]; rfl
  have c3 : w.cell? ⟨c, 3, none⟩ = some (ptr l1.getLast?) := by rw [hHc.cells10.2.2.2.1]; show some (ptr (prevIn (sibs D ic) c)) = _; rw [sibs_some hpc, kidsOf_some hn, hK, prevIn_split d2]
  have c4 : w.cell? ⟨c, 4, none⟩ = some (ptr l2.head?) := by rw [hHc.cells10.2.2.2.2.1]; show some (ptr (nextIn (sibs D ic) c)) = _; rw [sibs_some hpc, kidsOf_some hn, hK, nextIn_split d1]
  have n1 : w.cell? ⟨n, 1, none⟩ = some (ptr (l1 ++ c :: l2).head?) := by rw [hHn.cells10.2.1]; show some (ptr i.kids.head?) = _; rw [hK]
  have n2 : w.cell? ⟨n, 2, none⟩ = some (ptr (l1 ++ c :: l2).getLast?) := by rw [hHn.cells10.2.2.1]; show some (ptr i.kids.getLast?) = _; rw [hK]
  have hfc0 := hHc.frozen 0
  have hfc3 := hHc.frozen 3
  have hfc4 := hHc.frozen 4
  have hfn1 := hHn.frozen 1
  have hfn2 := hHn.frozen 2
  have hnc : ¬ c = n := fun e => hne e.symm
  have HN := Aside0.mk hHn
  have HC := Aside0.mk hHc
  have hq0 := neq_nodes hHn hHn
  have HD := Aside0.mk h
  have HDN := Aside0.mk hn
  have hnl : ¬ (n ∈ l1 ∨ n ∈ l2) := fun hx => h.no_loop hn hself (by rw [hK]; rcases hx with hx | hx <;> simp [hx])
  have d12 : ∀ q, q ∈ l1 → q ∈ l2 → False := fun q h1 h2 => by rw [List.nodup_append] at hnd0; exact hnd0.2.2 q h1 q (List.mem_cons_of_mem _ h2) rfl
  have HD := Aside0.mk h
  have HDN := Aside0.mk hn
  have hnl : ¬ (n ∈ l1 ∨ n ∈ l2) := fun hx => h.no_loop hn hself (by rw [hK]; rcases hx with hx | hx <;> simp [hx])
  have d12 : ∀ q, q ∈ l1 → q ∈ l2 → False := fun q h1 h2 => by rw [List.nodup_append] at hnd0; exact hnd0.2.2 q h1 q (List.mem_cons_of_mem _ h2) rfl
  have HD := Aside0.mk h
  have HDN := Aside0.mk hn
  have hnl : ¬ (n ∈ l1 ∨ n ∈ l2) := fun hx => h.no_loop hn hself (by rw [hK]; rcases hx with hx | hx <;> simp [hx])
  have d12 : ∀ q, q ∈ l1 → q ∈ l2 → False := fun q h1 h2 => by rw [List.nodup_append] at hnd0; exact hnd0.2.2 q h1 q (List.mem_cons_of_mem _ h2) rfl
  have HD := Aside0.mk h
  have HDN := Aside0.mk hn
  have hnl : ¬ (n ∈ l1 ∨ n ∈ l2) := fun hx => h.no_loop hn hself (by rw [hK]; rcases hx with hx | hx <;> simp [hx])
  have d12 : ∀ q, q ∈ l1 → q ∈ l2 → False := fun q h1 h2 => by rw [List.nodup_append] at hnd0; exact hnd0.2.2 q h1 q (List.mem_cons_of_mem _ h2) rfl
  clear hHn hHc h hn hc hpc hself hnd0 d3 hcm
  -- CASES
  have kd : ∀ q, q ∈ l1 ∨ q ∈ l2 → ∃ r, Has w q r := fun q hq => by
    obtain ⟨iq, h1, _⟩ := HD.out.wf.down HDN.out (by rw [hK]; rcases hq with hq | hq <;> simp [hq] : q ∈ i.kids)
    obtain ⟨v, hv, _⟩ := HD.out.has h1
    exact ⟨_, hv⟩
  unfold ptr
  rcases snoc_or l1 with rfl | ⟨k1, x, rfl⟩
  · cases l2 with
    | nil =>
      have c3' : w.cell? ⟨c, 3, none⟩ = some (.pointer none) := by rw [c3]; simp [ptr]
      have c4' : w.cell? ⟨c, 4, none⟩ = some (.pointer none) := by rw [c4]; simp [ptr]
      have n1' : w.cell? ⟨n, 1, none⟩ = some (.pointer (some ⟨c, 0, none⟩)) := by rw [n1]; rfl
      have n2' : w.cell? ⟨n, 2, none⟩ = some (.pointer (some ⟨c, 0, none⟩)) := by rw [n2]; simp [ptr]
      have hq1 := eql_nodes HC.out HC.out
      have hq2 := eql_nodes (HC.out.far (p := ⟨n, 1, none⟩) hnc (.pointer none)) (HC.out.far (p := ⟨n, 1, none⟩) hnc (.pointer none))
      rw [show rmStores n c [] [] = [(n, 1, none), (n, 2, none), (c, 0, none), (c, 3, none), (c, 4, none)] by unfold rmStores; simp] at R
      clear c3 c4 n1 n2 kd
      clear d1 d2 d12 hnl hK
      go_enter Try.func98, Try.ntmps98
      go_wp2_with fail
      go_end0
      exact ⟨rfl, (R.out.1.drewN 0 : _), (R.out.2.drewN 0 : _)⟩
    | cons y k2 =>
      have c3' : w.cell? ⟨c, 3, none⟩ = some (.pointer none) := by rw [c3]; simp [ptr]
      have c4' : w.cell? ⟨c, 4, none⟩ = some (.pointer (some ⟨y, 0, none⟩)) := by rw [c4]; simp [ptr]
      have n1' : w.cell? ⟨n, 1, none⟩ = some (.pointer (some ⟨c, 0, none⟩)) := by rw [n1]; rfl
      obtain ⟨z, hz, hzm⟩ : ∃ z, (y :: k2).getLast? = some z ∧ z ∈ y :: k2 := by
        cases hg : (y :: k2).getLast? with
        | none => simp at hg
        | some z => exact ⟨z, rfl, List.mem_of_getLast? hg⟩
      have n2' : w.cell? ⟨n, 2, none⟩ = some (.pointer (some ⟨z, 0, none⟩)) := by rw [n2, List.getLast?_append, List.getLast?_cons_cons, hz]; rfl
      obtain ⟨rz, hHz⟩ := kd z (.inr hzm)
      have HZ := Aside0.mk hHz
      obtain ⟨ry, hHy⟩ := kd y (.inr (by simp))
      have HY := Aside0.mk hHy
      have hzc : (z == c) = false := beq_eq_false_iff_ne.2 (fun e => d2 (e ▸ hzm))
      have hyc : ¬ y = c := fun e => d2 (by rw [← e]; simp)
      have hcy : ¬ c = y := fun e => hyc e.symm
      have hyn : ¬ y = n := fun e => hnl (by rw [← e]; exact .inr (by simp))
      have hny : ¬ n = y := fun e => hyn e.symm
      have hfy := hHy.frozen 3
      have y3 := hHy.cells10.2.2.2.1
      have hq1 := eql_nodes HC.out HC.out
      have hz_n : z ≠ n := fun e => hnl (by rw [← e]; exact .inr hzm)
      have hHz2 : ∃ r, Has (((w.setCell ⟨n, 1, none⟩ (.pointer (some ⟨y, 0, none⟩)))).setCell ⟨y, 3, none⟩ (.pointer none)) z r := by
        by_cases e : z = y
        · subst e
          exact ⟨_, ((HZ.out.far (p := ⟨n, 1, none⟩) hz_n (.pointer (some ⟨z, 0, none⟩)))).put3 none⟩
        · exact ⟨_, ((HZ.out.far (p := ⟨n, 1, none⟩) hz_n (.pointer (some ⟨y, 0, none⟩)))).far (p := ⟨y, 3, none⟩) e _⟩
      obtain ⟨rz2, hHz2⟩ := hHz2
      have hq2 : (binOp .eql 47 (.pointer (some ⟨z, 0, none⟩)) (.pointer (some ⟨c, 0, none⟩))).run Try.prog ((((w.setCell ⟨n, 1, none⟩ (.pointer (some ⟨y, 0, none⟩)))).setCell ⟨y, 3, none⟩ (.pointer none)).drew) = .ok (.bool (z == c)) ((((w.setCell ⟨n, 1, none⟩ (.pointer (some ⟨y, 0, none⟩)))).setCell ⟨y, 3, none⟩ (.pointer none)).drew) := eql_nodes (hHz2.of_heap rfl) (((HC.out.far (p := ⟨n, 1, none⟩) hnc (.pointer (some ⟨y, 0, none⟩))).far (p := ⟨y, 3, none⟩) hcy (.pointer none)).of_heap rfl)
      rw [hzc] at hq2
      rw [show rmStores n c [] (y :: k2) = [(n, 1, some y), (y, 3, none), (c, 0, none), (c, 3, none), (c, 4, none)] by unfold rmStores; simp] at R
      clear c3 c4 n1 n2 kd
      clear hHz hHy hz hzm hzc hz_n hHz2
      clear d1 d2 d12 hnl hK
      go_enter Try.func98, Try.ntmps98
      go_wp2_with fail
      go_region
      go_wp2_with fail
      go_end0
      exact ⟨rfl, (R.out.1.drewN 1 : _), (R.out.2.drewN 1 : _)⟩
  · cases l2 with
    | nil =>
      have c3' : w.cell? ⟨c, 3, none⟩ = some (.pointer (some ⟨x, 0, none⟩)) := by rw [c3]; simp [ptr]
      have c4' : w.cell? ⟨c, 4, none⟩ = some (.pointer none) := by rw [c4]; simp [ptr]
      obtain ⟨x0, hx0, hx0m⟩ : ∃ x0, (k1 ++ [x]).head? = some x0 ∧ x0 ∈ k1 ++ [x] := by cases k1 with | nil => exact ⟨x, rfl, by simp⟩ | cons a k1 => exact ⟨a, rfl, by simp⟩
      have n1' : w.cell? ⟨n, 1, none⟩ = some (.pointer (some ⟨x0, 0, none⟩)) := by rw [n1, List.head?_append, hx0]; rfl
      obtain ⟨rx0, hHx0⟩ := kd x0 (.inl hx0m)
      have HX0 := Aside0.mk hHx0
      obtain ⟨rx, hHx⟩ := kd x (.inl (by simp))
      have HX := Aside0.mk hHx
      have hx0c : (x0 == c) = false := beq_eq_false_iff_ne.2 (fun e => d1 (e ▸ hx0m))
      have hxc : ¬ x = c := fun e => d1 (by rw [← e]; simp)
      have hcx : ¬ c = x := fun e => hxc e.symm
      have hxn : ¬ x = n := fun e => hnl (by rw [← e]; exact .inl (by simp))
      have hnx : ¬ n = x := fun e => hxn e.symm
      have hfx := hHx.frozen 4
      have x4 := hHx.cells10.2.2.2.2.1
      have n2' : w.cell? ⟨n, 2, none⟩ = some (.pointer (some ⟨c, 0, none⟩)) := by rw [n2]; simp [ptr]
      have hq1 := eql_nodes HX0.out HC.out
      have hq2 := eql_nodes HC.out HC.out
      rw [hx0c] at hq1
      rw [show rmStores n c (k1 ++ [x]) [] = [(n, 2, some x), (x, 4, none), (c, 0, none), (c, 3, none), (c, 4, none)] by unfold rmStores; simp] at R
      clear c3 c4 n1 n2 kd
      clear hHx0 hHx hx0 hx0m hx0c
      clear d1 d2 d12 hnl hK
      go_enter Try.func98, Try.ntmps98
      go_wp2_with fail
      go_region
      go_wp2_with fail
      go_end0
      exact ⟨rfl, (R.out.1.drewN 1 : _), (R.out.2.drewN 1 : _)⟩
    | cons y k2 =>
      have c3' : w.cell? ⟨c, 3, none⟩ = some (.pointer (some ⟨x, 0, none⟩)) := by rw [c3]; simp [ptr]
      have c4' : w.cell? ⟨c, 4, none⟩ = some (.pointer (some ⟨y, 0, none⟩)) := by rw [c4]; simp [ptr]
      obtain ⟨x0, hx0, hx0m⟩ : ∃ x0, (k1 ++ [x]).head? = some x0 ∧ x0 ∈ k1 ++ [x] := by cases k1 with | nil => exact ⟨x, rfl, by simp⟩ | cons a k1 => exact ⟨a, rfl, by simp⟩
      have n1' : w.cell? ⟨n, 1, none⟩ = some (.pointer (some ⟨x0, 0, none⟩)) := by rw [n1, List.head?_append, hx0]; rfl
      obtain ⟨rx0, hHx0⟩ := kd x0 (.inl hx0m)
      have HX0 := Aside0.mk hHx0
      obtain ⟨rx, hHx⟩ := kd x (.inl (by simp))
      have HX := Aside0.mk hHx
      have hx0c : (x0 == c) = false := beq_eq_false_iff_ne.2 (fun e => d1 (e ▸ hx0m))
      have hxc : ¬ x = c := fun e => d1 (by rw [← e]; simp)
      have hcx : ¬ c = x := fun e => hxc e.symm
      have hxn : ¬ x = n := fun e => hnl (by rw [← e]; exact .inl (by simp))
      have hnx : ¬ n = x := fun e => hxn e.symm
      have hfx := hHx.frozen 4
      have x4 := hHx.cells10.2.2.2.2.1
      obtain ⟨z, hz, hzm⟩ : ∃ z, (y :: k2).getLast? = some z ∧ z ∈ y :: k2 := by
        cases hg : (y :: k2).getLast? with
        | none => simp at hg
        | some z => exact ⟨z, rfl, List.mem_of_getLast? hg⟩
      have n2' : w.cell? ⟨n, 2, none⟩ = some (.pointer (some ⟨z, 0, none⟩)) := by rw [n2, List.getLast?_append, List.getLast?_cons_cons, hz]; rfl
      obtain ⟨rz, hHz⟩ := kd z (.inr hzm)
      have HZ := Aside0.mk hHz
      obtain ⟨ry, hHy⟩ := kd y (.inr (by simp))
      have HY := Aside0.mk hHy
      have hzc : (z == c) = false := beq_eq_false_iff_ne.2 (fun e => d2 (e ▸ hzm))
      have hyc : ¬ y = c := fun e => d2 (by rw [← e]; simp)
      have hcy : ¬ c = y := fun e => hyc e.symm
      have hyn : ¬ y = n := fun e => hnl (by rw [← e]; exact .inr (by simp))
      have hny : ¬ n = y := fun e => hyn e.symm
      have hfy := hHy.frozen 3
      have y3 := hHy.cells10.2.2.2.1
      have hxy : ¬ x = y := fun e => d12 x (by simp) (by simp [e])
      have hyx : ¬ y = x := fun e => hxy e.symm
      have hq1 := eql_nodes HX0.out HC.out
      have hz_n : z ≠ n := fun e => hnl (by rw [← e]; exact .inr hzm)
      have hHz2 : ∃ r, Has ((w).setCell ⟨y, 3, none⟩ (.pointer (some ⟨x, 0, none⟩))) z r := by
        by_cases e : z = y
        · subst e
          exact ⟨_, (HZ.out).put3 (some x)⟩
        · exact ⟨_, (HZ.out).far (p := ⟨y, 3, none⟩) e _⟩
      obtain ⟨rz2, hHz2⟩ := hHz2
      have hq2 : (binOp .eql 47 (.pointer (some ⟨z, 0, none⟩)) (.pointer (some ⟨c, 0, none⟩))).run Try.prog (((w).setCell ⟨y, 3, none⟩ (.pointer (some ⟨x, 0, none⟩))).drew) = .ok (.bool (z == c)) (((w).setCell ⟨y, 3, none⟩ (.pointer (some ⟨x, 0, none⟩))).drew) := eql_nodes (hHz2.of_heap rfl) ((HC.out.far (p := ⟨y, 3, none⟩) hcy (.pointer (some ⟨x, 0, none⟩))).of_heap rfl)
      rw [hzc] at hq2
      rw [hx0c] at hq1
      rw [show rmStores n c (k1 ++ [x]) (y :: k2) = [(y, 3, some x), (x, 4, some y), (c, 0, none), (c, 3, none), (c, 4, none)] by unfold rmStores; simp] at R
      clear c3 c4 n1 n2 kd
      clear hHx0 hHx hx0 hx0m hx0c
      clear hHz hHy hz hzm hzc hz_n hHz2
      clear d1 d2 d12 hnl hK
      go_enter Try.func98, Try.ntmps98
      go_wp2_with fail
      go_region
      go_wp2_with fail
      go_region
      go_wp2_with fail
      go_end0
      exact ⟨rfl, (R.out.1.drewN 2 : _), (R.out.2.drewN 2 : _)⟩
end Go.Proofs.Ytmfjbljdbkmkgaa.Dom

/- impl.told: a tree of nodes, as plain data. -/
namespace Go.Proofs.Ytmfjbljdbkmkgaa.Dom
open Go.RowKit Go.Proofs.YtmfjbljdbkmkgaaW.PrintWords Go.Proofs.YtmfjbljdbkmkgaaW.PrintLast Go.Proofs.YtmfjbljdbkmkgaaW.PrintMore Go.Proofs.Ytmfjbljdbkmkgaa.PDom
set_option linter.unusedVariables false
set_option linter.unusedSimpArgs false

abbrev At := S53
mutual
/-- The tree as plain data. -/
def RT.toT : RT → T
  | .node _ ty _ d at_ ks => if ty = 3 then ⟨0, d, ⟨#[]⟩, at_.map (fun a => (⟨a.1, a.2⟩ : At)), RT.toTL ks⟩ else if ty = 1 then ⟨1, ⟨#[]⟩, d, [], []⟩ else if ty = 4 then ⟨2, ⟨#[]⟩, d, [], []⟩ else ⟨3, ⟨#[]⟩, ⟨#[]⟩, [], RT.toTL ks⟩
def RT.toTL : List RT → List T
  | [] => []
  | k :: ks => k.toT :: RT.toTL ks
end
theorem RT.toTL_map (l : List RT) : RT.toTL l = l.map RT.toT := by
  induction l with
  | nil => rfl
  | cons k l ih => rw [RT.toTL, ih, List.map_cons]
/-- How many attributes and children a node has. -/
inductive RFit : RT → Prop
  | mk (i : Nat) (ty a : Int) (d : ByteArray) (at_ : List (ByteArray × ByteArray)) (ks : List RT) (h3 : at_.length ≤ 4398046510976) (h4 : ks.length ≤ 1000000000000) (hk : ∀ k ∈ ks, RFit k) : RFit (.node i ty a d at_ ks)
theorem at_A {w : World} {A : Option Addr} {n : Nat} {xs : List (ByteArray × ByteArray)} (h : Kd.C kA w A n xs) (i : Int) (h0 : 0 ≤ i) (h1 : i < n) : ∃ ad, A = some ad ∧ w.cell? (ad.add (i.toNat * 3)) = some (.string ⟨#[]⟩) ∧ w.cell? ⟨(ad.add (i.toNat * 3)).block, (ad.add (i.toNat * 3)).off + 1, none⟩ = some (.string (xs.getD i.toNat (⟨#[]⟩, ⟨#[]⟩)).1) ∧ w.cell? ⟨(ad.add (i.toNat * 3)).block, (ad.add (i.toNat * 3)).off + 2, none⟩ = some (.string (xs.getD i.toNat (⟨#[]⟩, ⟨#[]⟩)).2) := by
  obtain ⟨ad, c, e, _, hK, hc0⟩ := Kd.C_get h (⟨#[]⟩, ⟨#[]⟩) i h0 h1
  have hc : ∀ j u, c[j]? = some u → w.cell? (ad.add (i.toNat * 3 + j)) = some u := hc0
  obtain ⟨_, _, rfl, rfl, ⟨_, _, rfl, rfl, rfl⟩⟩ := hK
  exact ⟨ad, e, hc 0 _ rfl, by rw [← add_field _ _ 1 (by omega)]; exact hc 1 _ rfl, by rw [← add_field _ _ 2 (by omega)]; exact hc 2 _ rfl⟩
/-- The state of the tree that is being told: its box, its rows. -/
structure TB (w wr : World) (f0 : Int) (f1 f2 : ByteArray) (v3 v4 : Value) (l3 : List At) (l4 : List T) : Prop where
  box : wr.heap[w.heap.size + 1]? = some (.cells #[.int .i64 f0, .string f1, .string f2, v3, v4] 25 (0, 0))
  res : ∃ a0 a1 a2 a3 a4 : Value, wr.heap[w.heap.size]? = some (.cells #[a0, a1, a2, a3, a4] 25 (0, 0))
  n3 : Kd.N k53 53 wr w.heap.size (fun k => w.heap.size + 2 ≤ k ∧ some k ≠ v4.ownBlock) v3 l3
  n4 : Kd.N k25 25 wr w.heap.size (fun k => w.heap.size + 2 ≤ k ∧ some k ≠ v3.ownBlock) v4 l4
  below : Below w.heap.size w wr
theorem TB.start (w : World) (f0 : Int) (f1 f2 : ByteArray) {wr : World} (hb : wr.heap[w.heap.size + 1]? = some (.cells #[.int .i64 f0, .string f1, .string f2, .slice none 0 0, .slice none 0 0] 25 (0, 0)))
    (hr : ∃ a0 a1 a2 a3 a4 : Value, wr.heap[w.heap.size]? = some (.cells #[a0, a1, a2, a3, a4] 25 (0, 0))) (hw : Below w.heap.size w wr) : TB w wr f0 f1 f2 (.slice none 0 0) (.slice none 0 0) [] [] :=
  ⟨hb, hr, Kd.N_nil _ _ _ _ _, Kd.N_nil _ _ _ _ _, hw⟩
section
variable {w wr w1 w2 w3 : World} {f0 : Int} {f1 f2 : ByteArray} {v3 v4 v1 : Value} {l3 : List At} {l4 : List T}
theorem TB.moved (h : TB w wr f0 f1 f2 v3 v4 l3 l4) (hb : Below wr.heap.size wr w1) : TB w w1 f0 f1 f2 v3 v4 l3 l4 :=
  ⟨(hb.block _ (blk_lt h.box)).trans h.box, by obtain ⟨a0, a1, a2, a3, a4, hr⟩ := h.res; exact ⟨a0, a1, a2, a3, a4, (hb.block _ (blk_lt hr)).trans hr⟩, Kd.N_below h.n3 hb, Kd.N_below h.n4 hb, below_step h.below hb⟩
theorem TB.size (h : TB w wr f0 f1 f2 v3 v4 l3 l4) : w.heap.size + 2 ≤ wr.heap.size := blk_lt h.box
theorem TB.cells (h : TB w wr f0 f1 f2 v3 v4 l3 l4) : wr.cell? ⟨w.heap.size + 1, 0, none⟩ = some (.int .i64 f0) ∧ wr.cell? ⟨w.heap.size + 1, 1, none⟩ = some (.string f1) ∧ wr.cell? ⟨w.heap.size + 1, 2, none⟩ = some (.string f2) ∧ wr.cell? ⟨w.heap.size + 1, 3, none⟩ = some v3 ∧ wr.cell? ⟨w.heap.size + 1, 4, none⟩ = some v4 :=
  ⟨blk_cell h.box 0, blk_cell h.box 1, blk_cell h.box 2, blk_cell h.box 3, blk_cell h.box 4⟩
/-- A block that is kept through an append to an own row. -/
theorem grown_kept {r : Option Nat} (hg : w2.grownBy w3 r) {b : Nat} {x : Obj} (hb : w2.heap[b]? = some x) (hr : some b ≠ r) : w3.heap[b]? = some x :=
  (hg.block b (Array.getElem?_eq_some_iff.1 hb).1 hr).trans hb
/-- One more attribute. -/
theorem TB.attr (h : TB w wr f0 f1 f2 v3 (.slice none 0 0) l3 []) (hb : Below wr.heap.size wr w2) {p : At} (ho : Kd.N k53 53 w3 w.heap.size (fun k => w.heap.size + 2 ≤ k) v1 (l3 ++ [p])) (hb3 : Below w.heap.size w w3) (hg : w2.grownBy w3 v3.ownBlock) :
    w3.cell? ⟨w.heap.size + 1, 3, none⟩ = some v3 ∧ w3.frozen? ⟨w.heap.size + 1, 3, none⟩ = false ∧ TB w (w3.setCell ⟨w.heap.size + 1, 3, none⟩ v1) f0 f1 f2 v1 (.slice none 0 0) (l3 ++ [p]) [] := by
  have h2 := h.moved hb
  have n1 : some (w.heap.size + 1) ≠ v3.ownBlock := fun e => by have := (h2.n3.1 _ e.symm).1; omega
  have n0 : some w.heap.size ≠ v3.ownBlock := fun e => by have := (h2.n3.1 _ e.symm).1; omega
  have b3 := grown_kept hg h2.box n1
  obtain ⟨a0, a1, a2, a3, a4, hr⟩ := h2.res
  have r3 := grown_kept hg hr n0
  refine ⟨blk_cell b3 3, blk_frozen b3 3, blk_set b3 3 _, ⟨a0, a1, a2, a3, a4, (Below.heap_setCell w3 _ _ _ (by show w.heap.size ≠ w.heap.size + 1; omega)).trans r3⟩, ?_, Kd.N_nil _ _ _ _ _, ?_⟩
  · refine Kd.N_mono (Kd.N_far ho (fun k hk => ?_) _) (fun k hk => ⟨hk, by simp [Value.ownBlock]⟩)
    show k ≠ w.heap.size + 1
    omega
  · exact Below.setCell hb3 (by show w.heap.size ≤ w.heap.size + 1; omega) _
/-- One more child. -/
theorem TB.kid (h : TB w wr f0 f1 f2 v3 v4 l3 l4) (hb : Below wr.heap.size wr w2) {p : T} (ho : Kd.N k25 25 w3 w.heap.size (fun k => w.heap.size + 2 ≤ k ∧ some k ≠ v3.ownBlock) v1 (l4 ++ [p])) (hb3 : Below w.heap.size w w3) (hg : w2.grownBy w3 v4.ownBlock)
    (hat : v1.ownBlock = v4.ownBlock ∨ ∃ b, v1.ownBlock = some b ∧ w2.heap.size ≤ b) :
    w3.cell? ⟨w.heap.size + 1, 4, none⟩ = some v4 ∧ w3.frozen? ⟨w.heap.size + 1, 4, none⟩ = false ∧ TB w (w3.setCell ⟨w.heap.size + 1, 4, none⟩ v1) f0 f1 f2 v3 v1 l3 (l4 ++ [p]) := by
  have h2 := h.moved hb
  have n1 : some (w.heap.size + 1) ≠ v4.ownBlock := fun e => by have := (h2.n4.1 _ e.symm).1; omega
  have n0 : some w.heap.size ≠ v4.ownBlock := fun e => by have := (h2.n4.1 _ e.symm).1; omega
  have b3 := grown_kept hg h2.box n1
  obtain ⟨a0, a1, a2, a3, a4, hr⟩ := h2.res
  have r3 := grown_kept hg hr n0
  refine ⟨blk_cell b3 4, blk_frozen b3 4, blk_set b3 4 _, ⟨a0, a1, a2, a3, a4, (Below.heap_setCell w3 _ _ _ (by show w.heap.size ≠ w.heap.size + 1; omega)).trans r3⟩, ?_, ?_, ?_⟩
  · refine Kd.N_far (Kd.N_after h2.n3 hg hat) (fun k hk => ?_) _
    show k ≠ w.heap.size + 1
    omega
  · refine Kd.N_far ho (fun k hk => ?_) _
    show k ≠ w.heap.size + 1
    omega
  · exact Below.setCell hb3 (by show w.heap.size ≤ w.heap.size + 1; omega) _
theorem kids_step {P : Program} {ops : Array Oper} {o : Oper} {a : Act} {Q : Exit → Act → World → Prop} {K : Act → World → Prop} {E : Prop} {w0 W : World} (hgd : o.guard = none) (base : Nat) (s x : Operand) (t : TypeId) (z : Value)
    (ho : o.op = .call { callee := .builtin .append, args := #[s, x], argTypes := #[t, t] })
    (ht : P.underlying t = some (.slice 25)) (hinfo : (P.info? 25).map (fun i => (i.zero, i.size, i.bytes)) = some (some z, 5, 88)) (hz : z.cells.size = 5)
    (v : Value) (xs : List T) (p : T) (cs : List Value) (ok okp : Nat → Prop) (hs : a.eval s = v) (hx : a.eval x = .slice (some ⟨W.heap.size, 0, none⟩) 1 1) (hp : Kd.FK k25 W okp p cs) (hokp : ∀ k, okp k → ok k ∧ some k ≠ v.ownBlock) (hfresh : ∀ k, W.heap.size ≤ k → ok k)
    (HO : Kd.N k25 25 W base ok v xs) (HB : Below base w0 W) (hbase : base ≤ W.heap.size) (hl : (xs.length + 1) * 88 ≤ 140737488355328)
    (h : ∀ v1 w1, Kd.N k25 25 w1 base ok v1 (xs ++ [p]) → Below base w0 w1 → W.grownBy w1 v.ownBlock → (v1.ownBlock = v.ownBlock ∨ ∃ b, v1.ownBlock = some b ∧ W.heap.size ≤ b) → K (a.put o.dst v1) w1) :
    if Region.wanted o (yielded ops a.tmps) = true then Oper.wp P o a (W.alloc (.cells cs.toArray 25)) K Q else E := by
  have hw : Region.wanted o (yielded ops a.tmps) = true := by simp [Region.wanted, hgd]
  have := Kd.N_append_step (P := P) (ops := ops) (o := o) (a := a) (Q := Q) (Kc := K) k25 base hw s x t 25 z 88 ho ht hinfo hz (by decide) (by decide) v xs p cs ok okp hs hx hp hokp hfresh HO HB hbase hl h
  rw [if_pos hw] at this ⊢
  exact this
end
theorem infoNd : (Try.prog.info? 25).map (fun i => (i.zero, i.size, i.bytes)) = some (some (.agg #[.int .i64 0, .string ⟨#[]⟩, .string ⟨#[]⟩, .slice none 0 0, .slice none 0 0]), 5, 88) := by kernel_rfl
theorem infoAt : (Try.prog.info? 53).map (fun i => (i.zero, i.size, i.bytes)) = some (some (.agg #[.string ⟨#[]⟩, .string ⟨#[]⟩]), 2, 32) := by kernel_rfl
/-- A row of attributes leads to nothing. -/
theorem attr_R {w : World} {base : Nat} {ok : Nat → Prop} {v : Value} {l : List At} (h : Kd.N k53 53 w base ok v l) : Kd.R k53 53 w base ok v l := by
  obtain ⟨h0, rows, hlen, ⟨h1, inner, ho, hr⟩, hf⟩ := h
  refine ⟨h0, inner, by rw [← hlen]; exact ho, by rw [hr.1, hlen]; rfl, fun j p hj => ?_⟩
  have hlt : j < rows.length := by rw [hlen]; exact (List.getElem?_eq_some_iff.1 hj).1
  have e1 := List.getElem?_eq_getElem hlt
  have hc := (hr.2 j _ e1).1
  have hk := Kd.FK_now (hf j p _ hj e1)
  rw [← hc] at hk
  exact hk
/-- What impl.told returns. -/
def Told (w w' : World) (t : T) (e : Ending) : Prop := ∃ A3 c3 A4 c4, e = .returned (.agg #[.int .i64 t.f0, .string t.f1, .string t.f2, .slice A3 t.f3.length c3, .slice A4 t.f4.length c4]) ∧ t.f3.length ≤ c3 ∧ Kd.F k53 w' (fun k => w.heap.size ≤ k) A3 t.f3.length t.f3 ∧ t.f4.length ≤ c4 ∧ Kd.F k25 w' (fun k => w.heap.size ≤ k) A4 t.f4.length t.f4 ∧ Below w.heap.size w w' ∧
  Kd.R k53 53 w' w.heap.size (fun k => w.heap.size ≤ k) (.slice A3 t.f3.length c3) t.f3 ∧ Kd.N k25 25 w' w.heap.size (fun k => w.heap.size ≤ k ∧ some k ≠ (Value.slice A3 t.f3.length c3).ownBlock) (.slice A4 t.f4.length c4) t.f4
theorem told_leaf (w : World) (t : T) (h3 : t.f3 = []) (h4 : t.f4 = []) (w' : World) (hb : Below w.heap.size w w') (e : Ending) (he : e = .returned (.agg #[.int .i64 t.f0, .string t.f1, .string t.f2, .slice none 0 0, .slice none 0 0])) : Told w w' t e := by
  refine ⟨none, 0, none, 0, by rw [h3, h4]; exact he, by rw [h3]; exact Nat.le_refl _, by rw [h3]; exact Kd.F_nil _ _ _, by rw [h4]; exact Nat.le_refl _, by rw [h4]; exact Kd.F_nil _ _ _, hb, by rw [h3]; exact Kd.R_nil _ _ _ _ _, by rw [h4]; exact Kd.N_nil _ _ _ _ _⟩
theorem told_end {w wr w' : World} {t : T} {v3 v4 : Value} (h : TB w wr t.f0 t.f1 t.f2 v3 v4 t.f3 t.f4) (hw : ∀ k, w.heap.size + 2 ≤ k → k < wr.heap.size → w'.heap[k]? = wr.heap[k]?) (hb : Below w.heap.size w w') : Told w w' t (.returned (.agg #[.int .i64 t.f0, .string t.f1, .string t.f2, v3, v4])) := by
  obtain ⟨A3, c3, rfl⟩ := Kd.N_slice h.n3
  obtain ⟨A4, c4, rfl⟩ := Kd.N_slice h.n4
  have m3 := Kd.N_step h.n3 (w1 := w') (fun k hk hlt => hw k hk.1 hlt)
  have m4 := Kd.N_step h.n4 (w1 := w') (fun k hk hlt => hw k hk.1 hlt)
  exact ⟨A3, c3, A4, c4, rfl, (Kd.N_reads' m3).2.1, Kd.F_mono (Kd.N_F m3) (fun k hk => Nat.le_trans (by omega) hk.1), (Kd.N_reads' m4).2.1, Kd.F_mono (Kd.N_F m4) (fun k hk => Nat.le_trans (by omega) hk.1), hb, attr_R (Kd.N_mono m3 (fun k hk => Nat.le_trans (by omega) hk.1)), Kd.N_mono m4 (fun k hk => ⟨Nat.le_trans (by omega) hk.1, hk.2⟩)⟩
theorem sets5 (w : World) (b : Nat) (a0 a1 a2 a3 a4 : Value) (k : Nat) (hk : k ≠ b) : (((((w.setCell ⟨b, 0, none⟩ a0).setCell ⟨b, 1, none⟩ a1).setCell ⟨b, 2, none⟩ a2).setCell ⟨b, 3, none⟩ a3).setCell ⟨b, 4, none⟩ a4).heap[k]? = w.heap[k]? := by
  rw [Below.heap_setCell _ ⟨b, 4, none⟩ _ _ hk, Below.heap_setCell _ ⟨b, 3, none⟩ _ _ hk, Below.heap_setCell _ ⟨b, 2, none⟩ _ _ hk, Below.heap_setCell _ ⟨b, 1, none⟩ _ _ hk, Below.heap_setCell _ ⟨b, 0, none⟩ _ _ hk]
theorem below_sets5 {w wr : World} (h : Below w.heap.size w wr) (a0 a1 a2 a3 a4 : Value) : Below w.heap.size w (((((wr.setCell ⟨w.heap.size, 0, none⟩ a0).setCell ⟨w.heap.size, 1, none⟩ a1).setCell ⟨w.heap.size, 2, none⟩ a2).setCell ⟨w.heap.size, 3, none⟩ a3).setCell ⟨w.heap.size, 4, none⟩ a4) :=
  ((((h.setCell (p := ⟨w.heap.size, 0, none⟩) (Nat.le_refl _) a0).setCell (p := ⟨w.heap.size, 1, none⟩) (Nat.le_refl _) a1).setCell (p := ⟨w.heap.size, 2, none⟩) (Nat.le_refl _) a2).setCell (p := ⟨w.heap.size, 3, none⟩) (Nat.le_refl _) a3).setCell (p := ⟨w.heap.size, 4, none⟩) (Nat.le_refl _) a4
set_option maxHeartbeats 4000000 in
set_option maxRecDepth 100000 in
theorem told_calls (D : Tab) (r : RT) : ∀ (p : Option Nat), Is D p r → RFit r → ∀ (w : World), Dom w D → Calls Try.prog 66 #[ptr (some r.id)] w fun e w' => Told w w' r.toT e := by
  induction r using RT.induct with
  | h i ty a d at_ ks ih =>
    intro p hr hf w hdom
    have hroot : D i = some _ := hr.root
    obtain ⟨va, hHi, hA⟩ := hdom.has hroot
    have c5 : w.cell? ⟨i, 5, none⟩ = some (.int .u32 ty) := hHi.cells10.2.2.2.2.2.1
    have c7 : w.cell? ⟨i, 7, none⟩ = some (.string d) := hHi.cells10.2.2.2.2.2.2.2.1
    have c9 : w.cell? ⟨i, 9, none⟩ = some va := hHi.cells10.2.2.2.2.2.2.2.2.2
    have hl : i < w.heap.size := hHi.lt
    show Calls _ _ #[ptr (some i)] _ _
    rw [ptr_some]
    by_cases t1 : ty = 1
    · subst t1
      clear ih hr hf hdom hroot hHi hA c9
      go_enter Try.func66, Try.ntmps66
      go_wp2_with fail
      refine bodyPost_ret (v := .agg #[.int .i64 1, .string ⟨#[]⟩, .string d, .slice none 0 0, .slice none 0 0]) (by simp [results, Try.results66, go_sem]) rfl ?_
      exact told_leaf w _ rfl rfl _ (below_alloc (below_alloc (Below.refl _ _) _) _) _ rfl
    · by_cases t4 : ty = 4
      · subst t4
        clear ih hr hf hdom hroot hHi hA c9
        go_enter Try.func66, Try.ntmps66
        go_wp2_with fail
        refine bodyPost_ret (v := .agg #[.int .i64 2, .string ⟨#[]⟩, .string d, .slice none 0 0, .slice none 0 0]) (by simp [results, Try.results66, go_sem]) rfl ?_
        exact told_leaf w _ rfl rfl _ (below_alloc (below_alloc (Below.refl _ _) _) _) _ rfl
      · obtain ⟨Aa, ca, hva, hca, hCa⟩ := Kd.R_reads hA
        have hva' : va = .slice Aa at_.length ca := hva
        subst hva'
        have HC := Aside0.mk (show Kd.C kA w Aa at_.length at_ from hCa)
        have HF := Aside0.mk hf
        have HR := Aside0.mk hr
        have HD := Aside0.mk hdom
        have HI := Aside0.mk hHi
        have IH := Aside0.mk ih
        clear ih hr hf hdom hroot hHi hA hCa hva hca
        have HE : ∃ t : T, (RT.node i ty a d at_ ks).toT = t ∧ t.f4 = RT.toTL ks ∧ ((ty = 3 ∧ t.f0 = 0 ∧ t.f1 = d ∧ t.f2 = ⟨#[]⟩ ∧ t.f3 = at_.map (fun a => (⟨a.1, a.2⟩ : At))) ∨ (ty ≠ 3 ∧ t.f0 = 3 ∧ t.f1 = ⟨#[]⟩ ∧ t.f2 = ⟨#[]⟩ ∧ t.f3 = [])) := by
          refine ⟨_, rfl, ?_⟩
          simp only [RT.toT]
          by_cases t3 : ty = 3
          · rw [if_pos t3]
            exact ⟨rfl, .inl ⟨t3, rfl, rfl, rfl, rfl⟩⟩
          · rw [if_neg t3, if_neg t1, if_neg t4]
            exact ⟨rfl, .inr ⟨t3, rfl, rfl, rfl, rfl⟩⟩
        obtain ⟨t, het, hk4, hcase⟩ := HE
        rw [het]
        rcases hcase with ⟨t3, q0, q1, q2, q3⟩ | ⟨t3, q0, q1, q2, q3⟩
        · subst t3
          have HT := Aside0.mk (⟨het, hk4, q0, q1, q2, q3⟩ : _ ∧ _ ∧ _ ∧ _ ∧ _ ∧ _)
          clear het hk4 q0 q1 q2 q3 t1 t4
          go_enter Try.func66, Try.ntmps66
          go_wp2_with fail
          have hS := TB.start w 0 d ⟨#[]⟩ (two_new w (.cells #[.int .i64 0, .string ⟨#[]⟩, .string ⟨#[]⟩, .slice none 0 0, .slice none 0 0] 25) (.cells #[.int .i64 0, .string d, .string ⟨#[]⟩, .slice none 0 0, .slice none 0 0] 25)) ⟨_, _, _, _, _, two_old w _ _⟩ (below_alloc (below_alloc (Below.refl _ _) _) _)
          have HS := Aside0.mk hS
          clear hS
          generalize (w.alloc (.cells #[.int .i64 0, .string ⟨#[]⟩, .string ⟨#[]⟩, .slice none 0 0, .slice none 0 0] 25)).alloc (.cells #[.int .i64 0, .string d, .string ⟨#[]⟩, .slice none 0 0, .slice none 0 0] 25) = W0 at HS ⊢
          clear c5 c7 c9
          go_loopw [24] (fun vj wr => ∃ (j : Nat) (v3 : Value), vj = .int .i64 j ∧ j ≤ at_.length ∧ Aside0 (TB w wr 0 d ⟨#[]⟩ v3 (.slice none 0 0) ((at_.map (fun a => (⟨a.1, a.2⟩ : At))).take j) [])) (fun vj _ => at_.length - (intOf vj).toNat)
          case atStart => exact ⟨0, _, rfl, Nat.zero_le _, HS⟩
          case round =>
            obtain ⟨j, v3, rfl, hj, HB⟩ := hrel
            by_cases hlt : j < at_.length
            · obtain ⟨ad, rfl, y0, y1, y2⟩ := at_A (Kd.C_below HC.out HB.out.below) (j : Int) (by omega) (by omega)
              have he : at_.getD ((j : Int)).toNat (⟨#[]⟩, ⟨#[]⟩) = at_[j] := by simp [List.getD_eq_getElem?_getD, List.getElem?_eq_getElem hlt]
              have hsn : (at_.map (fun a => (⟨a.1, a.2⟩ : At))).take (j + 1) = (at_.map (fun a => (⟨a.1, a.2⟩ : At))).take j ++ [(⟨at_[j].1, at_[j].2⟩ : At)] := by
                rw [List.take_succ_eq_append_getElem (by rw [List.length_map]; exact hlt), List.getElem_map]
              have hlen : ((at_.map (fun a => (⟨a.1, a.2⟩ : At))).take j).length ≤ 4398046510976 := by
                cases HF.out with
                | mk _ _ _ _ _ _ h3 h4 hk => rw [List.length_take, List.length_map]; omega
              rw [he] at y1 y2
              simp only [Int.toNat_natCast] at y0 y1 y2
              generalize at_[j] = q at y1 y2 hsn
              obtain ⟨q0, q1⟩ := q
              simp only at y1 y2 hsn
              have HSN := Aside0.mk hsn
              have HLN := Aside0.mk hlen
              have HWJ := Aside0.mk (show wrap64 ((j : Int) + 1) = ((j + 1 : Nat) : Int) from by
                have := HLN.out
                have : at_.length ≤ 4398046510976 := by cases HF.out with | mk _ _ _ _ _ _ h3 h4 hk => exact h3
                unfold wrap64; omega)
              clear he hsn hlen
              go_upto_region 9 with fail
-- FILL
              have hcp : (wr.alloc (.cells #[.string ⟨#[]⟩, .string q0, .string q1] 106)).heap[wr.heap.size]? = some (.cells #[.string ⟨#[]⟩, .string q0, .string q1] 106 (0, 0)) := heap_alloc_new wr _
              have HB8 := Aside0.mk (below_alloc (Below.refl wr.heap.size wr) (.cells #[.string ⟨#[]⟩, .string q0, .string q1] 106))
              generalize wr.alloc (.cells #[.string ⟨#[]⟩, .string q0, .string q1] 106) = w8 at hcp HB8 ⊢
              have e1 : w8.cell? ⟨wr.heap.size, 1, none⟩ = some (.string q0) := by rw [blk_cell hcp]; rfl
              have e2 : w8.cell? ⟨wr.heap.size, 2, none⟩ = some (.string q1) := by rw [blk_cell hcp]; rfl
              have HM := Aside0.mk (HB.out.moved HB8.out)
              have x3 : w8.cell? ⟨w.heap.size + 1, 3, none⟩ = some v3 := HM.out.cells.2.2.2.1
              clear hcp y0 y1 y2
              go_wp2_with ((with_reducible refine gate_builtin (b := .append) (xs := #[.tmp 29, .tmp 35]) rfl ?_); at_builtin; go_must (refine Kd.N_append k53 (w0 := w) w.heap.size rfl (.tmp 29) (.tmp 35) 22 53 (.agg #[.string ⟨#[]⟩, .string ⟨#[]⟩]) 32 rfl Try.underlying22 infoAt rfl (by decide) (by decide) v3 ((at_.map (fun a => (⟨a.1, a.2⟩ : At))).take j) (⟨q0, q1⟩ : At) [.string q0, .string q1] (fun k => w.heap.size + 2 ≤ k) (fun _ => False) rfl (by go_simp) (k53_mkF w8 _ ⟨q0, q1⟩) (fun _ h => h.elim) (fun k hk => Nat.le_trans HM.out.size hk) (Kd.N_mono HM.out.n3 (fun k hk => hk.1)) HM.out.below HM.out.below.size (by have := HLN.out; omega) ?_))
              intro v1 w3 ho hb hg hat
              rw [← HSN.out] at ho
              obtain ⟨L1, hL1⟩ : ∃ L1, L1 = ((at_.map (fun a => (⟨a.1, a.2⟩ : At))).take (j + 1)).length := ⟨_, rfl⟩
              obtain ⟨A1, k1, hv1⟩ := Kd.N_slice ho
              rw [← hL1] at hv1
              subst hv1
              clear hL1
              obtain ⟨g3, gf3, ht3⟩ := HB.out.attr HB8.out (p := ⟨q0, q1⟩) (by rw [← HSN.out]; exact ho) hb hg
              rw [← HSN.out] at ht3
              have HT3 := Aside0.mk ht3
              clear ho hb hg hat ht3
              go_wp2_with fail
              go_roundw
              case rel => exact ⟨j + 1, _, by rw [HWJ.out], hlt, HT3⟩
              case measure => rw [HWJ.out]; simp [intOf]; omega
            · have hje : j = at_.length := by omega
              subst hje
              have hB := HB.out
              rw [List.take_of_length_le (by rw [List.length_map]; exact Nat.le_refl _)] at hB
              have HB0 := Aside0.mk hB
              clear hB HB hlt hj
              have c1 : wr.cell? ⟨i, 1, none⟩ = some (ptr (ks[0]?.map RT.id)) := Is.first (HD.out.below HB0.out.below) HR.out
              go_wp2_with fail
              go_loopg [6] ks.length (fun n v6 wr => ∃ (j : Nat) (v4 : Value), n = ks.length - j ∧ j ≤ ks.length ∧ v6 = ptr (ks[j]?.map RT.id) ∧ Aside0 (TB w wr 0 d ⟨#[]⟩ v3 v4 (at_.map (fun a => (⟨a.1, a.2⟩ : At))) ((ks.map RT.toT).take j)))
              case atStart => exact ⟨0, _, rfl, Nat.zero_le _, rfl, HB0⟩
              case round =>
                clear c1
                obtain ⟨j, v4, rfl, hj, rfl, HB⟩ := hrel
                by_cases hlt : j < ks.length
                · rw [List.getElem?_eq_getElem hlt]
                  have hkm : ks[j] ∈ ks := List.getElem_mem hlt
                  have HNX := Aside0.mk (show ∀ wx, Below w.heap.size w wx → wx.cell? ⟨ks[j].id, 4, none⟩ = some (ptr (ks[j + 1]?.map RT.id)) from fun wx hb => Is.next (HD.out.below hb) HR.out (j := j) hlt)
                  have HKC := Aside0.mk (fun wx hb => IH.out ks[j] hkm (some i) (HR.out.kid hkm) (by cases HF.out with | mk _ _ _ _ _ _ h3 h4 hk => exact hk _ hkm) wx (HD.out.below hb))
                  have hsn : (ks.map RT.toT).take (j + 1) = (ks.map RT.toT).take j ++ [ks[j].toT] := by rw [List.take_succ_eq_append_getElem (by rw [List.length_map]; exact hlt), List.getElem_map]
                  have hlen : ((ks.map RT.toT).take j).length ≤ 1000000000000 := by
                    cases HF.out with
                    | mk _ _ _ _ _ _ h3 h4 hk => rw [List.length_take, List.length_map]; omega
                  have HSN := Aside0.mk hsn
                  have HLN := Aside0.mk hlen
                  simp only [Option.map_some, ptr_some] at HKC ⊢
                  generalize ks[j].toT = u at HKC HSN
                  generalize ks[j].id = x at HNX HKC ⊢
                  clear hkm hsn hlen
                  have x4 : wr.cell? ⟨w.heap.size + 1, 4, none⟩ = some v4 := HB.out.cells.2.2.2.2
                  have HDW := Aside0.mk (below_drew (Below.refl wr.heap.size wr))
                  have x4d : wr.drew.cell? ⟨w.heap.size + 1, 4, none⟩ = some v4 := (HB.out.moved HDW.out).cells.2.2.2.2
                  go_upto_region 18 with fail
                  go_region_law (first
                    | (refine kids_step (w0 := w) (W := w2) rfl w.heap.size (.tmp 64) (.tmp 67) 23 (.agg #[.int .i64 0, .string ⟨#[]⟩, .string ⟨#[]⟩, .slice none 0 0, .slice none 0 0]) rfl Try.underlying23 infoNd rfl v4 ((ks.map RT.toT).take j) u [.int .i64 u.f0, .string u.f1, .string u.f2, .slice A3 u.f3.length c3, .slice A4 u.f4.length c4] (fun k => w.heap.size + 2 ≤ k ∧ some k ≠ v3.ownBlock) (fun k => wr.heap.size ≤ k) (by simp [Act.eval, Act.put]) (by simp [Act.eval, Act.put]) HFK.out HOK.out HFR.out HM2.out.n4 HM2.out.below HM2.out.below.size (by have := HLN.out; omega) ?_; intro v1 w3 ho hb hg hat; obtain ⟨L1, hL1⟩ : ∃ L1, L1 = ((ks.map RT.toT).take j ++ [u]).length := ⟨_, rfl⟩; obtain ⟨A1, k1, hv1⟩ := Kd.N_slice ho; rw [← hL1] at hv1; subst hv1; clear hL1; obtain ⟨g3, gf3, ht3⟩ := HB.out.kid HB2.out ho hb hg hat; rw [← HSN.out] at ht3; have HT3 := Aside0.mk ht3; have nx := HNX.out _ ht3.below; clear ho hb hg hat ht3)
                    | (go_simp; go_at_call 66; refine (HKC.out _ (below_step HB.out.below HDW.out)).mono ?_; rintro e w2 ⟨A3, c3, A4, c4, rfl, m3, F3, m4, F4, hb2, _, _⟩; have HB2 := Aside0.mk (below_step HDW.out hb2); have HM2 := Aside0.mk (HB.out.moved HB2.out); have HFK := Aside0.mk (k25_mkF w2 (fun k => wr.heap.size ≤ k) u m3 F3 m4 F4); have HOK := Aside0.mk (show ∀ k, wr.heap.size ≤ k → (w.heap.size + 2 ≤ k ∧ some k ≠ v3.ownBlock) ∧ some k ≠ v4.ownBlock from fun k hk => ⟨⟨Nat.le_trans HB.out.size hk, fun e => by have := Kd.N_lt HB.out.n3 k e.symm; omega⟩, fun e => by have := Kd.N_lt HB.out.n4 k e.symm; omega⟩); have HFR := Aside0.mk (show ∀ k, w2.heap.size ≤ k → w.heap.size + 2 ≤ k ∧ some k ≠ v3.ownBlock from fun k hk => ⟨Nat.le_trans HM2.out.size hk, fun e => by have := Kd.N_lt HM2.out.n3 k e.symm; omega⟩); have x42 : w2.cell? ⟨w.heap.size + 1, 4, none⟩ = some v4 := HM2.out.cells.2.2.2.2; have x43 : (w2.alloc (.cells #[.int .i64 u.f0, .string u.f1, .string u.f2, .slice A3 u.f3.length c3, .slice A4 u.f4.length c4] 25)).cell? ⟨w.heap.size + 1, 4, none⟩ = some v4 := (HM2.out.moved (below_alloc (Below.refl _ _) _)).cells.2.2.2.2; clear m3 F3 m4 F4 hb2))
                  all_goals (simp only [Exit.inBlock, Exit.then]; go_wp2_with fail; go_roundg (ks.length - (j + 1)))
                  all_goals first
                    | exact ⟨j + 1, _, rfl, hlt, rfl, HT3⟩
                    | omega
                    | trace_state
                · have hje : j = ks.length := by omega
                  subst hje
                  rw [List.getElem?_eq_none (Nat.le_refl _)]
                  simp only [Option.map_none, ptr_none]
                  have hB := HB.out
                  rw [List.take_of_length_le (by rw [List.length_map]; exact Nat.le_refl _), ← RT.toTL_map] at hB
                  obtain ⟨n3, A3, c3, e3⟩ : ∃ n A c, v3 = .slice A n c := by obtain ⟨A, c, h⟩ := Kd.N_slice hB.n3; exact ⟨_, A, c, h⟩
                  obtain ⟨n4, A4, c4, e4⟩ : ∃ n A c, v4 = .slice A n c := by obtain ⟨A, c, h⟩ := Kd.N_slice hB.n4; exact ⟨_, A, c, h⟩
                  subst e4
                  subst e3
                  obtain ⟨a0, a1, a2, a3, a4, hr⟩ := hB.res
                  obtain ⟨b0, b1, b2, b3, b4⟩ := hB.cells
                  have r0 := blk_cell hr 0
                  have r1 := blk_cell hr 1
                  have r2 := blk_cell hr 2
                  have r3 := blk_cell hr 3
                  have r4 := blk_cell hr 4
                  have f0 := blk_frozen hr 0
                  have f1 := blk_frozen hr 1
                  have f2 := blk_frozen hr 2
                  have f3 := blk_frozen hr 3
                  have f4 := blk_frozen hr 4
                  have HBB := Aside0.mk hB
                  clear hB hr HB
                  go_wp2_with fail
                  refine bodyPost_ret (v := .agg #[.int .i64 0, .string d, .string ⟨#[]⟩, .slice A3 n3 c3, .slice A4 n4 c4]) (by simp [results, Try.results66, go_sem, r0, r1, r2, r3, r4]) rfl ?_
                  obtain ⟨het, hk4, q0, q1, q2, q3⟩ := HT.out
                  have hte := told_end (t := t) (by rw [q0, q1, q2, q3, hk4]; exact HBB.out) (fun k hk _ => sets5 wr w.heap.size (.int .i64 0) (.string d) (.string ⟨#[]⟩) (.slice A3 n3 c3) (.slice A4 n4 c4) k (by omega)) (below_sets5 HBB.out.below (.int .i64 0) (.string d) (.string ⟨#[]⟩) (.slice A3 n3 c3) (.slice A4 n4 c4))
                  rw [q0, q1, q2] at hte
                  exact hte
        · have b3 : (ty == 3) = false := beq_eq_false_iff_ne.2 t3
          have b1 : (ty == 1) = false := beq_eq_false_iff_ne.2 t1
          have b4 : (ty == 4) = false := beq_eq_false_iff_ne.2 t4
          have d3 := decide_eq_false t3
          have d1 := decide_eq_false t1
          have d4 := decide_eq_false t4
          have HT := Aside0.mk (⟨het, hk4, q0, q1, q2, q3⟩ : _ ∧ _ ∧ _ ∧ _ ∧ _ ∧ _)
          clear het hk4 q0 q1 q2 q3 t1 t4 t3
          go_enter Try.func66, Try.ntmps66
          go_upto_region 15 with fail
          have HB0 := Aside0.mk (TB.start w 3 ⟨#[]⟩ ⟨#[]⟩ (two_new w (.cells #[.int .i64 0, .string ⟨#[]⟩, .string ⟨#[]⟩, .slice none 0 0, .slice none 0 0] 25) (.cells #[.int .i64 3, .string ⟨#[]⟩, .string ⟨#[]⟩, .slice none 0 0, .slice none 0 0] 25)) ⟨_, _, _, _, _, two_old w _ _⟩ (below_alloc (below_alloc (Below.refl _ _) _) _))
          generalize (w.alloc (.cells #[.int .i64 0, .string ⟨#[]⟩, .string ⟨#[]⟩, .slice none 0 0, .slice none 0 0] 25)).alloc (.cells #[.int .i64 3, .string ⟨#[]⟩, .string ⟨#[]⟩, .slice none 0 0, .slice none 0 0] 25) = W0 at HB0 ⊢
          clear c5 c7 c9
          have c1 : W0.cell? ⟨i, 1, none⟩ = some (ptr (ks[0]?.map RT.id)) := Is.first (HD.out.below HB0.out.below) HR.out
          go_wp2_with fail
          go_loopg [6] ks.length (fun n v6 wr => ∃ (j : Nat) (v4 : Value), n = ks.length - j ∧ j ≤ ks.length ∧ v6 = ptr (ks[j]?.map RT.id) ∧ Aside0 (TB w wr 3 ⟨#[]⟩ ⟨#[]⟩ (.slice none 0 0) v4 [] ((ks.map RT.toT).take j)))
          case atStart => exact ⟨0, _, rfl, Nat.zero_le _, rfl, HB0⟩
          case round =>
            clear c1
            obtain ⟨j, v4, rfl, hj, rfl, HB⟩ := hrel
            by_cases hlt : j < ks.length
            · rw [List.getElem?_eq_getElem hlt]
              have hkm : ks[j] ∈ ks := List.getElem_mem hlt
              have HNX := Aside0.mk (show ∀ wx, Below w.heap.size w wx → wx.cell? ⟨ks[j].id, 4, none⟩ = some (ptr (ks[j + 1]?.map RT.id)) from fun wx hb => Is.next (HD.out.below hb) HR.out (j := j) hlt)
              have HKC := Aside0.mk (fun wx hb => IH.out ks[j] hkm (some i) (HR.out.kid hkm) (by cases HF.out with | mk _ _ _ _ _ _ h3 h4 hk => exact hk _ hkm) wx (HD.out.below hb))
              have hsn : (ks.map RT.toT).take (j + 1) = (ks.map RT.toT).take j ++ [ks[j].toT] := by rw [List.take_succ_eq_append_getElem (by rw [List.length_map]; exact hlt), List.getElem_map]
              have hlen : ((ks.map RT.toT).take j).length ≤ 1000000000000 := by
                cases HF.out with
                | mk _ _ _ _ _ _ h3 h4 hk => rw [List.length_take, List.length_map]; omega
              have HSN := Aside0.mk hsn
              have HLN := Aside0.mk hlen
              simp only [Option.map_some, ptr_some] at HKC ⊢
              generalize ks[j].toT = u at HKC HSN
              generalize ks[j].id = x at HNX HKC ⊢
              clear hkm hsn hlen
              have x4 : wr.cell? ⟨w.heap.size + 1, 4, none⟩ = some v4 := HB.out.cells.2.2.2.2
              have HDW := Aside0.mk (below_drew (Below.refl wr.heap.size wr))
              have x4d : wr.drew.cell? ⟨w.heap.size + 1, 4, none⟩ = some v4 := (HB.out.moved HDW.out).cells.2.2.2.2
              go_upto_region 18 with fail
              go_region_law (first
                | (refine kids_step (w0 := w) (W := w2) rfl w.heap.size (.tmp 64) (.tmp 67) 23 (.agg #[.int .i64 0, .string ⟨#[]⟩, .string ⟨#[]⟩, .slice none 0 0, .slice none 0 0]) rfl Try.underlying23 infoNd rfl v4 ((ks.map RT.toT).take j) u [.int .i64 u.f0, .string u.f1, .string u.f2, .slice A3 u.f3.length c3, .slice A4 u.f4.length c4] (fun k => w.heap.size + 2 ≤ k ∧ some k ≠ (Value.slice none 0 0).ownBlock) (fun k => wr.heap.size ≤ k) (by simp [Act.eval, Act.put]) (by simp [Act.eval, Act.put]) HFK.out HOK.out HFR.out HM2.out.n4 HM2.out.below HM2.out.below.size (by have := HLN.out; omega) ?_; intro v1 w3 ho hb hg hat; obtain ⟨L1, hL1⟩ : ∃ L1, L1 = ((ks.map RT.toT).take j ++ [u]).length := ⟨_, rfl⟩; obtain ⟨A1, k1, hv1⟩ := Kd.N_slice ho; rw [← hL1] at hv1; subst hv1; clear hL1; obtain ⟨g3, gf3, ht3⟩ := HB.out.kid HB2.out ho hb hg hat; rw [← HSN.out] at ht3; have HT3 := Aside0.mk ht3; have nx := HNX.out _ ht3.below; clear ho hb hg hat ht3)
                | (go_simp; go_at_call 66; refine (HKC.out _ (below_step HB.out.below HDW.out)).mono ?_; rintro e w2 ⟨A3, c3, A4, c4, rfl, m3, F3, m4, F4, hb2, _, _⟩; have HB2 := Aside0.mk (below_step HDW.out hb2); have HM2 := Aside0.mk (HB.out.moved HB2.out); have HFK := Aside0.mk (k25_mkF w2 (fun k => wr.heap.size ≤ k) u m3 F3 m4 F4); have HOK := Aside0.mk (show ∀ k, wr.heap.size ≤ k → (w.heap.size + 2 ≤ k ∧ some k ≠ (Value.slice none 0 0).ownBlock) ∧ some k ≠ v4.ownBlock from fun k hk => ⟨⟨Nat.le_trans HB.out.size hk, fun e => by have := Kd.N_lt HB.out.n3 k e.symm; omega⟩, fun e => by have := Kd.N_lt HB.out.n4 k e.symm; omega⟩); have HFR := Aside0.mk (show ∀ k, w2.heap.size ≤ k → w.heap.size + 2 ≤ k ∧ some k ≠ (Value.slice none 0 0).ownBlock from fun k hk => ⟨Nat.le_trans HM2.out.size hk, fun e => by have := Kd.N_lt HM2.out.n3 k e.symm; omega⟩); have x42 : w2.cell? ⟨w.heap.size + 1, 4, none⟩ = some v4 := HM2.out.cells.2.2.2.2; have x43 : (w2.alloc (.cells #[.int .i64 u.f0, .string u.f1, .string u.f2, .slice A3 u.f3.length c3, .slice A4 u.f4.length c4] 25)).cell? ⟨w.heap.size + 1, 4, none⟩ = some v4 := (HM2.out.moved (below_alloc (Below.refl _ _) _)).cells.2.2.2.2; clear m3 F3 m4 F4 hb2))
              all_goals (simp only [Exit.inBlock, Exit.then]; go_wp2_with fail; go_roundg (ks.length - (j + 1)))
              all_goals first
                | exact ⟨j + 1, _, rfl, hlt, rfl, HT3⟩
                | omega
                | trace_state
            · have hje : j = ks.length := by omega
              subst hje
              rw [List.getElem?_eq_none (Nat.le_refl _)]
              simp only [Option.map_none, ptr_none]
              have hB := HB.out
              rw [List.take_of_length_le (by rw [List.length_map]; exact Nat.le_refl _), ← RT.toTL_map] at hB
              have e3 : True := trivial
              obtain ⟨n4, A4, c4, e4⟩ : ∃ n A c, v4 = .slice A n c := by obtain ⟨A, c, h⟩ := Kd.N_slice hB.n4; exact ⟨_, A, c, h⟩
              subst e4
              clear e3
              obtain ⟨a0, a1, a2, a3, a4, hr⟩ := hB.res
              obtain ⟨b0, b1, b2, b3, b4⟩ := hB.cells
              have r0 := blk_cell hr 0
              have r1 := blk_cell hr 1
              have r2 := blk_cell hr 2
              have r3 := blk_cell hr 3
              have r4 := blk_cell hr 4
              have f0 := blk_frozen hr 0
              have f1 := blk_frozen hr 1
              have f2 := blk_frozen hr 2
              have f3 := blk_frozen hr 3
              have f4 := blk_frozen hr 4
              have HBB := Aside0.mk hB
              clear hB hr HB
              go_wp2_with fail
              refine bodyPost_ret (v := .agg #[.int .i64 3, .string ⟨#[]⟩, .string ⟨#[]⟩, .slice none 0 0, .slice A4 n4 c4]) (by simp [results, Try.results66, go_sem, r0, r1, r2, r3, r4]) rfl ?_
              obtain ⟨het, hk4, q0, q1, q2, q3⟩ := HT.out
              have hte := told_end (t := t) (by rw [q0, q1, q2, q3, hk4]; exact HBB.out) (fun k hk _ => sets5 wr w.heap.size (.int .i64 3) (.string ⟨#[]⟩) (.string ⟨#[]⟩) (.slice none 0 0) (.slice A4 n4 c4) k (by omega)) (below_sets5 HBB.out.below (.int .i64 3) (.string ⟨#[]⟩) (.string ⟨#[]⟩) (.slice none 0 0) (.slice A4 n4 c4))
              rw [q0, q1, q2] at hte
              exact hte
end Go.Proofs.Ytmfjbljdbkmkgaa.Dom

/- Trees of nodes whose children change at one place: what a table holds of them. Plain facts. -/
namespace Go.Proofs.Ytmfjbljdbkmkgaa.Dom
open Go.RowKit Go.Proofs.YtmfjbljdbkmkgaaW.PrintWords Go.Proofs.YtmfjbljdbkmkgaaW.PrintLast Go.Proofs.YtmfjbljdbkmkgaaW.PrintMore Go.Proofs.Ytmfjbljdbkmkgaa.PDom
set_option linter.unusedVariables false
set_option linter.unusedSimpArgs false

theorem Is.congr {D D' : Tab} (r : RT) : ∀ {p : Option Nat}, Is D p r → (∀ b ∈ r.pre, D' b = D b) → Is D' p r := by
  induction r using RT.induct with
  | h i t a d at_ ks ih =>
    intro p h he
    have hroot : D i = some _ := h.root
    refine Is.mk p i t a d at_ ks ((he i (by simp [RT.pre])).trans hroot) (fun k hk => ih k hk (h.kid hk) (fun b hb => he b ?_))
    show b ∈ i :: RT.preL ks
    exact List.mem_cons_of_mem _ (RT.mem_preL.2 ⟨k, hk, hb⟩)
/-- A tree whose root has another parent. -/
theorem Is.reroot {D D' : Tab} {r : RT} {p q : Option Nat} (h : Is D p r) (hr : D' r.id = some (r.info q)) (he : ∀ b ∈ RT.preL r.kids, D' b = D b) : Is D' q r := by
  cases r with
  | node i t a d at_ ks =>
    refine Is.mk q i t a d at_ ks hr (fun k hk => (h.kid (r := .node i t a d at_ ks) hk).congr k (fun b hb => he b (RT.mem_preL.2 ⟨k, hk, hb⟩)))
/-- The children of the node at a place, changed. -/
def RT.mapAt (f : List RT → List RT) : RT → List Int → RT
  | .node i t a d at_ ks, [] => .node i t a d at_ (f ks)
  | .node i t a d at_ ks, j :: l => .node i t a d at_ (match ks[j.toNat]? with | some k => ks.set j.toNat (RT.mapAt f k l) | none => ks)
theorem RT.mapAt_id (f : List RT → List RT) (r : RT) (l : List Int) : (r.mapAt f l).id = r.id := by
  cases r
  cases l <;> simp [RT.mapAt, RT.id]
theorem RT.mapAt_cons (f : List RT → List RT) (i : Nat) (t a : Int) (d : ByteArray) (at_ : List (ByteArray × ByteArray)) (ks : List RT) (j : Int) (l : List Int) {k : RT} (hk : ks[j.toNat]? = some k) :
    RT.mapAt f (.node i t a d at_ ks) (j :: l) = .node i t a d at_ (ks.set j.toNat (k.mapAt f l)) := by
  simp only [RT.mapAt, hk]
theorem RT.sub_pre (l : List Int) : ∀ (r y : RT), r.at_ l = some y → ∀ b ∈ y.pre, b ∈ r.pre := by
  induction l with
  | nil =>
    intro r y h b hb
    have : r = y := by simpa [RT.at_] using h
    rw [this]; exact hb
  | cons j l ih =>
    intro r y h b hb
    simp only [RT.at_] at h
    split at h
    · obtain ⟨k, hk, h2⟩ := Option.bind_eq_some_iff.1 h
      have hkm : k ∈ r.kids := List.mem_of_getElem? hk
      have := ih k y h2 b hb
      cases r with
      | node i t a d at_ ks =>
        show b ∈ i :: RT.preL ks
        exact List.mem_cons_of_mem _ (RT.mem_preL.2 ⟨k, hkm, this⟩)
    · cases h
theorem map_set {α β : Type} (f : α → β) (l : List α) (j : Nat) (x : α) {y : α} (hy : l[j]? = some y) (h : f x = f y) : (l.set j x).map f = l.map f := by
  rw [List.map_set, h]
  apply List.ext_getElem?
  intro m
  by_cases hm : m = j
  · subst hm
    have hlt := (List.getElem?_eq_some_iff.1 hy).1
    rw [List.getElem?_set_self (by rw [List.length_map]; exact hlt), List.getElem?_map, hy]
    rfl
  · rw [List.getElem?_set_ne (fun e => hm e.symm)]
theorem nodup_kid {i : Nat} {ks : List RT} {k k' : RT} {j : Nat} (h : (i :: RT.preL ks).Nodup) (hk : ks[j]? = some k) : i ∉ k.pre ∧ k.pre.Nodup ∧ ∀ m, m ≠ j → ks[m]? = some k' → ∀ b ∈ k'.pre, b ∉ k.pre := by
  obtain ⟨h1, h2⟩ := List.nodup_cons.1 h
  have hlt := (List.getElem?_eq_some_iff.1 hk).1
  have hs : ks = ks.take j ++ k :: ks.drop (j + 1) := by
    have := (List.getElem?_eq_some_iff.1 hk).2
    rw [← this]
    exact (List.take_append_drop j ks).symm.trans (by rw [List.drop_eq_getElem_cons hlt])
  have hp : RT.preL ks = RT.preL (ks.take j) ++ (k.pre ++ RT.preL (ks.drop (j + 1))) := by
    conv => lhs; rw [hs]
    rw [RT.preL_append]
    rfl
  rw [hp] at h1 h2
  rw [List.nodup_append] at h2
  obtain ⟨n1, n2, n3⟩ := h2
  rw [List.nodup_append] at n2
  obtain ⟨m1, m2, m3⟩ := n2
  refine ⟨fun hb => h1 (by simp [hb]), m1, fun m hm hk' b hb hbk => ?_⟩
  rcases Nat.lt_or_gt_of_ne hm with hlt2 | hgt
  · refine n3 b (RT.mem_preL.2 ⟨k', ?_, hb⟩) b (by simp [hbk]) rfl
    refine List.mem_of_getElem? (i := m) ?_
    rw [List.getElem?_take, if_pos hlt2, hk']
  · refine m3 b hbk b (RT.mem_preL.2 ⟨k', ?_, hb⟩) rfl
    refine List.mem_of_getElem? (i := m - (j + 1)) ?_
    rw [List.getElem?_drop, show j + 1 + (m - (j + 1)) = m by omega, hk']
theorem Is.mapAt {D D' : Tab} (f : List RT → List RT) (l : List Int) : ∀ (r up : RT) {p : Option Nat}, Is D p r → r.at_ l = some up → r.pre.Nodup → (∃ q, D' up.id = some { up.info q with kids := (f up.kids).map RT.id } ∧ Is D q up) → (∀ k ∈ f up.kids, Is D' (some up.id) k) →
    (∀ b ∈ r.pre, b ≠ up.id → b ∉ RT.preL up.kids → D' b = D b) → Is D' p (r.mapAt f l) := by
  induction l with
  | nil =>
    intro r up p h hu hnd hD hK hO
    obtain rfl : r = up := by simpa [RT.at_] using hu
    obtain ⟨q, hD, hq⟩ := hD
    have hpq : q = p := by
      have h1 := h.root
      have h2 := hq.root
      rw [h1] at h2
      have := congrArg Info.parent (Option.some.inj h2)
      cases r
      exact this.symm
    subst hpq
    cases r with
    | node i t a d at_ ks =>
      simp only [RT.mapAt]
      exact Is.mk q i t a d at_ (f ks) hD hK
  | cons j l ih =>
    intro r up p h hu hnd hD hK hO
    cases r with
    | node i t a d at_ ks =>
      simp only [RT.at_] at hu
      split at hu
      case isFalse => cases hu
      obtain ⟨k, hk, hu⟩ := Option.bind_eq_some_iff.1 hu
      have hk' : ks[j.toNat]? = some k := hk
      rw [RT.mapAt_cons f i t a d at_ ks j l hk']
      have hkm : k ∈ ks := List.mem_of_getElem? hk'
      have hnd' : (i :: RT.preL ks).Nodup := hnd
      obtain ⟨d1, d2, _⟩ := nodup_kid (k' := k) hnd' hk'
      have hsub := RT.sub_pre l k up hu
      have upk : up.id ∈ k.pre := hsub _ (RT.id_mem up)
      have kidsk : ∀ b ∈ RT.preL up.kids, b ∈ k.pre := fun b hb => hsub b (by cases up; exact List.mem_cons_of_mem _ hb)
      have hroot : D i = some _ := h.root
      refine Is.mk p i t a d at_ _ ?_ ?_
      · rw [hO i (by simp [RT.pre]) (fun e => d1 (by rw [e]; exact upk)) (fun hb => d1 (kidsk _ hb)), hroot, map_set RT.id ks _ _ hk' (RT.mapAt_id f k l)]
        rfl
      · intro x hx
        obtain ⟨m, hm, rfl⟩ := List.getElem_of_mem hx
        by_cases hmj : m = j.toNat
        · subst hmj
          rw [List.getElem_set_self]
          refine ih k up (h.kid hkm) hu d2 hD hK (fun b hb h1 h2 => hO b ?_ h1 h2)
          show b ∈ i :: RT.preL ks
          exact List.mem_cons_of_mem _ (RT.mem_preL.2 ⟨k, hkm, hb⟩)
        · rw [List.getElem_set_ne (fun e => hmj e.symm)]
          have hml : m < ks.length := by simpa using hm
          have hks : ks[m]? = some ks[m] := List.getElem?_eq_getElem hml
          obtain ⟨_, _, d3⟩ := nodup_kid (k' := ks[m]) hnd' hk'
          have hd := d3 m hmj hks
          refine (h.kid (r := .node i t a d at_ ks) (List.getElem_mem hml)).congr _ (fun b hb => hO b ?_ ?_ ?_)
          · show b ∈ i :: RT.preL ks
            exact List.mem_cons_of_mem _ (RT.mem_preL.2 ⟨_, List.getElem_mem hml, hb⟩)
          · exact fun e => hd b hb (by rw [e]; exact upk)
          · exact fun h2 => hd b hb (kidsk b h2)
/-- A node that may have children. -/
def Opens (r : RT) : Prop := r.ty ≠ 1 ∧ r.ty ≠ 4
end Go.Proofs.Ytmfjbljdbkmkgaa.Dom

/- (*html.Node).InsertBefore: its contract over a table. -/
namespace Go.Proofs.Ytmfjbljdbkmkgaa.Dom
open Go.RowKit Go.Proofs.YtmfjbljdbkmkgaaW.PrintWords Go.Proofs.YtmfjbljdbkmkgaaW.PrintLast Go.Proofs.YtmfjbljdbkmkgaaW.PrintMore
set_option linter.unusedVariables false
set_option linter.unusedSimpArgs false

set_option maxHeartbeats 4000000 in
set_option maxRecDepth 100000 in
theorem insert_calls (w : World) (D : Tab) (n c : Nat) (i ic : Info) (l1 l2 : List Nat) (h : Dom w D) (hn : D n = some i) (hc : D c = some ic) (hK : i.kids = l1 ++ l2) (hne : n ≠ c) (hroot : ic.parent = none) (hself : i.parent ≠ some n) :
    Calls Try.prog 99 #[ptr (some n), ptr (some c), ptr l2.head?] w fun e w' => e = .returned (.tuple #[]) ∧ Dom w' (relink D n c i ic (l1 ++ c :: l2) (some n)) ∧ Only D w w' := by
  have R := Aside0.mk (h.insert (c := c) hn hc hK hne hroot hself)
  obtain ⟨vn, hHn, _⟩ := h.has hn
  obtain ⟨vc, hHc, _⟩ := h.has hc
  have hnc : ¬ c = n := fun e => hne e.symm
  have hcn := h.kid_ne hn hc hroot
  have hnd0 := h.wf.nodup hn
  rw [hK] at hnd0 hcn
  have hnl : ¬ (n ∈ l1 ∨ n ∈ l2) := fun hx => h.no_loop hn hself (by rw [hK]; rcases hx with hx | hx <;> simp [hx])
  have d12 : ∀ q, q ∈ l1 → q ∈ l2 → False := fun q h1 h2 => by rw [List.nodup_append] at hnd0; exact hnd0.2.2 q h1 q h2 rfl
  have c0 : w.cell? ⟨c, 0, none⟩ = some (.pointer none) := by rw [hHc.cells10.1]; show some (ptr ic.parent) = _; rw [hroot]; rfl
  have c3 : w.cell? ⟨c, 3, none⟩ = some (.pointer none) := by rw [hHc.cells10.2.2.2.1]; show some (ptr (prevIn (sibs D ic) c)) = _; rw [sibs_none hroot]; rfl
  have c4 : w.cell? ⟨c, 4, none⟩ = some (.pointer none) := by rw [hHc.cells10.2.2.2.2.1]; show some (ptr (nextIn (sibs D ic) c)) = _; rw [sibs_none hroot]; rfl
  have n1 := hHn.cells10.2.1
  have n2 : w.cell? ⟨n, 2, none⟩ = some (ptr (l1 ++ l2).getLast?) := by rw [hHn.cells10.2.2.1]; show some (ptr i.kids.getLast?) = _; rw [hK]
  have hfc0 := hHc.frozen 0
  have hfc3 := hHc.frozen 3
  have hfc4 := hHc.frozen 4
  have hfn1 := hHn.frozen 1
  have hfn2 := hHn.frozen 2
  have HD := Aside0.mk h
  have HDN := Aside0.mk hn
  have kd : ∀ q, q ∈ l1 ∨ q ∈ l2 → ∃ iq, D q = some iq ∧ iq.parent = some n := fun q hq => h.wf.down hn (by rw [hK]; rcases hq with hq | hq <;> simp [hq] : q ∈ i.kids)
  unfold ptr
  rcases snoc_or l1 with rfl | ⟨k1, x, rfl⟩
  · cases l2 with
    | nil =>
      rw [show inStores n c [] [] = [(n, 1, some c), (n, 2, some c), (c, 0, some n), (c, 3, none), (c, 4, none)] by unfold inStores; simp] at R
      have n2' : w.cell? ⟨n, 2, none⟩ = some (.pointer none) := by rw [n2]; simp [ptr]
      clear hHn hHc h hn hc hroot hself hnd0 hcn hnl d12 kd n2 hK
      go_enter Try.func99, Try.ntmps99
      go_wp2_with fail
      go_end0
      exact ⟨rfl, R.out⟩
    | cons y k2 =>
      rw [show inStores n c [] (y :: k2) = [(n, 1, some c), (y, 3, some c), (c, 0, some n), (c, 3, none), (c, 4, some y)] by unfold inStores; simp] at R
      obtain ⟨iy, hiy, hpy⟩ := kd y (.inr (by simp))
      obtain ⟨vy, hHy, _⟩ := h.has hiy
      have hyc : ¬ y = c := fun e => hcn (by rw [← e]; simp)
      have hcy : ¬ c = y := fun e => hyc e.symm
      have hyn : ¬ y = n := fun e => hnl (by rw [← e]; exact .inr (by simp))
      have hny : ¬ n = y := fun e => hyn e.symm
      have hfy := hHy.frozen 3
      have hy1 : y ∉ [] := fun hx => d12 y hx (by simp)
      have hy2 : y ∉ k2 := by rw [List.nodup_append] at hnd0; exact (List.nodup_cons.1 hnd0.2.1).1
      have y3 : w.cell? ⟨y, 3, none⟩ = some (.pointer none) := by rw [hHy.cells10.2.2.2.1]; show some (ptr (prevIn (sibs D iy) y)) = _; rw [sibs_some hpy, kidsOf_some hn, hK, prevIn_split hy2]; simp [ptr]
      clear hHn hHc h hn hc hroot hself hnd0 hcn hnl d12 kd n2 hK
      clear hHy hiy hpy hy1 hy2
      go_enter Try.func99, Try.ntmps99
      go_wp2_with fail
      go_end0
      exact ⟨rfl, R.out⟩
  · cases l2 with
    | nil =>
      rw [show inStores n c (k1 ++ [x]) [] = [(x, 4, some c), (n, 2, some c), (c, 0, some n), (c, 3, some x), (c, 4, none)] by unfold inStores; simp] at R
      obtain ⟨ix, hix, hpx⟩ := kd x (.inl (by simp))
      obtain ⟨vx, hHx, _⟩ := h.has hix
      have hxc : ¬ x = c := fun e => hcn (by rw [← e]; simp)
      have hcx : ¬ c = x := fun e => hxc e.symm
      have hxn : ¬ x = n := fun e => hnl (by rw [← e]; exact .inl (by simp))
      have hnx : ¬ n = x := fun e => hxn e.symm
      have hfx := hHx.frozen 4
      have x4 := hHx.cells10.2.2.2.2.1
      have n2' : w.cell? ⟨n, 2, none⟩ = some (.pointer (some ⟨x, 0, none⟩)) := by rw [n2]; simp [ptr]
      clear hHn hHc h hn hc hroot hself hnd0 hcn hnl d12 kd n2 hK
      clear hHx hix hpx
      go_enter Try.func99, Try.ntmps99
      go_wp2_with fail
      go_end0
      exact ⟨rfl, R.out⟩
    | cons y k2 =>
      rw [show inStores n c (k1 ++ [x]) (y :: k2) = [(x, 4, some c), (y, 3, some c), (c, 0, some n), (c, 3, some x), (c, 4, some y)] by unfold inStores; simp] at R
      obtain ⟨ix, hix, hpx⟩ := kd x (.inl (by simp))
      obtain ⟨vx, hHx, _⟩ := h.has hix
      have hxc : ¬ x = c := fun e => hcn (by rw [← e]; simp)
      have hcx : ¬ c = x := fun e => hxc e.symm
      have hxn : ¬ x = n := fun e => hnl (by rw [← e]; exact .inl (by simp))
      have hnx : ¬ n = x := fun e => hxn e.symm
      have hfx := hHx.frozen 4
      have x4 := hHx.cells10.2.2.2.2.1
      obtain ⟨iy, hiy, hpy⟩ := kd y (.inr (by simp))
      obtain ⟨vy, hHy, _⟩ := h.has hiy
      have hyc : ¬ y = c := fun e => hcn (by rw [← e]; simp)
      have hcy : ¬ c = y := fun e => hyc e.symm
      have hyn : ¬ y = n := fun e => hnl (by rw [← e]; exact .inr (by simp))
      have hny : ¬ n = y := fun e => hyn e.symm
      have hfy := hHy.frozen 3
      have hy1 : y ∉ (k1 ++ [x]) := fun hx => d12 y hx (by simp)
      have hy2 : y ∉ k2 := by rw [List.nodup_append] at hnd0; exact (List.nodup_cons.1 hnd0.2.1).1
      have y3 : w.cell? ⟨y, 3, none⟩ = some (.pointer (some ⟨x, 0, none⟩)) := by rw [hHy.cells10.2.2.2.1]; show some (ptr (prevIn (sibs D iy) y)) = _; rw [sibs_some hpy, kidsOf_some hn, hK, prevIn_split hy2]; simp [ptr]
      have hxy : ¬ x = y := fun e => d12 x (by simp) (by simp [e])
      have hyx : ¬ y = x := fun e => hxy e.symm
      clear hHn hHc h hn hc hroot hself hnd0 hcn hnl d12 kd n2 hK
      clear hHx hix hpx
      clear hHy hiy hpy hy1 hy2
      go_enter Try.func99, Try.ntmps99
      go_wp2_with fail
      go_end0
      exact ⟨rfl, R.out⟩
end Go.Proofs.Ytmfjbljdbkmkgaa.Dom

/- A subtree taken out of a tree, and a tree put in. Plain facts on tables. -/
namespace Go.Proofs.Ytmfjbljdbkmkgaa.Dom
open Go.RowKit Go.Proofs.YtmfjbljdbkmkgaaW.PrintWords Go.Proofs.YtmfjbljdbkmkgaaW.PrintLast Go.Proofs.YtmfjbljdbkmkgaaW.PrintMore Go.Proofs.Ytmfjbljdbkmkgaa.PDom
set_option linter.unusedVariables false
set_option linter.unusedSimpArgs false

theorem Is.avoid {D : Tab} {r : RT} (hr : Is D none r) (y : RT) : ∀ {q : Option Nat}, Is D q y → y.id ∉ r.pre → ∀ b ∈ y.pre, b ∉ r.pre := by
  induction y using RT.induct with
  | h i t a d at_ ks ih =>
    intro q hy hid b hb
    rcases List.mem_cons.1 (show b ∈ i :: RT.preL ks from hb) with rfl | hb
    · exact hid
    · obtain ⟨k, hk, hbk⟩ := RT.mem_preL.1 hb
      have hki := hy.kid (r := .node i t a d at_ ks) hk
      refine ih k hk hki (fun hm => ?_) b hbk
      obtain ⟨q', y', h1, h2, _, h4⟩ := hr.sub r hm
      have hp : q' = some i := by
        have e1 := h1.root
        have e2 := hki.root
        rw [h2, e2] at e1
        have := congrArg Info.parent (Option.some.inj e1)
        cases k
        cases y'
        exact this.symm
      rcases h4 with h4 | ⟨z, hz, hzm⟩
      · have e2 := hki.root
        have e1 := hr.root
        rw [h4, e1] at e2
        have := congrArg Info.parent (Option.some.inj e2)
        cases k
        cases r
        simp [RT.info] at this
      · rw [hp] at hz
        obtain rfl := Option.some.inj hz
        exact hid hzm
theorem Is.up {D : Tab} {r up : RT} {p : Option Nat} {l : List Int} (h : Is D p r) (hu : r.at_ l = some up) : ∃ q, Is D q up := by
  induction l generalizing r p with
  | nil =>
    have : r = up := by simpa [RT.at_] using hu
    exact ⟨p, this ▸ h⟩
  | cons j l ih =>
    simp only [RT.at_] at hu
    split at hu
    · obtain ⟨k, hk, h2⟩ := Option.bind_eq_some_iff.1 hu
      exact ih (h.kid (List.mem_of_getElem? hk)) h2
    · cases hu
theorem info_k (p : Option Nat) (r : RT) : (r.info p).kids = r.kids.map RT.id := by cases r; rfl
theorem info_p (p : Option Nat) (r : RT) : (r.info p).parent = p := by cases r; rfl
theorem info_set (p q : Option Nat) (r : RT) : { r.info p with parent := q } = r.info q := by cases r; rfl
def RT.withKids : RT → List RT → RT
  | .node i t a d at_ _, ks => .node i t a d at_ ks
theorem withKids_kids (r : RT) (ks : List RT) : (r.withKids ks).kids = ks := by cases r; rfl
theorem withKids_idd (r : RT) (ks : List RT) : (r.withKids ks).id = r.id := by cases r; rfl
theorem at_mapAt (f : List RT → List RT) (l : List Int) : ∀ (r up : RT), r.at_ l = some up → (r.mapAt f l).at_ l = some (up.withKids (f up.kids)) := by
  induction l with
  | nil =>
    intro r up h
    obtain rfl : r = up := by simpa [RT.at_] using h
    cases r
    rfl
  | cons j l ih =>
    intro r up h
    cases r with
    | node i t a d at_ ks =>
      simp only [RT.at_] at h
      split at h
      case isFalse => cases h
      rename_i hj
      obtain ⟨k, hk, h⟩ := Option.bind_eq_some_iff.1 h
      have hk' : ks[j.toNat]? = some k := hk
      rw [RT.mapAt_cons f i t a d at_ ks j l hk']
      simp only [RT.at_]
      rw [if_pos hj]
      show ((ks.set j.toNat (k.mapAt f l))[j.toNat]?).bind _ = _
      rw [List.getElem?_set_self (List.getElem?_eq_some_iff.1 hk').1]
      exact ih k up h
theorem mapAt_mapAt (f g : List RT → List RT) (l : List Int) : ∀ (r up : RT), r.at_ l = some up → (r.mapAt f l).mapAt g l = r.mapAt (fun ks => g (f ks)) l := by
  induction l with
  | nil =>
    intro r up h
    cases r
    rfl
  | cons j l ih =>
    intro r up h
    cases r with
    | node i t a d at_ ks =>
      simp only [RT.at_] at h
      split at h
      case isFalse => cases h
      rename_i hj
      obtain ⟨k, hk, h⟩ := Option.bind_eq_some_iff.1 h
      have hk' : ks[j.toNat]? = some k := hk
      rw [RT.mapAt_cons f i t a d at_ ks j l hk', RT.mapAt_cons (fun ks => g (f ks)) i t a d at_ ks j l hk', RT.mapAt_cons g i t a d at_ _ j l (k := k.mapAt f l) (List.getElem?_set_self (List.getElem?_eq_some_iff.1 hk').1), ih k up h, List.set_set]
/-- What a node's children have for themselves. -/
theorem kids_apart {D : Tab} (wf : WF D) {up x : RT} {q : Option Nat} (hu : Is D q up) {k1 k2 : List RT} (hk : up.kids = k1 ++ x :: k2) :
    (∀ k ∈ k1 ++ k2, ∀ b ∈ k.pre, b ≠ up.id ∧ b ≠ x.id) ∧ (∀ b ∈ RT.preL x.kids, b ≠ up.id ∧ b ≠ x.id) ∧ x.id ≠ up.id ∧ x.id ∈ RT.preL up.kids := by
  have hnd := Is.nodup wf up hu
  cases up with
  | node i t a d at_ ks =>
    obtain rfl : ks = k1 ++ x :: k2 := hk
    obtain ⟨n1, n2⟩ := List.nodup_cons.1 (show (i :: RT.preL (k1 ++ x :: k2)).Nodup from hnd)
    have hp : RT.preL (k1 ++ x :: k2) = RT.preL k1 ++ (x.pre ++ RT.preL k2) := by rw [RT.preL_append]; rfl
    rw [hp] at n1 n2
    obtain ⟨m1, m2, m3⟩ := List.nodup_append.1 n2
    obtain ⟨o1, o2, o3⟩ := List.nodup_append.1 m2
    have hxm := RT.id_mem x
    refine ⟨fun k hkm b hb => ⟨fun e => n1 (by rw [← show b = i from e]; rcases List.mem_append.1 hkm with h | h; exact List.mem_append_left _ (RT.mem_preL.2 ⟨k, h, hb⟩); exact List.mem_append_right _ (List.mem_append_right _ (RT.mem_preL.2 ⟨k, h, hb⟩))), fun e => ?_⟩, fun b hb => ⟨fun e => n1 (by rw [← show b = i from e]; exact List.mem_append_right _ (List.mem_append_left _ (by cases x; exact List.mem_cons_of_mem _ hb))), fun e => ?_⟩, fun e => n1 (by rw [← show x.id = i from e]; exact List.mem_append_right _ (List.mem_append_left _ hxm)), ?_⟩
    · rcases List.mem_append.1 hkm with h | h
      · exact m3 b (RT.mem_preL.2 ⟨k, h, hb⟩) x.id (List.mem_append_left _ hxm) e
      · exact o3 x.id hxm b (RT.mem_preL.2 ⟨k, h, hb⟩) e.symm
    · cases x with
      | node i2 t2 a2 d2 at2 ks2 =>
        obtain ⟨p1, _⟩ := List.nodup_cons.1 (show (i2 :: RT.preL ks2).Nodup from o1)
        exact p1 (by rw [← show b = i2 from e]; exact hb)
    · show x.id ∈ RT.preL (k1 ++ x :: k2)
      rw [hp]
      exact List.mem_append_right _ (List.mem_append_left _ hxm)
theorem rt_remove {D : Tab} (wf : WF D) {r up x : RT} {l : List Int} (hr : Is D none r) (hu : r.at_ l = some up) {k1 k2 : List RT} (hk : up.kids = k1 ++ x :: k2) {q : Option Nat} (hq : Is D q up) :
    Is (relink D up.id x.id (up.info q) (x.info (some up.id)) (k1.map RT.id ++ k2.map RT.id) none) none (r.mapAt (fun _ => k1 ++ k2) l) ∧ Is (relink D up.id x.id (up.info q) (x.info (some up.id)) (k1.map RT.id ++ k2.map RT.id) none) none x := by
  obtain ⟨a1, a2, a3, a4⟩ := kids_apart wf hq hk
  have hxm : x ∈ up.kids := by rw [hk]; simp
  have hx := hq.kid hxm
  have hne : up.id ≠ x.id := fun e => a3 e.symm
  refine ⟨hr.mapAt (fun _ => k1 ++ k2) l r up hu (Is.nodup wf r hr) ⟨q, ?_, hq⟩ (fun k hkm => ?_) (fun b hb h1 h2 => relink_o h1 (fun e => h2 (e ▸ a4))), ?_⟩
  · rw [relink_n hne, List.map_append]
  · refine (hq.kid (k := k) (by rw [hk]; rcases List.mem_append.1 hkm with h | h <;> simp [h])).congr k (fun b hb => ?_)
    exact relink_o (a1 k hkm b hb).1 (a1 k hkm b hb).2
  · refine hx.reroot ?_ (fun b hb => relink_o (a2 b hb).1 (a2 b hb).2)
    rw [relink_c, info_set]
theorem rt_insert {D : Tab} (wf : WF D) {r up y : RT} {l : List Int} (hr : Is D none r) (hu : r.at_ l = some up) {k1 k2 : List RT} (hk : up.kids = k1 ++ k2) {q : Option Nat} (hq : Is D q up) (hy : Is D none y) (hav : y.id ∉ r.pre) :
    Is (relink D up.id y.id (up.info q) (y.info none) (k1.map RT.id ++ y.id :: k2.map RT.id) (some up.id)) none (r.mapAt (fun _ => k1 ++ y :: k2) l) := by
  have hd := hr.avoid y hy hav
  have hsub := RT.sub_pre l r up hu
  have hup : up.id ∈ r.pre := hsub _ (RT.id_mem up)
  have hne : up.id ≠ y.id := fun e => hav (e ▸ hup)
  have hny : ∀ b ∈ r.pre, b ≠ y.id := fun b hb e => hav (e ▸ hb)
  have kidpre : ∀ k ∈ up.kids, ∀ b ∈ k.pre, b ∈ up.pre ∧ b ≠ up.id := fun k hk b hb => ⟨by
    cases up with
    | node i t a d at_ ks => exact List.mem_cons_of_mem _ (RT.mem_preL.2 ⟨k, hk, hb⟩), hq.proper hk hb⟩
  refine hr.mapAt (fun _ => k1 ++ y :: k2) l r up hu (Is.nodup wf r hr) ⟨q, ?_, hq⟩ (fun k hkm => ?_) (fun b hb h1 h2 => relink_o h1 (hny b hb))
  · rw [relink_n hne]
    simp
  · have hcase : k = y ∨ k ∈ up.kids := by
      rw [hk]
      simp at hkm ⊢
      rcases hkm with h | h | h
      · exact .inr (.inl h)
      · exact .inl h
      · exact .inr (.inr h)
    rcases hcase with rfl | hkk
    · refine hy.reroot ?_ (fun b hb => relink_o (fun e => ?_) (fun e => ?_))
      · rw [relink_c, info_set]
      · exact hd b (by cases k; exact List.mem_cons_of_mem _ hb) (e ▸ hup)
      · have := Is.nodup wf k hy
        cases k with
        | node i t a d at_ ks =>
          exact (List.nodup_cons.1 (show (i :: RT.preL ks).Nodup from this)).1 (by rw [← show b = i from e]; exact hb)
    · exact (hq.kid hkk).congr k (fun b hb => relink_o (kidpre k hkk b hb).2 (hny b (hsub b (kidpre k hkk b hb).1)))
end Go.Proofs.Ytmfjbljdbkmkgaa.Dom

/- dom.ReplaceNode: its contract over a tree. -/
namespace Go.Proofs.Ytmfjbljdbkmkgaa.Dom
open Go.RowKit Go.Proofs.YtmfjbljdbkmkgaaW.PrintWords Go.Proofs.YtmfjbljdbkmkgaaW.PrintLast Go.Proofs.YtmfjbljdbkmkgaaW.PrintMore Go.Proofs.Ytmfjbljdbkmkgaa.PDom
set_option linter.unusedVariables false
set_option linter.unusedSimpArgs false

theorem Is.selfless {D : Tab} (wf : WF D) {q : Option Nat} {up : RT} (h : Is D q up) : q ≠ some up.id := fun e => by
  subst e
  obtain ⟨ip, h1, h2⟩ := wf.up h.root (info_p _ _)
  rw [h.root] at h1
  obtain rfl := Option.some.inj h1
  rw [info_k] at h2
  obtain ⟨k, hk, hkid⟩ := List.mem_map.1 h2
  exact h.proper hk (RT.id_mem k) hkid
theorem Is.parent_eq {D : Tab} {p q : Option Nat} {r y : RT} (h : Is D p r) (h' : Is D q y) (e : r.id = y.id) : p = q := by
  have h1 := h.root
  have h2 := h'.root
  rw [e, h2] at h1
  have := congrArg Info.parent (Option.some.inj h1)
  rw [info_p, info_p] at this
  exact this.symm
/-- What a change of a tree leaves. -/
def Left (w w' : World) (D : Tab) (r' : RT) (e : Ending) : Prop := e = .returned (.tuple #[]) ∧ ∃ D', Dom w' D' ∧ Is D' none r' ∧ Only D w w' ∧ (∀ k, D k = none ↔ D' k = none)
/-- Which blocks a change leaves in the table: the same. -/
theorem relink_same {D : Tab} {n c : Nat} {i ic : Info} {K : List Nat} {pc : Option Nat} (hn : D n ≠ none) (hc : D c ≠ none) (k : Nat) : relink D n c i ic K pc k = none ↔ D k = none := by
  unfold relink put
  by_cases h1 : k = c
  · subst h1; simp [hc]
  · by_cases h2 : k = n
    · subst h2; simp [h1, hn]
    · simp [h1, h2]
theorem Only.trans' {D D' : Tab} {w w' w'' : World} (h : Only D w w') (h' : Only D' w' w'') (hD : ∀ k, D k = none ↔ D' k = none) : Only D w w'' := h.trans h' (fun k hk _ => (hD k).1 hk)
theorem Dom.up_cell {w : World} {D : Tab} (h : Dom w D) {b u : Nat} {i : Info} (hb : D b = some i) (hp : i.parent = some u) : w.cell? ⟨b, 0, none⟩ = some (.pointer (some ⟨u, 0, none⟩)) := by
  obtain ⟨v, hv, _⟩ := h.has hb
  rw [hv.cells10.1]
  show some (ptr i.parent) = _
  rw [hp]
  rfl
end Go.Proofs.Ytmfjbljdbkmkgaa.Dom

/- The steps of a tree surgery, one by one, over trees: InsertBefore, RemoveChild, AppendChild. -/
namespace Go.Proofs.Ytmfjbljdbkmkgaa.Dom
open Go.RowKit Go.Proofs.YtmfjbljdbkmkgaaW.PrintWords Go.Proofs.YtmfjbljdbkmkgaaW.PrintLast Go.Proofs.YtmfjbljdbkmkgaaW.PrintMore Go.Proofs.Ytmfjbljdbkmkgaa.PDom
set_option linter.unusedVariables false
set_option linter.unusedSimpArgs false

theorem Is.below_root {D : Tab} (r : RT) : ∀ {p : Option Nat}, Is D p r → ∀ b ∈ RT.preL r.kids, ∃ q i, D b = some i ∧ i.parent = some q := by
  induction r using RT.induct with
  | h i t a d at_ ks ih =>
    intro p h b hb
    obtain ⟨k, hk, hbk⟩ := RT.mem_preL.1 hb
    have hkd := h.kid (show k ∈ (RT.node i t a d at_ ks).kids from hk)
    by_cases e : b = k.id
    · subst e
      exact ⟨_, _, hkd.root, info_p _ _⟩
    · refine ih k hk hkd b ?_
      cases k with
      | node i2 t2 a2 d2 at2 ks2 =>
        simp only [RT.pre, List.mem_cons] at hbk
        rcases hbk with hbk | hbk
        · exact absurd hbk e
        · exact hbk
/-- A root that is not this tree's own stands outside of it. -/
theorem Is.outside {D : Tab} {p : Option Nat} {r x : RT} (h : Is D p r) (hx : Is D none x) (hne : x.id ≠ r.id) : x.id ∉ r.pre := fun hm => by
  have hb : x.id ∈ RT.preL r.kids := by
    cases r with
    | node i t a d at_ ks =>
      simp only [RT.pre, List.mem_cons] at hm
      exact hm.resolve_left hne
  obtain ⟨q, i, h1, h2⟩ := h.below_root r _ hb
  rw [hx.root] at h1
  obtain rfl := Option.some.inj h1
  rw [info_p] at h2
  cases h2
theorem insert_step {w : World} {D : Tab} (hdom : Dom w D) {r y up : RT} {l : List Int} {k1 k2 : List RT} (hr : Is D none r) (hy : Is D none y) (hav : y.id ∉ r.pre) (hu : r.at_ l = some up) (hk : up.kids = k1 ++ k2) :
    ∃ D1, (Calls Try.prog 99 #[ptr (some up.id), ptr (some y.id), ptr (k2.map RT.id).head?] w fun e w1 => e = .returned (.tuple #[]) ∧ Dom w1 D1 ∧ Only D w w1) ∧
      Is D1 none (r.mapAt (fun _ => k1 ++ y :: k2) l) ∧ (∀ k, D k = none ↔ D1 k = none) := by
  obtain ⟨q, hq⟩ := hr.up hu
  have hself := hq.selfless hdom.wf
  have hup : up.id ∈ r.pre := RT.sub_pre l r up hu _ (RT.id_mem up)
  have hne : up.id ≠ y.id := fun e => hav (e ▸ hup)
  exact ⟨_, insert_calls w D up.id y.id (up.info q) (y.info none) (k1.map RT.id) (k2.map RT.id) hdom hq.root hy.root (by rw [info_k, hk, List.map_append]) hne (info_p _ _) (by rw [info_p]; exact hself),
    rt_insert hdom.wf hr hu hk hq hy hav, fun k => (relink_same (by rw [hq.root]; simp) (by rw [hy.root]; simp) k).symm⟩
theorem remove_step {w : World} {D : Tab} (hdom : Dom w D) {r x up : RT} {l : List Int} {k1 k2 : List RT} (hr : Is D none r) (hu : r.at_ l = some up) (hk : up.kids = k1 ++ x :: k2) :
    ∃ D1, (Calls Try.prog 98 #[ptr (some up.id), ptr (some x.id)] w fun e w1 => e = .returned (.tuple #[]) ∧ Dom w1 D1 ∧ Only D w w1) ∧
      Is D1 none (r.mapAt (fun _ => k1 ++ k2) l) ∧ Is D1 none x ∧ x.id ∉ (r.mapAt (fun _ => k1 ++ k2) l).pre ∧ (∀ k, D k = none ↔ D1 k = none) := by
  obtain ⟨q, hq⟩ := hr.up hu
  have hself := hq.selfless hdom.wf
  have hxm : x ∈ up.kids := by rw [hk]; simp
  have hx := hq.kid hxm
  obtain ⟨h1, h2⟩ := rt_remove hdom.wf hr hu hk hq
  refine ⟨_, remove_calls w D up.id x.id (up.info q) (x.info (some up.id)) (k1.map RT.id) (k2.map RT.id) hdom hq.root hx.root (by rw [info_k, hk, List.map_append]; rfl) (by rw [info_p]; exact hself), h1, h2, h1.outside h2 ?_, fun k => (relink_same (by rw [hq.root]; simp) (by rw [hx.root]; simp) k).symm⟩
  rw [RT.mapAt_id]
  intro e
  have := Is.parent_eq hx hr e
  cases this
/-- A child's place, below its parent's. -/
theorem at_kid {l : List Int} {k1 k2 : List RT} {y : RT} : ∀ {r up : RT}, r.at_ l = some up → up.kids = k1 ++ y :: k2 → r.at_ (l ++ [(k1.length : Int)]) = some y := by
  induction l with
  | nil =>
    intro r up h hk
    obtain rfl : r = up := by simpa [RT.at_] using h
    cases r with
    | node i t a d at_ ks =>
      have hk' : ks = k1 ++ y :: k2 := hk
      simp [RT.at_, RT.kids, hk']
  | cons j l ih =>
    intro r up h hk
    cases r with
    | node i t a d at_ ks =>
      simp only [RT.at_, List.cons_append, show (RT.node i t a d at_ ks).kids = ks from rfl] at h ⊢
      split at h
      · rename_i h0
        rw [if_pos h0]
        cases e : ks[j.toNat]? with
        | none => rw [e] at h; simp at h
        | some k =>
          rw [e] at h
          exact ih h hk
      · cases h
theorem mapAt_kid {f : List RT → List RT} {l : List Int} {k1 k2 : List RT} {y : RT} : ∀ {r up : RT}, r.at_ l = some up → up.kids = k1 ++ y :: k2 → r.mapAt f (l ++ [(k1.length : Int)]) = r.mapAt (fun _ => k1 ++ y.withKids (f y.kids) :: k2) l := by
  induction l with
  | nil =>
    intro r up h hk
    obtain rfl : r = up := by simpa [RT.at_] using h
    cases r with
    | node i t a d at_ ks =>
      have hk' : ks = k1 ++ y :: k2 := hk
      subst hk'
      cases y
      simp [RT.mapAt, RT.withKids, RT.kids]
  | cons j l ih =>
    intro r up h hk
    cases r with
    | node i t a d at_ ks =>
      simp only [RT.at_, List.cons_append, show (RT.node i t a d at_ ks).kids = ks from rfl] at h ⊢
      split at h
      · cases e : ks[j.toNat]? with
        | none => rw [e] at h; simp at h
        | some k =>
          rw [e] at h
          rw [RT.mapAt_cons _ _ _ _ _ _ _ _ _ e, RT.mapAt_cons _ _ _ _ _ _ _ _ _ e, ih h hk]
      · cases h
end Go.Proofs.Ytmfjbljdbkmkgaa.Dom

/- dom.WrapNode: its contract over a tree. -/
namespace Go.Proofs.Ytmfjbljdbkmkgaa.Dom
open Go.RowKit Go.Proofs.YtmfjbljdbkmkgaaW.PrintWords Go.Proofs.YtmfjbljdbkmkgaaW.PrintLast Go.Proofs.YtmfjbljdbkmkgaaW.PrintMore Go.Proofs.Ytmfjbljdbkmkgaa.PDom
set_option linter.unusedVariables false
set_option linter.unusedSimpArgs false

theorem kid_cell {w : World} {D : Tab} (hdom : Dom w D) {r up x : RT} {l : List Int} (hr : Is D none r) (hu : r.at_ l = some up) (hx : x ∈ up.kids) : w.cell? ⟨x.id, 0, none⟩ = some (.pointer (some ⟨up.id, 0, none⟩)) := by
  obtain ⟨q, hq⟩ := hr.up hu
  exact hdom.up_cell (hq.kid hx).root (info_p _ _)
end Go.Proofs.Ytmfjbljdbkmkgaa.Dom

/- dom.UnwrapNode: its contract over a tree. -/
namespace Go.Proofs.Ytmfjbljdbkmkgaa.Dom
open Go.RowKit Go.Proofs.YtmfjbljdbkmkgaaW.PrintWords Go.Proofs.YtmfjbljdbkmkgaaW.PrintLast Go.Proofs.YtmfjbljdbkmkgaaW.PrintMore Go.Proofs.Ytmfjbljdbkmkgaa.PDom
set_option linter.unusedVariables false
set_option linter.unusedSimpArgs false

theorem withKids_withKids (r : RT) (a b : List RT) : (r.withKids a).withKids b = r.withKids b := by cases r; rfl
theorem withKids_self (r : RT) : r.withKids r.kids = r := by cases r; rfl
theorem mapAt_same {l : List Int} : ∀ {r up : RT}, r.at_ l = some up → r.mapAt (fun _ => up.kids) l = r := by
  induction l with
  | nil =>
    intro r up h
    obtain rfl : r = up := by simpa [RT.at_] using h
    cases r
    rfl
  | cons j l ih =>
    intro r up h
    cases r with
    | node i t a d at_ ks =>
      simp only [RT.at_, show (RT.node i t a d at_ ks).kids = ks from rfl] at h
      split at h
      · cases e : ks[j.toNat]? with
        | none => rw [e] at h; simp at h
        | some k =>
          rw [e] at h
          rw [RT.mapAt_cons _ _ _ _ _ _ _ _ _ e, ih h]
          congr 1
          obtain ⟨hlt, rfl⟩ := List.getElem?_eq_some_iff.1 e
          exact List.set_getElem_self hlt
      · cases h
theorem state_cells {w : World} {D : Tab} (hdom : Dom w D) {r up z : RT} {l : List Int} {K1 k2 : List RT} (R : Is D none (r.mapAt (fun _ => K1 ++ z :: k2) l)) (hu : r.at_ l = some up) :
    w.cell? ⟨z.id, 0, none⟩ = some (.pointer (some ⟨up.id, 0, none⟩)) ∧ w.cell? ⟨z.id, 1, none⟩ = some (ptr (z.kids[0]?.map RT.id)) := by
  have hu1 := at_mapAt (fun _ => K1 ++ z :: k2) l r up hu
  have hz : z ∈ (up.withKids (K1 ++ z :: k2)).kids := by rw [withKids_kids]; simp
  have h0 := kid_cell hdom R hu1 hz
  rw [withKids_idd] at h0
  obtain ⟨q, hq⟩ := R.up hu1
  exact ⟨h0, Is.first hdom (hq.kid hz)⟩
theorem unwrap_round {w : World} {D : Tab} (hdom : Dom w D) {r up x c : RT} {l : List Int} {K1 rest k2 : List RT} (R : Is D none (r.mapAt (fun _ => K1 ++ x.withKids (c :: rest) :: k2) l)) (hu : r.at_ l = some up) :
    ∃ D1, (Calls Try.prog 98 #[ptr (some x.id), ptr (some c.id)] w fun e w1 => e = .returned (.tuple #[]) ∧ Dom w1 D1 ∧ Only D w w1) ∧ (∀ k, D k = none ↔ D1 k = none) ∧
      ∀ w1, Dom w1 D1 → w1.cell? ⟨x.id, 0, none⟩ = some (.pointer (some ⟨up.id, 0, none⟩)) ∧ ∃ D2, (Calls Try.prog 99 #[ptr (some up.id), ptr (some c.id), ptr (some x.id)] w1 fun e w2 => e = .returned (.tuple #[]) ∧ Dom w2 D2 ∧ Only D1 w1 w2) ∧ (∀ k, D1 k = none ↔ D2 k = none) ∧
        Is D2 none (r.mapAt (fun _ => (K1 ++ [c]) ++ x.withKids rest :: k2) l) := by
  have hu1 := at_mapAt (fun _ => K1 ++ x.withKids (c :: rest) :: k2) l r up hu
  have hk1 : (up.withKids (K1 ++ x.withKids (c :: rest) :: k2)).kids = K1 ++ x.withKids (c :: rest) :: k2 := withKids_kids _ _
  have hx1 := at_kid hu1 hk1
  obtain ⟨D1, c1, R1, hc, av, s1⟩ := remove_step hdom R hx1 (k1 := []) (k2 := rest) (x := c) (by rw [withKids_kids]; rfl)
  rw [withKids_idd] at c1
  rw [mapAt_kid hu1 hk1, mapAt_mapAt _ _ l r up hu] at R1 av
  simp only [List.nil_append, withKids_withKids] at R1 av
  refine ⟨D1, c1, s1, fun w1 hd1 => ⟨by have := (state_cells hd1 R1 hu).1; rwa [withKids_idd] at this, ?_⟩⟩
  have hu2 := at_mapAt (fun _ => K1 ++ x.withKids rest :: k2) l r up hu
  obtain ⟨D2, c2, R2, s2⟩ := insert_step hd1 R1 hc av hu2 (k1 := K1) (k2 := x.withKids rest :: k2) (withKids_kids _ _)
  rw [withKids_idd] at c2
  simp only [List.map_cons, List.head?_cons, withKids_idd] at c2
  refine ⟨D2, c2, s2, ?_⟩
  rw [mapAt_mapAt _ _ l r up hu] at R2
  simpa using R2
theorem unwrap_last {w : World} {D : Tab} (hdom : Dom w D) {r up x : RT} {l : List Int} {K1 k2 : List RT} (R : Is D none (r.mapAt (fun _ => K1 ++ x :: k2) l)) (hu : r.at_ l = some up) :
    ∃ D1, (Calls Try.prog 98 #[ptr (some up.id), ptr (some x.id)] w fun e w1 => e = .returned (.tuple #[]) ∧ Dom w1 D1 ∧ Only D w w1) ∧ (∀ k, D k = none ↔ D1 k = none) ∧ Is D1 none (r.mapAt (fun _ => K1 ++ k2) l) := by
  have hu1 := at_mapAt (fun _ => K1 ++ x :: k2) l r up hu
  obtain ⟨D1, c1, R1, _, _, s1⟩ := remove_step hdom R hu1 (k1 := K1) (k2 := k2) (x := x) (withKids_kids _ _)
  rw [withKids_idd] at c1
  rw [mapAt_mapAt _ _ l r up hu] at R1
  exact ⟨D1, c1, s1, R1⟩
/-- Where the loop stands: m children have been taken out. -/
structure Unw (w wm : World) (D : Tab) (r x : RT) (l : List Int) (k1 k2 : List RT) (m : Nat) (Dm : Tab) : Prop where
  d : Dom wm Dm
  o : Only D w wm
  s : ∀ k, D k = none ↔ Dm k = none
  r : Is Dm none (r.mapAt (fun _ => (k1 ++ x.kids.take m) ++ x.withKids (x.kids.drop m) :: k2) l)
set_option maxHeartbeats 400000 in
theorem unwrap_calls (w : World) (D : Tab) (hdom : Dom w D) (r up x : RT) (l : List Int) (k1 k2 : List RT) (hr : Is D none r) (hu : r.at_ l = some up) (hk : up.kids = k1 ++ x :: k2) :
    Calls Try.prog 69 #[ptr (some x.id)] w fun e w' => Left w w' D (r.mapAt (fun _ => k1 ++ x.kids ++ k2) l) e := by
  have hself : r.mapAt (fun _ => k1 ++ x :: k2) l = r := by rw [← hk]; exact mapAt_same hu
  have h0 : Unw w w D r x l k1 k2 0 D := ⟨hdom, Only.refl _ _, fun k => Iff.rfl, by simpa [withKids_self, hself] using hr⟩
  have U := Aside0.mk h0
  obtain ⟨p0, p1⟩ := state_cells hdom (z := x) (K1 := k1) (k2 := k2) (by rw [hself]; exact hr) hu
  have HU := Aside0.mk hu
  clear h0 hr hu hk hself
  simp only [ptr_some] at p0 p1 ⊢
  obtain ⟨xi, hxi⟩ : ∃ xi, xi = x.id := ⟨_, rfl⟩
  obtain ⟨ui, hui⟩ : ∃ ui, ui = up.id := ⟨_, rfl⟩
  rw [← hxi, ← hui] at p0
  rw [← hxi] at p1 ⊢
  have HXI := Aside0.mk hxi
  have HUI := Aside0.mk hui
  clear hxi hui
  go_enter Try.func69, Try.ntmps69
  go_wp2_with fail
  go_loopg [2] x.kids.length (fun n v2 wm => ∃ (m : Nat) (Dm : Tab), n = x.kids.length - m ∧ m ≤ x.kids.length ∧ v2 = ptr (x.kids[m]?.map RT.id) ∧ Aside0 (Unw w wm D r x l k1 k2 m Dm))
  case atStart => exact ⟨0, D, rfl, Nat.zero_le _, rfl, U⟩
  case round =>
    clear p0 p1 U
    obtain ⟨m, Dm, rfl, hm, rfl, U⟩ := hrel
    by_cases hlt : m < x.kids.length
    · rw [List.getElem?_eq_getElem hlt]
      have hd : x.kids.drop m = x.kids[m] :: x.kids.drop (m + 1) := List.drop_eq_getElem_cons hlt
      have ht : x.kids.take (m + 1) = x.kids.take m ++ [x.kids[m]] := List.take_succ_eq_append_getElem hlt
      have hR := U.out.r
      rw [hd] at hR
      obtain ⟨D1, c1, s1, n1⟩ := unwrap_round U.out.d hR HU.out
      have HS := Aside0.mk (show ∀ w1, Dom w1 D1 → w1.cell? ⟨x.id, 0, none⟩ = some (.pointer (some ⟨up.id, 0, none⟩)) ∧ ∃ D2, (Calls Try.prog 99 #[ptr (some up.id), ptr (some x.kids[m].id), ptr (some x.id)] w1 fun e w2 => e = .returned (.tuple #[]) ∧ Dom w2 D2 ∧ Only D1 w1 w2) ∧ ∀ w2, Dom w2 D2 → Only D w w2 → Unw w w2 D r x l k1 k2 (m + 1) D2 ∧ w2.cell? ⟨x.id, 1, none⟩ = some (ptr (x.kids[m + 1]?.map RT.id)) from fun w1 hd1 => by
        obtain ⟨h1, D2, c2, s2, R2⟩ := n1 w1 hd1
        refine ⟨h1, D2, c2, fun w2 hd2 ho2 => ?_⟩
        rw [List.append_assoc k1, ← ht] at R2
        refine ⟨⟨hd2, ho2, fun k => ((U.out.s k).trans (s1 k)).trans (s2 k), R2⟩, ?_⟩
        have := (state_cells hd2 R2 HU.out).2
        rw [withKids_idd, withKids_kids, List.getElem?_drop] at this
        simpa using this)
      have C1 := Aside0.mk c1
      have S1 := Aside0.mk s1
      clear hd ht hR c1 s1 n1
      rw [← HXI.out, ← HUI.out] at HS
      rw [← HXI.out] at C1
      generalize hnx : x.kids[m + 1]? = nx at HS
      have HNX := Aside0.mk hnx
      clear hnx
      simp only [Option.map_some, ptr_some] at C1 HS ⊢
      generalize x.kids[m].id = ci at *
      go_wp2_with (go_at_call 98; go_must (refine C1.out.mono ?_; rintro e w1 ⟨rfl, hd1, ho1⟩; have HO1 := Aside0.mk ho1; obtain ⟨p1, D2, c2, n2⟩ := HS.out _ hd1; have C2 := Aside0.mk c2; have N2 := Aside0.mk n2; clear hd1 ho1 c2 n2))
      go_wp2_with (go_at_call 99; go_must (refine C2.out.mono ?_; rintro e w2 ⟨rfl, hd2, ho2⟩; obtain ⟨u2, p2⟩ := N2.out _ hd2 ((U.out.o.trans' HO1.out U.out.s).trans' ho2 (fun k => (U.out.s k).trans (S1.out k))); have U2 := Aside0.mk u2; clear hd2 ho2 u2))
      go_roundg (x.kids.length - (m + 1))
      case rel => exact ⟨m + 1, _, rfl, hlt, by rw [HNX.out], U2⟩
      case measure => omega
    · have hme : m = x.kids.length := by omega
      subst hme
      rw [List.getElem?_eq_none (Nat.le_refl _)]
      have hR := U.out.r
      rw [List.take_of_length_le (Nat.le_refl _)] at hR
      have hp := (state_cells U.out.d hR HU.out).1
      rw [withKids_idd] at hp
      obtain ⟨D1, c1, s1, R1⟩ := unwrap_last U.out.d hR HU.out
      rw [withKids_idd] at c1
      have C1 := Aside0.mk c1
      have S1 := Aside0.mk s1
      have HR1 := Aside0.mk R1
      clear hR c1 s1 R1
      rw [← HXI.out, ← HUI.out] at C1 hp
      simp only [Option.map_none, ptr_none, ptr_some] at C1 ⊢
      go_wp2_with (go_at_call 98; go_must (refine C1.out.mono ?_; rintro e w1 ⟨rfl, hd1, ho1⟩; have HO1 := Aside0.mk ho1; have HD1 := Aside0.mk hd1; clear hd1 ho1))
      go_end0
      exact ⟨rfl, _, HD1.out, HR1.out, U.out.o.trans' HO1.out U.out.s, fun k => (U.out.s k).trans (S1.out k)⟩
end Go.Proofs.Ytmfjbljdbkmkgaa.Dom

/- The guards of the laws on trees always tell something: zzFits2, name29, size29 right29, tree29. Plain facts. -/
namespace Go.Proofs.Ytmfjbljdbkmkgaa.PDom
open Go.RowKit Go.Proofs.YtmfjbljdbkmkgaaW.PrintWords Go.Proofs.YtmfjbljdbkmkgaaW.PrintLast Go.Proofs.YtmfjbljdbkmkgaaW.PrintMore Go.Proofs.Ytmfjbljdbkmkgaa.Dom
set_option linter.unusedVariables false
set_option linter.unusedSimpArgs false

theorem up {α : Type} {g : Nat → Option α} (hm : ∀ k, LeO (g k) (g (k + 1))) {k m : Nat} (h : k ≤ m) {r : α} (hk : g k = some r) : g m = some r := by
  induction h with
  | refl => exact hk
  | step _ ih => exact hm _ _ ih

theorem succ_wrap (j : Nat) (h : j ≤ 4611686018427387904) : wrap64 ((j : Int) + 1) = ((j + 1 : Nat) : Int) := by
  rw [wrap_same (by omega) (by omega)]
  omega

theorem fits3_loop (l : List S53) (hl : l.length ≤ 4611686018427387904) : ∀ (n j k : Nat), j + n = l.length → n < k → ∃ b, laws_zzFits3.l0 k l (l.length : Int) (j : Int) = some b
  | 0, j, k + 1, h, hk => by
    rw [laws_zzFits3.l0, if_neg (by omega)]
    exact ⟨_, rfl⟩
  | n + 1, j, k + 1, h, hk => by
    obtain ⟨b, hb⟩ := fits3_loop l hl n (j + 1) k (by omega) (by omega)
    rw [laws_zzFits3.l0, if_pos (by omega), if_pos (by omega), if_pos (by omega), succ_wrap j (by omega), hb]
    obtain ⟨c, hc⟩ : ∃ c, laws_zzFits4.f (rd_T53 l (j : Int)).f0 (rd_T53 l (j : Int)).f1 = some c := by
      unfold laws_zzFits4.f
      repeat' split
      all_goals exact ⟨_, rfl⟩
    rw [hc, Option.bind_some]
    split
    · exact ⟨_, rfl⟩
    · exact ⟨_, rfl⟩
  | n, j, 0, h, hk => absurd hk (Nat.not_lt_zero _)
theorem fits2_tot (f0 : Int) (f1 f2 : ByteArray) (f3 : List S53) (f4 : List S25) (hl : f3.length ≤ 4611686018427387904) (k : Nat) (hk : f3.length < k) : ∃ b, laws_zzFits2.f k f0 f1 f2 f3 f4 = some b := by
  obtain ⟨c, hc⟩ : ∃ c, laws_zzFits3.f k f3 = some c := by
    unfold laws_zzFits3.f
    split
    · exact ⟨_, rfl⟩
    · exact fits3_loop f3 hl f3.length 0 k (by omega) hk
  unfold laws_zzFits2.f
  rw [hc]
  simp only [Option.bind_some]
  repeat' split
  all_goals exact ⟨_, rfl⟩

inductive FitS : T → Prop
  | mk (t : T) (hn : t.f1.size ≤ 140737488351232) (ha : t.f3.length ≤ 4398046510976) (hk : t.f4.length ≤ 4398046510976) (h : ∀ y ∈ t.f4, FitS y) : FitS t
theorem FitS.fit {t : T} (h : FitS t) : Fit t := by
  induction h with
  | mk t hn ha hk h ih => exact Fit.mk t ha hk ih

end Go.Proofs.Ytmfjbljdbkmkgaa.PDom

/- What the laws' guards on a tree tell: it is in normal form, of 300 nodes at most, as deep as that. Plain facts. -/
namespace Go.Proofs.Ytmfjbljdbkmkgaa.PDom
open Go.RowKit Go.Proofs.YtmfjbljdbkmkgaaW.PrintWords Go.Proofs.YtmfjbljdbkmkgaaW.PrintLast Go.Proofs.YtmfjbljdbkmkgaaW.PrintMore Go.Proofs.Ytmfjbljdbkmkgaa.Dom
set_option linter.unusedVariables false
set_option linter.unusedSimpArgs false

theorem rd_at (l : List S25) {j : Nat} (h : j < l.length) : rd_T25 l (j : Int) = l[j] := by simp [rd_T25, List.getD_eq_getElem?_getD, List.getElem?_eq_getElem h]
def NodeOk (root : Bool) (t : T) : Prop :=
  ((t.f0 = 1 ∨ t.f0 = 2) ∧ t.f1 = ⟨#[]⟩ ∧ t.f3 = [] ∧ t.f4 = []) ∨ (t.f0 = 3 ∧ root = true ∧ t.f1 = ⟨#[]⟩ ∧ t.f2 = ⟨#[]⟩ ∧ t.f3 = []) ∨ (t.f0 = 0 ∧ t.f2 = ⟨#[]⟩)
inductive Norm : Bool → T → Prop
  | mk (root : Bool) (t : T) (h : NodeOk root t) (hk : ∀ y ∈ t.f4, Norm false y) : Norm root t
/-! ### How many nodes -/
mutual
def countT : T → Nat
  | ⟨_, _, _, _, ks⟩ => 1 + countTL ks
def countTL : List T → Nat
  | [] => 0
  | k :: ks => countT k + countTL ks
end
theorem countTL_append (l m : List T) : countTL (l ++ m) = countTL l + countTL m := by
  induction l with
  | nil => simp [countTL]
  | cons k l ih => simp [countTL, ih]; omega
theorem countT_eq (t : T) : countT t = 1 + countTL t.f4 := by cases t; rfl
end Go.Proofs.Ytmfjbljdbkmkgaa.PDom

/- impl.AllNodes of a tree in normal form: the places of its nodes, in order. -/
namespace Go.Proofs.Ytmfjbljdbkmkgaa.PDom
open Go.RowKit Go.Proofs.YtmfjbljdbkmkgaaW.PrintWords Go.Proofs.YtmfjbljdbkmkgaaW.PrintLast Go.Proofs.YtmfjbljdbkmkgaaW.PrintMore Go.Proofs.Ytmfjbljdbkmkgaa.Dom
set_option linter.unusedVariables false
set_option linter.unusedSimpArgs false

mutual
/-- The places of a tree's nodes, each ahead of those in it. -/
def pathsT (p : List Int) : T → List (List Int)
  | ⟨_, _, _, _, ks⟩ => p :: pathsTL p 0 ks
def pathsTL (p : List Int) (j : Nat) : List T → List (List Int)
  | [] => []
  | k :: ks => pathsT (p ++ [(j : Int)]) k ++ pathsTL p (j + 1) ks
end
theorem pathsT_eq (p : List Int) (t : T) : pathsT p t = p :: pathsTL p 0 t.f4 := by cases t; rfl
theorem kids_norm {root : Bool} {t : T} (h : Norm root t) : kidsT t = t.f4 := by
  obtain ⟨_, _, h1, _⟩ := h
  unfold kidsT
  by_cases hf : flat t
  · rw [if_pos hf]
    rcases h1 with ⟨_, _, _, h4⟩ | ⟨h3, _⟩ | ⟨h0, _⟩
    · exact h4.symm
    · unfold flat at hf; omega
    · unfold flat at hf; omega
  · rw [if_neg hf]
theorem Norm.kid {root : Bool} {t y : T} (h : Norm root t) (hy : y ∈ t.f4) : Norm false y := by
  obtain ⟨_, _, _, hk⟩ := h
  exact hk y hy
theorem told_open {t : T} {i : Nat} {ty a : Int} {d : ByteArray} {at_ : List (ByteArray × ByteArray)} {ks : List RT} (h : TellsT t (.node i ty a d at_ ks)) {root : Bool} (hn : Norm root t) :
    t.f4.length = ks.length ∧ ∀ j (h1 : j < t.f4.length) (h2 : j < ks.length), TellsT t.f4[j] ks[j] := by
  cases h with
  | mk _ _ _ _ ha hl hk =>
    have e := kids_norm hn
    simp only [e] at hl hk
    exact ⟨hl, hk⟩
theorem told_paths (r : RT) : ∀ (t : T) (root : Bool), Norm root t → TellsT t r → (∀ p, r.paths p = pathsT p t) ∧ r.pre.length = countT t := by
  induction r using RT.induct with
  | h i ty a d at_ ks ih =>
    intro t root hn ht
    obtain ⟨hl, hk⟩ := told_open ht hn
    have key : ∀ (n j : Nat), ks.length = j + n → (∀ p, RT.pathsL p j (ks.drop j) = pathsTL p j (t.f4.drop j)) ∧ (RT.preL (ks.drop j)).length = countTL (t.f4.drop j) := by
      intro n
      induction n with
      | zero =>
        intro j hj
        rw [List.drop_eq_nil_of_le (by omega), List.drop_eq_nil_of_le (by omega)]
        exact ⟨fun _ => rfl, rfl⟩
      | succ n ihn =>
        intro j hj
        have h1 : j < ks.length := by omega
        have h2 : j < t.f4.length := by omega
        obtain ⟨e1, e2⟩ := ihn (j + 1) (by omega)
        obtain ⟨e3, e4⟩ := ih ks[j] (List.getElem_mem h1) t.f4[j] false (hn.kid (List.getElem_mem h2)) (hk j h2 h1)
        rw [List.drop_eq_getElem_cons h1, List.drop_eq_getElem_cons h2]
        refine ⟨fun p => ?_, ?_⟩
        · simp only [RT.pathsL, pathsTL]
          rw [e1, e3]
        · simp only [RT.preL, countTL, List.length_append]
          rw [e2, e4]
    obtain ⟨e1, e2⟩ := key ks.length 0 (by omega)
    simp only [List.drop_zero] at e1 e2
    refine ⟨fun p => ?_, ?_⟩
    · rw [pathsT_eq]
      simp only [RT.paths]
      rw [e1]
    · rw [countT_eq]
      simp only [RT.pre, List.length_cons]
      omega
end Go.Proofs.Ytmfjbljdbkmkgaa.PDom

/- Places in a tree as plain data and among its nodes; first children and siblings at places. Plain facts. -/
namespace Go.Proofs.Ytmfjbljdbkmkgaa.PDom
open Go.RowKit Go.Proofs.YtmfjbljdbkmkgaaW.PrintWords Go.Proofs.YtmfjbljdbkmkgaaW.PrintLast Go.Proofs.YtmfjbljdbkmkgaaW.PrintMore Go.Proofs.Ytmfjbljdbkmkgaa.Dom
set_option linter.unusedVariables false
set_option linter.unusedSimpArgs false

theorem at_append (r : RT) (l m : List Int) : r.at_ (l ++ m) = (r.at_ l).bind fun y => y.at_ m := by
  induction l generalizing r with
  | nil => rfl
  | cons k l ih =>
    simp only [List.cons_append, RT.at_]
    by_cases h : 0 ≤ k
    · rw [if_pos h, if_pos h]
      cases r.kids[k.toNat]? with
      | none => rfl
      | some y => simp only [Option.bind_some]; exact ih y
    · rw [if_neg h, if_neg h]; rfl
theorem at_is {D : Tab} (l : List Int) : ∀ (r y : RT) (p : Option Nat), Is D p r → r.at_ l = some y → ∃ q, Is D q y := by
  induction l with
  | nil =>
    intro r y p h e
    obtain rfl := Option.some.inj e
    exact ⟨p, h⟩
  | cons k l ih =>
    intro r y p h e
    simp only [RT.at_] at e
    split at e
    · obtain ⟨z, hz, e2⟩ := Option.bind_eq_some_iff.1 e
      exact ih z y _ (h.kid (List.mem_of_getElem? hz)) e2
    · cases e
/-! ### Which one is found -/
/-- A tree and its node, at the same place in two rows. -/
structure Beside (D : Tab) (t : T) (k : RT) : Prop where
  told : TellsT t k
  is : ∃ p, Is D p k
  norm : Norm false t
end Go.Proofs.Ytmfjbljdbkmkgaa.PDom

/- impl.guarded, over a function that returns: false, and what that function left. -/
namespace Go.Proofs.Ytmfjbljdbkmkgaa.Guard
open Go.RowKit Go.Proofs.YtmfjbljdbkmkgaaW.PrintWords Go.Proofs.YtmfjbljdbkmkgaaW.PrintLast Go.Proofs.YtmfjbljdbkmkgaaW.PrintMore
set_option linter.unusedVariables false
set_option linter.unusedSimpArgs false

theorem catch_idle (p : Addr) (w : World) :
    CallsD Try.prog 94 #[.pointer (some p)] .returning w fun e u' w' => e = .returned (.tuple #[]) ∧ u' = .returning ∧ w' = w := by
  refine callsD_of_wpS Try.func94 rfl fun c₀ cs hu => ?_
  apply wpS_seq
  apply wpS_region
  simp [wpOpsS, go_sem, recoverD, hu, Try.ntmps94, Exit.thenS]
  refine wpS_cond (t := false) (by simp [Act.eval, Array.replicate]) ?_
  simp only [Bool.false_eq_true, if_false]
  refine wpS_of_wp (wp_skip ?_)
  cases c₀
  simp_all [bodyPostS, results, Try.results94]
theorem guarded_calls (F : Nat) (cap : Array Value) (w : World) (Q : World → Prop) (hF : ∀ (args : Array Value) (w : World), (callFunc F args).run Try.prog w = .ok (.enter F args) w)
    (HC : Calls Try.prog F cap (w.alloc (.cells #[.bool false] 4)) fun e w' => e = .returned (.tuple #[]) ∧ w'.heap[w.heap.size]? = some (.cells #[.bool false] 4 (0, 0)) ∧ Q w') :
    Calls Try.prog 63 #[.func (.func F) #[] cap] w fun e w' => e = .returned (.bool false) ∧ ∃ w2, Q w2 ∧ w2.heap[w.heap.size]? = some (.cells #[.bool false] 4 (0, 0)) ∧ w' = w2.setCell ⟨w.heap.size, 0, none⟩ (.bool false) := by
  have hmf : ∀ (fn : Fn) (first cap : Array Value) (w : World), (Instr.makeFunc fn first cap).run Try.prog w = .ok (.func fn first cap) w := fun _ _ _ _ => rfl
  have HC0 := Aside0.mk HC
  clear HC
  go_enter_defers Try.func63, Try.ntmps63
  go_wp2_with fail
  refine HC0.out.mono ?_
  rintro e w2 ⟨rfl, hb, hq⟩
  have c2 := blk_cell hb 0
  have f2 := blk_frozen hb 0
  have HB := Aside0.mk hb
  have HQ := Aside0.mk hq
  clear hb hq
  go_wp2_with fail
  refine leaves_cons (f := 94) (args := #[.pointer (some ⟨w.heap.size, 0, none⟩)]) (by simp) (by simp [go_sem]) ?_
  refine (catch_idle ⟨w.heap.size, 0, none⟩ _).mono ?_
  rintro e u' w'' ⟨rfl, rfl, rfl⟩
  have c3 : (w2.setCell ⟨w.heap.size, 0, none⟩ (.bool false)).cell? ⟨w.heap.size, 0, none⟩ = some (.bool false) := by rw [blk_cell (blk_set HB.out 0 (.bool false))]; rfl
  simp [Leaves, settle, results, Try.results63, go_sem, c3]
  exact ⟨w2, HQ.out, HB.out, rfl⟩
end Go.Proofs.Ytmfjbljdbkmkgaa.Guard

/- impl.changedAt, over a function that changes a tree: what it returns. -/
namespace Go.Proofs.Ytmfjbljdbkmkgaa.Dom
open Go.RowKit Go.Proofs.YtmfjbljdbkmkgaaW.PrintWords Go.Proofs.YtmfjbljdbkmkgaaW.PrintLast Go.Proofs.YtmfjbljdbkmkgaaW.PrintMore Go.Proofs.Ytmfjbljdbkmkgaa.PDom
set_option linter.unusedVariables false
set_option linter.unusedSimpArgs false

theorem Dom.far {w : World} {D : Tab} (h : Dom w D) {g t : Nat} {cells : Array Value} (hb : w.heap[g]? = some (.cells cells t (0, 0))) (hD : D g = none) (ht : 106 ≠ t) (j : Nat) (u : Value) : Dom (w.setCell ⟨g, j, none⟩ u) D :=
  ⟨h.wf, fun {b i} hd => by
    obtain ⟨v, h1, h2⟩ := h.has hd
    refine ⟨v, h1.far (p := ⟨g, j, none⟩) (fun e => by rw [show b = g from e, hD] at hd; cases hd) u, ?_⟩
    exact Kd.R_set h2 hb (fun q hq => by
      have : q = 106 := by simpa [kA, Kd.iso, Kd.pair, Kd.string, Kd.scalar] using hq
      rw [this]
      exact ht) j u⟩
/-- What a tree becomes. -/
def Turns (w w' : World) (D : Tab) (r : RT) (u : T) : Prop := ∃ D' r', Dom w' D' ∧ Is D' none r' ∧ r'.id = r.id ∧ RFit r' ∧ r'.toT = u ∧ Only D w w' ∧ (∀ k, k < w.heap.size → D k = none → D' k = none)
theorem push_size (w : World) (o : Obj) : (w.alloc o).heap.size = w.heap.size + 1 := Array.size_push _
end Go.Proofs.Ytmfjbljdbkmkgaa.Dom

/- What is told of a tree that was made: the tree itself. Plain facts. -/
namespace Go.Proofs.Ytmfjbljdbkmkgaa.PDom
open Go.RowKit Go.Proofs.YtmfjbljdbkmkgaaW.PrintWords Go.Proofs.YtmfjbljdbkmkgaaW.PrintLast Go.Proofs.YtmfjbljdbkmkgaaW.PrintMore Go.Proofs.Ytmfjbljdbkmkgaa.Dom
set_option linter.unusedVariables false
set_option linter.unusedSimpArgs false

theorem toT_norm (r : RT) : ∀ (t : T) (root : Bool), Norm root t → TellsT t r → r.toT = t := by
  induction r using RT.induct with
  | h i ty a d at_ ks ih =>
    intro t root hn ht
    obtain ⟨hl, hk⟩ := told_open ht hn
    have hkids : RT.toTL ks = t.f4 := by
      rw [RT.toTL_map]
      apply List.ext_getElem (by rw [List.length_map]; exact hl.symm)
      intro j h1 h2
      rw [List.getElem_map]
      have h3 : j < ks.length := by rw [List.length_map] at h1; exact h1
      exact ih ks[j] (List.getElem_mem h3) _ false (hn.kid (List.getElem_mem h2)) (hk j h2 h3)
    cases ht with
    | mk _ _ _ _ ha hl2 hk2 =>
      cases hn with
      | mk _ _ h _ =>
        obtain ⟨f0, f1, f2, f3, f4⟩ := t
        simp only at hkids
        simp only [RT.toT, tyOf, dataOf, attrsOf, flat]
        rcases h with ⟨h0, h1, h3, h4⟩ | ⟨h0, hr, h1, h2, h3⟩ | ⟨h0, h2⟩
        · simp only at h0 h1 h3 h4
          subst h1 h3 h4
          rcases h0 with rfl | rfl
          · simp
          · simp
        · simp only at h0 h1 h2 h3
          subst h0 h1 h2 h3
          simp [hkids]
        · simp only at h0 h2
          subst h0 h2
          simp [hkids, List.map_map, Function.comp_def]
theorem RFit.mapAt {f : List RT → List RT} (l : List Int) : ∀ (r up : RT), r.at_ l = some up → RFit r → (f up.kids).length ≤ 1000000000000 → (∀ k ∈ f up.kids, RFit k) → RFit (r.mapAt f l) := by
  induction l with
  | nil =>
    intro r up hu hr hl hk
    obtain rfl : r = up := by simpa [RT.at_] using hu
    cases hr with
    | mk i ty a d at_ ks h3 h4 h5 => exact RFit.mk _ _ _ _ _ _ h3 hl hk
  | cons j l ih =>
    intro r up hu hr hl hk
    cases hr with
    | mk i ty a d at_ ks h3 h4 h5 =>
      simp only [RT.at_] at hu
      split at hu
      case isFalse => cases hu
      obtain ⟨k, hkj, hu⟩ := Option.bind_eq_some_iff.1 hu
      have hk' : ks[j.toNat]? = some k := hkj
      rw [RT.mapAt_cons f i ty a d at_ ks j l hk']
      refine RFit.mk _ _ _ _ _ _ h3 (by rw [List.length_set]; exact h4) (fun x hx => ?_)
      rcases List.mem_or_eq_of_mem_set hx with hx | rfl
      · exact h5 x hx
      · exact ih k up hu (h5 k (List.mem_of_getElem? hk')) hl hk
theorem RFit.at {l : List Int} : ∀ {r up : RT}, r.at_ l = some up → RFit r → RFit up := by
  induction l with
  | nil =>
    intro r up hu hr
    obtain rfl : r = up := by simpa [RT.at_] using hu
    exact hr
  | cons j l ih =>
    intro r up hu hr
    simp only [RT.at_] at hu
    split at hu
    case isFalse => cases hu
    obtain ⟨k, hkj, hu2⟩ := Option.bind_eq_some_iff.1 hu
    have hkm : k ∈ r.kids := List.mem_of_getElem? hkj
    refine ih hu2 ?_
    cases hr with
    | mk i ty a d at_ ks h3 h4 h5 => exact h5 k hkm
end Go.Proofs.Ytmfjbljdbkmkgaa.PDom

/- Who stands within whom in a tree of nodes, and what becomes of it when a node's children come up into its place. Plain facts. -/
namespace Go.Proofs.Ytmfjbljdbkmkgaa.Dom
open Go.RowKit Go.Proofs.YtmfjbljdbkmkgaaW.PrintWords Go.Proofs.YtmfjbljdbkmkgaaW.PrintLast Go.Proofs.YtmfjbljdbkmkgaaW.PrintMore Go.Proofs.Ytmfjbljdbkmkgaa.PDom
set_option linter.unusedVariables false
set_option linter.unusedSimpArgs false

/-- A property of a node in which its children have no part. -/
def Own (m : RT → Bool) : Prop := ∀ r K, m (r.withKids K) = m r
/-- One of the nodes above a place has it. -/
def RT.anyUp (m : RT → Bool) : RT → List Int → Bool
  | _, [] => false
  | r, j :: l => m r || (match r.kids[j.toNat]? with | some k => RT.anyUp m k l | none => false)
theorem at_cons {r y : RT} {j : Int} {l : List Int} (h : r.at_ (j :: l) = some y) : 0 ≤ j ∧ ∃ k, r.kids[j.toNat]? = some k ∧ k.at_ l = some y := by
  simp only [RT.at_] at h
  split at h
  · rename_i h0
    obtain ⟨k, hk, e⟩ := Option.bind_eq_some_iff.1 h
    exact ⟨h0, k, hk, e⟩
  · cases h
theorem at_cons_mk {r y k : RT} {j : Nat} {l : List Int} (hk : r.kids[j]? = some k) (h : k.at_ l = some y) : r.at_ ((j : Int) :: l) = some y := by
  simp only [RT.at_]
  rw [if_pos (by omega), show ((j : Int).toNat) = j from by omega, hk]
  exact h
theorem anyUp_cons {m : RT → Bool} {r k : RT} {j : Int} {l : List Int} (hk : r.kids[j.toNat]? = some k) : r.anyUp m (j :: l) = (m r || k.anyUp m l) := by
  simp only [RT.anyUp, hk]
theorem anyUp_append {m : RT → Bool} (p : List Int) : ∀ (r k : RT) (l : List Int), r.at_ p = some k → r.anyUp m (p ++ l) = (r.anyUp m p || k.anyUp m l) := by
  induction p with
  | nil =>
    intro r k l h
    obtain rfl : r = k := by simpa [RT.at_] using h
    simp [RT.anyUp]
  | cons j p ih =>
    intro r k l h
    obtain ⟨_, c, hc, e⟩ := at_cons h
    rw [List.cons_append, anyUp_cons hc, anyUp_cons hc, ih c k l e, Bool.or_assoc]
/-- Each node of the one tree is one of the other, where it stands below at least as many. -/
structure Emb (m : RT → Bool) (r' r : RT) : Prop where
  idd : r'.id = r.id
  own : m r' = m r
  way : ∀ l' y', r'.at_ l' = some y' → ∃ l y, r.at_ l = some y ∧ y.id = y'.id ∧ m y = m y' ∧ (r'.anyUp m l' = true → r.anyUp m l = true)
theorem Emb.refl (m : RT → Bool) (r : RT) : Emb m r r := ⟨rfl, rfl, fun l y h => ⟨l, y, h, rfl, rfl, fun h => h⟩⟩
theorem Emb.node {m : RT → Bool} {r' r : RT} (hid : r'.id = r.id) (hm : m r' = m r) (h : ∀ (j : Nat) k', r'.kids[j]? = some k' → ∃ (j0 : Nat) (p : List Int) (k : RT), r.at_ ((j0 : Int) :: p) = some k ∧ Emb m k' k) : Emb m r' r := by
  refine ⟨hid, hm, fun l' y' hy => ?_⟩
  cases l' with
  | nil =>
    obtain rfl : r' = y' := by simpa [RT.at_] using hy
    exact ⟨[], r, rfl, hid.symm, hm.symm, fun h => by simp [RT.anyUp] at h⟩
  | cons j l' =>
    obtain ⟨_, k', hk', e⟩ := at_cons hy
    obtain ⟨j0, p, k, hp, E⟩ := h _ _ hk'
    obtain ⟨l, y, h1, h2, h3, h4⟩ := E.way _ _ e
    refine ⟨((j0 : Int) :: p) ++ l, y, by rw [at_append, hp]; exact h1, h2, h3, fun hu => ?_⟩
    rw [anyUp_cons hk'] at hu
    rw [anyUp_append _ _ _ _ hp]
    obtain ⟨_, c, hc, _⟩ := at_cons hp
    rw [anyUp_cons hc, ← hm]
    cases hmr : m r' with
    | true => simp
    | false =>
      rw [hmr, Bool.false_or] at hu
      rw [h4 hu]
      simp
theorem Emb.mapAt {m : RT → Bool} (hO : Own m) {f : List RT → List RT} : ∀ (l : List Int) (r up : RT), r.at_ l = some up → Emb m (up.withKids (f up.kids)) up → Emb m (r.mapAt f l) r := by
  intro l
  induction l with
  | nil =>
    intro r up h E
    obtain rfl : r = up := by simpa [RT.at_] using h
    cases r
    exact E
  | cons j l ih =>
    intro r up h E
    obtain ⟨h0, k, hk, e⟩ := at_cons h
    cases r with
    | node i t a d at_ ks =>
      rw [RT.mapAt_cons _ _ _ _ _ _ _ _ _ (show ks[j.toNat]? = some k from hk)]
      have e1 := ih k up e E
      refine Emb.node rfl (hO (.node i t a d at_ ks) _) (fun i' k' h' => ?_)
      have h'' : (ks.set j.toNat (k.mapAt f l))[i']? = some k' := h'
      by_cases hi : j.toNat = i'
      · subst hi
        have hlt : j.toNat < ks.length := (List.getElem?_eq_some_iff.1 hk).1
        rw [List.getElem?_set_self hlt] at h''
        obtain rfl := Option.some.inj h''
        exact ⟨j.toNat, [], k, at_cons_mk (l := []) hk rfl, e1⟩
      · rw [List.getElem?_set_ne hi] at h''
        exact ⟨i', [], k', at_cons_mk (l := []) h'' rfl, Emb.refl _ _⟩
theorem unwrap_emb {m : RT → Bool} (hO : Own m) {up x : RT} {k1 k2 : List RT} (hk : up.kids = k1 ++ x :: k2) : Emb m (up.withKids (k1 ++ x.kids ++ k2)) up := by
  refine Emb.node (withKids_idd _ _) (hO _ _) (fun j k' h => ?_)
  rw [withKids_kids, List.append_assoc] at h
  by_cases h1 : j < k1.length
  · rw [List.getElem?_append_left h1] at h
    exact ⟨j, [], k', at_cons_mk (l := []) (by rw [hk, List.getElem?_append_left h1]; exact h) rfl, Emb.refl _ _⟩
  · rw [List.getElem?_append_right (by omega)] at h
    by_cases h2 : j - k1.length < x.kids.length
    · rw [List.getElem?_append_left h2] at h
      refine ⟨k1.length, [((j - k1.length : Nat) : Int)], k', at_cons_mk (k := x) (by rw [hk]; simp) (at_cons_mk (l := []) h rfl), Emb.refl _ _⟩
    · rw [List.getElem?_append_right (by omega)] at h
      refine ⟨j - x.kids.length + 1, [], k', at_cons_mk (l := []) ?_ rfl, Emb.refl _ _⟩
      rw [hk, List.getElem?_append_right (by omega), show j - x.kids.length + 1 - k1.length = (j - k1.length - x.kids.length) + 1 from by omega]
      exact h
/-! ### Which nodes a changed tree has -/
theorem preL_get {ks : List RT} {j : Nat} {k : RT} (h : ks[j]? = some k) : ∀ b ∈ k.pre, b ∈ RT.preL ks := fun b hb => RT.mem_preL.2 ⟨k, List.mem_of_getElem? h, hb⟩
theorem pre_mapAt_sub {f : List RT → List RT} : ∀ (l : List Int) (r up : RT), r.at_ l = some up → (∀ b ∈ RT.preL (f up.kids), b ∈ RT.preL up.kids) → ∀ b ∈ (r.mapAt f l).pre, b ∈ r.pre := by
  intro l
  induction l with
  | nil =>
    intro r up h hf b hb
    obtain rfl : r = up := by simpa [RT.at_] using h
    cases r with
    | node i t a d at_ ks =>
      rcases List.mem_cons.1 hb with h1 | h1
      · exact List.mem_cons.2 (.inl h1)
      · exact List.mem_cons.2 (.inr (hf b h1))
  | cons j l ih =>
    intro r up h hf b hb
    obtain ⟨h0, k, hk, e⟩ := at_cons h
    cases r with
    | node i t a d at_ ks =>
      rw [RT.mapAt_cons _ _ _ _ _ _ _ _ _ (show ks[j.toNat]? = some k from hk)] at hb
      rcases List.mem_cons.1 hb with h1 | h1
      · exact List.mem_cons.2 (.inl h1)
      · obtain ⟨y, hy, hby⟩ := RT.mem_preL.1 h1
        refine List.mem_cons.2 (.inr ?_)
        rcases List.mem_or_eq_of_mem_set hy with h2 | h2
        · exact RT.mem_preL.2 ⟨y, h2, hby⟩
        · subst h2
          exact preL_get hk _ (ih k up e hf b hby)
theorem pre_mapAt_keep {f : List RT → List RT} {z : Nat} : ∀ (l : List Int) (r up : RT), r.at_ l = some up → (∀ b ∈ RT.preL up.kids, b ≠ z → b ∈ RT.preL (f up.kids)) → ∀ b ∈ r.pre, b ≠ z → b ∈ (r.mapAt f l).pre := by
  intro l
  induction l with
  | nil =>
    intro r up h hf b hb hz
    obtain rfl : r = up := by simpa [RT.at_] using h
    cases r with
    | node i t a d at_ ks =>
      rcases List.mem_cons.1 hb with h1 | h1
      · exact List.mem_cons.2 (.inl h1)
      · exact List.mem_cons.2 (.inr (hf b h1 hz))
  | cons j l ih =>
    intro r up h hf b hb hz
    obtain ⟨h0, k, hk, e⟩ := at_cons h
    cases r with
    | node i t a d at_ ks =>
      rw [RT.mapAt_cons _ _ _ _ _ _ _ _ _ (show ks[j.toNat]? = some k from hk)]
      rcases List.mem_cons.1 hb with h1 | h1
      · exact List.mem_cons.2 (.inl h1)
      · obtain ⟨y, hy, hby⟩ := RT.mem_preL.1 h1
        refine List.mem_cons.2 (.inr ?_)
        obtain ⟨n, hn, rfl⟩ := List.mem_iff_getElem.1 hy
        by_cases hjn : j.toNat = n
        · subst hjn
          have hkk : ks[j.toNat] = k := by
            have := List.getElem?_eq_getElem hn
            rw [show ks[j.toNat]? = some k from hk] at this
            exact (Option.some.inj this).symm
          rw [hkk] at hby
          exact preL_get (j := j.toNat) (by rw [List.getElem?_set_self hn]) _ (ih k up e hf b hby hz)
        · exact preL_get (j := n) (by rw [List.getElem?_set_ne hjn, List.getElem?_eq_getElem hn]) _ hby
theorem preL_len_set : ∀ (ks : List RT) (j : Nat) (k k' : RT), ks[j]? = some k → k'.pre.length ≤ k.pre.length → (RT.preL (ks.set j k')).length ≤ (RT.preL ks).length
  | [], j, k, k', h, e => by simp at h
  | c :: ks, 0, k, k', h, e => by
    obtain rfl : c = k := by simpa using h
    show (k'.pre ++ RT.preL ks).length ≤ (c.pre ++ RT.preL ks).length
    rw [List.length_append, List.length_append]
    omega
  | c :: ks, j + 1, k, k', h, e => by
    show (c.pre ++ RT.preL (ks.set j k')).length ≤ (c.pre ++ RT.preL ks).length
    have := preL_len_set ks j k k' (by simpa using h) e
    rw [List.length_append, List.length_append]
    omega
theorem pre_mapAt_len {f : List RT → List RT} : ∀ (l : List Int) (r up : RT), r.at_ l = some up → (RT.preL (f up.kids)).length ≤ (RT.preL up.kids).length → (r.mapAt f l).pre.length ≤ r.pre.length := by
  intro l
  induction l with
  | nil =>
    intro r up h hf
    obtain rfl : r = up := by simpa [RT.at_] using h
    cases r with
    | node i t a d at_ ks => exact Nat.succ_le_succ hf
  | cons j l ih =>
    intro r up h hf
    obtain ⟨_, k, hk, e⟩ := at_cons h
    cases r with
    | node i t a d at_ ks =>
      rw [RT.mapAt_cons _ _ _ _ _ _ _ _ _ (show ks[j.toNat]? = some k from hk)]
      exact Nat.succ_le_succ (preL_len_set ks _ k _ hk (ih k up e hf))
theorem pre_mapAt_not {f : List RT → List RT} {z : Nat} : ∀ (l : List Int) (r up : RT), r.pre.Nodup → r.at_ l = some up → z ∈ RT.preL up.kids → z ∉ RT.preL (f up.kids) → z ∉ (r.mapAt f l).pre := by
  intro l
  induction l with
  | nil =>
    intro r up hn h hz hf hb
    obtain rfl : r = up := by simpa [RT.at_] using h
    cases r with
    | node i t a d at_ ks =>
      rcases List.mem_cons.1 hb with h1 | h1
      · subst h1
        exact (List.nodup_cons.1 hn).1 hz
      · exact hf h1
  | cons j l ih =>
    intro r up hn h hz hf hb
    obtain ⟨_, k, hk, e⟩ := at_cons h
    cases r with
    | node i t a d at_ ks =>
      rw [RT.mapAt_cons _ _ _ _ _ _ _ _ _ (show ks[j.toNat]? = some k from hk)] at hb
      have hup : up.pre = up.id :: RT.preL up.kids := by cases up; rfl
      have hzk : z ∈ k.pre := RT.sub_pre l k up e z (by rw [hup]; exact List.mem_cons_of_mem _ hz)
      obtain ⟨q1, q2, _⟩ := nodup_kid (k' := k) hn hk
      rcases List.mem_cons.1 hb with h1 | h1
      · subst h1
        exact q1 hzk
      · obtain ⟨y, hy, hby⟩ := RT.mem_preL.1 h1
        obtain ⟨n, hn2, hny⟩ := List.mem_iff_getElem?.1 hy |>.imp fun n h => (⟨h, trivial⟩ : _ ∧ True)
        by_cases hjn : j.toNat = n
        · subst hjn
          rw [List.getElem?_set_self (show j.toNat < ks.length from (List.getElem?_eq_some_iff.1 hk).1)] at hn2
          obtain rfl := Option.some.inj hn2
          exact ih k up q2 e hz hf hby
        · rw [List.getElem?_set_ne hjn] at hn2
          exact (nodup_kid (k' := y) hn hk).2.2 n (fun e => hjn e.symm) hn2 _ hby hzk
/-- Each node of a tree has a place, and one alone. -/
theorem place_of (r : RT) : ∀ b ∈ r.pre, ∃ l y, r.at_ l = some y ∧ y.id = b := by
  induction r using RT.induct with
  | h i t a d at_ ks ih =>
    intro b hb
    rcases List.mem_cons.1 hb with h1 | h1
    · exact ⟨[], _, rfl, h1.symm⟩
    · obtain ⟨k, hk, hbk⟩ := RT.mem_preL.1 h1
      obtain ⟨l, y, h2, h3⟩ := ih k hk b hbk
      obtain ⟨n, hn, rfl⟩ := List.mem_iff_getElem.1 hk
      exact ⟨(n : Int) :: l, y, at_cons_mk (List.getElem?_eq_getElem hn) h2, h3⟩
theorem at_mem {l : List Int} {r y : RT} (h : r.at_ l = some y) : y.id ∈ r.pre := RT.sub_pre l r y h _ (RT.id_mem y)
theorem place_one : ∀ (l1 l2 : List Int) (r y1 y2 : RT), r.pre.Nodup → r.at_ l1 = some y1 → r.at_ l2 = some y2 → y1.id = y2.id → l1 = l2 := by
  intro l1
  induction l1 with
  | nil =>
    intro l2 r y1 y2 hn h1 h2 e
    cases l2 with
    | nil => rfl
    | cons j l2 =>
      obtain rfl : r = y1 := by simpa [RT.at_] using h1
      obtain ⟨_, k, hk, e2⟩ := at_cons h2
      cases r with
      | node i t a d at_ ks =>
        have := (nodup_kid (k' := k) hn hk).1
        exact absurd (by rw [show i = y2.id from e]; exact at_mem e2) this
  | cons j1 l1 ih =>
    intro l2 r y1 y2 hn h1 h2 e
    obtain ⟨p1, k1, hk1, e1⟩ := at_cons h1
    cases l2 with
    | nil =>
      obtain rfl : r = y2 := by simpa [RT.at_] using h2
      cases r with
      | node i t a d at_ ks =>
        have := (nodup_kid (k' := k1) hn hk1).1
        exact absurd (by rw [show i = y1.id from e.symm]; exact at_mem e1) this
    | cons j2 l2 =>
      obtain ⟨p2, k2, hk2, e2⟩ := at_cons h2
      cases r with
      | node i t a d at_ ks =>
        obtain ⟨_, q2, q3⟩ := nodup_kid (k' := k2) hn hk1
        by_cases hj : j2.toNat = j1.toNat
        · have hjj : j2 = j1 := by omega
          subst hjj
          rw [hk1] at hk2
          obtain rfl := Option.some.inj hk2
          rw [ih l2 k1 y1 y2 q2 e1 e2 e]
        · exact absurd (by rw [e]; exact at_mem e2 : y1.id ∈ k2.pre) (fun hm => q3 _ hj hk2 _ hm (at_mem e1))
/-! ### A property of all nodes -/
inductive RT.All (P : RT → Prop) : RT → Prop
  | mk (r : RT) (h : P r) (hk : ∀ k ∈ r.kids, RT.All P k) : RT.All P r
theorem RT.All.at {P : RT → Prop} {l : List Int} : ∀ {r y : RT}, r.at_ l = some y → RT.All P r → RT.All P y := by
  induction l with
  | nil =>
    intro r y h ha
    obtain rfl : r = y := by simpa [RT.at_] using h
    exact ha
  | cons j l ih =>
    intro r y h ha
    obtain ⟨_, k, hk, e⟩ := at_cons h
    cases ha with
    | mk _ _ hks => exact ih e (hks k (List.mem_of_getElem? hk))
theorem RT.All.mapAt {P : RT → Prop} (hO : ∀ r K, P r → P (r.withKids K)) {f : List RT → List RT} : ∀ (l : List Int) (r up : RT), r.at_ l = some up → RT.All P r → (∀ k ∈ f up.kids, RT.All P k) → RT.All P (r.mapAt f l) := by
  intro l
  induction l with
  | nil =>
    intro r up h ha hf
    obtain rfl : r = up := by simpa [RT.at_] using h
    cases r with
    | node i t a d at_ ks =>
      cases ha with
      | mk _ hp hks => exact ⟨_, hO _ (f ks) hp, hf⟩
  | cons j l ih =>
    intro r up h ha hf
    obtain ⟨_, k, hk, e⟩ := at_cons h
    cases r with
    | node i t a d at_ ks =>
      rw [RT.mapAt_cons _ _ _ _ _ _ _ _ _ (show ks[j.toNat]? = some k from hk)]
      cases ha with
      | mk _ hp hks =>
        refine ⟨_, hO _ (ks.set j.toNat (k.mapAt f l)) hp, fun y hy => ?_⟩
        rcases List.mem_or_eq_of_mem_set hy with h2 | h2
        · exact hks y h2
        · subst h2
          exact ih k up e (hks k (List.mem_of_getElem? hk)) hf
/-! ### The text -/
mutual
def RT.tx : RT → List UInt8
  | .node _ t _ d _ ks => if t = 1 then d.data.toList else if t = 4 then [] else RT.txL ks
def RT.txL : List RT → List UInt8
  | [] => []
  | k :: ks => k.tx ++ RT.txL ks
end
theorem RT.txL_append (l m : List RT) : RT.txL (l ++ m) = RT.txL l ++ RT.txL m := by
  induction l with
  | nil => rfl
  | cons k l ih => rw [List.cons_append, RT.txL, RT.txL, ih, List.append_assoc]
theorem RT.tx_withKids (r : RT) (K : List RT) (h : RT.txL K = RT.txL r.kids) : (r.withKids K).tx = r.tx := by
  cases r with
  | node i t a d at_ ks =>
    show (if t = 1 then d.data.toList else if t = 4 then [] else RT.txL K) = (if t = 1 then d.data.toList else if t = 4 then [] else RT.txL ks)
    rw [show RT.txL K = RT.txL ks from h]
theorem RT.txL_set : ∀ (ks : List RT) (j : Nat) (k k' : RT), ks[j]? = some k → k'.tx = k.tx → RT.txL (ks.set j k') = RT.txL ks
  | [], j, k, k', h, e => by simp at h
  | c :: ks, 0, k, k', h, e => by
    obtain rfl : c = k := by simpa using h
    show k'.tx ++ RT.txL ks = c.tx ++ RT.txL ks
    rw [e]
  | c :: ks, j + 1, k, k', h, e => by
    show c.tx ++ RT.txL (ks.set j k') = c.tx ++ RT.txL ks
    rw [RT.txL_set ks j k k' (by simpa using h) e]
theorem RT.tx_mapAt {f : List RT → List RT} : ∀ (l : List Int) (r up : RT), r.at_ l = some up → RT.txL (f up.kids) = RT.txL up.kids → (r.mapAt f l).tx = r.tx := by
  intro l
  induction l with
  | nil =>
    intro r up h hf
    obtain rfl : r = up := by simpa [RT.at_] using h
    cases r with
    | node i t a d at_ ks => exact RT.tx_withKids (.node i t a d at_ ks) (f ks) hf
  | cons j l ih =>
    intro r up h hf
    obtain ⟨_, k, hk, e⟩ := at_cons h
    cases r with
    | node i t a d at_ ks =>
      rw [RT.mapAt_cons _ _ _ _ _ _ _ _ _ (show ks[j.toNat]? = some k from hk)]
      exact RT.tx_withKids (.node i t a d at_ ks) _ (RT.txL_set ks _ k _ hk (ih k up e hf))
/-! ### One within another -/
mutual
def RT.within (m : RT → Bool) (b : Bool) : RT → Bool
  | .node i t a d at_ ks => (m (.node i t a d at_ []) && b) || RT.withinL m (b || m (.node i t a d at_ [])) ks
def RT.withinL (m : RT → Bool) (b : Bool) : List RT → Bool
  | [] => false
  | k :: ks => RT.within m b k || RT.withinL m b ks
end
theorem withinL_iff {m : RT → Bool} {b : Bool} : ∀ {ks : List RT}, RT.withinL m b ks = true ↔ ∃ k ∈ ks, RT.within m b k = true
  | [] => by simp [RT.withinL]
  | k :: ks => by
    rw [RT.withinL, Bool.or_eq_true, withinL_iff (ks := ks)]
    simp
theorem within_iff {m : RT → Bool} (hO : Own m) (r : RT) : ∀ b, RT.within m b r = true ↔ ∃ l y, r.at_ l = some y ∧ m y = true ∧ (b = true ∨ r.anyUp m l = true) := by
  induction r using RT.induct with
  | h i t a d at_ ks ih =>
    intro b
    have hm : m (.node i t a d at_ []) = m (.node i t a d at_ ks) := (hO (.node i t a d at_ ks) []).symm ▸ rfl
    rw [RT.within, hm, Bool.or_eq_true, Bool.and_eq_true, withinL_iff]
    constructor
    · rintro (⟨h1, h2⟩ | ⟨k, hk, h⟩)
      · exact ⟨[], _, rfl, h1, .inl h2⟩
      · obtain ⟨l, y, e1, e2, e3⟩ := (ih k hk _).1 h
        obtain ⟨n, hn, rfl⟩ := List.mem_iff_getElem.1 hk
        refine ⟨(n : Int) :: l, y, at_cons_mk (List.getElem?_eq_getElem hn) e1, e2, ?_⟩
        rw [anyUp_cons (j := (n : Int)) (k := ks[n]) (by show ks[((n : Int).toNat)]? = _; rw [show ((n : Int).toNat) = n from by omega]; exact List.getElem?_eq_getElem hn)]
        rcases e3 with e3 | e3
        · rw [Bool.or_eq_true] at e3
          rcases e3 with e3 | e3
          · exact .inl e3
          · exact .inr (by rw [e3]; rfl)
        · exact .inr (by rw [e3]; simp)
    · rintro ⟨l, y, e1, e2, e3⟩
      cases l with
      | nil =>
        obtain rfl : RT.node i t a d at_ ks = y := by simpa [RT.at_] using e1
        rcases e3 with e3 | e3
        · exact .inl ⟨e2, e3⟩
        · simp [RT.anyUp] at e3
      | cons j l =>
        obtain ⟨_, k, hk, e⟩ := at_cons e1
        refine .inr ⟨k, List.mem_of_getElem? hk, (ih k (List.mem_of_getElem? hk) _).2 ⟨l, y, e, e2, ?_⟩⟩
        rw [anyUp_cons hk, Bool.or_eq_true] at e3
        rcases e3 with e3 | e3 | e3
        · exact .inl (by rw [e3]; rfl)
        · exact .inl (by rw [e3]; simp)
        · exact .inr e3
/-! ### What stands while the nodes of a tree are gone through -/
structure Red (m : RT → Bool) (r0 r : RT) (j : Nat) : Prop where
  id : r.id = r0.id
  text : r.tx = r0.tx
  left : ∀ x ∈ r0.pre.drop j, x ∈ r.pre
  sub : ∀ x ∈ r.pre, x ∈ r0.pre
  done : ∀ l y, r.at_ l = some y → y.id ∈ r0.pre.take j → ¬ (m y = true ∧ r.anyUp m l = true)
  same : RT.within m false r0 = false → r = r0
  len : r.pre.length ≤ r0.pre.length
theorem Red.start (m : RT → Bool) (r : RT) : Red m r r 0 := ⟨rfl, rfl, fun x h => by simpa using h, fun x h => h, fun l y _ h => by simp at h, fun _ => rfl, Nat.le_refl _⟩
theorem take_mem {l : List Nat} {j : Nat} (h : j < l.length) {x : Nat} (hx : x ∈ l.take (j + 1)) : x ∈ l.take j ∨ x = l[j] := by
  rw [List.take_succ_eq_append_getElem h] at hx
  rcases List.mem_append.1 hx with h1 | h1
  · exact .inl h1
  · exact .inr (List.mem_singleton.1 h1)
/-- The node isn't one within another. -/
theorem Red.keep {m : RT → Bool} {r0 r : RT} {j : Nat} (h : Red m r0 r j) (hj : j < r0.pre.length) (hn : r.pre.Nodup) {l : List Int} {y : RT} (hy : r.at_ l = some y) (hid : y.id = r0.pre[j]) (hb : ¬ (m y = true ∧ r.anyUp m l = true)) : Red m r0 r (j + 1) :=
  ⟨h.id, h.text, fun x hx => h.left x (by
    have : x ∈ (r0.pre.drop j).drop 1 := by rw [List.drop_drop]; exact hx
    exact List.mem_of_mem_drop this), h.sub, fun l' y' hy' hm => by
    rcases take_mem hj hm with h1 | h1
    · exact h.done l' y' hy' h1
    · obtain rfl := place_one l' l r y' y hn hy' hy (h1.trans hid.symm)
      rw [hy] at hy'
      obtain rfl := Option.some.inj hy'
      exact hb, h.same, h.len⟩
/-- The node stands within another one: its children come up into its place. -/
theorem Red.unwrap {m : RT → Bool} (hO : Own m) {D : Tab} (wf : WF D) {r0 r : RT} {j : Nat} (h : Red m r0 r j) (hj : j < r0.pre.length) (hr : Is D none r) (h0 : r0.pre.Nodup) {l : List Int} {y up : RT} {k1 k2 : List RT} {n : Int} (hy : r.at_ l = some y) (hid : y.id = r0.pre[j]) (hm : m y = true) (ha : r.anyUp m l = true) (hty : y.ty = 3)
    (hl : l = l.dropLast ++ [n]) (hu : r.at_ l.dropLast = some up) (hk : up.kids = k1 ++ y :: k2) : Red m r0 (r.mapAt (fun _ => k1 ++ y.kids ++ k2) l.dropLast) (j + 1) := by
  obtain ⟨q, hq⟩ := hr.up hu
  obtain ⟨a1, a2, a3, a4⟩ := kids_apart wf hq hk
  have hn := Is.nodup wf r hr
  have hyp : y.pre = y.id :: RT.preL y.kids := by cases y; rfl
  have hsub : ∀ b ∈ RT.preL (k1 ++ y.kids ++ k2), b ∈ RT.preL up.kids := fun b hb => by
    rw [hk, RT.preL_append, RT.preL, hyp]
    rw [RT.preL_append, RT.preL_append] at hb
    simp only [List.mem_append, List.mem_cons] at hb ⊢
    rcases hb with (hb | hb) | hb
    · exact .inl hb
    · exact .inr (.inl (.inr hb))
    · exact .inr (.inr hb)
  have hnot : y.id ∉ (r.mapAt (fun _ => k1 ++ y.kids ++ k2) l.dropLast).pre := by
    refine pre_mapAt_not _ _ _ hn hu a4 (fun hb => ?_)
    rw [RT.preL_append, RT.preL_append] at hb
    simp only [List.mem_append] at hb
    rcases hb with (hb | hb) | hb
    · obtain ⟨k, hk2, hb2⟩ := RT.mem_preL.1 hb
      exact (a1 k (List.mem_append_left _ hk2) _ hb2).2 rfl
    · exact (a2 _ hb).2 rfl
    · obtain ⟨k, hk2, hb2⟩ := RT.mem_preL.1 hb
      exact (a1 k (List.mem_append_right _ hk2) _ hb2).2 rfl
  have E : Emb m (r.mapAt (fun _ => k1 ++ y.kids ++ k2) l.dropLast) r := Emb.mapAt hO _ _ _ hu (unwrap_emb hO hk)
  refine ⟨(RT.mapAt_id _ _ _).trans h.id, ?_, fun x hx => ?_, fun x hx => h.sub x (pre_mapAt_sub _ _ _ hu hsub x hx), fun l' y' hy' hm' => ?_, fun hw => ?_, ?_⟩
  · rw [RT.tx_mapAt _ _ _ hu, h.text]
    rw [hk, RT.txL_append, RT.txL_append, RT.txL_append, RT.txL, List.append_assoc]
    have : y.tx = RT.txL y.kids := by
      cases y with
      | node i t a d at_ ks =>
        obtain rfl : t = 3 := hty
        rfl
    rw [this]
  · have hx0 : x ∈ r0.pre.drop j := by
      have : x ∈ (r0.pre.drop j).drop 1 := by rw [List.drop_drop]; exact hx
      exact List.mem_of_mem_drop this
    refine pre_mapAt_keep (z := y.id) _ _ _ hu (fun b hb hz => ?_) x (h.left x hx0) (fun e => ?_)
    · rw [hk, RT.preL_append, RT.preL, hyp] at hb
      rw [RT.preL_append, RT.preL_append]
      simp only [List.mem_append, List.mem_cons] at hb ⊢
      rcases hb with hb | (hb | hb) | hb
      · exact .inl (.inl hb)
      · exact absurd hb hz
      · exact .inl (.inr hb)
      · exact .inr hb
    · rw [hid] at e
      rw [e] at hx
      have hd := List.drop_eq_getElem_cons hj
      have hnd : (r0.pre.drop j).Nodup := h0.sublist (List.drop_sublist _ _)
      rw [hd] at hnd
      exact (List.nodup_cons.1 hnd).1 hx
  · rcases take_mem hj hm' with h1 | h1
    · obtain ⟨l2, y2, e1, e2, e3, e4⟩ := E.way l' y' hy'
      rintro ⟨g1, g2⟩
      exact h.done l2 y2 e1 (by rw [e2]; exact h1) ⟨by rw [e3]; exact g1, e4 g2⟩
    · exact absurd (by rw [hid, ← h1]; exact at_mem hy') hnot
  · have hrr := h.same hw
    rw [hrr] at hy ha
    rw [(within_iff hO r0 false).2 ⟨l, y, hy, hm, .inr ha⟩] at hw
    cases hw
  · refine Nat.le_trans (pre_mapAt_len _ _ _ hu ?_) h.len
    rw [hk, RT.preL_append, RT.preL_append, RT.preL_append, RT.preL, hyp]
    simp only [List.length_append, List.length_cons]
    omega
/-- At the end nothing stands within another one. -/
theorem Red.finish {m : RT → Bool} (hO : Own m) {r0 r : RT} (h : Red m r0 r r0.pre.length) : RT.within m false r = false := by
  cases hw : RT.within m false r with
  | false => rfl
  | true =>
    obtain ⟨l, y, e1, e2, e3⟩ := (within_iff hO r false).1 hw
    rcases e3 with e3 | e3
    · cases e3
    · exact absurd ⟨e2, e3⟩ (h.done l y e1 (by rw [List.take_length]; exact h.sub _ (at_mem e1)))
/-- Attributes that can be counted, and a kind that is known. -/
def okN (r : RT) : Prop := r.attrs.length ≤ 4398046510976 ∧ (r.ty = 1 ∨ r.ty = 3 ∨ r.ty = 4)
theorem okN_own (r : RT) (K : List RT) (h : okN r) : okN (r.withKids K) := by cases r; exact h
theorem rfit_all (r : RT) : RT.All okN r → r.pre.length ≤ 1000000000000 → RFit r := by
  induction r using RT.induct with
  | h i t a d at_ ks ih =>
    intro ha hl
    cases ha with
    | mk _ hp hk =>
      have h1 := RT.kids_lt (.node i t a d at_ ks)
      refine .mk i t a d at_ ks hp.1 ?_ (fun k hkm => ih k hkm (hk k hkm) ?_)
      · have : ks.length < (RT.node i t a d at_ ks).pre.length := h1
        omega
      · have := RT.kid_pre (r := .node i t a d at_ ks) hkm
        omega
end Go.Proofs.Ytmfjbljdbkmkgaa.Dom

/- impl.named: a function that tells whether a node is an element of one of some names. -/
namespace Go.Proofs.Ytmfjbljdbkmkgaa.Dom
open Go.RowKit Go.Proofs.YtmfjbljdbkmkgaaW.PrintWords Go.Proofs.YtmfjbljdbkmkgaaW.PrintLast Go.Proofs.YtmfjbljdbkmkgaaW.PrintMore Go.Proofs.Ytmfjbljdbkmkgaa.PDom
set_option linter.unusedVariables false
set_option linter.unusedSimpArgs false

def elemD (D : Tab) (names : List ByteArray) (x : Nat) : Bool := match D x with
  | some i => i.ty == 3 && names.any fun s => i.data.toList == s.toList
  | none => false
theorem any_dropN {α : Type} {l : List α} {P : α → Bool} {m : Nat} (h : m < l.length) : (l.drop m).any P = if P l[m] = true then true else (l.drop (m + 1)).any P := by
  rw [List.drop_eq_getElem_cons h, List.any_cons]
  cases P l[m] <;> rfl
set_option maxHeartbeats 400000 in
set_option maxRecDepth 100000 in
theorem named1_calls (w : World) (D : Tab) (hdom : Dom w D) (b : Nat) (A : Option Addr) (c : Nat) (names : List ByteArray) (hb : w.heap[b]? = some (.cells #[.slice A names.length c] 28 (0, 0))) (hr : Kd.string.C w A names.length names) (hl : names.length ≤ 4611686018427387904) :
    TellsB w D 61 #[.pointer (some ⟨b, 0, none⟩)] (elemD D names) := by
  intro x hx
  cases hi : D x with
  | none => exact absurd hi hx
  | some i =>
    have e : elemD D names x = (i.ty == 3 && names.any fun s => i.data.toList == s.toList) := by unfold elemD; rw [hi]
    rw [e]
    have HN := Aside0.mk (node_calls w D x i hdom hi)
    have c5 := ty_cell hdom hi
    have e5 : tyAt D x = i.ty := by unfold tyAt; rw [hi]
    rw [e5] at c5
    have HR := Aside0.mk hr
    have c0 : w.cell? ⟨b, 0, none⟩ = some (.slice A names.length c) := by rw [blk_cell hb]; rfl
    clear hx hi hb hr e e5 hdom
    obtain ⟨p, ks, ty, at_, d, as_⟩ := i
    by_cases t3 : ty = 3
    · subst t3
      have hn : nameOf ⟨p, ks, 3, at_, d, as_⟩ = d := rfl
      rw [hn] at HN
      simp only at c5 ⊢
      clear hn
      show Calls _ _ #[ptr (some x), .pointer (some ⟨b, 0, none⟩)] _ _
      simp only [ptr_some] at HN ⊢
      go_enter Try.func61, Try.ntmps61
      go_wp2_with fail
      go_loop [8] (fun vi => ∃ j : Nat, j ≤ names.length ∧ vi = .int .i64 j ∧ Aside0 ((names.any fun s => d.toList == s.toList) = (names.drop j).any fun s => d.toList == s.toList)) (fun vi => names.length - (intOf vi).toNat)
      case atStart => exact ⟨0, Nat.zero_le _, rfl, ⟨by rw [List.drop_zero]⟩⟩
      case round =>
        obtain ⟨j, hj, rfl, HF⟩ := hrel
        by_cases hlt : j < names.length
        · obtain ⟨ad, rfl, hcell⟩ := Kd.at_string HR.out (j : Int) (by omega) (by omega)
          have he : rdOf ByteArray.empty names (j : Int) = names[j] := by simp [rdOf, List.getD_eq_getElem?_getD, List.getElem?_eq_getElem hlt]
          rw [he, Int.toNat_natCast] at hcell
          have HD := Aside0.mk (any_dropN (P := fun s => d.toList == s.toList) hlt)
          clear he
          generalize names[j] = s at *
          cases hq : (d.toList == s.toList) with
          | true =>
            have HQ := Aside0.mk hq
            go_wp2_with (go_at_call 62; go_must (refine HN.out.mono ?_; rintro e w' ⟨rfl, rfl⟩))
            go_ret
            refine ⟨?_, rfl⟩
            rw [HF.out, HD.out, HQ.out]
            rfl
          | false =>
            have HQ := Aside0.mk hq
            go_wp2_with (go_at_call 62; go_must (refine HN.out.mono ?_; rintro e w' ⟨rfl, rfl⟩))
            go_round
            case rel => exact ⟨j + 1, by omega, by go_num, ⟨by rw [HF.out, HD.out, HQ.out]; rfl⟩⟩
            case measure => simp [intOf]; omega
        · have hje : j = names.length := by omega
          subst hje
          go_wp2_with fail
          go_ret
          refine ⟨?_, rfl⟩
          rw [HF.out, List.drop_length]
          rfl
    · have b3 : (ty == 3) = false := beq_eq_false_iff_ne.2 t3
      simp only at c5 ⊢
      rw [b3]
      show Calls _ _ #[ptr (some x), .pointer (some ⟨b, 0, none⟩)] _ _
      simp only [ptr_some] at HN ⊢
      clear HN t3
      go_enter Try.func61, Try.ntmps61
      go_wp2_with fail
      go_loop [8] (fun vi => ∃ j : Nat, j ≤ names.length ∧ vi = .int .i64 j) (fun vi => names.length - (intOf vi).toNat)
      case atStart => exact ⟨0, Nat.zero_le _, rfl⟩
      case round =>
        obtain ⟨j, hj, rfl⟩ := hrel
        by_cases hlt : j < names.length
        · obtain ⟨ad, rfl, hcell⟩ := Kd.at_string HR.out (j : Int) (by omega) (by omega)
          have he : rdOf ByteArray.empty names (j : Int) = names[j] := by simp [rdOf, List.getD_eq_getElem?_getD, List.getElem?_eq_getElem hlt]
          rw [he, Int.toNat_natCast] at hcell
          clear he
          generalize names[j] = s at *
          go_wp2_with fail
          go_round
          case rel => exact ⟨j + 1, by omega, by go_num⟩
          case measure => simp [intOf]; omega
        · have hje : j = names.length := by omega
          subst hje
          go_wp2_with fail
          go_ret
          exact ⟨rfl, rfl⟩
theorem named_calls (w : World) (A : Option Addr) (n c : Nat) :
    Calls Try.prog 32 #[.slice A n c] w fun e w' => e = .returned (.func (Fn.func 61) #[] #[.pointer (some ⟨w.heap.size, 0, none⟩)]) ∧ w' = w.alloc (.cells #[.slice A n c] 28) := by
  have hmf : ∀ (fn : Fn) (first cap : Array Value) (w : World), (Instr.makeFunc fn first cap).run Try.prog w = .ok (.func fn first cap) w := fun _ _ _ _ => rfl
  go_enter Try.func32, Try.ntmps32
  go_wp2
  go_ret
  exact ⟨rfl, rfl⟩
end Go.Proofs.Ytmfjbljdbkmkgaa.Dom

/- impl.behind, over a function that changes a tree: what it returns. -/
namespace Go.Proofs.Ytmfjbljdbkmkgaa.Dom
open Go.RowKit Go.Proofs.YtmfjbljdbkmkgaaW.PrintWords Go.Proofs.YtmfjbljdbkmkgaaW.PrintLast Go.Proofs.YtmfjbljdbkmkgaaW.PrintMore Go.Proofs.Ytmfjbljdbkmkgaa.PDom
set_option linter.unusedVariables false
set_option linter.unusedSimpArgs false

def dumI : Info := ⟨none, [], 0, 0, ⟨#[]⟩, []⟩
/-- What the closure leaves in the box b. -/
def Boxed (w w' : World) (b : Nat) (u : T) : Prop := ∃ A3 c3 A4 c4, w'.heap[b]? = some (.cells #[.int .i64 u.f0, .string u.f1, .string u.f2, .slice A3 u.f3.length c3, .slice A4 u.f4.length c4] 25 (0, 0)) ∧ u.f3.length ≤ c3 ∧ Kd.F k53 w' (fun k => w.heap.size ≤ k) A3 u.f3.length u.f3 ∧ u.f4.length ≤ c4 ∧ Kd.F k25 w' (fun k => w.heap.size ≤ k) A4 u.f4.length u.f4 ∧ Only (put none_ b dumI) w w' ∧
  Kd.R k53 53 w' w.heap.size (fun k => w.heap.size ≤ k) (.slice A3 u.f3.length c3) u.f3 ∧ Kd.N k25 25 w' w.heap.size (fun k => w.heap.size ≤ k ∧ some k ≠ (Value.slice A3 u.f3.length c3).ownBlock) (.slice A4 u.f4.length c4) u.f4
theorem only_box {w w' : World} {b : Nat} (hb : ∀ k, k < w.heap.size → k ≠ b → w'.heap[k]? = w.heap[k]?) (h1 : w'.os = w.os) (h2 : w'.tape = w.tape) (h3 : w'.output = w.output) (h4 : w.heap.size ≤ w'.heap.size) : Only (put none_ b dumI) w w' :=
  ⟨h1, h2, h3, h4, fun k hk hd => hb k hk (fun e => by subst e; rw [put_same] at hd; cases hd)⟩
theorem put_none (b k : Nat) (h : k ≠ b) : put none_ b dumI k = none := put_other _ _ h
theorem sets5_box {w : World} {b : Nat} {x0 x1 x2 x3 x4 : Value} (h : w.heap[b]? = some (.cells #[x0, x1, x2, x3, x4] 25 (0, 0))) (a0 a1 a2 a3 a4 : Value) :
    (((((w.setCell ⟨b, 0, none⟩ a0).setCell ⟨b, 1, none⟩ a1).setCell ⟨b, 2, none⟩ a2).setCell ⟨b, 3, none⟩ a3).setCell ⟨b, 4, none⟩ a4).heap[b]? = some (.cells #[a0, a1, a2, a3, a4] 25 (0, 0)) :=
  blk_set (blk_set (blk_set (blk_set (blk_set h 0 a0) 1 a1) 2 a2) 3 a3) 4 a4
theorem boxed_end {w w4 : World} {b : Nat} {u : T} {x0 x1 x2 x3 x4 : Value} {A5 A6 : Option Addr} {c5 c6 : Nat} (hb : b < w.heap.size) (h : w4.heap[b]? = some (.cells #[x0, x1, x2, x3, x4] 25 (0, 0))) (hB : Below w.heap.size w w4)
    (m5 : u.f3.length ≤ c5) (F5 : Kd.F k53 w4 (fun k => w.heap.size ≤ k) A5 u.f3.length u.f3) (m6 : u.f4.length ≤ c6) (F6 : Kd.F k25 w4 (fun k => w.heap.size ≤ k) A6 u.f4.length u.f4) (R5 : Kd.R k53 53 w4 w.heap.size (fun k => w.heap.size ≤ k) (.slice A5 u.f3.length c5) u.f3) (N6 : Kd.N k25 25 w4 w.heap.size (fun k => w.heap.size ≤ k ∧ some k ≠ (Value.slice A5 u.f3.length c5).ownBlock) (.slice A6 u.f4.length c6) u.f4) :
    Boxed w (((((w4.setCell ⟨b, 0, none⟩ (.int .i64 u.f0)).setCell ⟨b, 1, none⟩ (.string u.f1)).setCell ⟨b, 2, none⟩ (.string u.f2)).setCell ⟨b, 3, none⟩ (.slice A5 u.f3.length c5)).setCell ⟨b, 4, none⟩ (.slice A6 u.f4.length c6)) b u := by
  have hs := fun k (hk : k ≠ b) => sets5 w4 b (.int .i64 u.f0) (.string u.f1) (.string u.f2) (.slice A5 u.f3.length c5) (.slice A6 u.f4.length c6) k hk
  have hbb : Below 0 w4 (((((w4.setCell ⟨b, 0, none⟩ (.int .i64 u.f0)).setCell ⟨b, 1, none⟩ (.string u.f1)).setCell ⟨b, 2, none⟩ (.string u.f2)).setCell ⟨b, 3, none⟩ (.slice A5 u.f3.length c5)).setCell ⟨b, 4, none⟩ (.slice A6 u.f4.length c6)) :=
    Below.setCell (Below.setCell (Below.setCell (Below.setCell (Below.setCell (Below.refl 0 w4) (p := ⟨b, 0, none⟩) (Nat.zero_le _) _) (p := ⟨b, 1, none⟩) (Nat.zero_le _) _) (p := ⟨b, 2, none⟩) (Nat.zero_le _) _) (p := ⟨b, 3, none⟩) (Nat.zero_le _) _) (p := ⟨b, 4, none⟩) (Nat.zero_le _) _
  refine ⟨A5, c5, A6, c6, sets5_box h _ _ _ _ _, m5, Kd.F_step F5 (fun k hk _ => hs k (by omega)), m6, Kd.F_step F6 (fun k hk _ => hs k (by omega)), ?_, Kd.R_step R5 (fun k hk _ => hs k (by omega)), Kd.N_step N6 (fun k hk _ => hs k (by have := hk.1; omega))⟩
  exact only_box (fun k hk hne => (hs k hne).trans (hB.block k hk)) (hbb.os.trans hB.os) (hbb.tape.trans hB.tape) (hbb.output.trans hB.output) (Nat.le_trans hB.size hbb.size)
set_option maxHeartbeats 1000000 in
set_option maxRecDepth 100000 in
theorem beh1_calls (F : Nat) (cap : Array Value) (hF : ∀ (args : Array Value) (w : World), (callFunc F args).run Try.prog w = .ok (.enter F args) w) (P : T → Prop) (t : T) (ht : Fit t) (w : World) (b0 b1 b2 : Nat) (A3 : Option Addr) (c3 : Nat) (A4 : Option Addr) (c4 : Nat)
    (hb0 : w.heap[b0]? = some (.cells #[.int .i64 t.f0, .string t.f1, .string t.f2, .slice A3 t.f3.length c3, .slice A4 t.f4.length c4] 25 (0, 0))) (hb1 : w.heap[b1]? = some (.cells #[.func (.func F) #[] cap] 50 (0, 0))) (hb2 : w.heap[b2]? = some (.cells #[.int .i64 0, .string ⟨#[]⟩, .string ⟨#[]⟩, .slice none 0 0, .slice none 0 0] 25 (0, 0)))
    (h3 : Kd.C k53 w A3 t.f3.length t.f3) (l3 : t.f3.length ≤ c3) (h4 : Kd.C k25 w A4 t.f4.length t.f4) (l4 : t.f4.length ≤ c4)
    (hdo : ∀ W D r, Below w.heap.size w W → (∀ k, k < w.heap.size → D k = none) → Dom W D → Is D none r → TellsT t r → Calls Try.prog F (#[.pointer (some ⟨r.id, 0, none⟩)] ++ cap) W fun e w' => e = .returned (.tuple #[]) ∧ ∃ u, P u ∧ Turns W w' D r u) :
    Calls Try.prog 64 #[.pointer (some ⟨b0, 0, none⟩), .pointer (some ⟨b1, 0, none⟩), .pointer (some ⟨b2, 0, none⟩)] w fun e w' => e = .returned (.tuple #[]) ∧ ∃ u, P u ∧ Boxed w w' b2 u := by
  have HM := Aside0.mk (made_calls _ t (Nat.le_refl _) ht w A3 c3 A4 c4 h3 l3 h4 l4)
  have HDO := Aside0.mk hdo
  have HB1 := Aside0.mk hb1
  have HB2 := Aside0.mk hb2
  have a0 := blk_cell hb0 0
  have a1 := blk_cell hb0 1
  have a2 := blk_cell hb0 2
  have a3 := blk_cell hb0 3
  have a4 := blk_cell hb0 4
  have d0 := blk_cell hb1 0
  clear hdo hb0 hb1 hb2 h3 h4 l3 l4 ht
  go_enter Try.func64, Try.ntmps64
  go_wp2_with fail
  refine HM.out.mono ?_
  rintro e w1 ⟨b, D, rfl, hm⟩
  obtain ⟨i0, hi0⟩ : ∃ i, D b = some i := by
    obtain ⟨_, _, i, h, _⟩ := hm.tree
    exact ⟨i, h⟩
  obtain ⟨r, rfl, hr, hto⟩ := hm.tree.rt hm.dom.wf i0 hi0
  have hroot := hm.root i0 hi0
  rw [hroot] at hr
  have hnone : ∀ k, k < w.heap.size → D k = none := fun k hk => by
    cases hd : D k with
    | none => rfl
    | some i => have := hm.fresh k (by rw [hd]; simp); omega
  have HF := Aside0.mk (HDO.out w1 D r hm.below hnone hm.dom hr hto)
  have HBL := Aside0.mk hm.below
  have HNO := Aside0.mk hnone
  have d1 := blk_cell ((hm.below.block _ (blk_lt HB1.out)).trans HB1.out) 0
  clear HM HDO hm hi0 hroot hr hto hnone d0 a0 a1 a2 a3 a4
  generalize hri : r.id = ri at *
  have HRI := Aside0.mk hri
  clear hri
  simp only [ptr_some] at HF ⊢
  go_wp2_with fail
  refine HF.out.mono ?_
  rintro e w3 ⟨rfl, u, hu, D', r', hd', hr', hid, hfit, hto, hon, hnn⟩
  have HT := Aside0.mk (told_calls D' r' none hr' hfit w3 hd')
  rw [hid, HRI.out, hto] at HT
  have HB3 := Aside0.mk (HBL.out.trans (hon.below HBL.out.size (fun k hk => HNO.out k hk)))
  have HU := Aside0.mk hu
  clear hd' hr' hid hfit hto hon hnn HF d1 hu
  simp only [ptr_some] at HT
  go_wp2_with fail
  refine HT.out.mono ?_
  rintro e w4 ⟨A5, c5, A6, c6, rfl, m5, F5, m6, F6, hb4, R5, N6⟩
  have HB4 := Aside0.mk (below_step HB3.out hb4)
  have hb64 := (HB4.out.block _ (blk_lt HB2.out)).trans HB2.out
  have HB64 := Aside0.mk hb64
  have HE := Aside0.mk (boxed_end (blk_lt HB2.out) hb64 HB4.out m5 (Kd.F_mono F5 (fun k hk => Nat.le_trans HB3.out.size hk)) m6 (Kd.F_mono F6 (fun k hk => Nat.le_trans HB3.out.size hk)) (Kd.R_lower (Kd.R_mono R5 (fun k hk => Nat.le_trans HB3.out.size hk)) HB3.out.size) (Kd.N_lower (Kd.N_mono N6 (fun k hk => ⟨Nat.le_trans HB3.out.size hk.1, hk.2⟩)) HB3.out.size))
  have r0 := blk_cell hb64 0
  have r1 := blk_cell hb64 1
  have r2 := blk_cell hb64 2
  have r3 := blk_cell hb64 3
  have r4 := blk_cell hb64 4
  have f0 := blk_frozen hb64 0
  have f1 := blk_frozen hb64 1
  have f2 := blk_frozen hb64 2
  have f3 := blk_frozen hb64 3
  have f4 := blk_frozen hb64 4
  clear m5 F5 m6 F6 R5 N6 hb4 hb64 HT
  go_wp2_with fail
  go_end0
  exact ⟨rfl, u, HU.out, HE.out⟩
theorem enters_beh1 : ∀ (args : Array Value) (w : World), (callFunc 64 args).run Try.prog w = .ok (.enter 64 args) w := fun _ _ => by kernel_rfl
theorem four_boxes (w : World) (o0 o1 o2 o3 : Obj) : ((((w.alloc o0).alloc o1).alloc o2).alloc o3).heap.size = w.heap.size + 4 ∧ Below w.heap.size w ((((w.alloc o0).alloc o1).alloc o2).alloc o3) ∧ ((((w.alloc o0).alloc o1).alloc o2).alloc o3).heap[w.heap.size]? = some o0 ∧
    ((((w.alloc o0).alloc o1).alloc o2).alloc o3).heap[w.heap.size + 1]? = some o1 ∧ ((((w.alloc o0).alloc o1).alloc o2).alloc o3).heap[w.heap.size + 2]? = some o2 ∧ ((((w.alloc o0).alloc o1).alloc o2).alloc o3).heap[w.heap.size + 3]? = some o3 := by
  have e : ((((w.alloc o0).alloc o1).alloc o2).alloc o3).heap = (((w.heap.push o0).push o1).push o2).push o3 := rfl
  refine ⟨by rw [e]; simp, below_alloc (below_alloc (below_alloc (below_alloc (Below.refl _ _) _) _) _) _, ?_, ?_, ?_, ?_⟩ <;> rw [e] <;> simp only [Array.getElem?_push, Array.size_push] <;> repeat (first | rfl | rw [if_pos trivial] | rw [if_pos (by omega)] | rw [if_neg (by omega)])
set_option maxHeartbeats 1000000 in
set_option maxRecDepth 100000 in
theorem behind_calls (F : Nat) (cap : Array Value) (hF : ∀ (args : Array Value) (w : World), (callFunc F args).run Try.prog w = .ok (.enter F args) w) (P : T → Prop) (t : T) (ht : Fit t) (w : World) (A3 : Option Addr) (c3 : Nat) (A4 : Option Addr) (c4 : Nat)
    (h3 : Kd.C k53 w A3 t.f3.length t.f3) (l3 : t.f3.length ≤ c3) (h4 : Kd.C k25 w A4 t.f4.length t.f4) (l4 : t.f4.length ≤ c4)
    (hdo : ∀ W D r, Below w.heap.size w W → (∀ k, k < w.heap.size → D k = none) → Dom W D → Is D none r → TellsT t r → Calls Try.prog F (#[.pointer (some ⟨r.id, 0, none⟩)] ++ cap) W fun e w' => e = .returned (.tuple #[]) ∧ ∃ u, P u ∧ Turns W w' D r u) :
    Calls Try.prog 33 #[.agg #[.int .i64 t.f0, .string t.f1, .string t.f2, .slice A3 t.f3.length c3, .slice A4 t.f4.length c4], .func (.func F) #[] cap] w fun e w' => ∃ u, P u ∧ Told w w' u e := by
  have hmf : ∀ (fn : Fn) (first cap : Array Value) (w : World), (Instr.makeFunc fn first cap).run Try.prog w = .ok (.func fn first cap) w := fun _ _ _ _ => rfl
  obtain ⟨W0, hW0⟩ : ∃ W0, W0 = (((w.alloc (.cells #[.int .i64 t.f0, .string t.f1, .string t.f2, .slice A3 t.f3.length c3, .slice A4 t.f4.length c4] 25)).alloc (.cells #[.func (.func F) #[] cap] 50)).alloc (.cells #[.int .i64 0, .string ⟨#[]⟩, .string ⟨#[]⟩, .slice none 0 0, .slice none 0 0] 25)).alloc (.cells #[.int .i64 0, .string ⟨#[]⟩, .string ⟨#[]⟩, .slice none 0 0, .slice none 0 0] 25) := ⟨_, rfl⟩
  obtain ⟨hsz, hB0, hk0, hk1, hk2, hk3⟩ := four_boxes w (.cells #[.int .i64 t.f0, .string t.f1, .string t.f2, .slice A3 t.f3.length c3, .slice A4 t.f4.length c4] 25) (.cells #[.func (.func F) #[] cap] 50) (.cells #[.int .i64 0, .string ⟨#[]⟩, .string ⟨#[]⟩, .slice none 0 0, .slice none 0 0] 25) (.cells #[.int .i64 0, .string ⟨#[]⟩, .string ⟨#[]⟩, .slice none 0 0, .slice none 0 0] 25)
  rw [← hW0] at hsz hB0 hk0 hk1 hk2 hk3
  have hB1 : Below W0.heap.size W0 (W0.alloc (.cells #[.bool false] 4)) := below_alloc (Below.refl _ _) _
  have hB01 := below_step hB0 hB1
  have HG := Aside0.mk (Guard.guarded_calls 64 #[.pointer (some ⟨w.heap.size, 0, none⟩), .pointer (some ⟨w.heap.size + 1, 0, none⟩), .pointer (some ⟨w.heap.size + 3, 0, none⟩)] W0 (fun w' => ∃ u, P u ∧ Boxed (W0.alloc (.cells #[.bool false] 4)) w' (w.heap.size + 3) u) enters_beh1
    ((beh1_calls F cap hF P t ht _ w.heap.size (w.heap.size + 1) (w.heap.size + 3) A3 c3 A4 c4 ((hB1.block _ (by omega)).trans hk0) ((hB1.block _ (by omega)).trans hk1) ((hB1.block _ (by omega)).trans hk3) (Kd.C_below h3 hB01) l3 (Kd.C_below h4 hB01) l4
      (fun W D r hW hno hd hr hto => hdo W D r (by refine below_step hB0 (Below.trans hB1 ?_); exact hW.mono (by rw [push_size]; omega)) (fun k hk => hno k (by rw [push_size]; omega)) hd hr hto)).mono fun e w' h => by
        obtain ⟨rfl, u, hu, hx⟩ := h
        refine ⟨rfl, ?_, u, hu, hx⟩
        obtain ⟨_, _, _, _, _, _, _, _, _, ho, _, _⟩ := hx
        exact (ho.block _ (by rw [push_size]; omega) (put_none _ _ (by omega))).trans (heap_alloc_new W0 _)))
  have HZ := Aside0.mk hsz
  have HB0 := Aside0.mk hB0
  have K2 := Aside0.mk hk2
  clear hdo ht h3 h4 l3 l4 hB1 hB01 hk0 hk1 hk2 hk3 hsz hB0
  go_enter Try.func33, Try.ntmps33
  go_wp2_with fail
  rw [← hW0]
  refine HG.out.mono ?_
  rintro e w2 ⟨rfl, w3, ⟨u, hu, A5, c5, A6, c6, hbx, m5, F5, m6, F6, ho, R5, N6⟩, hbad, rfl⟩
  have hz := HZ.out
  have hbx2 : (w3.setCell ⟨W0.heap.size, 0, none⟩ (.bool false)).heap[w.heap.size + 3]? = _ := (Below.heap_setCell w3 ⟨W0.heap.size, 0, none⟩ _ (w.heap.size + 3) (by show _ ≠ W0.heap.size; omega)).trans hbx
  have r0 := blk_cell hbx2 0
  have r1 := blk_cell hbx2 1
  have r2 := blk_cell hbx2 2
  have r3 := blk_cell hbx2 3
  have r4 := blk_cell hbx2 4
  have hk2 : (w3.setCell ⟨W0.heap.size, 0, none⟩ (.bool false)).heap[w.heap.size + 2]? = _ := (Below.heap_setCell w3 ⟨W0.heap.size, 0, none⟩ _ (w.heap.size + 2) (by show _ ≠ W0.heap.size; omega)).trans ((ho.block _ (by rw [push_size]; omega) (put_none _ _ (by omega))).trans ((heap_alloc_old W0 _ (by omega)).trans K2.out))
  have f0 := blk_frozen hk2 0
  have f1 := blk_frozen hk2 1
  have f2 := blk_frozen hk2 2
  have f3 := blk_frozen hk2 3
  have f4 := blk_frozen hk2 4
  have q0 := blk_cell hk2 0
  have q1 := blk_cell hk2 1
  have q2 := blk_cell hk2 2
  have q3 := blk_cell hk2 3
  have q4 := blk_cell hk2 4
  have hon : Below w.heap.size w w3 := HB0.out.trans ⟨ho.os, ho.tape, ho.output, by have := ho.size; rw [push_size] at this; omega, fun k hk => (ho.block k (by rw [push_size]; omega) (put_none _ _ (by omega))).trans (heap_alloc_old W0 _ (by omega))⟩
  have hw4 : ∃ w4, w4 = w3.setCell ⟨W0.heap.size, 0, none⟩ (.bool false) := ⟨_, rfl⟩
  obtain ⟨w4, hw4⟩ := hw4
  have hs4 : ∀ k, k ≠ W0.heap.size → w4.heap[k]? = w3.heap[k]? := fun k hk => by rw [hw4]; exact Below.heap_setCell w3 ⟨W0.heap.size, 0, none⟩ _ k hk
  have hon4 : Below w.heap.size w w4 := by rw [hw4]; exact hon.setCell (p := ⟨W0.heap.size, 0, none⟩) (by show _ ≤ W0.heap.size; omega) _
  rw [← hw4] at r0 r1 r2 r3 r4 f0 f1 f2 f3 f4 q0 q1 q2 q3 q4 ⊢
  clear hw4
  have HTO := Aside0.mk (show Told w (((((w4.setCell ⟨w.heap.size + 2, 0, none⟩ (.int .i64 u.f0)).setCell ⟨w.heap.size + 2, 1, none⟩ (.string u.f1)).setCell ⟨w.heap.size + 2, 2, none⟩ (.string u.f2)).setCell ⟨w.heap.size + 2, 3, none⟩ (.slice A5 u.f3.length c5)).setCell ⟨w.heap.size + 2, 4, none⟩ (.slice A6 u.f4.length c6)) u (.returned (.agg #[.int .i64 u.f0, .string u.f1, .string u.f2, .slice A5 u.f3.length c5, .slice A6 u.f4.length c6])) from
    ⟨A5, c5, A6, c6, rfl, m5, Kd.F_mono (Kd.F_step F5 (fun k hk _ => (sets5 w4 _ _ _ _ _ _ k (by rw [push_size] at hk; omega)).trans (hs4 k (by rw [push_size] at hk; omega)))) (fun k hk => by rw [push_size] at hk; omega), m6, Kd.F_mono (Kd.F_step F6 (fun k hk _ => (sets5 w4 _ _ _ _ _ _ k (by rw [push_size] at hk; omega)).trans (hs4 k (by rw [push_size] at hk; omega)))) (fun k hk => by rw [push_size] at hk; omega),
      ((((hon4.setCell (p := ⟨w.heap.size + 2, 0, none⟩) (by show _ ≤ w.heap.size + 2; omega) _).setCell (p := ⟨w.heap.size + 2, 1, none⟩) (by show _ ≤ w.heap.size + 2; omega) _).setCell (p := ⟨w.heap.size + 2, 2, none⟩) (by show _ ≤ w.heap.size + 2; omega) _).setCell (p := ⟨w.heap.size + 2, 3, none⟩) (by show _ ≤ w.heap.size + 2; omega) _).setCell (p := ⟨w.heap.size + 2, 4, none⟩) (by show _ ≤ w.heap.size + 2; omega) _,
      Kd.R_lower (Kd.R_mono (Kd.R_step R5 (fun k hk _ => (sets5 w4 _ _ _ _ _ _ k (by rw [push_size] at hk; omega)).trans (hs4 k (by rw [push_size] at hk; omega)))) (fun k hk => by rw [push_size] at hk; omega)) (by rw [push_size]; omega), Kd.N_lower (Kd.N_mono (Kd.N_step N6 (fun k hk _ => (sets5 w4 _ _ _ _ _ _ k (by have h1 := hk.1; rw [push_size] at h1; omega)).trans (hs4 k (by have h1 := hk.1; rw [push_size] at h1; omega)))) (fun k hk => ⟨by have h1 := hk.1; rw [push_size] at h1; omega, hk.2⟩)) (by rw [push_size]; omega)⟩)
  have HU := Aside0.mk hu
  clear hbx hbx2 F5 F6 R5 N6 m5 m6 ho hbad hon hon4 hs4 hz HG hu hk2
  go_wp2_with fail
  refine bodyPost_ret (v := .agg #[.int .i64 u.f0, .string u.f1, .string u.f2, .slice A5 u.f3.length c5, .slice A6 u.f4.length c6]) (by simp [results, Try.results33, go_sem, q0, q1, q2, q3, q4]) rfl ?_
  exact ⟨u, HU.out, HTO.out⟩
/-- The result, stored in a box of the caller's and read back. -/
theorem told_box {w W0 w2 : World} {u : T} {b : Nat} {A5 A6 : Option Addr} {c5 c6 : Nat} (hb0 : Below w.heap.size w W0) (hb : w.heap.size ≤ b) (hlt : b < W0.heap.size) (m5 : u.f3.length ≤ c5) (F5 : Kd.F k53 w2 (fun k => W0.heap.size ≤ k) A5 u.f3.length u.f3) (m6 : u.f4.length ≤ c6) (F6 : Kd.F k25 w2 (fun k => W0.heap.size ≤ k) A6 u.f4.length u.f4) (hB : Below W0.heap.size W0 w2)
    (R5 : Kd.R k53 53 w2 W0.heap.size (fun k => W0.heap.size ≤ k) (.slice A5 u.f3.length c5) u.f3) (N6 : Kd.N k25 25 w2 W0.heap.size (fun k => W0.heap.size ≤ k ∧ some k ≠ (Value.slice A5 u.f3.length c5).ownBlock) (.slice A6 u.f4.length c6) u.f4) (a0 a1 a2 a3 a4 : Value) :
    Told w (((((w2.setCell ⟨b, 0, none⟩ a0).setCell ⟨b, 1, none⟩ a1).setCell ⟨b, 2, none⟩ a2).setCell ⟨b, 3, none⟩ a3).setCell ⟨b, 4, none⟩ a4) u (.returned (.agg #[.int .i64 u.f0, .string u.f1, .string u.f2, .slice A5 u.f3.length c5, .slice A6 u.f4.length c6])) := by
  have hs := fun k (hk : k ≠ b) => sets5 w2 b a0 a1 a2 a3 a4 k hk
  have hle := hb0.size
  exact ⟨A5, c5, A6, c6, rfl, m5, Kd.F_mono (Kd.F_step F5 (fun k hk _ => hs k (by omega))) (fun k hk => by omega), m6, Kd.F_mono (Kd.F_step F6 (fun k hk _ => hs k (by omega))) (fun k hk => by omega),
    (((((below_step hb0 hB).setCell (p := ⟨b, 0, none⟩) hb _).setCell (p := ⟨b, 1, none⟩) hb _).setCell (p := ⟨b, 2, none⟩) hb _).setCell (p := ⟨b, 3, none⟩) hb _).setCell (p := ⟨b, 4, none⟩) hb _,
    Kd.R_lower (Kd.R_mono (Kd.R_step R5 (fun k hk _ => hs k (by omega))) (fun k hk => by omega)) hle, Kd.N_lower (Kd.N_mono (Kd.N_step N6 (fun k hk _ => hs k (by have := hk.1; omega))) (fun k hk => ⟨by have := hk.1; omega, hk.2⟩)) hle⟩
end Go.Proofs.Ytmfjbljdbkmkgaa.Dom

/- domutils.RemoveRedundant over a tree. -/
namespace Go.Proofs.Ytmfjbljdbkmkgaa.Dom
open Go.RowKit Go.Proofs.YtmfjbljdbkmkgaaW.PrintWords Go.Proofs.YtmfjbljdbkmkgaaW.PrintLast Go.Proofs.YtmfjbljdbkmkgaaW.PrintMore Go.Proofs.Ytmfjbljdbkmkgaa.PDom
set_option linter.unusedVariables false
set_option linter.unusedSimpArgs false

/-- An element of one of some names. -/
def mt (names : List ByteArray) (r : RT) : Bool := r.ty == 3 && names.any fun s => r.data.toList == s.toList
theorem mt_own (names : List ByteArray) : Own (mt names) := fun r K => by cases r; rfl
theorem elem_mt {D : Tab} {q : Option Nat} {y : RT} (names : List ByteArray) (h : Is D q y) : elemD D names y.id = mt names y := by
  unfold elemD
  rw [h.root]
  cases y
  rfl
theorem both_calls (w : World) (D : Tab) (hdom : Dom w D) (bi bn : Nat) (A : Option Addr) (c : Nat) (names : List ByteArray) (hbi : w.heap[bi]? = some (.cells #[.func (Fn.func 61) #[] #[.pointer (some ⟨bn, 0, none⟩)]] 44 (0, 0)))
    (hbn : w.heap[bn]? = some (.cells #[.slice A names.length c] 28 (0, 0))) (hr : Kd.string.C w A names.length names) (hl : names.length ≤ 4611686018427387904) (x y : Nat) (hx : D x ≠ none) (hy : D y ≠ none) :
    Calls Try.prog 36 #[ptr (some x), ptr (some y), .pointer (some ⟨bi, 0, none⟩)] w fun e w' => e = .returned (.bool (elemD D names x && elemD D names y)) ∧ w' = w := by
  have H1 := Aside0.mk (named1_calls w D hdom bn A c names hbn hr hl x hx)
  have H2 := Aside0.mk (named1_calls w D hdom bn A c names hbn hr hl y hy)
  have c0 := blk_cell hbi 0
  clear hbi hbn hr hl hx hy hdom
  generalize elemD D names x = ex at *
  generalize elemD D names y = ey at *
  simp only [ptr_some] at H1 H2 ⊢
  cases ex with
  | false =>
    go_enter Try.func36, Try.ntmps36
    go_wp2_with fail
    refine H1.out.mono ?_
    rintro e w' ⟨rfl, rfl⟩
    go_wp2_with fail
    go_ret
    exact ⟨rfl, rfl⟩
  | true =>
    go_enter Try.func36, Try.ntmps36
    go_wp2_with fail
    refine H1.out.mono ?_
    rintro e w' ⟨rfl, rfl⟩
    go_wp2_with fail
    refine H2.out.mono ?_
    rintro e w' ⟨rfl, rfl⟩
    go_wp2_with fail
    go_ret
    exact ⟨by simp, rfl⟩
/-! ### Up from a node -/
theorem at_take {r y : RT} {l : List Int} (h : r.at_ l = some y) (i : Nat) : ∃ z, r.at_ (l.take i) = some z := by
  have e := at_append r (l.take i) (l.drop i)
  rw [List.take_append_drop, h] at e
  cases hz : r.at_ (l.take i) with
  | none => rw [hz] at e; simp at e
  | some z => exact ⟨z, rfl⟩
/-- The node above the one that stands i steps below the root. -/
def upId (r : RT) (l : List Int) : Nat → Option Nat
  | 0 => none
  | i + 1 => (r.at_ (l.take i)).map RT.id
theorem take_snocI {l : List Int} {i : Nat} (h : i < l.length) : l.take (i + 1) = l.take i ++ [l[i]] := List.take_succ_eq_append_getElem h
theorem up_cell {w : World} {D : Tab} (hdom : Dom w D) {r z : RT} {l : List Int} {i : Nat} (hr : Is D none r) (hi : i ≤ l.length) (hz : r.at_ (l.take i) = some z) : w.cell? ⟨z.id, 0, none⟩ = some (ptr (upId r l i)) := by
  cases i with
  | zero =>
    obtain rfl : r = z := by simpa [RT.at_] using hz
    have := parent_cell hdom hr.root
    rw [info_p] at this
    exact this
  | succ i =>
    rw [take_snocI (by omega), at_append] at hz
    obtain ⟨up, hu, e⟩ := Option.bind_eq_some_iff.1 hz
    obtain ⟨_, k, hk, e2⟩ := at_cons e
    obtain rfl : k = z := by simpa [RT.at_] using e2
    have := kid_cell hdom hr hu (List.mem_of_getElem? hk)
    rw [this]
    show some _ = some (ptr ((r.at_ (l.take i)).map RT.id))
    rw [hu]
    rfl
theorem anyUp_take {m : RT → Bool} {r z : RT} {l : List Int} {i : Nat} (hi : i < l.length) {y : RT} (hy : r.at_ l = some y) (hz : r.at_ (l.take i) = some z) : r.anyUp m (l.take (i + 1)) = (r.anyUp m (l.take i) || m z) := by
  rw [take_snocI hi, anyUp_append _ _ _ _ hz]
  obtain ⟨z2, hz2⟩ := at_take hy (i + 1)
  rw [take_snocI hi, at_append, hz] at hz2
  obtain ⟨_, k, hk, _⟩ := at_cons (show z.at_ (l[i] :: []) = some z2 from hz2)
  rw [anyUp_cons hk]
  simp [RT.anyUp]
set_option maxHeartbeats 400000 in
theorem above_calls (w : World) (D : Tab) (hdom : Dom w D) (r : RT) (hr : Is D none r) (m : RT → Bool) (F : Nat) (cap : Array Value) (EF : Enters F)
    (HF : ∀ l1 y l2 z, r.at_ l1 = some y → r.at_ l2 = some z → Calls Try.prog F (#[ptr (some y.id), ptr (some z.id)] ++ cap) w fun e w' => e = .returned (.bool (m y && m z)) ∧ w' = w) (l : List Int) (y : RT) (hy : r.at_ l = some y) :
    Calls Try.prog 68 #[ptr (some y.id), .func (Fn.func F) #[] cap] w fun e w' => e = .returned (.bool (m y && r.anyUp m l)) ∧ w' = w := by
  have eF : ∀ (args : Array Value) (w : World), (callFunc F args).run Try.prog w = .ok (.enter F args) w := EF
  have H0 := Aside0.mk (HF l y l y hy hy)
  have HF0 := Aside0.mk HF
  have HD := Aside0.mk hdom
  have HR := Aside0.mk hr
  have HY := Aside0.mk hy
  have c0 := up_cell hdom hr (Nat.le_refl _) (by rw [List.take_length]; exact hy)
  clear EF HF hdom hr hy
  cases hm : m y with
  | false =>
    rw [hm] at H0
    simp only [ptr_some] at H0 ⊢
    go_enter Try.func68, Try.ntmps68
    go_wp2_with fail
    refine H0.out.mono ?_
    rintro e w' ⟨rfl, rfl⟩
    go_wp2_with fail
    go_ret
    exact ⟨rfl, rfl⟩
  | true =>
    have HM := Aside0.mk hm
    rw [hm] at H0
    obtain ⟨yi, hyi⟩ : ∃ yi, yi = y.id := ⟨_, rfl⟩
    have HYI := Aside0.mk hyi
    simp only [Bool.and_self] at H0
    rw [← hyi] at H0 c0 ⊢
    simp only [ptr_some] at H0 ⊢
    clear hm hyi
    obtain ⟨u0, hu0⟩ : ∃ u0, u0 = upId r l l.length := ⟨_, rfl⟩
    rw [← hu0] at c0
    have HU0 := Aside0.mk hu0
    clear hu0
    go_enter Try.func68, Try.ntmps68
    go_wp2_with fail
    refine H0.out.mono ?_
    rintro e w' ⟨rfl, rfl⟩
    go_wp2_with fail
    go_loopg [5] l.length (fun n vp wr => wr = w' ∧ n ≤ l.length ∧ vp = ptr (upId r l n) ∧ Aside0 (r.anyUp m l = r.anyUp m (l.take n)))
    case atStart => exact ⟨rfl, Nat.le_refl _, by rw [HU0.out], ⟨by rw [List.take_length]⟩⟩
    case round =>
      clear c0
      obtain ⟨rfl, hn, rfl, HA⟩ := hrel
      cases gk with
      | zero =>
        simp only [upId, ptr_none]
        go_wp2_with fail
        go_ret
        exact ⟨by rw [HA.out]; rfl, rfl⟩
      | succ i =>
        obtain ⟨z, hz⟩ := at_take HY.out i
        have hcall := HF0.out l y (l.take i) z HY.out hz
        have hcell := up_cell HD.out HR.out (by omega) hz
        have hstep := anyUp_take (m := m) hn HY.out hz
        have hu : upId r l (i + 1) = some z.id := by
          show (r.at_ (l.take i)).map RT.id = _
          rw [hz]
          rfl
        rw [← HYI.out, HM.out, Bool.true_and] at hcall
        have HC := Aside0.mk hcall
        have HS := Aside0.mk hstep
        clear hz hcall hstep
        rw [hu]
        clear hu
        generalize z.id = zi at *
        have HUI := Aside0.mk (show ∃ ui, ui = upId r l i from ⟨_, rfl⟩)
        obtain ⟨ui, hui⟩ := HUI.out
        rw [← hui] at hcell
        have HU := Aside0.mk hui
        clear hui HUI
        generalize m z = mz at *
        simp only [ptr_some] at HC ⊢
        cases mz with
        | true =>
          go_wp2_with fail
          refine HC.out.mono ?_
          rintro e w' ⟨rfl, rfl⟩
          go_wp2_with fail
          go_ret
          exact ⟨by rw [HA.out, HS.out, Bool.or_true]; rfl, rfl⟩
        | false =>
          go_wp2_with fail
          refine HC.out.mono ?_
          rintro e w' ⟨rfl, rfl⟩
          go_wp2_with fail
          go_roundg i
          case rel => exact ⟨rfl, by omega, by rw [HU.out], ⟨by rw [HA.out, HS.out, Bool.or_false]⟩⟩
          case measure => omega
end Go.Proofs.Ytmfjbljdbkmkgaa.Dom

/- impl.neighbor at the kinds of first children and siblings. Printed in part by the program gen_sibm.py of this session. -/
namespace Go.Proofs.Ytmfjbljdbkmkgaa.PDom
open Go.RowKit Go.Proofs.YtmfjbljdbkmkgaaW.PrintWords Go.Proofs.YtmfjbljdbkmkgaaW.PrintLast Go.Proofs.YtmfjbljdbkmkgaaW.PrintMore Go.Proofs.Ytmfjbljdbkmkgaa.Dom
set_option linter.unusedVariables false
set_option linter.unusedSimpArgs false

theorem last_split (path : List Int) (j : Int) (h : path.getLast? = some j) : path = path.dropLast ++ [j] := by
  obtain ⟨l, rfl⟩ := List.getLast?_eq_some_iff.1 h
  simp
/-- The node at a place that isn't the root: its parent, and its number among the children. -/
theorem at_last {r x : RT} {path : List Int} {j : Int} (hx : r.at_ path = some x) (hj : path.getLast? = some j) : ∃ up, r.at_ path.dropLast = some up ∧ 0 ≤ j ∧ ∃ h : j.toNat < up.kids.length, up.kids[j.toNat] = x := by
  have e := last_split path j hj
  rw [e, at_append] at hx
  obtain ⟨up, h1, h2⟩ := Option.bind_eq_some_iff.1 hx
  refine ⟨up, h1, ?_⟩
  simp only [RT.at_] at h2
  by_cases h0 : 0 ≤ j
  · rw [if_pos h0] at h2
    obtain ⟨y, h3, h4⟩ := Option.bind_eq_some_iff.1 h2
    obtain rfl := Option.some.inj h4
    obtain ⟨h5, h6⟩ := List.getElem?_eq_some_iff.1 h3
    exact ⟨h0, h5, h6⟩
  · rw [if_neg h0] at h2
    cases h2
end Go.Proofs.Ytmfjbljdbkmkgaa.PDom

/- impl.Replaced: a tree with another one in a node's place. -/
namespace Go.Proofs.Ytmfjbljdbkmkgaa.PDom
open Go.RowKit Go.Proofs.YtmfjbljdbkmkgaaW.PrintWords Go.Proofs.YtmfjbljdbkmkgaaW.PrintLast Go.Proofs.YtmfjbljdbkmkgaaW.PrintMore Go.Proofs.Ytmfjbljdbkmkgaa.Dom
set_option linter.unusedVariables false
set_option linter.unusedSimpArgs false

theorem is_into {D D' : Tab} {p : Option Nat} {r : RT} (hs : ∀ b i, D b = some i → D' b = some i) (h : Is D p r) : Is D' p r := by
  induction h with
  | mk p i t a d at_ ks h hk ih => exact Is.mk p i t a d at_ ks (hs _ _ h) ih
theorem is_mem {D : Tab} (r : RT) : ∀ {p : Option Nat}, Is D p r → ∀ b ∈ r.pre, D b ≠ none := by
  induction r using RT.induct with
  | h i t a d at_ ks ih =>
    intro p h b hb
    have hroot : D i = some _ := h.root
    rcases List.mem_cons.1 (show b ∈ i :: RT.preL ks from hb) with rfl | hb
    · rw [hroot]; simp
    · obtain ⟨k, hk, hbk⟩ := RT.mem_preL.1 hb
      exact ih k hk (h.kid hk) b hbk
/-- A tree that has been made beside a table. -/
theorem beside {W W1 : World} {D D2 : Tab} {b : Nat} {t tw : T} {r : RT} (hdom : Dom W D) (hr : Is D none r) (hm : Made W W1 b D2 tw) :
    ∃ y, y.id = b ∧ TellsT tw y ∧ Dom W1 (uni D D2) ∧ Is (uni D D2) none r ∧ Is (uni D D2) none y ∧ y.id ∉ r.pre ∧ (∀ k, k < W.heap.size → D k = none → uni D D2 k = none) := by
  have hge : ∀ y, D2 y ≠ none → W.heap.size ≤ y := hm.fresh
  have hd : ∀ y, D y ≠ none → D2 y = none := by
    intro y hy
    cases hc : D2 y with
    | none => rfl
    | some q =>
      have := hge y (by rw [hc]; simp)
      have := hdom.lt hy
      omega
  have hd' : ∀ y, D2 y ≠ none → D y = none := by
    intro y hy
    cases hc : D y with
    | none => rfl
    | some q => exact absurd (hd y (by rw [hc]; simp)) hy
  obtain ⟨i0, hi0⟩ : ∃ i, D2 b = some i := by
    obtain ⟨_, _, i, h, _⟩ := hm.tree
    exact ⟨i, h⟩
  obtain ⟨y, rfl, hy, hto⟩ := hm.tree.rt hm.dom.wf i0 hi0
  rw [hm.root i0 hi0] at hy
  refine ⟨y, rfl, hto, (hdom.below hm.below).union hm.dom hd, is_into (fun b i h => uni_left h) hr, is_into (fun b i h => by rw [uni_right (hd' b (by rw [h]; simp)), h]) hy, fun hmem => ?_, fun k hk hn => ?_⟩
  · have h1 := hdom.lt (is_mem r hr _ hmem)
    have h2 := hge y.id (by rw [hi0]; simp)
    omega
  · rw [uni_right hn]
    cases hc : D2 k with
    | none => rfl
    | some q => have := hge k (by rw [hc]; simp); omega
/-- The parts of a tree at a place below its root. -/
theorem place_parts {r x : RT} {path : List Int} {j : Int} (hx : r.at_ path = some x) (hj : path.getLast? = some j) : ∃ up k1 k2, r.at_ path.dropLast = some up ∧ up.kids = k1 ++ x :: k2 ∧ k1.length = j.toNat := by
  obtain ⟨up, hu, h0, hlt, he⟩ := at_last hx hj
  refine ⟨up, up.kids.take j.toNat, up.kids.drop (j.toNat + 1), hu, ?_, by rw [List.length_take]; omega⟩
  rw [← he]
  exact (List.take_append_drop j.toNat up.kids).symm.trans (by rw [List.drop_eq_getElem_cons hlt])
end Go.Proofs.Ytmfjbljdbkmkgaa.PDom
