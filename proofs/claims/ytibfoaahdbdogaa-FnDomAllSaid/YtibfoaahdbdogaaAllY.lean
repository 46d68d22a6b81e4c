/- impl.AllNodes: its contract. -/
import Derived.Test.YtibfoaahdbdogaaAllN
namespace Go.Proofs.Ytibfoaahdbdogaa.PDom
open Go.RowKit Go.Proofs.YtibfoaahdbdogaaW.PrintWords Go.Proofs.YtibfoaahdbdogaaW.PrintLast Go.Proofs.YtibfoaahdbdogaaW.PrintMore Go.Proofs.Ytibfoaahdbdogaa.Dom
set_option linter.unusedVariables false
set_option linter.unusedSimpArgs false

abbrev kI : Kd (List Int) := Kd.slice 3 (Kd.int .i64)
theorem infoI : (Try.prog.info? 32).map (fun i => (i.zero, i.size, i.bytes)) = some (some (.slice none 0 0), 1, 24) := by kernel_rfl
theorem FK_of_R {w : World} {base : Nat} {v : Value} {xs : List Int} (h : (Kd.int .i64).R 3 w base (fun _ => True) v xs) : Kd.FK kI w (fun k => base ≤ k) xs [v] := by
  obtain ⟨_, inner, hown, hr⟩ := h
  have h2 : (Kd.int .i64).R 3 w base (fun k => base ≤ k) v xs := ⟨fun k hk => own_base hown k hk, inner, hown, hr.imp_ (fun _ _ h => h)⟩
  exact Kd.FK_of_M (Kd.M_row h2)
set_option maxHeartbeats 4000000 in
set_option maxRecDepth 100000 in
theorem allnodes_walk (t : T) (hn : Norm true t) (hc : countT t ≤ 300) (ht : Fit t) (w : World) (A3 : Option Addr) (c3 : Nat) (A4 : Option Addr) (c4 : Nat) (h3 : Kd.C k78 w A3 t.f3.length t.f3) (l3 : t.f3.length ≤ c3) (h4 : Kd.C k25 w A4 t.f4.length t.f4) (l4 : t.f4.length ≤ c4) :
    Calls Try.prog 13 #[.agg #[.int .i64 t.f0, .string t.f1, .string t.f2, .slice A3 t.f3.length c3, .slice A4 t.f4.length c4]] w fun e w' => ∃ v : Value, e = .returned v ∧ Kd.N kI 32 w' w.heap.size (fun k => w.heap.size ≤ k) v (pathsT [] t) ∧ Below w.heap.size w w' := by
  have HB0 := Aside0.mk (below_alloc (Below.refl w.heap.size w) (Obj.cells #[Value.int IntKind.i64 t.f0, Value.string t.f1, Value.string t.f2, Value.slice A3 t.f3.length c3, Value.slice A4 t.f4.length c4] 25))
  have HM := Aside0.mk (made_calls _ t (Nat.le_refl _) ht _ A3 c3 A4 c4 (Kd.C_below h3 HB0.out) l3 (Kd.C_below h4 HB0.out) l4)
  clear h3 l3 h4 l4
  have HN := Aside0.mk hn
  have HC := Aside0.mk hc
  clear hn hc ht
  go_enter Try.func13, Try.ntmps13
  go_wp2_with fail
  refine HM.out.mono ?_
  rintro e w1 ⟨b, D, rfl, hm⟩
  have hb1 := below_step HB0.out hm.below
  obtain ⟨i0, hi0⟩ : ∃ i, D b = some i := by
    obtain ⟨_, _, i, h, _⟩ := hm.tree
    exact ⟨i, h⟩
  obtain ⟨r, rfl, hr, hto⟩ := hm.tree.rt hm.dom.wf i0 hi0
  have hroot := hm.root i0 hi0
  rw [hroot] at hr
  obtain ⟨hpa, hpl⟩ := told_paths r t true HN.out hto
  have hall := Is.paths (root := r.id) r none [] hr (PathTo.root _ hr.root (by cases r; rfl))
  rw [hpa] at hall
  have hsm := paths_small r []
  rw [hpa, hpl] at hsm
  have HD := Aside0.mk hm.dom
  have HA := Aside0.mk (all_calls w1 D hm.dom none r hr 300 (by omega) (by rw [hpl]; exact HC.out))
  have HB1 := Aside0.mk hb1
  have HS := Aside0.mk hsm
  have HP := Aside0.mk hall
  have HLN := Aside0.mk (show (pathsT [] t).length ≤ 300 by rw [← HP.out.length, hpl]; exact HC.out)
  clear hsm hall hpa hpl hroot hto hr hi0 hm hb1 HM
  generalize r.id = root at *
  generalize r.pre = l at *
  generalize hpe : pathsT [] t = ps at *
  have HPE := Aside0.mk hpe
  clear hpe
  simp only [ptr_some] at HA ⊢
  go_wp2_with (go_at_call 38; go_must (refine HA.out.mono ?_; rintro e w2 ⟨v2, rfl, ho2, hb2⟩; obtain ⟨A2, c2, rfl, hc2, hC2⟩ := Kd.R_reads ho2; have HC2 := Aside0.mk hC2; have HB2 := Aside0.mk hb2; clear hc2 hC2 ho2 hb2))
  have HBN := Aside0.mk (below_step HB1.out HB2.out)
  have HD2 := Aside0.mk (HD.out.below HB2.out)
  clear HA
  have hlp : l.length ≤ 300 := by rw [HP.out.length]; exact HLN.out
  go_loopw [3, 10] (fun vo vi wr => ∃ j : Nat, j ≤ l.length ∧ vi = .int .i64 j ∧ Aside0 (Kd.N kI 32 wr w2.heap.size (fun k => w2.heap.size ≤ k) vo (ps.take j)) ∧ Aside0 (Below w2.heap.size w2 wr)) (fun _ i _ => l.length - (intOf i).toNat)
  case atStart => exact ⟨0, Nat.zero_le _, rfl, ⟨Kd.N_nil _ _ _ _ _⟩, ⟨Below.refl _ _⟩⟩
  case round =>
    obtain ⟨j, hj, rfl, HO, HB⟩ := hrel
    by_cases hlt : j < l.length
    · obtain ⟨ad, c, rfl, hcl, hK, hcc⟩ := Kd.C_get (Kd.C_below HC2.out HB.out) 0 (j : Int) (by omega) (by omega)
      have hx := hcc 0 (ptr (some (l.getD j 0))) (by rw [hK]; rfl)
      have hsz1 : kP.sz = 1 := rfl
      have he : l.getD j 0 = l[j] := by simp [List.getD_eq_getElem?_getD, List.getElem?_eq_getElem hlt]
      have hjp : j < ps.length := by rw [← HP.out.length]; exact hlt
      rw [he] at hx
      simp only [Int.toNat_natCast, hsz1, Nat.mul_one, Nat.add_zero] at hx
      have hpa := HP.out.get j hlt hjp
      have hq := HS.out ps[j] (List.getElem_mem hjp)
      have hcn := HC.out
      have hps : ps.take (j + 1) = ps.take j ++ [ps[j]] := List.take_succ_eq_append_getElem hjp
      have hlen : (ps.take j).length ≤ 300 := by rw [List.length_take]; omega
      generalize l[j] = x at *
      generalize ps[j] = q at *
      have HPC := Aside0.mk (path_calls wr D root x q (HD2.out.below HB.out) hpa (by have := hq.1; simp at this; omega) (fun y hy => by rcases hq.2 y hy with h | h; cases h; omega))
      have HPS := Aside0.mk hps
      have hlo := Kd.N_lt HO.out
      have HOL := Aside0.mk hlo
      have HSZ := Aside0.mk (show w2.heap.size ≤ wr.heap.size from HB.out.size)
      clear he hcl hK hcc hsz1 hpa hq hps hlo hcn hjp
      simp only [ptr_some] at hx HPC
      go_wp2_with fail
      refine HPC.out.mono ?_
      rintro e w3 ⟨v0, rfl, hR, hB⟩
      have HO1 := Aside0.mk (Kd.N_below HO.out hB)
      have HB3 := Aside0.mk (below_step HB.out hB)
      obtain ⟨A5, c5, rfl, _, _⟩ := Kd.R_reads hR
      have HF := Aside0.mk (FK_of_R hR)
      clear hR hB
      go_wp2_with ((with_reducible refine gate_builtin (b := .append) (xs := #[.tmp 14, .tmp 17]) rfl ?_); at_builtin; go_must (refine Kd.N_append kI (w0 := w2) w2.heap.size rfl (.tmp 14) (.tmp 17) 29 32 (.slice none 0 0) 24 rfl Try.underlying29 infoI rfl (by decide) (by omega) u3 (ps.take j) q [.slice A5 q.length c5] (fun k => w2.heap.size ≤ k) (fun k => wr.heap.size ≤ k) rfl (by go_simp) HF.out (fun k hk => ⟨Nat.le_trans HSZ.out hk, fun e => by have := HOL.out k e.symm; omega⟩) (fun k hk => Nat.le_trans HB3.out.size hk) HO1.out HB3.out HB3.out.size (by omega) ?_))
      intro v1 w4 ho hb hg hat
      have HO2 := Aside0.mk (show Kd.N kI 32 w4 w2.heap.size (fun k => w2.heap.size ≤ k) v1 (ps.take (j + 1)) by rw [HPS.out]; exact ho)
      have HB4 := Aside0.mk hb
      clear ho hb hg hat
      go_wp2
      go_roundw
      case rel => exact ⟨j + 1, by omega, by go_num, HO2, HB4⟩
      case measure => simp [intOf]; omega
    · have hje : j = l.length := by omega
      subst hje
      have hO := HO.out
      rw [List.take_of_length_le (by rw [← HP.out.length]; exact Nat.le_refl _)] at hO
      go_wp2
      go_ret
      exact ⟨_, rfl, by rw [HPE.out]; exact Kd.N_mono (Kd.N_lower hO HBN.out.size) (fun k hk => Nat.le_trans HBN.out.size hk), below_step HBN.out HB.out⟩

def impl_AllNodes.f (k : Nat) (a0_0 : Int) (a0_1 : ByteArray) (a0_2 : ByteArray) (l0_3 : List (S78)) (l0_4 : List (S25)) : Option (List (List Int)) :=
  (laws_tree29.f k a0_0 a0_1 a0_2 l0_3 l0_4).bind fun b => if b = true then (if fitB k ⟨a0_0, a0_1, a0_2, l0_3, l0_4⟩ = true then some (pathsT [] ⟨a0_0, a0_1, a0_2, l0_3, l0_4⟩) else none) else none
theorem impl_AllNodes.mono : ∀ a0 a1 a2 a3 a4 k, LeO (impl_AllNodes.f k a0 a1 a2 a3 a4) (impl_AllNodes.f (k + 1) a0 a1 a2 a3 a4) := by
  intro a0 a1 a2 a3 a4 k
  unfold impl_AllNodes.f
  refine LeO.bind (laws_tree29.mono _ _ _ _ _ _) (fun b => ?_)
  by_cases hb : b = true
  · rw [if_pos hb, if_pos hb]
    by_cases hf : fitB k ⟨a0, a1, a2, a3, a4⟩ = true
    · rw [if_pos hf, if_pos (fitB_mono _ _ hf)]
      exact LeO.refl _
    · rw [if_neg hf]
      exact LeO.none _
  · rw [if_neg hb]
    exact LeO.none _
theorem impl_AllNodes.calls (k : Nat) (a0_0 : Int) (a0_1 : ByteArray) (a0_2 : ByteArray) (A0_3 : Option Addr) (c0_3 : Nat) (l0_3 : List (S78)) (A0_4 : Option Addr) (c0_4 : Nat) (l0_4 : List (S25)) (r : List (List Int)) (w : World) (hr0_3 : Kd.C k78 w A0_3 l0_3.length l0_3) (hc0_3 : l0_3.length ≤ c0_3) (hr0_4 : Kd.C k25 w A0_4 l0_4.length l0_4) (hc0_4 : l0_4.length ≤ c0_4) (h : impl_AllNodes.f k a0_0 a0_1 a0_2 l0_3 l0_4 = some r) :
    Calls Try.prog 13 #[.agg #[.int .i64 a0_0, .string a0_1, .string a0_2, .slice A0_3 l0_3.length c0_3, .slice A0_4 l0_4.length c0_4]] w fun e w' => ∃ v0_ : Value, e = .returned (v0_) ∧ Kd.N (Kd.slice 3 (Kd.int .i64)) 32 w' w.heap.size (fun k_ => w.heap.size ≤ k_) v0_ r ∧ Below w.heap.size w w' := by
  obtain ⟨hb, hfit, hr⟩ : laws_tree29.f k a0_0 a0_1 a0_2 l0_3 l0_4 = some true ∧ fitB k ⟨a0_0, a0_1, a0_2, l0_3, l0_4⟩ = true ∧ pathsT [] ⟨a0_0, a0_1, a0_2, l0_3, l0_4⟩ = r := by
    unfold impl_AllNodes.f at h
    obtain ⟨b, hb, h2⟩ := Option.bind_eq_some_iff.1 h
    split at h2
    case isFalse => cases h2
    rename_i hbt
    subst hbt
    split at h2
    case isFalse => cases h2
    rename_i hf
    exact ⟨hb, hf, Option.some.inj h2⟩
  have ht := fitB_fit _ _ hfit
  obtain ⟨hn, hc, _⟩ := tree_norm (t := ⟨a0_0, a0_1, a0_2, l0_3, l0_4⟩) ht hb
  have hw := allnodes_walk ⟨a0_0, a0_1, a0_2, l0_3, l0_4⟩ hn hc ht w A0_3 c0_3 A0_4 c0_4 hr0_3 hc0_3 hr0_4 hc0_4
  rw [hr] at hw
  exact hw
end Go.Proofs.Ytibfoaahdbdogaa.PDom
