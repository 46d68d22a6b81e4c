/- impl.pathOf of a node of a table: the indices on the way from the root. -/
import Derived.Test.YtibfoaahdbdogaaRTree
import Derived.Deep.DeepMust
namespace Go.Proofs.Ytibfoaahdbdogaa.Dom
open Go.RowKit Go.Proofs.YtibfoaahdbdogaaW.PrintWords Go.Proofs.YtibfoaahdbdogaaW.PrintLast Go.Proofs.YtibfoaahdbdogaaW.PrintMore Go.Proofs.Ytibfoaahdbdogaa.PDom
set_option linter.unusedVariables false
set_option linter.unusedSimpArgs false

theorem take_last {l : List Nat} {m : Nat} (h : m < l.length) : (l.take (m + 1)).getLast? = some l[m] := by
  rw [List.take_succ_eq_append_getElem h, List.getLast?_append]
  rfl
theorem take_getLast (l : List Nat) : ∀ m, m ≤ l.length → (l.take m).getLast? = if 0 < m then l[m - 1]? else none
  | 0, _ => rfl
  | m + 1, h => by rw [take_last (by omega), if_pos (by omega)]; simp [List.getElem?_eq_getElem (show m < l.length by omega)]
/-- The sibling ahead of the m-th child. -/
theorem prev_at {l : List Nat} (hnd : l.Nodup) {m : Nat} (h : m < l.length) : prevIn l l[m] = (l.take m).getLast? := by
  have e : l = l.take m ++ l[m] :: l.drop (m + 1) := by
    rw [← List.drop_eq_getElem_cons h, List.take_append_drop]
  have hnd2 : (l.take m ++ l[m] :: l.drop (m + 1)).Nodup := by rw [← e]; exact hnd
  have h2 := (nodup_split hnd2).2.1
  have h3 := prevIn_split (l1 := l.take m) (l2 := l.drop (m + 1)) (b := l[m]) h2
  rw [← e] at h3
  exact h3
theorem next_at {l : List Nat} (hnd : l.Nodup) {m : Nat} (h : m < l.length) : nextIn l l[m] = l[m + 1]? := by
  have e : l = l.take m ++ l[m] :: l.drop (m + 1) := by
    rw [← List.drop_eq_getElem_cons h, List.take_append_drop]
  have hnd2 : (l.take m ++ l[m] :: l.drop (m + 1)).Nodup := by rw [← e]; exact hnd
  have h3 := nextIn_split (l1 := l.take m) (l2 := l.drop (m + 1)) (b := l[m]) (nodup_split hnd2).1
  rw [← e] at h3
  rw [h3]
  simp [List.head?_drop]
/-- What a child's block tells of its place. -/
theorem kid_cells {w : World} {D : Tab} (h : Dom w D) {p : Nat} {ip : Info} (hp : D p = some ip) {m : Nat} (hm : m < ip.kids.length) :
    w.cell? ⟨ip.kids[m], 0, none⟩ = some (ptr (some p)) ∧ w.cell? ⟨ip.kids[m], 3, none⟩ = some (ptr (ip.kids.take m).getLast?) ∧ w.cell? ⟨ip.kids[m], 4, none⟩ = some (ptr ip.kids[m + 1]?) := by
  obtain ⟨ix, hx, hxp⟩ := h.wf.down hp (List.getElem_mem hm)
  obtain ⟨v, hv, _⟩ := h.has hx
  refine ⟨?_, ?_, ?_⟩
  · rw [hv.cells10.1]
    show some (ptr ix.parent) = _
    rw [hxp]
  · rw [hv.cells10.2.2.2.1]
    show some (ptr (prevIn (sibs D ix) ip.kids[m])) = _
    rw [sibs_some hxp, kidsOf_some hp, prev_at (h.wf.nodup hp) hm]
  · rw [hv.cells10.2.2.2.2.1]
    show some (ptr (nextIn (sibs D ix) ip.kids[m])) = _
    rw [sibs_some hxp, kidsOf_some hp, next_at (h.wf.nodup hp) hm]

theorem info3 : (Try.prog.info? 3).map (fun i => (i.zero, i.size, i.bytes)) = some (some (.int .i64 0), 1, 8) := by kernel_rfl
/-- A row of one number, newly made. -/
theorem one_row (W : World) (k : Int) : (Kd.int .i64).R 3 (W.alloc (.cells #[.int .i64 k] 3)) W.heap.size (fun _ => True) (.slice (some ⟨W.heap.size, 0, none⟩) 1 1) [k] := by
  refine ⟨fun _ _ => trivial, nums .i64 [k], ?_, ?_⟩
  · exact own_lit W W.heap.size 3 .i64 [k] (Nat.le_refl _) (by simp)
  · refine ⟨rfl, fun j p hp => ?_⟩
    cases j with
    | zero => obtain rfl : k = p := by simpa using hp
              rfl
    | succ j => simp at hp
/-- The inner loop and the outer one. -/
theorem path_calls (w : World) (D : Tab) (root x : Nat) (path : List Int) (h : Dom w D) (hp : PathTo D root x path) (hl : path.length ≤ 4398046510976) (hk : ∀ x ∈ path, x ≤ 4398046510976) :
    Calls Try.prog 39 #[ptr (some x)] w fun e w' => ∃ v, e = .returned v ∧ (Kd.int .i64).R 3 w' w.heap.size (fun _ => True) v path ∧ Below w.heap.size w w' := by
  unfold ptr
  have H := Aside0.mk h
  have HP := Aside0.mk hp
  have HKL := Aside0.mk hk
  have HL := Aside0.mk hl
  clear h hp hk hl
  go_enter Try.func39, Try.ntmps39
  go_wp2_with fail
  go_loopw [3, 4] (fun vo vx wr => ∃ (y : Nat) (pre suf : List Int) (A : Option Addr) (c : Nat), vx = .pointer (some ⟨y, 0, none⟩) ∧ vo = .slice A suf.length c ∧ Aside0 (PathTo D root y pre) ∧ Aside0 (path = pre ++ suf) ∧ Aside0 ((Kd.int .i64).R 3 wr w.heap.size (fun _ => True) (.slice A suf.length c) suf) ∧ Aside0 (Below w.heap.size w wr)) (fun vo _ _ => path.length - (match vo with | .slice _ n _ => n | _ => 0))
  case atStart => exact ⟨x, path, [], some ⟨w.heap.size, 0, none⟩, 0, rfl, rfl, HP, ⟨by simp⟩, ⟨by
    refine ⟨fun _ _ => trivial, [], ?_, Reps.none _ _⟩
    have := own_lit w w.heap.size 3 .i64 [] (Nat.le_refl _) (by simp)
    exact this⟩, ⟨below_alloc (Below.refl _ _) _⟩⟩
  case round =>
    obtain ⟨y, pre, suf, A, c, rfl, rfl, HY, HE, HO, HB⟩ := hrel
    have HD := Aside0.mk (H.out.below HB.out)
    cases HY.out with
    | root i hi hpn =>
      obtain ⟨v, hv, _⟩ := HD.out.has hi
      have c0 : wr.cell? ⟨root, 0, none⟩ = some (.pointer none) := by rw [hv.cells10.1]; show some (ptr i.parent) = _; rw [hpn]; rfl
      clear hv hi hpn
      go_wp2_with fail
      go_ret
      refine ⟨_, rfl, ?_, HB.out⟩
      rw [HE.out]
      exact HO.out
    | kid p _ j path2 ip ix hq hip hj hix hxp =>
      have hjl : j < ip.kids.length := (List.getElem?_eq_some_iff.1 hj).1
      have hy : ip.kids[j] = y := (List.getElem?_eq_some_iff.1 hj).2
      have hnl : (j : Int) ≤ 4398046510976 := HKL.out _ (by rw [HE.out]; simp)
      have HC := Aside0.mk (fun m (hm : m < ip.kids.length) => kid_cells HD.out hip hm)
      obtain ⟨c0, c3, _⟩ := HC.out j hjl
      rw [hy] at c0 c3
      simp only [ptr] at c0
      have HQ := Aside0.mk hq
      have HY1 := Aside0.mk (fun w1 (hb : Below w.heap.size w w1) => show w1.cell? ⟨y, 0, none⟩ = some (.pointer (some ⟨p, 0, none⟩)) by
        have h1 := (kid_cells (H.out.below hb) hip hjl).1
        rw [hy] at h1
        exact h1)
      generalize hpl : ip.kids = l at *
      clear hpl
      clear hq hip hj hix hxp hy
      go_wp2_with fail
      go_loop [5, 6] (fun vk vc => ∃ m : Nat, m ≤ j ∧ vk = .int .i64 ((j - m : Nat) : Int) ∧ vc = ptr (l.take m).getLast?) (fun vk _ => j - (intOf vk).toNat)
      case atStart => exact ⟨j, Nat.le_refl _, by simp, rfl⟩
      case round =>
        obtain ⟨m, hm, rfl, rfl⟩ := hrel
        cases m with
        | zero =>
          simp only [List.take_zero, List.getLast?_nil, ptr, Nat.sub_zero]
          have HOA := Aside0.mk (one_row wr j)
          have HBS := HB.out.size
          have hszA : w.heap.size ≤ (wr.alloc (Obj.cells #[.int .i64 (j : Int)] 3)).heap.size := by show _ ≤ (wr.heap.push _).size; rw [Array.size_push]; omega
          have hlA : ([(j : Int)].length + suf.length) * 8 ≤ 140737488355328 := by have h1 := HL.out; rw [HE.out] at h1; simp at h1 ⊢; omega
          have HO2 := Aside0.mk (Kd.R_reads' HO.out)
          go_wp2_with ((with_reducible refine gate_builtin (b := .append) (xs := #[.tmp 31, .tmp 32]) rfl ?_); at_builtin; go_must (refine Kd.R_append_row (Value.int .i64) 0 (h1 := fun _ => rfl) (w0 := w) w.heap.size rfl (.tmp 31) (.tmp 32) 32 3 (.int .i64 0) 8 rfl Try.underlying32 info3 rfl (by omega) (.slice (some ⟨wr.heap.size, 0, none⟩) 1 1) [(j : Int)] suf A suf.length c (fun _ => True) rfl rfl (fun _ _ => trivial) (Kd.R_lower HOA.out HBS) (Kd.C_alloc HO2.out.2.2 _) (below_alloc HB.out _) ?aS ?aL ?_); (case aS => exact hszA); (case aL => exact hlA); intro v1 w1 ho hb hg _; obtain ⟨A1, c1, hv1, hc1, hC1⟩ := Kd.R_reads ho; subst hv1; have HO1 := Aside0.mk ho; have HB1 := Aside0.mk hb; have c01 : w1.cell? ⟨y, 0, none⟩ = some (.pointer (some ⟨p, 0, none⟩)) := HY1.out w1 hb; clear ho hb hg hc1 hC1)
          go_roundw
          case rel => exact ⟨p, path2, (j : Int) :: suf, A1, c1, rfl, rfl, HQ, ⟨by rw [HE.out]; simp⟩, HO1, HB1⟩
          case measure => have := HE.out; rw [this]; simp; omega
        | succ m =>
          rw [take_last (by omega)]
          simp only [ptr]
          obtain ⟨_, d3, _⟩ := HC.out m (by omega)
          simp only [ptr] at d3
          generalize l[m] = s at *
          generalize hgl : (l.take m).getLast? = gl at *
          have hsucc : ((j - (m + 1) : Nat) : Int) + 1 = ((j - m : Nat) : Int) := by omega
          have HS := Aside0.mk hsucc
          clear hsucc
          have HGL := Aside0.mk hgl
          clear hgl
          cases gl
          all_goals
            go_wp2_with fail
            go_round
            case rel => exact ⟨m, by omega, by rw [HS.out], by rw [HGL.out]⟩
            case measure => simp [intOf]; omega
end Go.Proofs.Ytibfoaahdbdogaa.Dom
