/- An append to a row of the call's own leaves the elder, shorter row as it was, too: its elements can still be read. For rows of one call. -/
import Derived.Test.YtbhcoeabhdangaaDoorWMore
namespace Go.Proofs.YtbhcoeabhdangaaDoor.Keep
open Go.RowKit Go.Proofs.YtbhcoeabhdangaaDoorW.PrintWords Go.Proofs.YtbhcoeabhdangaaDoorW.PrintLast Go.Proofs.YtbhcoeabhdangaaDoorW.PrintMore
set_option linter.unusedVariables false
set_option linter.unusedSimpArgs false

theorem run_append_keep {P : Program} (w : World) (base : Nat) (t ty e : TypeId) (i : TypeInfo) (z : Value) (size bytes : Nat) (ht : P.underlying t = some (.slice e)) (hi : P.info? e = some i) (hz : i.zero = some z)
    (hsize : i.size = size) (hby : i.bytes = bytes) (hzs : z.cells.size = size) (hsz : 0 < size)
    (v : Value) (n : Nat) (xs : List Value) (hown : w.ownsRow base e size v n xs)
    (a : Addr) (m c : Nat) (news : List Value) (hl : news.length = m * size) (hnews : ∀ j u, news[j]? = some u → w.cell? (a.add j) = some u) (h1 : ∀ u ∈ news, u.oneCell' = true)
    (h63 : n + m ≤ maxLen) (hbytes : (n + m) * bytes ≤ 140737488355328) (hbase : base ≤ w.heap.size) :
    ∃ v' w', (Builtin.append_ #[t, t] ty #[v, .slice (some a) m c]).run P w = .ok v' w' ∧ w'.ownsRow base e size v' (n + m) (xs ++ news) ∧ w'.ownsRow base e size v n xs ∧ w.grownBy w' v.ownBlock ∧
      (v'.ownBlock = v.ownBlock ∨ v'.ownBlock = some w.heap.size) := by
  obtain ⟨v', w', hr, h2, h3, _, h5⟩ := run_append_own_at (P := P) w base t ty e i z size bytes ht hi hz hsize hby hzs hsz v n xs hown a m c news hl hnews h1 h63 hbytes hbase
  refine ⟨v', w', hr, h2, ?_, h3, h5⟩
  refine ⟨hown.1, ?_⟩
  rcases hown.2 with hn | ⟨g, cap, cur, rfl, hbg, hg, hnc, hcm, hcs, htake⟩
  · exact .inl hn
  · subst hsize
    by_cases hroom : n + m ≤ cap
    · have hfit : n * i.size + news.length ≤ cur.size := by rw [hl, hcs, ← Nat.add_mul]; exact Nat.mul_le_mul_right _ hroom
      have hr2 := run_append_room (P := P) w t ty e i ht hi g n cap cur hg a m c news hl hnews h1 hroom hfit
      rw [hr] at hr2
      injection hr2 with he hw
      subst hw
      refine .inr ⟨g, cap, _, rfl, hbg, setRow_heap w g cur _ e _ hg, hnc, hcm, ?_, ?_⟩
      · simp only [List.size_toArray, List.length_append, List.length_take, List.length_drop, Array.length_toList]
        omega
      · have hlx : (cur.toList.take (n * i.size)).length = n * i.size := by rw [htake]; exact hown.1
        rw [List.append_assoc, List.take_append_of_le_length (by omega), List.take_take, Nat.min_self]
        exact htake
    · have holds : ∀ j u, xs[j]? = some u → w.cell? ((⟨g, 0, none⟩ : Addr).add j) = some u := hown.cells (g := g) rfl
      have hsmall : n + m ≤ 9223372036854775807 := by simp only [maxLen] at h63; omega
      subst hby
      have hr2 := run_append_grow (P := P) w t ty e i z ht hi hz ⟨g, 0, none⟩ n cap xs hown.1 holds a m c news hl hnews (by omega) (by omega) (growslice_fits (by omega) hbytes)
      rw [hr] at hr2
      injection hr2 with he hw
      subst hw
      refine .inr ⟨g, cap, cur, rfl, hbg, ?_, hnc, hcm, hcs, htake⟩
      exact (Below.heap_alloc w.drew _ g (Array.getElem?_eq_some_iff.1 hg).1).trans hg

section
variable {P : Program} {ops : Array Oper} {rest : List Oper} {o : Oper} {a : Act} {Q : Exit → Act → World → Prop}
/-- append(v, ys...) of bytes or other whole numbers: the elder row stays. -/
theorem append_row_keep {w0 W : World} (base : Nat) (hgd : o.guard = none) (s x : Operand) (t e : TypeId) (k : IntKind) (bytes : Nat)
    (ho : o.op = .call { callee := .builtin .append, args := #[s, x], argTypes := #[t, t] })
    (ht : P.underlying t = some (.slice e)) (hinfo : (P.info? e).map (fun i => (i.zero, i.size, i.bytes)) = some (some (.int k 0), 1, bytes)) (hb0 : 0 < bytes)
    (v : Value) (xs ys : List Int) (A : Option Addr) (m c : Nat) (hs : a.eval s = v) (hx : a.eval x = .slice A m c)
    (HO : W.ownsRow base e 1 v xs.length (nums k xs)) (HR : ReadsInt W k A m ys) (HB : Below base w0 W) (hbase : base ≤ W.heap.size) (hl : (xs.length + m) * bytes ≤ 140737488355328)
    (h : ∀ v1 w1, w1.ownsRow base e 1 v1 (xs ++ ys).length (nums k (xs ++ ys)) → w1.ownsRow base e 1 v xs.length (nums k xs) → Below base w0 w1 → W.grownBy w1 v.ownBlock → (v1.ownBlock = v.ownBlock ∨ ∃ b, v1.ownBlock = some b ∧ W.heap.size ≤ b) → wpList P ops Q rest (a.put o.dst v1) w1) :
    wpList P ops Q (o :: rest) a W := by
  obtain ⟨i0, hi, hzz⟩ := Option.map_eq_some_iff.1 hinfo
  simp only [Prod.mk.injEq] at hzz
  obtain ⟨hz0, hz1, hz2⟩ := hzz
  have hm : ys.length = m := HR.1
  have hlen : xs.length + m ≤ 140737488355328 := Nat.le_trans (Nat.le_mul_of_pos_right _ hb0) hl
  have hrun : ∃ v1 w1, (Builtin.append_ #[t, t] o.type #[v, .slice A m c]).run P W = .ok v1 w1 ∧ w1.ownsRow base e 1 v1 (xs ++ ys).length (nums k (xs ++ ys)) ∧ w1.ownsRow base e 1 v xs.length (nums k xs) ∧ W.grownBy w1 v.ownBlock ∧ (v1.ownBlock = v.ownBlock ∨ v1.ownBlock = some W.heap.size) := by
    rcases A with _ | ad
    · have h0 : m = 0 := by
        rcases Nat.eq_zero_or_pos m with h0 | h0
        · exact h0
        · obtain ⟨ad, h, _⟩ := HR.2.2 h0
          cases h
      subst h0
      obtain rfl : ys = [] := List.eq_nil_of_length_eq_zero hm
      refine ⟨v, W, ?_, by simpa using HO, HO, World.grownBy.refl W _, .inl rfl⟩
      rcases HO.2 with ⟨rfl, hn⟩ | ⟨g, cap, cur, rfl, _, _, hnc, _⟩
      · simp [Builtin.append_, run_underlying ht, sizeOf, typeInfo, hi, Builtin.lenOf, Builtin.firstCells]
      · simp [Builtin.append_, run_underlying ht, sizeOf, typeInfo, hi, Builtin.lenOf, Builtin.firstCells, hnc, storeCells]
    · have hcells : ∀ j u, (nums k ys)[j]? = some u → W.cell? (ad.add j) = some u := by
        intro j u hu
        have hj : j < ys.length := by
          rcases Nat.lt_or_ge j ys.length with h | h
          · exact h
          · simp [nums, List.getElem?_eq_none h] at hu
        obtain ⟨ad', h', hc⟩ := HR.2.2 (by omega)
        injection h' with h'
        subst h'
        have hcj := hc j (by omega)
        simp [nums, List.getElem?_eq_getElem hj] at hu
        subst hu
        rw [hcj]
        simp [List.getD_eq_getElem?_getD, List.getElem?_eq_getElem hj]
      obtain ⟨v1, w1, hr, h2, h3, h4, h5⟩ := run_append_keep (P := P) W base t o.type e i0 (.int k 0) 1 bytes ht hi hz0 hz1 hz2 rfl (by omega) v xs.length (nums k xs) HO ad m c (nums k ys) (by simp [nums, hm]) hcells
        (by intro u hu; simp only [nums, List.mem_map] at hu; obtain ⟨q, _, rfl⟩ := hu; rfl) (by simp only [maxLen]; omega) hl hbase
      exact ⟨v1, w1, hr, by simpa [nums, hm] using h2, h3, h4, h5⟩
  obtain ⟨v1, w1, hr, h2, h3, h4, h5⟩ := hrun
  refine wpList_plain hgd fun K hK => ?_
  unfold Oper.wp execOp
  simp only [ho, resolve, invoke, builtin, Sem.run_bind, Sem.run_pure, Result.andThen_ok, List.map_toArray, List.map_cons, List.map_nil, hs, hx, hr]
  refine hK _ _ (h v1 w1 h2 h3 (HB.grown h4 hbase (own_base HO)) h4 ?_)
  rcases h5 with hat | hat
  · exact .inl hat
  · exact .inr ⟨_, hat, Nat.le_refl _⟩
/-- append(v, ys...) where v has no room: v is only read, the row is new. -/
theorem append_new {W : World} (hgd : o.guard = none) (s x : Operand) (t e : TypeId) (k : IntKind) (bytes : Nat)
    (ho : o.op = .call { callee := .builtin .append, args := #[s, x], argTypes := #[t, t] })
    (ht : P.underlying t = some (.slice e)) (hinfo : (P.info? e).map (fun i => (i.zero, i.size, i.bytes)) = some (some (.int k 0), 1, bytes)) (hb0 : 0 < bytes)
    (A B : Option Addr) (n m c c' : Nat) (xs ys : List Int) (hs : a.eval s = .slice A n c') (hx : a.eval x = .slice B m c)
    (HX : ReadsInt W k A n xs) (HR : ReadsInt W k B m ys) (hn : 0 < n) (hm0 : 0 < m) (hc : c' < n + m) (hl : (n + m) * bytes ≤ 140737488355328)
    (h : ∀ v1 w1, w1.ownsRow W.heap.size e 1 v1 (n + m) (nums k (xs ++ ys)) → W.grownBy w1 none → wpList P ops Q rest (a.put o.dst v1) w1) :
    wpList P ops Q (o :: rest) a W := by
  obtain ⟨i0, hi, hzz⟩ := Option.map_eq_some_iff.1 hinfo
  simp only [Prod.mk.injEq] at hzz
  obtain ⟨hz0, hz1, hz2⟩ := hzz
  have hxl : xs.length = n := HX.1
  have hyl : ys.length = m := HR.1
  have hlen : n + m ≤ 140737488355328 := Nat.le_trans (Nat.le_mul_of_pos_right _ hb0) hl
  have cellsOf : ∀ {D : Option Addr} {q : Nat} {zs : List Int}, ReadsInt W k D q zs → 0 < q → ∃ ad, D = some ad ∧ ∀ j u, (nums k zs)[j]? = some u → W.cell? (ad.add j) = some u := by
    intro D q zs H hq
    obtain ⟨ad, rfl, hc⟩ := H.2.2 hq
    refine ⟨ad, rfl, fun j u hu => ?_⟩
    have hj : j < zs.length := by
      rcases Nat.lt_or_ge j zs.length with h | h
      · exact h
      · simp [nums, List.getElem?_eq_none h] at hu
    have hq2 := H.1
    have hcj := hc j (by omega)
    simp [nums, List.getElem?_eq_getElem hj] at hu
    subst hu
    rw [hcj]
    simp [List.getD_eq_getElem?_getD, List.getElem?_eq_getElem hj]
  obtain ⟨ad, rfl, hca⟩ := cellsOf HX hn
  obtain ⟨bd, rfl, hcb⟩ := cellsOf HR hm0
  subst hz2
  have hr := run_append_grow (P := P) W t o.type e i0 (.int k 0) ht hi hz0 ad n c' (nums k xs) (by rw [hz1]; simp [nums, hxl]) hca bd m c (nums k ys) (by rw [hz1]; simp [nums, hyl]) hcb hc (by omega) (growslice_fits hc hl)
  refine wpList_plain hgd fun K hK => ?_
  unfold Oper.wp execOp
  simp only [ho, resolve, invoke, builtin, Sem.run_bind, Sem.run_pure, Result.andThen_ok, List.map_toArray, List.map_cons, List.map_nil, hs, hx, hr]
  refine hK _ _ (h _ _ ?_ ⟨rfl, rfl, rfl, by simp, fun i hi _ => heap_alloc_old W.drew _ hi⟩)
  have hge := grownCap_ge W (n + m) c' e
  have hcm : grownCap W (n + m) c' e ≤ maxLen := grownCap_le_maxLen W (n + m) c' e (by simp only [maxLen]; omega)
  have hlx : (nums k (xs ++ ys)).length = n + m := by simp [nums, hxl, hyl]
  refine ⟨by rw [hlx, Nat.mul_one], .inr ⟨W.heap.size, _, _, rfl, Nat.le_refl _, heap_alloc_new W.drew _, hge, hcm, ?_, ?_⟩⟩
  · simp only [Array.size_append, List.size_toArray, size_zeroCells, nums_length, hxl, hyl, show (Value.int k 0).cells.size = 1 from rfl]
    omega
  · simp only [Array.toList_append, Nat.mul_one, ← nums_append]
    rw [← hlx]
    exact List.take_left
end

end Go.Proofs.YtbhcoeabhdangaaDoor.Keep
