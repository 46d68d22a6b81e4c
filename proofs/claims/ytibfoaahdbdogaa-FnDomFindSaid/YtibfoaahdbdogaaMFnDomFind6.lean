/- A part of the proof of FnDomFind: Open, OpenT, RowFnDomFind, one behind the other. -/
import Derived.Test.YtibfoaahdbdogaaMFnDomFind1
import Derived.ChangeArms
import Derived.ChangeSlices
import Derived.DataReads
import Derived.SizedLaws
import Derived.Test.YtibfoaahdbdogaaMFnDomFind3
import Derived.Test.YtibfoaahdbdogaaRows
import Derived.Test.YtibfoaahdbdogaaMFnDomFind5
import Derived.WalkKit
import Derived.ProofKit
import Derived.OpenShut
import Derived.ShutString
import Derived.ChangeOld
import Derived.Below
/- Arguments opened: what the reading of a datum says of memory, for texts, numbers, slices and structs, and how large they are. Each as large as a row's reach allows. -/
namespace Go.Proofs.Ytibfoaahdbdogaa.Open
open Go.RowKit Go.ChangeShapes Go.WideShapes Go.Proofs.YtibfoaahdbdogaaW.PrintWords Go.Proofs.YtibfoaahdbdogaaW.PrintLast Go.Proofs.YtibfoaahdbdogaaW.PrintMore

/-- A datum of type t that is read within the fuel tells a value of kind k in memory, and the value is Good. -/
def Opens {α : Type} (P : Program) (t : TypeId) (k : Kd α) (Good : α → Prop) (fuel : Nat) : Prop :=
  ∀ (H : Type) (enc : TypeId × Value → H) (W : World) (base : Nat) (spare : Nat → Bool) (held : Bool) (cs : List Value) (x : DataW H × List MemPlace),
    DataW.trod enc P W base spare held fuel t cs = some x → (∀ n ∈ x.1.weights P t, n ≤ reachBytes) → ∃ y, k.K W y cs ∧ Good y

theorem opens_string {P : Program} {t : TypeId} (ht : P.underlying t = some .string) (fuel : Nat) : Opens P t Kd.string (fun s => s.size ≤ 140737488351232) fuel := by
  intro H enc W base spare held cs x h hw
  obtain ⟨s, rfl, rfl, _⟩ := DataW.trod_string ht h
  refine ⟨s, rfl, ?_⟩
  have := hw s.data.toList.length (by simp [DataW.weights])
  rw [Array.length_toList] at this
  exact this
theorem opens_int {P : Program} {t : TypeId} {k : IntKind} (ht : P.underlying t = some (.int k)) (fuel : Nat) : Opens P t (Kd.int k) (fun n => (Lit.int k n).wf = true) fuel := by
  intro H enc W base spare held cs x h hw
  obtain ⟨n, rfl, rfl, hwf⟩ := DataW.trod_int ht h
  exact ⟨n, rfl, hwf⟩

theorem weights_all {H : Type} {P : Program} {e : TypeId} : ∀ {ds : List (DataW H)} {d : DataW H}, d ∈ ds → ∀ n ∈ d.weights P e, n ∈ DataW.weightsAll P e ds
  | d0 :: ds, d, hd, n, hn => by
    simp only [DataW.weightsAll, List.mem_append]
    rcases List.mem_cons.1 hd with rfl | hd
    · exact .inl hn
    · exact .inr (weights_all hd n hn)
theorem addr_add (a : Addr) (i j : Nat) : (a.add i).add j = a.add (i + j) := by
  unfold Addr.add
  by_cases h1 : i = 0 <;> by_cases h2 : j = 0 <;> simp [h1, h2, Nat.add_assoc]

theorem opens_slice {α : Type} {P : Program} {t e : TypeId} {k : Kd α} {Good : α → Prop} (ht : P.underlying t = some (.slice e)) (hc : P.cellsOf e = k.sz) {B : Nat} (hB : P.bytesOf e = B) (fuel : Nat) (he : ∀ n, n < fuel → Opens P e k Good n) :
    Opens P t (Kd.slice e k) (fun xs => xs.length * B ≤ 140737488351232 ∧ ∀ x ∈ xs, Good x) fuel := by
  intro H enc W base spare held cs x h hw
  rcases DataW.trod_slice ht h with ⟨rfl, rfl⟩ | ⟨a, len, cap, elems, rest, n, rfl, rfl, rfl, hb, hl, hm, hlen, hel, hsp, hns⟩
  · exact ⟨[], ⟨none, 0, rfl, Nat.le_refl _, Kd.C_nil _ _⟩, by simp, fun _ h => by cases h⟩
  · have hwt : (elems.length + rest.length) * B ≤ reachBytes := by
      refine hw _ ?_
      simp only [DataW.weights, ht, List.length_map, hB]
      exact List.mem_cons_self ..
    have each : ∀ i, i < len → ∃ y : α, Good y ∧ ∃ c : List Value, c.length = k.sz ∧ k.K W y c ∧ ∀ j u, c[j]? = some u → W.cell? (a.add (i * k.sz + j)) = some u := by
      intro i hi
      have h1 := hel i hi
      rw [hc, List.getElem?_eq_getElem (by omega)] at h1
      obtain ⟨c, hcs, hy⟩ := Option.bind_eq_some_iff.1 h1
      obtain ⟨_, hcl, hcc⟩ := World.cells?_some hcs
      obtain ⟨y, hK, hG⟩ := he n (by omega) H enc W base spare held c _ hy (fun q hq => hw q (by
        simp only [DataW.weights, ht, List.mem_cons, List.mem_append]
        exact .inr (.inl (weights_all (List.mem_map.2 ⟨elems[i], List.getElem_mem _, rfl⟩) q hq))))
      refine ⟨y, hG, c, hcl, hK, fun j u hu => ?_⟩
      have hj : j < k.sz := by have := (List.getElem?_eq_some_iff.1 hu).1; omega
      have h2 := hcc j hj
      rw [addr_add] at h2
      rw [h2]
      exact hu
    let ys : List α := List.ofFn fun i : Fin len => Classical.choose (each i i.isLt)
    have hyl : ys.length = len := List.length_ofFn
    have hyg : ∀ (i : Nat) (hi : i < len), ys[i]'(by omega) = Classical.choose (each i hi) := fun i hi => by simp [ys]
    refine ⟨ys, ⟨some a, cap, by rw [hyl], by omega, rfl, ?_, fun hp => ⟨a, rfl, fun j p hj => ?_⟩⟩, ?_, fun y hy => ?_⟩
    · rw [hyl]
      simp only [maxLen] at hm
      omega
    · obtain ⟨hjl, rfl⟩ := List.getElem?_eq_some_iff.1 hj
      have h1 := Classical.choose_spec (each j (by omega))
      rw [hyg j (by omega)]
      exact h1.2
    · rw [hyl]
      refine Nat.le_trans (Nat.mul_le_mul_right _ ?_) hwt
      omega
    · obtain ⟨i, hi, rfl⟩ := List.getElem_of_mem hy
      rw [hyg i (by omega)]
      exact (Classical.choose_spec (each i (by omega))).1

/-- Fields one behind the other, from the cell with number o on. -/
def OpensFs {β : Type} (P : Program) (fs : List Field) (o : Nat) (k : Kd β) (Good : β → Prop) (fuel : Nat) : Prop :=
  ∀ (H : Type) (enc : TypeId × Value → H) (W : World) (base : Nat) (spare : Nat → Bool) (held : Bool) (cs : List Value) (xs : List (DataW H × List MemPlace)), xs.length = fs.length →
    (∀ (i : Nat) (f : Field), fs[i]? = some f → DataW.trod enc P W base spare held fuel f.type ((cs.drop f.offset).take (P.cellsOf f.type)) = xs[i]?) →
    (∀ (i : Nat) (f : Field) (x : DataW H × List MemPlace), fs[i]? = some f → xs[i]? = some x → ∀ n ∈ x.1.weights P f.type, n ≤ reachBytes) → cs.length = o + k.sz → ∃ y, k.K W y (cs.drop o) ∧ Good y
theorem opens_last {β : Type} {P : Program} {f : Field} {o : Nat} {k : Kd β} {Good : β → Prop} {fuel : Nat} (ho : f.offset = o) (hc : P.cellsOf f.type = k.sz) (h : Opens P f.type k Good fuel) : OpensFs P [f] o k Good fuel := by
  intro H enc W base spare held cs xs hl hx hw hcs
  obtain ⟨x, rfl⟩ : ∃ x, xs = [x] := List.length_eq_one_iff.1 hl
  have h1 := hx 0 f rfl
  rw [ho, hc, List.take_of_length_le (by rw [List.length_drop]; omega)] at h1
  exact h H enc W base spare held _ x h1 (hw 0 f x rfl rfl)
theorem opens_cons {α β : Type} {P : Program} {f : Field} {fs : List Field} {o : Nat} {k : Kd α} {k2 : Kd β} {Good : α → Prop} {Good2 : β → Prop} {fuel : Nat} (ho : f.offset = o) (hc : P.cellsOf f.type = k.sz) (h : Opens P f.type k Good fuel) (h2 : OpensFs P fs (o + k.sz) k2 Good2 fuel) :
    OpensFs P (f :: fs) o (Kd.pair k k2) (fun y => Good y.1 ∧ Good2 y.2) fuel := by
  intro H enc W base spare held cs xs hl hx hw hcs
  cases xs with
  | nil => simp at hl
  | cons x xs =>
    have h1 := hx 0 f rfl
    rw [ho, hc] at h1
    obtain ⟨y1, hK1, hG1⟩ := h H enc W base spare held _ x h1 (hw 0 f x rfl rfl)
    have hsz : (Kd.pair k k2).sz = k.sz + k2.sz := rfl
    obtain ⟨y2, hK2, hG2⟩ := h2 H enc W base spare held cs xs (by simpa using hl) (fun i g hg => by have := hx (i + 1) g (by simpa using hg); simpa using this)
      (fun i g z hg hz => hw (i + 1) g z (by simpa using hg) (by simpa using hz)) (by omega)
    refine ⟨(y1, y2), ⟨(cs.drop o).take k.sz, cs.drop (o + k.sz), ?_, hK1, hK2⟩, hG1, hG2⟩
    rw [← List.drop_drop, List.take_append_drop]
theorem opens_struct {α β : Type} {P : Program} {t : TypeId} {fs : Array Field} {k : Kd β} {Good : β → Prop} {fuel : Nat} (ht : P.underlying t = some (.struct fs)) (hc : P.cellsOf t = k.sz) (f : α → β) (g : β → α) (hfg : ∀ y, f (g y) = y) (h : ∀ n, n < fuel → OpensFs P fs.toList 0 k Good n) :
    Opens P t (Kd.iso k f) (fun x => Good (f x)) fuel := by
  intro H enc W base spare held cs x hx hw
  obtain ⟨xs, n, rfl, rfl, hcl, hl, hf⟩ := DataW.trod_struct ht hx
  obtain ⟨y, hK, hG⟩ := h n (by omega) H enc W base spare held cs xs (by simpa using hl) (fun i g hg => hf i g (by simpa using hg)) (fun i q z hq hz m hm => hw m (by
    simp only [DataW.weights, ht]
    exact DataW.weights_mem_each (j := i) (t := q.type) (d := z.1) (by simp only [List.getElem?_map, hq]; rfl) (by simp only [List.getElem?_map, hz]; rfl) m hm)) (by omega)
  rw [List.drop_zero] at hK
  refine ⟨g y, ?_, by show Good (f (g y)); rw [hfg]; exact hG⟩
  show k.K W (f (g y)) cs
  rw [hfg]
  exact hK

/-- An argument of a law that is a slice: its value, what it reads as, how large. -/
theorem open_slice {α : Type} {P : Program} {t e : TypeId} {k : Kd α} {Good : α → Prop} {B : Nat} {H : Type} {enc : TypeId × Value → H} {W : World} {base : Nat} {spare : Nat → Bool} {held : Bool} {v : Value} {d : DataW H} {ps : List MemPlace} {ts : List TypeId} {ds : List (DataW H)} {j : Nat}
    (hO : ∀ fuel, Opens P t (Kd.slice e k) (fun xs => xs.length * B ≤ 140737488351232 ∧ ∀ x ∈ xs, Good x) fuel) (hd : DataW.Trod enc P W base spare held t v d ps)
    (hsz : (DataW.weightsEach P ts ds).all (· ≤ reachBytes) = true) (ht : ts[j]? = some t) (hdj : ds[j]? = some d) :
    ∃ (xs : List α) (A : Option Addr) (c : Nat), v.cells.toList = [.slice A xs.length c] ∧ xs.length ≤ c ∧ k.C W A xs.length xs ∧ xs.length * B ≤ 140737488351232 ∧ ∀ x ∈ xs, Good x := by
  obtain ⟨fuel, hf⟩ := hd
  obtain ⟨xs, ⟨A, c, hcs, hl, hC⟩, hB, hG⟩ := hO fuel H enc W base spare held _ _ hf (fun n hn => by
    have := List.all_eq_true.1 hsz n (DataW.weights_mem_each ht hdj n hn)
    simpa using this)
  exact ⟨xs, A, c, hcs, hl, hC, hB, hG⟩

end Go.Proofs.Ytibfoaahdbdogaa.Open

/- A tree that comes in as an argument: what it reads as in memory, and that it fits. -/
namespace Go.Proofs.Ytibfoaahdbdogaa.PDom
open Go.RowKit Go.ChangeShapes Go.WideShapes Go.Proofs.YtibfoaahdbdogaaW.PrintWords Go.Proofs.YtibfoaahdbdogaaW.PrintLast Go.Proofs.YtibfoaahdbdogaaW.PrintMore Go.Proofs.Ytibfoaahdbdogaa.Dom Go.Proofs.Ytibfoaahdbdogaa.Open
set_option linter.unusedVariables false
set_option linter.unusedSimpArgs false

theorem opens_attr (fuel : Nat) : Opens Try.prog 78 k78 (fun _ => True) fuel := by
  have h := opens_struct (α := S78) (fuel := fuel) Try.underlying78 (by kernel_rfl) (fun x : S78 => (x.f0, x.f1)) (fun y => ⟨y.1, y.2⟩) (fun _ => rfl)
    (fun n _ => opens_cons (P := Try.prog) (o := 0) rfl (by kernel_rfl) (opens_string Try.underlying9 n) (opens_last (o := 1) rfl (by kernel_rfl) (opens_string Try.underlying9 n)))
  intro H enc W base spare held cs x hx hw
  obtain ⟨y, hK, _⟩ := h H enc W base spare held cs x hx hw
  exact ⟨y, hK, trivial⟩
theorem opens_T (fuel : Nat) : Opens Try.prog 25 k25 FitS fuel := by
  induction fuel using Nat.strongRecOn with
  | _ fuel ih =>
    have h := opens_struct (α := T) (fuel := fuel) Try.underlying25 (by kernel_rfl) (fun x : T => (x.f0, x.f1, x.f2, x.f3, x.f4)) (fun y => ⟨y.1, y.2.1, y.2.2.1, y.2.2.2.1, y.2.2.2.2⟩) (fun _ => rfl)
      (fun n hn => opens_cons (P := Try.prog) (o := 0) rfl (by kernel_rfl) (opens_int (k := .i64) Try.underlying3 n)
        (opens_cons (o := 1) rfl (by kernel_rfl) (opens_string Try.underlying9 n) (opens_cons (o := 2) rfl (by kernel_rfl) (opens_string Try.underlying9 n)
          (opens_cons (o := 3) rfl (by kernel_rfl) (opens_slice (k := k78) Try.underlying22 (by kernel_rfl) (B := 32) (by kernel_rfl) n (fun m _ => opens_attr m))
            (opens_last (o := 4) rfl (by kernel_rfl) (opens_slice (k := k25) Try.underlying23 (by kernel_rfl) (B := 88) (by kernel_rfl) n (fun m hm => ih m (by omega))))))))
    intro H enc W base spare held cs x hx hw
    obtain ⟨y, hK, hG⟩ := h H enc W base spare held cs x hx hw
    obtain ⟨_, _, rfl, rfl, ⟨_, _, rfl, rfl, ⟨_, _, rfl, rfl, ⟨_, _, rfl, ⟨A3, c3, rfl, l3, g3⟩, ⟨A4, c4, rfl, l4, g4⟩⟩⟩⟩⟩ := hK
    obtain ⟨_, hn, _, ⟨ha, _⟩, ⟨hb, hy⟩⟩ := hG
    have ha2 : y.f3.length * 32 ≤ 140737488351232 := ha
    have hb2 : y.f4.length * 88 ≤ 140737488351232 := hb
    exact ⟨y, k25_mk W y l3 g3 l4 g4, FitS.mk y hn (by omega) (by omega) hy⟩
theorem open_T {H : Type} {enc : TypeId × Value → H} {W : World} {base : Nat} {spare : Nat → Bool} {held : Bool} {v : Value} {d : DataW H} {ps : List MemPlace} {ts : List TypeId} {ds : List (DataW H)} {j : Nat} {t : TypeId} (e : t = 25)
    (hd : DataW.Trod enc Try.prog W base spare held t v d ps) (hsz : (DataW.weightsEach Try.prog ts ds).all (· ≤ reachBytes) = true) (ht : ts[j]? = some t) (hdj : ds[j]? = some d) :
    ∃ (y : T) (A3 : Option Addr) (c3 : Nat) (A4 : Option Addr) (c4 : Nat), FitS y ∧ v.cells.toList = [.int .i64 y.f0, .string y.f1, .string y.f2, .slice A3 y.f3.length c3, .slice A4 y.f4.length c4] ∧ k78.C W A3 y.f3.length y.f3 ∧ y.f3.length ≤ c3 ∧ k25.C W A4 y.f4.length y.f4 ∧ y.f4.length ≤ c4 := by
  subst e
  obtain ⟨fuel, hf⟩ := hd
  obtain ⟨y, hK, hG⟩ := opens_T fuel H enc W base spare held _ _ hf (fun n hn => by
    have := List.all_eq_true.1 hsz n (DataW.weights_mem_each ht hdj n hn)
    simpa using this)
  obtain ⟨A3, c3, A4, c4, hcs, l3, g3, l4, g4⟩ := k25_open hK
  exact ⟨y, A3, c3, A4, c4, hG, hcs, g3, l3, g4, l4⟩
end Go.Proofs.Ytibfoaahdbdogaa.PDom

/- The row of the law FnDomFind, out of its walk. No further conditions. -/
namespace Go.Proofs.Ytibfoaahdbdogaa.fnDomFind
open Go.ChangeShapes Go.WideShapes Go.ChangeAt Go.RowKit
open Go.ChangeMaps (open_string shut_string)
open Go.Proofs.Ytibfoaahdbdogaa.PDom
set_option linter.unusedVariables false
theorem own : ownKnob Try.prog.godebug = none := by kernel_rfl
theorem laidOut : laidOutB Try.prog = true := by kernel_rfl
set_option maxRecDepth 100000 in
theorem lifted (os : Os) (started : os.Started) (H : Type) (enc : TypeId × Value → H) :
    ReturnsInHanded {} Try.checked os 5 .any (Rows.fnDomFindSpec.pre6 enc Try.prog Try.f5 Rows.fnDomFindRow.domain false) (Rows.fnDomFindSpec.post enc Try.prog Try.f5 false true false false) := by
  refine returnsInHanded_of_change_sized (C := Try.checked) own started (by kernel_rfl) Try.func5
    (ChangeSpec.witness6 (enc := enc) (C := Try.checked) false ⟨#[], #[.agg #[.int .i64 0, .string ByteArray.empty, .string ByteArray.empty, .slice none 0 0, .slice none 0 0], .slice none 0 0, .slice none 0 0], []⟩ 8 (by kernel_rfl) (by kernel_rfl) (by kernel_rfl) (by kernel_rfl)) ?_
  intro W base args ds gs before hval0 hW hcnd hsz0 _
  have hsz : (DataW.weightsEach Try.prog (Try.f5.params.toList ++ Rows.fnDomFindSpec.plain.varTypes Try.prog) (ds ++ gs)).all (· ≤ reachBytes) = true := hsz0
  have hval : ∀ (j : Nat) t v, Try.f5.params[j]? = some t → args[j]? = some v → Value.okWide Try.prog W .any base t v := hval0
  have hW' := hW
  obtain ⟨p, q, hA0, hV, rfl, hfz, hnd⟩ := hW
  have hA : DataW.TrodAll enc Try.prog W 0 (fun _ => true) true Try.f5.params.toList args.toList ds p := hA0
  rw [Try.params5] at hA hval hsz
  obtain ⟨v0, vs0, d0, ds0, p0, q0, hargs, rfl, rfl, h0, r0⟩ := trodAll_cons hA
  obtain ⟨v1, vs1, d1, ds1, p1, q1, rfl, rfl, rfl, h1, r1⟩ := trodAll_cons r0
  obtain ⟨v2, vs2, d2, ds2, p2, q2, rfl, rfl, rfl, h2, r2⟩ := trodAll_cons r1
  obtain ⟨rfl, rfl, rfl⟩ := trodAll_nil r2
  obtain rfl : args = #[v0, v1, v2] := by cases args; simp_all
  obtain ⟨rfl, rfl⟩ := trodVars_none hV
  obtain ⟨cs0, rfl, hz0⟩ := okWide_struct Try.underlying25 (hval 0 25 v0 rfl rfl)
  have k0 := h0
  have lt0 : ∀ x ∈ p0, x.block < W.heap.size := by obtain ⟨m, hm⟩ := k0; exact DataW.trod_lt m _ _ _ hm
  obtain ⟨x0, A0, c0, B0, d_0, hF0, hcs0, hC0, hl0, hD0, hm0⟩ := open_T rfl h0 hsz (j := 0) (t := 25) rfl rfl
  obtain rfl : cs0 = #[.int .i64 x0.f0, .string x0.f1, .string x0.f2, .slice A0 x0.f3.length c0, .slice B0 x0.f4.length d_0] := by cases cs0; simpa [Value.cells] using hcs0
  obtain ⟨a1, len1, cap1, rfl⟩ := okWide_slice Try.underlying32 (hval 1 32 v1 rfl rfl)
  have k1 := h1
  have lt1 : ∀ x ∈ p1, x.block < W.heap.size := by obtain ⟨m, hm⟩ := k1; exact DataW.trod_lt m _ _ _ hm
  obtain ⟨x1, A1, c1, hcs1, hl1, hC1, hB1, hG1⟩ := Open.open_slice (fun fuel => (Open.opens_slice Try.underlying32 (by kernel_rfl) (B := 8) (by kernel_rfl) fuel (fun n4 _ => (Open.opens_int Try.underlying3 n4)))) h1 hsz (j := 1) (t := 32) rfl rfl
  obtain ⟨rfl, rfl, rfl⟩ : a1 = A1 ∧ len1 = x1.length ∧ cap1 = c1 := by simpa [Value.cells] using hcs1
  obtain ⟨a2, len2, cap2, rfl⟩ := okWide_slice Try.underlying33 (hval 2 33 v2 rfl rfl)
  have k2 := h2
  have lt2 : ∀ x ∈ p2, x.block < W.heap.size := by obtain ⟨m, hm⟩ := k2; exact DataW.trod_lt m _ _ _ hm
  obtain ⟨x2, A2, c2, hcs2, hl2, hC2, hB2, hG2⟩ := Open.open_slice (fun fuel => (Open.opens_slice Try.underlying33 (by kernel_rfl) (B := 16) (by kernel_rfl) fuel (fun n4 _ => (Open.opens_string Try.underlying9 n4)))) h2 hsz (j := 2) (t := 33) rfl rfl
  obtain ⟨rfl, rfl, rfl⟩ : a2 = A2 ∧ len2 = x2.length ∧ cap2 = c2 := by simpa [Value.cells] using hcs2
  clear hA0 hval0 hsz0
  refine (PDom.row_calls_find x0 A0 c0 B0 d_0 a1 cap1 x1 a2 cap2 x2 W hF0 hC0 hl0 hD0 hm0 hC1 hl1 hB1 hG1 hC2 hl2 hB2 hG2).mono fun e W' ⟨he, bel⟩ => ?_
  subst he
  exact ⟨_, rfl, _, _, _, [], _, [], hW', trodAll_mk1 (shut_bool Try.underlying4 _), (trodAll_cons_mk (Below.trod laidOut (by kernel_rfl) (of_decide_eq_true (by kernel_rfl)) k0 bel lt0) (trodAll_cons_mk (Below.trod laidOut (by kernel_rfl) (of_decide_eq_true (by kernel_rfl)) k1 bel lt1) (trodAll_cons_mk (Below.trod laidOut (by kernel_rfl) (of_decide_eq_true (by kernel_rfl)) k2 bel lt2) trodAll_mk0))), rfl, bel.frame _, fun h => by cases h⟩
theorem over : Rows.fnDomFindRow.holds Try.pinned (OpenSpec.ofChange Rows.fnDomFindSpec) :=
  OpenClaim.holds_of_wide 5 Try.f5 rfl rfl rfl rfl rfl rfl rfl ⟨rfl, rfl, rfl, rfl, rfl⟩ rfl rfl rfl rfl rfl (by kernel_rfl) Try.func5 (by kernel_rfl)
    (of_decide_eq_true (by kernel_rfl)) (by unfold Func.isWrapper; first | (rw [if_pos (by decide +kernel)]; kernel_rfl) | (rw [if_neg (by decide +kernel)]; exact ⟨rfl, rfl⟩))
    (fun os started H enc _ => lifted os started H enc)
theorem proved : Rows.FnDomFindSaid := over
#print axioms proved
end Go.Proofs.Ytibfoaahdbdogaa.fnDomFind
namespace Go.Proofs.Ytibfoaahdbdogaa
/-- The row, under a short name, for the claim. -/
theorem fnDomFind_holds : Rows.FnDomFindSaid := fnDomFind.proved
end Go.Proofs.Ytibfoaahdbdogaa
