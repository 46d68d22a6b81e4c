/- A part of the proof of FnEmptyCode: PureEmp, Open, OpenX, RowFnEmptyCode, one behind the other. -/
import Derived.Test.YtmfjbljdbkmkgaaMFnEmptyCode4
import Derived.Test.YtmfjbljdbkmkgaaMFnEmptyCode5
import Derived.Test.YtmfjbljdbkmkgaaMFnEmptyCode6
import Derived.Test.YtmfjbljdbkmkgaaMFnEmptyCode1
import Derived.ChangeArms
import Derived.ChangeSlices
import Derived.DataReads
import Derived.SizedLaws
import Derived.Test.YtmfjbljdbkmkgaaMFnEmptyCode3
import Derived.Test.YtmfjbljdbkmkgaaRows
import Derived.WalkKit
import Derived.ProofKit
import Derived.OpenShut
import Derived.ShutString
import Derived.ChangeOld
import Derived.Below
/- FnEmptyCode: the plain law, and the law's walk for trees that fit. -/
namespace Go.Proofs.Ytmfjbljdbkmkgaa.PDom
open Go.RowKit Go.Proofs.YtmfjbljdbkmkgaaW.PrintWords Go.Proofs.YtmfjbljdbkmkgaaW.PrintLast Go.Proofs.YtmfjbljdbkmkgaaW.PrintMore Go.Proofs.Ytmfjbljdbkmkgaa.Dom Go.Proofs.Ytmfjbljdbkmkgaa.Txt
set_option linter.unusedVariables false
set_option linter.unusedSimpArgs false

theorem empT_eq (t : T) : empT t = { t with f4 := empTL t.f4 } := by cases t; rfl
theorem hasT_eq (t : T) : hasT t = ((t.f0 == 1 && !t.f2.toList.isEmpty) || hasTL t.f4) := by cases t; rfl
/-- Without a text that is not empty there is no text. -/
theorem hasT_no (t : T) : hasT t = false → txT t = [] := by
  induction t using T_induct with
  | h t ih =>
    intro h
    rw [hasT_eq, Bool.or_eq_false_iff] at h
    have hL : ∀ c : List T, (∀ y ∈ c, y ∈ t.f4) → hasTL c = false → txTL c = [] := by
      intro c
      induction c with
      | nil => intro _ _; rfl
      | cons y c ih2 =>
        intro hm hh
        rw [hasTL, Bool.or_eq_false_iff] at hh
        rw [txTL, ih y (hm y (by simp)) hh.1, ih2 (fun z hz => hm z (by simp [hz])) hh.2]
        rfl
    rw [txT_eq]
    split
    · rename_i h1
      have h2 := h.1
      rw [h1] at h2
      have h3 : t.f2.toList = [] := by simpa using h2
      rw [ByteArray.toList_eq] at h3
      exact h3
    · exact hL t.f4 (fun y hy => hy) h.2
theorem emp_text (t : T) : txT (empT t) = txT t := by
  induction t using T_induct with
  | h t ih =>
    have hL : ∀ c : List T, (∀ y ∈ c, y ∈ t.f4) → txTL (empTL c) = txTL c := by
      intro c
      induction c with
      | nil => intro _; rfl
      | cons y c ih2 =>
        intro hm
        rw [empTL]
        split
        · rename_i h
          rw [Bool.and_eq_true] at h
          rw [txTL, hasT_no y (by simpa using h.2), ih2 (fun z hz => hm z (by simp [hz]))]
          rfl
        · rw [txTL, txTL, ih y (hm y (by simp)), ih2 (fun z hz => hm z (by simp [hz]))]
    rw [empT_eq, txT_eq, txT_eq]
    split
    · rfl
    · exact hL t.f4 (fun y hy => hy)
theorem emp_same (names : List ByteArray) (hc : codeN ∈ names) (t : T) : hasNm names t = false → empT t = t := by
  induction t using T_induct with
  | h t ih =>
    intro h
    rw [hasNm_eq, Bool.or_eq_false_iff] at h
    have hL : ∀ c : List T, (∀ y ∈ c, y ∈ t.f4) → hasNmL names c = false → empTL c = c := by
      intro c
      induction c with
      | nil => intro _ _; rfl
      | cons y c ih2 =>
        intro hm hh
        rw [hasNmL, Bool.or_eq_false_iff] at hh
        have h1 := hh.1
        rw [hasNm_eq, Bool.or_eq_false_iff] at h1
        have hcd : isCode y = false := by
          cases hcd : isCode y with
          | false => rfl
          | true =>
            have : isT names y = true := by
              unfold isCode at hcd
              rw [Bool.and_eq_true] at hcd
              unfold isT
              rw [hcd.1, Bool.true_and, List.any_eq_true]
              exact ⟨codeN, hc, hcd.2⟩
            rw [this] at h1
            exact absurd h1.1 (by simp)
        rw [empTL, hcd, Bool.false_and, if_neg (by simp), ih y (hm y (by simp)) hh.1, ih2 (fun z hz => hm z (by simp [hz])) hh.2]
    rw [empT_eq, hL t.f4 (fun y hy => hy) h.2]
    cases t
    rfl
theorem emp_ok (t : T) : okT t = true → okT (empT t) = true := by
  induction t using T_induct with
  | h t ih =>
    intro h
    obtain ⟨h1, h2, h3, h4⟩ := okT_open h
    have hL : ∀ c : List T, (∀ y ∈ c, y ∈ t.f4) → (∀ y ∈ empTL c, okT y = true) ∧ (empTL c).length ≤ c.length := by
      intro c
      induction c with
      | nil => intro _; exact ⟨fun y hy => by simp [empTL] at hy, Nat.le_refl _⟩
      | cons y c ih2 =>
        intro hm
        obtain ⟨g1, g2⟩ := ih2 (fun z hz => hm z (by simp [hz]))
        rw [empTL]
        split
        · exact ⟨g1, by rw [List.length_cons]; omega⟩
        · refine ⟨fun z hz => ?_, by rw [List.length_cons, List.length_cons]; omega⟩
          rcases List.mem_cons.1 hz with e | e
          · rw [e]; exact ih y (hm y (by simp)) (h4 y (hm y (by simp)))
          · exact g1 z e
    obtain ⟨g1, g2⟩ := hL t.f4 (fun y hy => hy)
    rw [empT_eq]
    refine okT_mk ?_ h2 (Nat.le_trans g2 h3) g1
    rcases h1 with ⟨a, b, c, d⟩ | ⟨_, h, _⟩ | h
    · refine .inl ⟨a, b, c, ?_⟩
      show empTL t.f4 = []
      rw [d]
      rfl
    · cases h
    · exact .inr (.inr h)
theorem emptycode_ev (t : T) (hok : okT t = true) (hc : countT t ≤ 1000000) (hcd : isCode t = false) : Ev (fun k => impl_EmptyCode.f k t.f0 t.f1 t.f2 t.f3 t.f4) ((empT t).f0, (empT t).f1, (empT t).f2, (empT t).f3, (empT t).f4) := by
  refine ⟨0, fun k _ => ?_⟩
  show impl_EmptyCode.f k _ _ _ _ _ = _
  cases t
  unfold impl_EmptyCode.f
  rw [if_pos (by rw [hok, decide_eq_true hc, hcd]; rfl)]
theorem arr_size (l : List UInt8) : (⟨l.toArray⟩ : ByteArray).size = l.length := by
  show l.toArray.size = _
  exact List.size_toArray
theorem div_not : (divN.toList == codeN.toList) = false := by rw [ByteArray.toList_eq, ByteArray.toList_eq]; rfl
theorem emptycode_pure {t : T} (ht : FitX t) : ∃ k, laws_FnEmptyCode.f k t.f0 t.f1 t.f2 t.f3 t.f4 = some true := by
  have hf := ht.fit
  obtain ⟨b1, e1⟩ := fits2_ev t hf
  obtain ⟨hk, hc, hok, hfc, hx⟩ := cutR_facts t ht
  have hcd : isCode (cutR t) = false := by
    show ((0 : Int) == 0 && divN.toList == codeN.toList) = false
    rw [div_not, Bool.and_false]
  refine Ev.rounds ?_
  refine Ev.congr (f := fun k => _) (fun k => by rw [laws_FnEmptyCode.f]) ?_
  refine Ev.bind e1 ?_
  cases b1 with
  | false => exact Ev.now _
  | true =>
    simp only [if_true]
    refine Ev.bind (cutR_ev t ht) ?_
    generalize cutR t = c at *
    have ho := emp_ok c hok
    have htx := emp_text c
    refine Ev.bind (emptycode_ev c hok (by omega) hcd) ?_
    have ht1 := text_ev (empT c) (ok_fit _ ho) (by rw [htx]; omega)
    rw [htx] at ht1
    refine Ev.bind ht1 ?_
    obtain ⟨sl, hsl⟩ := solid_ev ⟨(txT c).toArray⟩ (by rw [arr_size]; omega)
    refine Ev.bind hsl ?_
    refine Ev.bind (text_ev c hfc (by omega)) ?_
    refine Ev.bind hsl ?_
    simp only [if_true]
    refine Ev.bind (has_ev _ (by decide) c hfc) ?_
    cases hn : hasNm [(⟨#[99, 111, 100, 101]⟩ : ByteArray), (⟨#[112, 114, 101]⟩ : ByteArray)] c with
    | true =>
      simp only [if_true]
      exact Ev.bind lives_ev (Ev.now _)
    | false =>
      simp only [Bool.false_eq_true, if_false]
      have hs := emp_same _ (by exact List.mem_cons_self) c hn
      rw [hs]
      refine Ev.bind (same_ev c hfc) ?_
      simp only [if_true]
      exact Ev.bind lives_ev (Ev.now _)
theorem row_calls_emp (t : T) (A3 : Option Addr) (c3 : Nat) (A4 : Option Addr) (c4 : Nat) (w : World) (ht : FitX t) (h3 : Kd.C k53 w A3 t.f3.length t.f3) (l3 : t.f3.length ≤ c3) (h4 : Kd.C k25 w A4 t.f4.length t.f4) (l4 : t.f4.length ≤ c4) :
    Calls Try.prog 4 #[.agg #[.int .i64 t.f0, .string t.f1, .string t.f2, .slice A3 t.f3.length c3, .slice A4 t.f4.length c4]] w fun e w' => e = .returned (.bool true) ∧ Below w.heap.size w w' := by
  obtain ⟨k, h⟩ := emptycode_pure ht
  exact laws_FnEmptyCode.calls k t.f0 t.f1 t.f2 A3 c3 t.f3 A4 c4 t.f4 true w h3 l3 h4 l4 h
end Go.Proofs.Ytmfjbljdbkmkgaa.PDom

/- Arguments opened: what the reading of a datum says of memory, for texts, numbers, slices and structs, and how large they are. Each as large as a row's reach allows. -/
namespace Go.Proofs.Ytmfjbljdbkmkgaa.Open
open Go.RowKit Go.ChangeShapes Go.WideShapes Go.Proofs.YtmfjbljdbkmkgaaW.PrintWords Go.Proofs.YtmfjbljdbkmkgaaW.PrintLast Go.Proofs.YtmfjbljdbkmkgaaW.PrintMore

/-- A datum of type t that is read within the fuel tells a value of kind k in memory, and the value is Good. -/
def Opens {α : Type} (P : Program) (t : TypeId) (k : Kd α) (Good : α → Prop) (fuel : Nat) : Prop :=
  ∀ (H : Type) (enc : TypeId × Value → H) (W : World) (base : Nat) (spare : Nat → Bool) (held : Bool) (cs : List Value) (x : DataW H × List MemPlace),
    DataW.trod enc P W base spare held fuel t cs = some x → (∀ n ∈ x.1.weights P t, n ≤ reachBytes) → ∃ y, k.K W y cs ∧ Good y

theorem opens_string {P : Program} {t : TypeId} (ht : P.underlying t = some .string) (fuel : Nat) : Opens P t Kd.string (fun s => s.size ≤ 140737488351232) fuel := by
  intro H enc W base spare held cs x h hw
  obtain ⟨s, rfl, rfl, _⟩ := DataW.trod_string ht h
  refine ⟨s, rfl, ?_⟩
  have := hw s.data.toList.length (by simp [DataW.weights])
  rw [Array.length_toList] at this
  exact this
theorem opens_int {P : Program} {t : TypeId} {k : IntKind} (ht : P.underlying t = some (.int k)) (fuel : Nat) : Opens P t (Kd.int k) (fun n => (Lit.int k n).wf = true) fuel := by
  intro H enc W base spare held cs x h hw
  obtain ⟨n, rfl, rfl, hwf⟩ := DataW.trod_int ht h
  exact ⟨n, rfl, hwf⟩

theorem weights_all {H : Type} {P : Program} {e : TypeId} : ∀ {ds : List (DataW H)} {d : DataW H}, d ∈ ds → ∀ n ∈ d.weights P e, n ∈ DataW.weightsAll P e ds
  | d0 :: ds, d, hd, n, hn => by
    simp only [DataW.weightsAll, List.mem_append]
    rcases List.mem_cons.1 hd with rfl | hd
    · exact .inl hn
    · exact .inr (weights_all hd n hn)
theorem addr_add (a : Addr) (i j : Nat) : (a.add i).add j = a.add (i + j) := by
  unfold Addr.add
  by_cases h1 : i = 0 <;> by_cases h2 : j = 0 <;> simp [h1, h2, Nat.add_assoc]

theorem opens_slice {α : Type} {P : Program} {t e : TypeId} {k : Kd α} {Good : α → Prop} (ht : P.underlying t = some (.slice e)) (hc : P.cellsOf e = k.sz) {B : Nat} (hB : P.bytesOf e = B) (fuel : Nat) (he : ∀ n, n < fuel → Opens P e k Good n) :
    Opens P t (Kd.slice e k) (fun xs => xs.length * B ≤ 140737488351232 ∧ ∀ x ∈ xs, Good x) fuel := by
  intro H enc W base spare held cs x h hw
  rcases DataW.trod_slice ht h with ⟨rfl, rfl⟩ | ⟨a, len, cap, elems, rest, n, rfl, rfl, rfl, hb, hl, hm, hlen, hel, hsp, hns⟩
  · exact ⟨[], ⟨none, 0, rfl, Nat.le_refl _, Kd.C_nil _ _⟩, by simp, fun _ h => by cases h⟩
  · have hwt : (elems.length + rest.length) * B ≤ reachBytes := by
      refine hw _ ?_
      simp only [DataW.weights, ht, List.length_map, hB]
      exact List.mem_cons_self ..
    have each : ∀ i, i < len → ∃ y : α, Good y ∧ ∃ c : List Value, c.length = k.sz ∧ k.K W y c ∧ ∀ j u, c[j]? = some u → W.cell? (a.add (i * k.sz + j)) = some u := by
      intro i hi
      have h1 := hel i hi
      rw [hc, List.getElem?_eq_getElem (by omega)] at h1
      obtain ⟨c, hcs, hy⟩ := Option.bind_eq_some_iff.1 h1
      obtain ⟨_, hcl, hcc⟩ := World.cells?_some hcs
      obtain ⟨y, hK, hG⟩ := he n (by omega) H enc W base spare held c _ hy (fun q hq => hw q (by
        simp only [DataW.weights, ht, List.mem_cons, List.mem_append]
        exact .inr (.inl (weights_all (List.mem_map.2 ⟨elems[i], List.getElem_mem _, rfl⟩) q hq))))
      refine ⟨y, hG, c, hcl, hK, fun j u hu => ?_⟩
      have hj : j < k.sz := by have := (List.getElem?_eq_some_iff.1 hu).1; omega
      have h2 := hcc j hj
      rw [addr_add] at h2
      rw [h2]
      exact hu
    let ys : List α := List.ofFn fun i : Fin len => Classical.choose (each i i.isLt)
    have hyl : ys.length = len := List.length_ofFn
    have hyg : ∀ (i : Nat) (hi : i < len), ys[i]'(by omega) = Classical.choose (each i hi) := fun i hi => by simp [ys]
    refine ⟨ys, ⟨some a, cap, by rw [hyl], by omega, rfl, ?_, fun hp => ⟨a, rfl, fun j p hj => ?_⟩⟩, ?_, fun y hy => ?_⟩
    · rw [hyl]
      simp only [maxLen] at hm
      omega
    · obtain ⟨hjl, rfl⟩ := List.getElem?_eq_some_iff.1 hj
      have h1 := Classical.choose_spec (each j (by omega))
      rw [hyg j (by omega)]
      exact h1.2
    · rw [hyl]
      refine Nat.le_trans (Nat.mul_le_mul_right _ ?_) hwt
      omega
    · obtain ⟨i, hi, rfl⟩ := List.getElem_of_mem hy
      rw [hyg i (by omega)]
      exact (Classical.choose_spec (each i (by omega))).1

/-- Fields one behind the other, from the cell with number o on. -/
def OpensFs {β : Type} (P : Program) (fs : List Field) (o : Nat) (k : Kd β) (Good : β → Prop) (fuel : Nat) : Prop :=
  ∀ (H : Type) (enc : TypeId × Value → H) (W : World) (base : Nat) (spare : Nat → Bool) (held : Bool) (cs : List Value) (xs : List (DataW H × List MemPlace)), xs.length = fs.length →
    (∀ (i : Nat) (f : Field), fs[i]? = some f → DataW.trod enc P W base spare held fuel f.type ((cs.drop f.offset).take (P.cellsOf f.type)) = xs[i]?) →
    (∀ (i : Nat) (f : Field) (x : DataW H × List MemPlace), fs[i]? = some f → xs[i]? = some x → ∀ n ∈ x.1.weights P f.type, n ≤ reachBytes) → cs.length = o + k.sz → ∃ y, k.K W y (cs.drop o) ∧ Good y
theorem opens_last {β : Type} {P : Program} {f : Field} {o : Nat} {k : Kd β} {Good : β → Prop} {fuel : Nat} (ho : f.offset = o) (hc : P.cellsOf f.type = k.sz) (h : Opens P f.type k Good fuel) : OpensFs P [f] o k Good fuel := by
  intro H enc W base spare held cs xs hl hx hw hcs
  obtain ⟨x, rfl⟩ : ∃ x, xs = [x] := List.length_eq_one_iff.1 hl
  have h1 := hx 0 f rfl
  rw [ho, hc, List.take_of_length_le (by rw [List.length_drop]; omega)] at h1
  exact h H enc W base spare held _ x h1 (hw 0 f x rfl rfl)
theorem opens_cons {α β : Type} {P : Program} {f : Field} {fs : List Field} {o : Nat} {k : Kd α} {k2 : Kd β} {Good : α → Prop} {Good2 : β → Prop} {fuel : Nat} (ho : f.offset = o) (hc : P.cellsOf f.type = k.sz) (h : Opens P f.type k Good fuel) (h2 : OpensFs P fs (o + k.sz) k2 Good2 fuel) :
    OpensFs P (f :: fs) o (Kd.pair k k2) (fun y => Good y.1 ∧ Good2 y.2) fuel := by
  intro H enc W base spare held cs xs hl hx hw hcs
  cases xs with
  | nil => simp at hl
  | cons x xs =>
    have h1 := hx 0 f rfl
    rw [ho, hc] at h1
    obtain ⟨y1, hK1, hG1⟩ := h H enc W base spare held _ x h1 (hw 0 f x rfl rfl)
    have hsz : (Kd.pair k k2).sz = k.sz + k2.sz := rfl
    obtain ⟨y2, hK2, hG2⟩ := h2 H enc W base spare held cs xs (by simpa using hl) (fun i g hg => by have := hx (i + 1) g (by simpa using hg); simpa using this)
      (fun i g z hg hz => hw (i + 1) g z (by simpa using hg) (by simpa using hz)) (by omega)
    refine ⟨(y1, y2), ⟨(cs.drop o).take k.sz, cs.drop (o + k.sz), ?_, hK1, hK2⟩, hG1, hG2⟩
    rw [← List.drop_drop, List.take_append_drop]
theorem opens_struct {α β : Type} {P : Program} {t : TypeId} {fs : Array Field} {k : Kd β} {Good : β → Prop} {fuel : Nat} (ht : P.underlying t = some (.struct fs)) (hc : P.cellsOf t = k.sz) (f : α → β) (g : β → α) (hfg : ∀ y, f (g y) = y) (h : ∀ n, n < fuel → OpensFs P fs.toList 0 k Good n) :
    Opens P t (Kd.iso k f) (fun x => Good (f x)) fuel := by
  intro H enc W base spare held cs x hx hw
  obtain ⟨xs, n, rfl, rfl, hcl, hl, hf⟩ := DataW.trod_struct ht hx
  obtain ⟨y, hK, hG⟩ := h n (by omega) H enc W base spare held cs xs (by simpa using hl) (fun i g hg => hf i g (by simpa using hg)) (fun i q z hq hz m hm => hw m (by
    simp only [DataW.weights, ht]
    exact DataW.weights_mem_each (j := i) (t := q.type) (d := z.1) (by simp only [List.getElem?_map, hq]; rfl) (by simp only [List.getElem?_map, hz]; rfl) m hm)) (by omega)
  rw [List.drop_zero] at hK
  refine ⟨g y, ?_, by show Good (f (g y)); rw [hfg]; exact hG⟩
  show k.K W (f (g y)) cs
  rw [hfg]
  exact hK

end Go.Proofs.Ytmfjbljdbkmkgaa.Open

/- As OpenT, with the sizes of texts. A tree that comes in as an argument: what it reads as in memory, and that it fits. -/
namespace Go.Proofs.Ytmfjbljdbkmkgaa.PDom
open Go.RowKit Go.ChangeShapes Go.WideShapes Go.Proofs.YtmfjbljdbkmkgaaW.PrintWords Go.Proofs.YtmfjbljdbkmkgaaW.PrintLast Go.Proofs.YtmfjbljdbkmkgaaW.PrintMore Go.Proofs.Ytmfjbljdbkmkgaa.Dom Go.Proofs.Ytmfjbljdbkmkgaa.Open
set_option linter.unusedVariables false
set_option linter.unusedSimpArgs false

theorem opens_attr (fuel : Nat) : Opens Try.prog 53 k53 (fun _ => True) fuel := by
  have h := opens_struct (α := S53) (fuel := fuel) Try.underlying53 (by kernel_rfl) (fun x : S53 => (x.f0, x.f1)) (fun y => ⟨y.1, y.2⟩) (fun _ => rfl)
    (fun n _ => opens_cons (P := Try.prog) (o := 0) rfl (by kernel_rfl) (opens_string Try.underlying9 n) (opens_last (o := 1) rfl (by kernel_rfl) (opens_string Try.underlying9 n)))
  intro H enc W base spare held cs x hx hw
  obtain ⟨y, hK, _⟩ := h H enc W base spare held cs x hx hw
  exact ⟨y, hK, trivial⟩
theorem opens_T (fuel : Nat) : Opens Try.prog 25 k25 FitX fuel := by
  induction fuel using Nat.strongRecOn with
  | _ fuel ih =>
    have h := opens_struct (α := T) (fuel := fuel) Try.underlying25 (by kernel_rfl) (fun x : T => (x.f0, x.f1, x.f2, x.f3, x.f4)) (fun y => ⟨y.1, y.2.1, y.2.2.1, y.2.2.2.1, y.2.2.2.2⟩) (fun _ => rfl)
      (fun n hn => opens_cons (P := Try.prog) (o := 0) rfl (by kernel_rfl) (opens_int (k := .i64) Try.underlying3 n)
        (opens_cons (o := 1) rfl (by kernel_rfl) (opens_string Try.underlying9 n) (opens_cons (o := 2) rfl (by kernel_rfl) (opens_string Try.underlying9 n)
          (opens_cons (o := 3) rfl (by kernel_rfl) (opens_slice (k := k53) Try.underlying22 (by kernel_rfl) (B := 32) (by kernel_rfl) n (fun m _ => opens_attr m))
            (opens_last (o := 4) rfl (by kernel_rfl) (opens_slice (k := k25) Try.underlying23 (by kernel_rfl) (B := 88) (by kernel_rfl) n (fun m hm => ih m (by omega))))))))
    intro H enc W base spare held cs x hx hw
    obtain ⟨y, hK, hG⟩ := h H enc W base spare held cs x hx hw
    obtain ⟨_, _, rfl, rfl, ⟨_, _, rfl, rfl, ⟨_, _, rfl, rfl, ⟨_, _, rfl, ⟨A3, c3, rfl, l3, g3⟩, ⟨A4, c4, rfl, l4, g4⟩⟩⟩⟩⟩ := hK
    obtain ⟨_, hn, hx2, ⟨ha, _⟩, ⟨hb, hy⟩⟩ := hG
    have ha2 : y.f3.length * 32 ≤ 140737488351232 := ha
    have hb2 : y.f4.length * 88 ≤ 140737488351232 := hb
    exact ⟨y, k25_mk W y l3 g3 l4 g4, FitX.mk y hn hx2 (by omega) (by omega) hy⟩
theorem open_T {H : Type} {enc : TypeId × Value → H} {W : World} {base : Nat} {spare : Nat → Bool} {held : Bool} {v : Value} {d : DataW H} {ps : List MemPlace} {ts : List TypeId} {ds : List (DataW H)} {j : Nat} {t : TypeId} (e : t = 25)
    (hd : DataW.Trod enc Try.prog W base spare held t v d ps) (hsz : (DataW.weightsEach Try.prog ts ds).all (· ≤ reachBytes) = true) (ht : ts[j]? = some t) (hdj : ds[j]? = some d) :
    ∃ (y : T) (A3 : Option Addr) (c3 : Nat) (A4 : Option Addr) (c4 : Nat), FitX y ∧ v.cells.toList = [.int .i64 y.f0, .string y.f1, .string y.f2, .slice A3 y.f3.length c3, .slice A4 y.f4.length c4] ∧ k53.C W A3 y.f3.length y.f3 ∧ y.f3.length ≤ c3 ∧ k25.C W A4 y.f4.length y.f4 ∧ y.f4.length ≤ c4 := by
  subst e
  obtain ⟨fuel, hf⟩ := hd
  obtain ⟨y, hK, hG⟩ := opens_T fuel H enc W base spare held _ _ hf (fun n hn => by
    have := List.all_eq_true.1 hsz n (DataW.weights_mem_each ht hdj n hn)
    simpa using this)
  obtain ⟨A3, c3, A4, c4, hcs, l3, g3, l4, g4⟩ := k25_open hK
  exact ⟨y, A3, c3, A4, c4, hG, hcs, g3, l3, g4, l4⟩
end Go.Proofs.Ytmfjbljdbkmkgaa.PDom

/- The row of the law FnEmptyCode, out of its walk. No further conditions. -/
namespace Go.Proofs.Ytmfjbljdbkmkgaa.fnEmptyCode
open Go.ChangeShapes Go.WideShapes Go.ChangeAt Go.RowKit
open Go.ChangeMaps (open_string shut_string)
open Go.Proofs.Ytmfjbljdbkmkgaa.PDom
set_option linter.unusedVariables false
theorem own : ownKnob Try.prog.godebug = none := by kernel_rfl
theorem laidOut : laidOutB Try.prog = true := by kernel_rfl
set_option maxRecDepth 100000 in
theorem lifted (os : Os) (started : os.Started) (H : Type) (enc : TypeId × Value → H) :
    ReturnsInHanded {} Try.checked os 4 .any (Rows.fnEmptyCodeSpec.pre6 enc Try.prog Try.f4 Rows.fnEmptyCodeRow.domain false) (Rows.fnEmptyCodeSpec.post enc Try.prog Try.f4 false true false false) := by
  refine returnsInHanded_of_change_sized (C := Try.checked) own started (by kernel_rfl) Try.func4
    (ChangeSpec.witness6 (enc := enc) (C := Try.checked) false ⟨#[], #[.agg #[.int .i64 0, .string ByteArray.empty, .string ByteArray.empty, .slice none 0 0, .slice none 0 0]], []⟩ 8 (by kernel_rfl) (by kernel_rfl) (by kernel_rfl) (by kernel_rfl)) ?_
  intro W base args ds gs before hval0 hW hcnd hsz0 _
  have hsz : (DataW.weightsEach Try.prog (Try.f4.params.toList ++ Rows.fnEmptyCodeSpec.plain.varTypes Try.prog) (ds ++ gs)).all (· ≤ reachBytes) = true := hsz0
  have hval : ∀ (j : Nat) t v, Try.f4.params[j]? = some t → args[j]? = some v → Value.okWide Try.prog W .any base t v := hval0
  have hW' := hW
  obtain ⟨p, q, hA0, hV, rfl, hfz, hnd⟩ := hW
  have hA : DataW.TrodAll enc Try.prog W 0 (fun _ => true) true Try.f4.params.toList args.toList ds p := hA0
  rw [Try.params4] at hA hval hsz
  obtain ⟨v0, vs0, d0, ds0, p0, q0, hargs, rfl, rfl, h0, r0⟩ := trodAll_cons hA
  obtain ⟨rfl, rfl, rfl⟩ := trodAll_nil r0
  obtain rfl : args = #[v0] := by cases args; simp_all
  obtain ⟨rfl, rfl⟩ := trodVars_none hV
  obtain ⟨cs0, rfl, hz0⟩ := okWide_struct Try.underlying25 (hval 0 25 v0 rfl rfl)
  have k0 := h0
  have lt0 : ∀ x ∈ p0, x.block < W.heap.size := by obtain ⟨m, hm⟩ := k0; exact DataW.trod_lt m _ _ _ hm
  obtain ⟨x0, A0, c0, B0, d_0, hF0, hcs0, hC0, hl0, hD0, hm0⟩ := open_T rfl h0 hsz (j := 0) (t := 25) rfl rfl
  obtain rfl : cs0 = #[.int .i64 x0.f0, .string x0.f1, .string x0.f2, .slice A0 x0.f3.length c0, .slice B0 x0.f4.length d_0] := by cases cs0; simpa [Value.cells] using hcs0
  clear hA0 hval0 hsz0
  refine (PDom.row_calls_emp x0 A0 c0 B0 d_0 W hF0 hC0 hl0 hD0 hm0).mono fun e W' ⟨he, bel⟩ => ?_
  subst he
  exact ⟨_, rfl, _, _, _, [], _, [], hW', trodAll_mk1 (shut_bool Try.underlying4 _), (trodAll_cons_mk (Below.trod laidOut (by kernel_rfl) (of_decide_eq_true (by kernel_rfl)) k0 bel lt0) trodAll_mk0), rfl, bel.frame _, fun h => by cases h⟩
theorem over : Rows.fnEmptyCodeRow.holds Try.pinned (OpenSpec.ofChange Rows.fnEmptyCodeSpec) :=
  OpenClaim.holds_of_wide 4 Try.f4 rfl rfl rfl rfl rfl rfl rfl ⟨rfl, rfl, rfl, rfl, rfl⟩ rfl rfl rfl rfl rfl (by kernel_rfl) Try.func4 (by kernel_rfl)
    (of_decide_eq_true (by kernel_rfl)) (by unfold Func.isWrapper; first | (rw [if_pos (by decide +kernel)]; kernel_rfl) | (rw [if_neg (by decide +kernel)]; exact ⟨rfl, rfl⟩))
    (fun os started H enc _ => lifted os started H enc)
theorem proved : Rows.FnEmptyCodeSaid := over
#print axioms proved
end Go.Proofs.Ytmfjbljdbkmkgaa.fnEmptyCode
namespace Go.Proofs.Ytmfjbljdbkmkgaa
/-- The row, under a short name, for the claim. -/
theorem fnEmptyCode_holds : Rows.FnEmptyCodeSaid := fnEmptyCode.proved
end Go.Proofs.Ytmfjbljdbkmkgaa
