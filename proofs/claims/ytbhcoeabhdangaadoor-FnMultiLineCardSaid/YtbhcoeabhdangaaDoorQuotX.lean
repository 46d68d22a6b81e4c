/- What impl.Quoted returns: the text within quotes. For texts of less than 2^31 bytes. -/
import Derived.Test.YtbhcoeabhdangaaDoorEInlx2
import Derived.Test.YtbhcoeabhdangaaDoorKeep
namespace Go.Proofs.YtbhcoeabhdangaaDoor.PInl
open Go.Proofs.YtbhcoeabhdangaaDoor.Keep Go.RowKit Go.Proofs.YtbhcoeabhdangaaDoorW.PrintWords Go.Proofs.YtbhcoeabhdangaaDoorW.PrintLast Go.Proofs.YtbhcoeabhdangaaDoorW.PrintMore
set_option linter.unusedVariables false
set_option linter.unusedSimpArgs false

theorem run_convert_same {P : Program} (t e : TypeId) (ht : P.underlying t = some (.slice e)) (he : P.underlying e = some (.int .u8)) (g n c : Nat) (cs : Array Value) (W : World) (hg : W.heap[g]? = some (.cells cs e (0, 0))) :
    (convert t t (.slice (some ⟨g, 0, none⟩) n c)).run P W = .ok (.slice (some ⟨g, 0, none⟩) n c) (W.freeze ⟨g, cs.size, none⟩ 1) := by
  simp [convert, run_underlying ht, run_underlying he, markStringish, World.shape?, hg, Result.andThen]

/-- A text between two signs that are one byte each. -/
theorem around_any (w : World) (ad : Addr) (q : Int) (A0 : Option Addr) (n0 c0 : Nat) (l0 : List Int) (h0 : 0 < n0) (hb : n0 ≤ 4294967296) (hr : ReadsInt w .u8 A0 n0 l0) (hx : ReadsInt w .u8 (some ad) 1 [q]) :
    Calls Tryd.prog 57 #[.slice A0 n0 c0, .slice (some ad) 1 1] w fun e w' => ∃ v : Value, e = .returned v ∧ w'.ownsRow w.heap.size 5 1 v (l0.length + 2) (nums .u8 (q :: l0 ++ [q])) ∧ Below w.heap.size w w' := by
  have HR := Aside0.mk hr
  have HX := Aside0.mk hx
  have hl := Aside0.mk hr.1
  clear hr hx
  go_enter Tryd.func57, Tryd.ntmps57
  go_wp2_with (at_builtin; refine append_new rfl (.tmp 5) (.tmp 6) 40 5 .u8 1 rfl Tryd.underlying40 info5 (by decide) (some ad) A0 1 n0 c0 1 [q] l0 rfl rfl HX.out HR.out (by omega) h0 (by omega) (by omega) ?_)
  intro v1 w1 ho hg
  have hB := Below.grown (Below.refl w.heap.size w) hg (Nat.le_refl _) (fun _ h => by cases h)
  have hl2 : (1 + n0) = ([q] ++ l0).length := by have := hl.out; simp; omega
  rw [hl2] at ho
  have HO := Aside0.mk ho
  have HB := Aside0.mk hB
  have HX1 := Aside0.mk (HX.out.below hB)
  clear ho hg hB hl2
  go_wp2_with (at_builtin; refine append_row_keep (w0 := w) w.heap.size rfl (.tmp 8) (.tmp 9) 40 5 .u8 1 rfl Tryd.underlying40 info5 (by decide) v1 ([q] ++ l0) [q] (some ad) 1 1 rfl rfl HO.out HX1.out HB.out HB.out.size (by have := hl.out; simp; omega) ?_)
  intro v2 w2 ho2 _ hB2 _ _
  go_wp2
  go_ret
  exact ⟨_, rfl, ho2, hB2⟩

/-- The row of a constant text's one byte, marked as text. -/
def boxed (W : World) (q : Int) : World := (W.alloc (.cells #[.int .u8 q] 5)).freeze ⟨W.heap.size, 1, none⟩ 1
theorem boxed_heap (W : World) (q : Int) : (boxed W q).heap[W.heap.size]? = some (.cells #[.int .u8 q] 5 (1, 2)) := by
  simp [boxed, World.freeze, World.alloc, -World.alloc_eq]
  rw [Array.getElem_modify_self]
  simp
theorem boxed_below (W : World) (q : Int) : Below W.heap.size W (boxed W q) := by
  refine ⟨rfl, rfl, rfl, by simp [boxed, World.freeze, World.alloc, -World.alloc_eq], fun i hi => ?_⟩
  have h1 : W.heap.size ≠ i := by omega
  simp [boxed, World.freeze, World.alloc, -World.alloc_eq, Array.getElem?_modify, Array.getElem?_push, h1, Ne.symm h1]
theorem boxed_reads (W : World) (q : Int) : ReadsInt (boxed W q) .u8 (some ⟨W.heap.size, 0, none⟩) 1 [q] := by
  refine ⟨rfl, by omega, fun _ => ⟨_, rfl, fun j hj => ?_⟩⟩
  obtain rfl : j = 0 := by omega
  rw [add_plain]
  simp [World.cell?, boxed_heap]
theorem mark_one (q : Int) (W : World) : (convert 40 40 (.slice (some ⟨W.heap.size, 0, none⟩) 1 1)).run Tryd.prog (W.alloc (.cells #[.int .u8 q] 5)) = .ok (.slice (some ⟨W.heap.size, 0, none⟩) 1 1) (boxed W q) :=
  run_convert_same 40 5 Tryd.underlying40 Tryd.underlying5 W.heap.size 1 1 #[.int .u8 q] _ (heap_alloc_new W _)

theorem quoted_none (w : World) (A0 : Option Addr) (n0 c0 : Nat) (l0 : List Int) (k : Nat) (h0 : 0 < n0) (hb : n0 ≤ 4294967296) (hr : ReadsInt w .u8 A0 n0 l0) (hc : n0 ≤ c0) (b2 : Bool)
    (h1 : textutils_zzHas.f k l0 34 = some false) (h2 : textutils_zzHas.f k l0 39 = some b2) :
    Calls Tryd.prog 41 #[.slice A0 n0 c0] w fun e w' => ∃ v : Value, e = .returned v ∧ w'.ownsRow w.heap.size 5 1 v (l0.length + 2) (nums .u8 (34 :: l0 ++ [34])) ∧ Below w.heap.size w w' := by
  have hn := hr.1
  subst hn
  have HR := Aside0.mk hr
  have HC := Aside0.mk hc
  have H1 := Aside0.mk h1
  have H2 := Aside0.mk h2
  have h0' : ((l0.length : Int) == 0) = false := beq_eq_false_iff_ne.mpr (by omega)
  have kc : ∀ nd, (convert 40 40 (.slice (some ⟨w.heap.size, 0, none⟩) 1 1)).run Tryd.prog ((w.drewN nd).alloc (.cells #[.int .u8 34] 5)) = .ok (.slice (some ⟨w.heap.size, 0, none⟩) 1 1) (boxed (w.drewN nd) 34) := fun nd => mark_one 34 (w.drewN nd)
  clear hr hc h1 h2
  go_enter Tryd.func41, Tryd.ntmps41
  go_wp2_with fail
  refine (textutils_zzHas.calls k _ _ l0 34 false _ (Kd.C_of_reads (d := (0 : Int)) HR.out) HC.out H1.out).mono ?_
  rintro e w' ⟨rfl, ⟨nd, rfl⟩⟩
  go_wp2_with fail
  refine (textutils_zzHas.calls k _ _ l0 39 b2 _ (Kd.C_of_reads (d := (0 : Int)) (HR.out.drewN _)) HC.out H2.out).mono ?_
  rintro e w' ⟨rfl, ⟨nd2, rfl⟩⟩
  go_wp2_with fail
  have hB : Below w.heap.size w (boxed (w.drewN (nd + nd2)) 34) := below_step (pw_below_drewN (Below.refl _ _) _) (boxed_below (w.drewN (nd + nd2)) 34)
  refine (around_any _ ⟨w.heap.size, 0, none⟩ 34 _ _ _ l0 h0 hb (HR.out.below hB) (boxed_reads (w.drewN (nd + nd2)) 34)).mono ?_
  rintro e w' ⟨v, rfl, ho, hB2⟩
  go_wp2
  go_ret
  exact ⟨_, rfl, own_less ho hB.size, below_step hB hB2⟩

theorem quoted_single (w : World) (A0 : Option Addr) (n0 c0 : Nat) (l0 : List Int) (k : Nat) (h0 : 0 < n0) (hb : n0 ≤ 4294967296) (hr : ReadsInt w .u8 A0 n0 l0) (hc : n0 ≤ c0)
    (h1 : textutils_zzHas.f k l0 34 = some true) (h2 : textutils_zzHas.f k l0 39 = some false) :
    Calls Tryd.prog 41 #[.slice A0 n0 c0] w fun e w' => ∃ v : Value, e = .returned v ∧ w'.ownsRow w.heap.size 5 1 v (l0.length + 2) (nums .u8 (39 :: l0 ++ [39])) ∧ Below w.heap.size w w' := by
  have hn := hr.1
  subst hn
  have HR := Aside0.mk hr
  have HC := Aside0.mk hc
  have H1 := Aside0.mk h1
  have H2 := Aside0.mk h2
  have h0' : ((l0.length : Int) == 0) = false := beq_eq_false_iff_ne.mpr (by omega)
  have kc : ∀ nd, (convert 40 40 (.slice (some ⟨w.heap.size, 0, none⟩) 1 1)).run Tryd.prog ((w.drewN nd).alloc (.cells #[.int .u8 39] 5)) = .ok (.slice (some ⟨w.heap.size, 0, none⟩) 1 1) (boxed (w.drewN nd) 39) := fun nd => mark_one 39 (w.drewN nd)
  clear hr hc h1 h2
  go_enter Tryd.func41, Tryd.ntmps41
  go_wp2_with fail
  refine (textutils_zzHas.calls k _ _ l0 34 true _ (Kd.C_of_reads (d := (0 : Int)) HR.out) HC.out H1.out).mono ?_
  rintro e w' ⟨rfl, ⟨nd, rfl⟩⟩
  go_wp2_with fail
  refine (textutils_zzHas.calls k _ _ l0 39 false _ (Kd.C_of_reads (d := (0 : Int)) (HR.out.drewN _)) HC.out H2.out).mono ?_
  rintro e w' ⟨rfl, ⟨nd2, rfl⟩⟩
  go_wp2_with fail
  have hB : Below w.heap.size w (boxed (w.drewN (nd + nd2)) 39) := below_step (pw_below_drewN (Below.refl _ _) _) (boxed_below (w.drewN (nd + nd2)) 39)
  refine (around_any _ ⟨w.heap.size, 0, none⟩ 39 _ _ _ l0 h0 hb (HR.out.below hB) (boxed_reads (w.drewN (nd + nd2)) 39)).mono ?_
  rintro e w' ⟨v, rfl, ho, hB2⟩
  go_wp2
  go_ret
  exact ⟨_, rfl, own_less ho hB.size, below_step hB hB2⟩

theorem quoted_both (w : World) (A0 : Option Addr) (n0 c0 : Nat) (l0 : List Int) (k : Nat) (h0 : 0 < n0) (hb : n0 ≤ 4294967296) (hr : ReadsInt w .u8 A0 n0 l0) (hc : n0 ≤ c0) (t : List Int) (ht0 : 0 < t.length) (htb : t.length ≤ 4294967296)
    (h1 : textutils_zzHas.f k l0 34 = some true) (h2 : textutils_zzHas.f k l0 39 = some true) (h3 : textutils_zzReplaceAll.f k l0 (⟨#[34]⟩ : ByteArray) (⟨#[92, 34]⟩ : ByteArray) = some t) :
    Calls Tryd.prog 41 #[.slice A0 n0 c0] w fun e w' => ∃ v : Value, e = .returned v ∧ w'.ownsRow w.heap.size 5 1 v (t.length + 2) (nums .u8 (34 :: t ++ [34])) ∧ Below w.heap.size w w' := by
  have hn := hr.1
  subst hn
  have HR := Aside0.mk hr
  have HC := Aside0.mk hc
  have H1 := Aside0.mk h1
  have H2 := Aside0.mk h2
  have H3 := Aside0.mk h3
  have h0' : ((l0.length : Int) == 0) = false := beq_eq_false_iff_ne.mpr (by omega)
  clear hr hc h1 h2 h3
  go_enter Tryd.func41, Tryd.ntmps41
  go_wp2_with fail
  refine (textutils_zzHas.calls k _ _ l0 34 true _ (Kd.C_of_reads (d := (0 : Int)) HR.out) HC.out H1.out).mono ?_
  rintro e w' ⟨rfl, ⟨nd, rfl⟩⟩
  go_wp2_with fail
  refine (textutils_zzHas.calls k _ _ l0 39 true _ (Kd.C_of_reads (d := (0 : Int)) (HR.out.drewN _)) HC.out H2.out).mono ?_
  rintro e w' ⟨rfl, ⟨nd2, rfl⟩⟩
  go_wp2_with fail
  refine (textutils_zzReplaceAll.calls k _ _ l0 _ _ t _ (Kd.C_of_reads (d := (0 : Int)) (HR.out.drewN _)) HC.out H3.out).mono ?_
  rintro e w1 ⟨v, rfl, ho, hB1⟩
  obtain ⟨A1, c1, rfl, hr1⟩ := own_reads (Kd.own_of_R ho)
  have HB1 := Aside0.mk (below_step (pw_below_drewN (Below.refl w.heap.size w) _) hB1)
  have HR1 := Aside0.mk hr1
  clear ho hB1 hr1
  have kc : (convert 40 40 (.slice (some ⟨w1.heap.size, 0, none⟩) 1 1)).run Tryd.prog (w1.alloc (.cells #[.int .u8 34] 5)) = .ok (.slice (some ⟨w1.heap.size, 0, none⟩) 1 1) (boxed w1 34) := mark_one 34 w1
  go_wp2_with fail
  refine (around_any _ ⟨w1.heap.size, 0, none⟩ 34 _ _ _ t ht0 htb (HR1.out.below (boxed_below w1 34)) (boxed_reads w1 34)).mono ?_
  rintro e w' ⟨v, rfl, ho, hB2⟩
  go_wp2
  go_ret
  have hB := below_step HB1.out (boxed_below w1 34)
  exact ⟨_, rfl, own_less ho hB.size, below_step hB hB2⟩

theorem quoted_nil (w : World) (A0 : Option Addr) (c0 : Nat) :
    Calls Tryd.prog 41 #[.slice A0 0 c0] w fun e w' => e = .returned (.slice none 0 0) ∧ w' = w := by
  go_enter Tryd.func41, Tryd.ntmps41
  go_wp2
  go_ret
  exact ⟨rfl, rfl⟩

/-- The text within quotes. -/
def impl_Quoted.f (k : Nat) (a0 : ByteArray) : Option ByteArray :=
  if a0.size ≤ 2147483647 then (if a0.size = 0 then some ⟨#[]⟩ else
    (textutils_zzHas.f k (bytesOf a0) 34).bind fun b1 => (textutils_zzHas.f k (bytesOf a0) 39).bind fun b2 =>
      if b1 = true then (if b2 = true then (textutils_zzReplaceAll.f k (bytesOf a0) (⟨#[34]⟩ : ByteArray) (⟨#[92, 34]⟩ : ByteArray)).bind fun t => (if 0 < t.length then (if t.length ≤ 4294967296 then some (strOfNums (34 :: t ++ [34])) else none) else none)
        else some (strOfNums (39 :: bytesOf a0 ++ [39]))) else some (strOfNums (34 :: bytesOf a0 ++ [34]))) else none
theorem impl_Quoted.mono : ∀ a0 k, LeO (impl_Quoted.f k a0) (impl_Quoted.f (k + 1) a0) := by
  intro a0 k
  unfold impl_Quoted.f
  repeat' first
      | (with_reducible exact textutils_zzHas.mono _ _ _)
      | (with_reducible exact textutils_zzReplaceAll.mono _ _ _ _)
      | (with_reducible exact LeO.refl _)
      | (with_reducible exact LeO.none _)
      | (with_reducible refine LeO.ite ?_ ?_)
      | (with_reducible refine LeO.bind ?_ (fun _ => ?_))
theorem impl_Quoted.calls (k : Nat) (a0 : ByteArray) (r : ByteArray) (w : World) (h : impl_Quoted.f k a0 = some r) :
    Calls Tryd.prog 29 #[.string a0] w fun e w' => e = .returned (.string r) ∧ Below w.heap.size w w' := by
  unfold impl_Quoted.f at h
  have kb := fun W => print_bytes (P := Tryd.prog) 9 40 5 Tryd.underlying9 Tryd.underlying40 Tryd.underlying5 a0 W
  split at h
  case isFalse => cases h
  rename_i hs
  have hB0 := bytes_below (Below.refl w.heap.size w) (Nat.le_refl _) 5 a0
  have HB0 := Aside0.mk hB0
  have HRd := Aside0.mk (bytes_reads w 5 a0 (by omega))
  have hkn := run_convert_bytes_nil (P := Tryd.prog)
  clear hB0
  split at h
  · rename_i hz
    obtain rfl := Option.some.inj h
    have hz' : a0 = ⟨#[]⟩ := by
      cases a0 with | mk d => congr; exact Array.eq_empty_of_size_eq_zero hz
    subst hz'
    go_enter Tryd.func29, Tryd.ntmps29
    go_wp2_with fail
    refine (quoted_nil _ _ _).mono ?_
    rintro e w' ⟨rfl, rfl⟩
    have kn := run_convert_bytes_nil (Lib.bytesWorld w 5 ⟨#[]⟩) 40 5 Tryd.underlying40 Tryd.underlying5 0 0 9 Tryd.underlying9
    go_wp2
    go_ret
    exact ⟨rfl, HB0.out⟩
  · rename_i hz
    obtain ⟨b1, e1, h⟩ := Option.bind_eq_some_iff.1 h
    obtain ⟨b2, e2, h⟩ := Option.bind_eq_some_iff.1 h
    have E1 := Aside0.mk e1
    have E2 := Aside0.mk e2
    clear e1 e2
    have key : ∃ l : List Int, r = strOfNums l ∧ Calls Tryd.prog 41 #[.slice (some ⟨w.heap.size, 0, none⟩) a0.size (grownCap w a0.size 0 5)] (Lib.bytesWorld w 5 a0) fun e w' => ∃ v : Value, e = .returned v ∧ w'.ownsRow (Lib.bytesWorld w 5 a0).heap.size 5 1 v l.length (nums .u8 l) ∧ Below (Lib.bytesWorld w 5 a0).heap.size (Lib.bytesWorld w 5 a0) w' := by
      cases b1 with
      | true =>
        cases b2 with
        | true =>
          simp only [if_true] at h
          obtain ⟨t, e3, h⟩ := Option.bind_eq_some_iff.1 h
          split at h
          case isFalse => cases h
          rename_i ht0
          split at h
          case isFalse => cases h
          rename_i htb
          refine ⟨_, (Option.some.inj h).symm, (quoted_both _ _ _ _ (bytesOf a0) k (by omega) (by omega) HRd.out (grownCap_ge _ _ _ _) t ht0 htb E1.out E2.out e3).mono ?_⟩
          rintro e w' ⟨v, rfl, ho, hB⟩
          exact ⟨v, rfl, by simpa using ho, hB⟩
        | false =>
          simp only [if_true] at h
          refine ⟨_, (Option.some.inj h).symm, (quoted_single _ _ _ _ (bytesOf a0) k (by omega) (by omega) HRd.out (grownCap_ge _ _ _ _) E1.out E2.out).mono ?_⟩
          rintro e w' ⟨v, rfl, ho, hB⟩
          exact ⟨v, rfl, by simpa using ho, hB⟩
      | false =>
        refine ⟨_, (Option.some.inj h).symm, (quoted_none _ _ _ _ (bytesOf a0) k (by omega) (by omega) HRd.out (grownCap_ge _ _ _ _) b2 E1.out E2.out).mono ?_⟩
        rintro e w' ⟨v, rfl, ho, hB⟩
        exact ⟨v, rfl, by simpa using ho, hB⟩
    obtain ⟨l, rfl, hcall⟩ := key
    have HCall := Aside0.mk hcall
    clear hcall h hkn
    go_enter Tryd.func29, Tryd.ntmps29
    go_wp2_with fail
    refine (HCall.out).mono ?_
    rintro e w' ⟨v0, rfl, ho, hB⟩
    have hown := own_string (P := Tryd.prog) Tryd.underlying40 Tryd.underlying5 Tryd.underlying9 ho
    go_wp2
    go_ret
    exact ⟨rfl, below_step HB0.out hB⟩

end Go.Proofs.YtbhcoeabhdangaaDoor.PInl
