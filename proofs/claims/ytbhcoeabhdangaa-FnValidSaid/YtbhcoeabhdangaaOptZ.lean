/- commonmark.ZzValid over a row of options; impl.Valid of four texts. -/
import Derived.Test.YtbhcoeabhdangaaOptY
import Derived.Test.YtbhcoeabhdangaaFillX
import Derived.Deep.DeepMust
import Derived.Tactics2
namespace Go.Proofs.Ytbhcoeabhdangaa.PVal
open Go.Proofs.Ytbhcoeabhdangaa.Txt Go.RowKit Go.Proofs.YtbhcoeabhdangaaW.PrintWords Go.Proofs.YtbhcoeabhdangaaW.PrintLast Go.Proofs.YtbhcoeabhdangaaW.PrintMore
set_option linter.unusedVariables false
set_option linter.unusedSimpArgs false

def placeO (F : Nat) : Nat := if F = 61 then 0 else if F = 62 then 1 else if F = 63 then 3 else 5
abbrev OkF (F : Nat) : Prop := F = 61 ∨ F = 62 ∨ F = 63 ∨ F = 64
def setO (cs : Array Value) (o : Nat × ByteArray) : Array Value := cs.setIfInBounds (placeO o.1) (.string o.2)
theorem setO_size (cs : Array Value) (o : Nat × ByteArray) : (setO cs o).size = cs.size := by simp [setO]
theorem foldO_size (os : List (Nat × ByteArray)) : ∀ cs : Array Value, (os.foldl setO cs).size = cs.size := by
  induction os with
  | nil => intro cs; rfl
  | cons o os ih => intro cs; rw [List.foldl_cons, ih, setO_size]
theorem okF_enters {F : Nat} (h : OkF F) : ∀ args w, (callFunc F args).run Try.prog w = .ok (.enter F args) w := by
  rcases h with rfl | rfl | rfl | rfl
  · exact fun _ _ => by kernel_rfl
  · exact fun _ _ => by kernel_rfl
  · exact fun _ _ => by kernel_rfl
  · exact fun _ _ => by kernel_rfl
theorem opt_calls {F : Nat} (hF : OkF F) (s : ByteArray) (g b : Nat) (w : World) (cs : Array Value) (hs : cs.size = 10) (hg : w.heap[g]? = some (.cells cs 57 (0, 0))) (hb : w.heap[b]? = some (.cells #[.string s] 9 (0, 0))) :
    Calls Try.prog F #[.pointer (some ⟨g, 0, none⟩), .pointer (some ⟨b, 0, none⟩)] w fun e w' => e = .returned (.tuple #[]) ∧ w'.heap[g]? = some (.cells (setO cs (F, s)) 57 (0, 0)) ∧ Below g w w' := by
  refine (opt_call F (placeO F) (by rcases hF with rfl | rfl | rfl | rfl <;> decide) s g b w cs hs hg hb).mono ?_
  rintro e w' ⟨rfl, rfl⟩
  exact ⟨rfl, blk_set hg _ _, (Below.refl g w).setCell (p := ⟨g, placeO F, none⟩) (Nat.le_refl g) _⟩
theorem empty_of {s : ByteArray} (h : s.toList = []) : s = ⟨#[]⟩ := toList_inj (h.trans (by kernel_rfl))
theorem optL_ok (em st bu fe : ByteArray) : ∀ o ∈ optL em st bu fe, OkF o.1 := by
  intro o ho
  unfold optL at ho
  simp only [List.mem_append] at ho
  rcases ho with h | h | h | h <;> split at h <;> first | (cases h; done) | skip
  all_goals (simp only [List.mem_singleton] at h; subst h)
  · exact .inl rfl
  · exact .inr (.inl rfl)
  · exact .inr (.inr (.inl rfl))
  · exact .inr (.inr (.inr rfl))
theorem optL_fold (em st bu fe : ByteArray) : (optL em st bu fe).foldl setO (cfgC ⟨#[]⟩ ⟨#[]⟩ ⟨#[]⟩ ⟨#[]⟩ false ⟨#[]⟩ ⟨#[]⟩ ⟨#[]⟩ ⟨#[]⟩ ⟨#[]⟩) = cfgC em st ⟨#[]⟩ bu false fe ⟨#[]⟩ ⟨#[]⟩ ⟨#[]⟩ ⟨#[]⟩ := by
  unfold optL
  rcases is_empty em with ⟨-, p0⟩ | ⟨-, p0⟩ <;> rcases is_empty st with ⟨-, p1⟩ | ⟨-, p1⟩ <;> rcases is_empty bu with ⟨-, p2⟩ | ⟨-, p2⟩ <;> rcases is_empty fe with ⟨-, p3⟩ | ⟨-, p3⟩
  all_goals
    first | rw [if_pos p0, empty_of p0] | rw [if_neg p0]
    first | rw [if_pos p1, empty_of p1] | rw [if_neg p1]
    first | rw [if_pos p2, empty_of p2] | rw [if_neg p2]
    first | rw [if_pos p3, empty_of p3] | rw [if_neg p3]
    rfl
theorem optL_len (em st bu fe : ByteArray) : (optL em st bu fe).length ≤ 4 := by
  unfold optL
  simp only [List.length_append]
  have h : ∀ (p : Prop) [Decidable p] (x : Nat × ByteArray), (if p then ([] : List (Nat × ByteArray)) else [x]).length ≤ 1 := fun p _ x => by split <;> simp
  have h0 := h (em.toList = []) (61, em)
  have h1 := h (st.toList = []) (62, st)
  have h2 := h (bu.toList = []) (63, bu)
  have h3 := h (fe.toList = []) (64, fe)
  omega
theorem orElse_size (s d : ByteArray) (n : Nat) (h : s.size ≤ n) (h' : d.size ≤ n) : (orElse s d).size ≤ n := by
  unfold orElse
  split
  · exact h'
  · exact h
/-- The config behind the first j options. -/
structure ZzI (w0 : World) (g : Nat) (cs : Array Value) (w : World) : Prop where
  k : w.heap[g]? = some (.cells cs 57 (0, 0))
  b : Below w0.heap.size w0 w
set_option maxRecDepth 100000 in
set_option maxHeartbeats 40000000 in
theorem zz_calls (em st bu fe : ByteArray) (w wo : World) (v : Value) (xs : List (Nat × Nat)) (ho : OptsI wo xs (optL em st bu fe) v w) (ok : Bool) (he : em.size ≤ 140737488355328) (hs : st.size ≤ 140737488355328)
    (n1 n2 m1 m2 : Nat) (qb qf : Bool) (hn1 : cntFrom ((95 : UInt8).toNat : Int) (bytesOf (orElse em ⟨#[42]⟩)) = n1) (hn2 : cntFrom ((42 : UInt8).toNat : Int) (bytesOf (orElse em ⟨#[42]⟩)) = n2) (hm1 : cntFrom ((95 : UInt8).toNat : Int) (bytesOf (orElse st ⟨#[42, 42]⟩)) = m1) (hm2 : cntFrom ((42 : UInt8).toNat : Int) (bytesOf (orElse st ⟨#[42, 42]⟩)) = m2)
    (hqb : [(⟨#[45]⟩ : ByteArray), ⟨#[43]⟩, ⟨#[42]⟩].any (fun x => x.toList == (orElse bu ⟨#[45]⟩).toList) = qb) (hqf : [(⟨#[96, 96, 96]⟩ : ByteArray), ⟨#[126, 126, 126]⟩].any (fun x => x.toList == (orElse fe ⟨#[96, 96, 96]⟩).toList) = qf)
    (hok : ok = ((!((n1 : Int) != 1) || !((n2 : Int) != 1)) && (!((m1 : Int) != 2) || !((m2 : Int) != 2)) && qb && qf)) :
    Calls Try.prog 23 #[v] w (ValidP ok w) := by
  obtain ⟨A, c, rfl, hc, hC⟩ := Kd.R_reads ho.row
  have hlen : xs.length = (optL em st bu fe).length := by have := congrArg List.length ho.fns; simpa using this
  have hl4 := optL_len em st bu fe
  have HFN := Aside0.mk ho.fns
  have HBX := Aside0.mk ho.box
  have HC := Aside0.mk hC
  have HF : Aside0 (∀ (W : World) (g : Nat), W.heap[g]? = some (.cells (cfgC em st ⟨#[]⟩ bu false fe ⟨#[]⟩ ⟨#[]⟩ ⟨#[]⟩ ⟨#[]⟩) 57 (0, 0)) → _) := ⟨fun W g hk => fill_calls em st bu fe g W hk⟩
  have HV : Aside0 (∀ (W : World) (g : Nat), W.heap[g]? = some (.cells (fullC em st bu fe) 57 (0, 0)) → Calls Try.prog 33 #[.pointer (some ⟨g, 0, none⟩)] W (ValidP ok W)) := ⟨fun W g hk => by
    rw [hok]
    have e1 : (orElse em ⟨#[42]⟩).size ≤ 140737488355328 := orElse_size _ _ _ he (by decide)
    have e2 : (orElse st ⟨#[42, 42]⟩).size ≤ 140737488355328 := orElse_size _ _ _ hs (by decide)
    exact valid_calls _ _ _ _ _ _ false e1 e2 g W n1 n2 m1 m2 qb qf hn1 hn2 hm1 hm2 hqb hqf hk⟩
  have HL4 := Aside0.mk (show xs.length ≤ 4 by omega)
  have HLEN := Aside0.mk hlen
  clear hlen hl4
  have HOKF := Aside0.mk (optL_ok em st bu fe)
  have HFD := Aside0.mk (optL_fold em st bu fe)
  clear hn1 hn2 hm1 hm2 hqb hqf hok he hs ho hC
  generalize optL em st bu fe = os at *
  go_enter Try.func23, Try.ntmps23
  go_upto_region 2 with fail
  have HI : Aside0 (ZzI w w.heap.size (cfgC ⟨#[]⟩ ⟨#[]⟩ ⟨#[]⟩ ⟨#[]⟩ false ⟨#[]⟩ ⟨#[]⟩ ⟨#[]⟩ ⟨#[]⟩ ⟨#[]⟩) (w.alloc (.cells (cfgC ⟨#[]⟩ ⟨#[]⟩ ⟨#[]⟩ ⟨#[]⟩ false ⟨#[]⟩ ⟨#[]⟩ ⟨#[]⟩ ⟨#[]⟩ ⟨#[]⟩) 57))) := ⟨⟨heap_alloc_new w _, below_alloc (Below.refl _ _) _⟩⟩
  generalize w.alloc _ = w1 at HI ⊢
  generalize hg : w.heap.size = g at HI ⊢
  go_wp2
  go_loopg [11] xs.length (fun n vi wr => ∃ j : Nat, n = xs.length - j ∧ j ≤ xs.length ∧ vi = .int .i64 j ∧ Aside0 (ZzI w g ((os.take j).foldl setO (cfgC ⟨#[]⟩ ⟨#[]⟩ ⟨#[]⟩ ⟨#[]⟩ false ⟨#[]⟩ ⟨#[]⟩ ⟨#[]⟩ ⟨#[]⟩ ⟨#[]⟩)) wr))
  case atStart => exact ⟨0, rfl, Nat.zero_le _, rfl, HI⟩
  case round =>
    obtain ⟨j, rfl, hj, rfl, HJ⟩ := hrel
    by_cases hlt : j < xs.length
    · obtain ⟨ad, cc, rfl, hcl, hK, hcc⟩ := Kd.C_get (Kd.C_below HC.out HJ.out.b) (0, 0) (j : Int) (by omega) (by omega)
      have hx := hcc 0 (fnV (xs.getD j (0, 0))) (by rw [hK]; rfl)
      have hsz1 : kF.sz = 1 := rfl
      have hjo : j < os.length := by have := HLEN.out; omega
      have he : xs.getD j (0, 0) = xs[j] := by simp [List.getD_eq_getElem?_getD, List.getElem?_eq_getElem hlt]
      rw [he] at hx
      simp only [Int.toNat_natCast, hsz1, Nat.mul_one, Nat.add_zero] at hx
      have hfe : xs[j].1 = os[j].1 := by
        have := congrArg (fun l => l[j]?) HFN.out
        simp only [List.getElem?_map, List.getElem?_eq_getElem hlt, List.getElem?_eq_getElem hjo, Option.map_some, Option.some.injEq] at this
        exact this
      have hof : OkF xs[j].1 := by rw [hfe]; exact HOKF.out _ (List.getElem_mem hjo)
      have hbx := HBX.out j xs[j] os[j] (List.getElem?_eq_getElem hlt) (List.getElem?_eq_getElem hjo)
      have hbx2 := (HJ.out.b.block _ (blk_lt hbx)).trans hbx
      have hop := Aside0.mk (opt_calls hof os[j].2 g xs[j].2 wr _ (by rw [foldO_size]; rfl) HJ.out.k hbx2)
      have hst : setO ((os.take j).foldl setO (cfgC ⟨#[]⟩ ⟨#[]⟩ ⟨#[]⟩ ⟨#[]⟩ false ⟨#[]⟩ ⟨#[]⟩ ⟨#[]⟩ ⟨#[]⟩ ⟨#[]⟩)) (xs[j].1, os[j].2) = (os.take (j + 1)).foldl setO (cfgC ⟨#[]⟩ ⟨#[]⟩ ⟨#[]⟩ ⟨#[]⟩ false ⟨#[]⟩ ⟨#[]⟩ ⟨#[]⟩ ⟨#[]⟩ ⟨#[]⟩) := by
        rw [List.take_succ_eq_append_getElem hjo, List.foldl_append, hfe]
        rfl
      have HST := Aside0.mk hst
      have hent := okF_enters hof
      clear hK hcc hcl he hfe hof hbx hbx2 hst hsz1
      generalize xs[j] = x at *
      obtain ⟨F, b⟩ := x
      go_wp2_with fail
      refine hop.out.mono ?_
      rintro e w3 ⟨rfl, hk3, hb3⟩
      have HN : Aside0 (ZzI w g _ w3) := ⟨⟨hk3, HJ.out.b.trans (by rw [hg]; exact hb3)⟩⟩
      rw [HST.out] at HN
      clear hk3 hb3 hop
      go_wp2
      go_roundg (xs.length - (j + 1))
      case rel => exact ⟨j + 1, rfl, hlt, by have := HL4.out; rw [wrap_id (by omega) (by omega)]; rfl, HN⟩
      case measure => omega
    · have hje : j = xs.length := by omega
      have HK := HJ.out.k
      rw [hje, HLEN.out, List.take_length, HFD.out] at HK
      go_wp2_with fail
      refine (HF.out wr g HK).mono ?_
      rintro e w3 ⟨rfl, hb3⟩
      have HB := Aside0.mk (HJ.out.b.trans (by rw [hg]; exact hb3))
      clear hb3 HK
      go_wp2_with fail
      refine (HV.out _ _ (heap_alloc_new w3 _)).mono ?_
      rintro e w5 ⟨he, hb5⟩
      have HB5 := Aside0.mk (below_step (below_alloc HB.out _) hb5)
      clear hb5
      rcases he with ⟨rfl, rfl⟩ | ⟨rfl, t, p, rfl⟩
      · go_wp2
        go_ret
        exact ⟨.inl ⟨rfl, rfl⟩, HB5.out⟩
      · go_wp2
        go_ret
        exact ⟨.inr ⟨rfl, t, p, rfl⟩, HB5.out⟩
/-- Whether four texts are taken. -/
def okB (em st bu fe : ByteArray) : Bool := ((!((cntFrom ((95 : UInt8).toNat : Int) (bytesOf (orElse em ⟨#[42]⟩)) : Int) != 1) || !((cntFrom ((42 : UInt8).toNat : Int) (bytesOf (orElse em ⟨#[42]⟩)) : Int) != 1)) && (!((cntFrom ((95 : UInt8).toNat : Int) (bytesOf (orElse st ⟨#[42, 42]⟩)) : Int) != 2) || !((cntFrom ((42 : UInt8).toNat : Int) (bytesOf (orElse st ⟨#[42, 42]⟩)) : Int) != 2)) && [(⟨#[45]⟩ : ByteArray), ⟨#[43]⟩, ⟨#[42]⟩].any (fun x => x.toList == (orElse bu ⟨#[45]⟩).toList) && [(⟨#[96, 96, 96]⟩ : ByteArray), ⟨#[126, 126, 126]⟩].any (fun x => x.toList == (orElse fe ⟨#[96, 96, 96]⟩).toList))
set_option maxRecDepth 100000 in
theorem valid_door (em st bu fe : ByteArray) (f9 f10 f11 f12 : Bool) (he : em.size ≤ 140737488355328) (hs : st.size ≤ 140737488355328) (w : World) :
    Calls Try.prog 16 #[.agg #[.bool false, .string em, .string st, .string bu, .string fe, .string ⟨#[]⟩, .int .i64 0, .bool false, .bool false, .bool f9, .bool f10, .bool f11, .bool f12]] w fun e w' => e = .returned (.bool (okB em st bu fe)) ∧ Below w.heap.size w w' := by
  have HZ : Aside0 (∀ (W Wo : World) (v : Value) (xs : List (Nat × Nat)), OptsI Wo xs (optL em st bu fe) v W → Calls Try.prog 23 #[v] W (ValidP (okB em st bu fe) W)) := ⟨fun W Wo v xs ho => zz_calls em st bu fe W Wo v xs ho _ he hs _ _ _ _ _ _ rfl rfl rfl rfl rfl rfl rfl⟩
  generalize okB em st bu fe = ok at HZ ⊢
  clear he hs
  go_enter Try.func16, Try.ntmps16
  go_wp2_with fail
  refine (options_calls em st bu fe f9 f10 f11 f12 _).mono ?_
  rintro e w2 ⟨v, xs, rfl, ho⟩
  have HB := Aside0.mk (below_step (below_alloc (Below.refl _ _) _) ho.below)
  have HO := Aside0.mk ho
  clear ho
  go_wp2_with fail
  refine (HZ.out w2 _ v xs HO.out).mono ?_
  rintro e w5 ⟨he, hb5⟩
  have HB5 := Aside0.mk (below_step HB.out hb5)
  clear hb5
  rcases he with ⟨rfl, rfl⟩ | ⟨rfl, t, p, rfl⟩
  · go_wp2
    go_ret
    exact ⟨rfl, HB5.out⟩
  · go_wp2
    go_ret
    exact ⟨rfl, HB5.out⟩
end Go.Proofs.Ytbhcoeabhdangaa.PVal
