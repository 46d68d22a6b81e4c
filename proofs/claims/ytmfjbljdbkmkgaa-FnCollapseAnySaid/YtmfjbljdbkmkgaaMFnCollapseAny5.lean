/- A part of the proof of FnCollapseAny: SpcY, EDomx1, EDomx4, EvT, QuotX, Lives, CutF, AnyP, EDomx7, LawAny, PureAny, Open, OpenX, RowFnCollapseAny, one behind the other. -/
import Derived.Test.YtmfjbljdbkmkgaaMFnCollapseAny3
import Derived.Test.YtmfjbljdbkmkgaaMFnCollapseAny4
import Derived.Deep.RegionLaw
import Derived.BigRegion
import Derived.Deep.DeepMust
import Derived.Test.YtmfjbljdbkmkgaaMFnCollapseAny2
import Derived.Sort.AtCall
import Derived.Deep.RegionWith
import Derived.StillTailTactics
import Derived.Test.YtmfjbljdbkmkgaaMFnCollapseAny1
import Derived.ChangeArms
import Derived.ChangeSlices
import Derived.DataReads
import Derived.SizedLaws
import Derived.Test.YtmfjbljdbkmkgaaRows
import Derived.WalkKit
import Derived.ProofKit
import Derived.OpenShut
import Derived.ShutString
import Derived.ChangeOld
import Derived.Below
/- laws.inlineSpaced: its walk. -/
namespace Go.Proofs.Ytmfjbljdbkmkgaa.Dom
open Go.RowKit Go.Proofs.YtmfjbljdbkmkgaaW.PrintWords Go.Proofs.YtmfjbljdbkmkgaaW.PrintLast Go.Proofs.YtmfjbljdbkmkgaaW.PrintMore Go.Proofs.Ytmfjbljdbkmkgaa.PDom Go.Proofs.Ytmfjbljdbkmkgaa.Txt Go.Proofs.Ytmfjbljdbkmkgaa.Blank
set_option linter.unusedVariables false
set_option linter.unusedSimpArgs false

set_option maxHeartbeats 4000000 in
set_option maxRecDepth 100000 in
theorem spc_text (nm x : ByteArray) (hx : x.size ≤ 2147483647) (w : World) (A3 : Option Addr) (c3 : Nat) (A4 : Option Addr) (c4 : Nat) :
    Calls Try.prog 25 #[.agg #[.int .i64 1, .string nm, .string x, .slice A3 0 c3, .slice A4 0 c4]] w fun e w' => ToldK w w' ⟨1, nm, blkB x, [], []⟩ e := by
  obtain ⟨W, hW⟩ : ∃ W, W = ((w.alloc (.cells #[.int .i64 1, .string nm, .string x, .slice A3 0 c3, .slice A4 0 c4] 25)).alloc (.cells #[.int .i64 0, .string ⟨#[]⟩, .string ⟨#[]⟩, .slice none 0 0, .slice none 0 0] 25)).alloc (.cells #[.int .i64 1, .string nm, .string x, .slice A3 0 c3, .slice none 0 0] 25) := ⟨_, rfl⟩
  obtain ⟨z0, z1, z2, z3, z4⟩ := three_new w (.cells #[.int .i64 1, .string nm, .string x, .slice A3 0 c3, .slice A4 0 c4] 25) (.cells #[.int .i64 0, .string ⟨#[]⟩, .string ⟨#[]⟩, .slice none 0 0, .slice none 0 0] 25) (.cells #[.int .i64 1, .string nm, .string x, .slice A3 0 c3, .slice none 0 0] 25)
  rw [← hW] at z0 z1 z2 z3 z4
  have hcv := fun W => print_bytes (P := Try.prog) 9 58 5 Try.underlying9 Try.underlying58 Try.underlying5 x W
  have HB := Aside0.mk (fun (c : Int) (wx : World) => spec_Blank.calls c (ws c) wx (blank_f c))
  go_enter Try.func25, Try.ntmps25
  go_upto_region 3 with fail
  rw [← hW]
  clear hW
  have hb1 := bytes_below (Below.refl W.heap.size W) (Nat.le_refl _) 5 x
  have HK0 := Aside0.mk ((show KB w W 1 nm x A3 c3 (.slice none 0 0) [] from ⟨z4, z3, Kd.N_nil _ _ _ _ _, z1⟩).moved hb1)
  have HBB := Aside0.mk (BB.start w W x)
  have HSRC := Aside0.mk ((hb1.block _ (blk_lt z2)).trans z2)
  have hcw := hcv W
  have c2 := blk_cell z2 2
  have HGB := Aside0.mk (show w.heap.size + 3 ≤ W.heap.size by omega)
  clear z0 z1 z2 z3 z4 hb1 hcv
  generalize (Lib.bytesCells W 5 x).size = z at *
  generalize Lib.bytesCells W 5 x = C0 at *
  generalize Lib.bytesWorld W 5 x = W1 at *
  generalize W.heap.size = gb at *
  generalize grownCap W x.size 0 5 = cp at *
  go_wp2_with fail
  have hlb : (bytesOf x).length = x.size := bytesOf_length x
  go_loopw [25] (fun vi wr => ∃ (i : Nat) (C : Array Value), vi = .int .i64 i ∧ i ≤ x.size ∧ Aside0 (BB w wr gb z x.size (over (bytesOf x) i) C) ∧ Aside0 (KB w wr 1 nm x A3 c3 (.slice none 0 0) []) ∧ Aside0 (wr.heap[w.heap.size]? = some (.cells #[.int .i64 1, .string nm, .string x, .slice A3 0 c3, .slice A4 0 c4] 25 (0, 0)))) (fun vi _ => x.size - (intOf vi).toNat)
  case atStart => exact ⟨0, C0, rfl, Nat.zero_le _, ⟨by have := HBB.out; unfold over; simpa using this⟩, HK0, HSRC⟩
  case round =>
    clear HBB HK0 HSRC hcw c2
    obtain ⟨i, C, rfl, hi, HBB, HKB, HSRC⟩ := hrel
    by_cases hlt : i < x.size
    · have q1 := HBB.out.cell hlt
      have q2 := HBB.out.frozen hlt
      rw [over_get (by omega)] at q1
      obtain ⟨c, hc⟩ : ∃ c, c = (bytesOf x)[i]'(by omega) := ⟨_, rfl⟩
      rw [← hc] at q1
      have HWJ := Aside0.mk (wrap_succ i (by omega))
      have HOV := Aside0.mk (show (ws c = true → over (bytesOf x) (i + 1) = (over (bytesOf x) i).set i 32) ∧ (ws c = false → over (bytesOf x) (i + 1) = over (bytesOf x) i) from
        ⟨fun h => by rw [over_succ (by omega), ← hc]; unfold blkN; rw [h]; rfl, fun h => over_same (by omega) (by rw [← hc]; exact h)⟩)
      have HBC := Aside0.mk (HB.out c)
      have HLT := Aside0.mk hlt
      clear hc
      cases hw : ws c with
      | true =>
        rw [hw] at HBC
        have HW := Aside0.mk hw
        clear hw
        go_wp2_with (go_at_call 43; go_must (refine (HBC.out _).mono ?_; rintro e w3 ⟨rfl, hd3⟩; have hb3 := hd3.below; have HB3 := Aside0.mk hb3; have HBB3 := Aside0.mk (HBB.out.below hb3); have q1 := HBB3.out.cell HLT.out; have q2 := HBB3.out.frozen HLT.out; clear hd3 hb3))
        go_roundw
        case rel =>
          refine ⟨i + 1, _, by go_num, hlt, ⟨by rw [HOV.out.1 HW.out]; exact HBB3.out.put hlt 32⟩, ⟨?_⟩, ⟨?_⟩⟩
          · have hk := HKB.out.moved HB3.out
            have hg := HGB.out
            exact ⟨(Below.heap_setCell w3 _ _ _ (by show _ ≠ gb; omega)).trans hk.box, (Below.heap_setCell w3 _ _ _ (by show _ ≠ gb; omega)).trans hk.res, Kd.N_nil _ _ _ _ _, hk.on.setCell (p := ⟨gb, i, none⟩) (by show _ ≤ gb; omega) _⟩
          · have hg := HGB.out
            exact (Below.heap_setCell w3 _ _ _ (by show _ ≠ gb; omega)).trans ((HB3.out.block _ (blk_lt HSRC.out)).trans HSRC.out)
        case measure => simp [intOf]; omega
      | false =>
        rw [hw] at HBC
        have HW := Aside0.mk hw
        clear hw
        go_wp2_with (go_at_call 43; go_must (refine (HBC.out _).mono ?_; rintro e w3 ⟨rfl, hd3⟩; have hb3 := hd3.below; have HB3 := Aside0.mk hb3; clear hd3 hb3))
        go_roundw
        case rel => exact ⟨i + 1, C, by go_num, hlt, ⟨by rw [HOV.out.2 HW.out]; exact HBB.out.below HB3.out⟩, ⟨HKB.out.moved HB3.out⟩, ⟨(HB3.out.block _ (blk_lt HSRC.out)).trans HSRC.out⟩⟩
        case measure => simp [intOf]; omega
    · have hie : i = x.size := by omega
      subst hie
      have hov : over (bytesOf x) x.size = (bytesOf x).map blkN := by rw [← hlb]; exact over_end _
      have hbb := HBB.out
      rw [hov] at hbb
      have hsr := fun W2 (h : ReadsInt W2 .u8 (some ⟨gb, 0, none⟩) x.size ((bytesOf x).map blkN)) => string_of_reads (P := Try.prog) (src := 58) (dst := 9) (e := 5) (c := cp) Try.underlying58 Try.underlying5 Try.underlying9 h
      have hst := hsr wr (hbb.reads (by omega))
      have eb : strOfNums ((bytesOf x).map blkN) = blkB x := rfl
      rw [eb] at hst
      have hk := HKB.out
      have g2 := blk_frozen hk.box 2
      have o2 := blk_cell hk.box 2
      have s4 := blk_cell HSRC.out 4
      have HK2 := Aside0.mk (show KB w (wr.setCell ⟨w.heap.size + 1 + 1, 2, none⟩ (.string (blkB x))) 1 nm (blkB x) A3 c3 (.slice none 0 0) [] from
        ⟨blk_set hk.box 2 _, (Below.heap_setCell wr _ _ _ (by show _ ≠ w.heap.size + 2; omega)).trans hk.res, Kd.N_nil _ _ _ _ _, hk.on.setCell (p := ⟨w.heap.size + 2, 2, none⟩) (by show _ ≤ w.heap.size + 2; omega) _⟩)
      have r4 : (wr.setCell ⟨w.heap.size + 1 + 1, 2, none⟩ (.string (blkB x))).cell? ⟨w.heap.size, 4, none⟩ = some (.slice A4 0 c4) := blk_cell ((Below.heap_setCell wr _ _ _ (by show _ ≠ w.heap.size + 2; omega)).trans HSRC.out) 4
      clear hov hbb hsr eb HBB hk HKB HB
      generalize hbx : blkB x = bx at *
      have HBX := Aside0.mk hbx
      clear hbx
      go_upto_region 11 with fail
      generalize wr.setCell ⟨w.heap.size + 1 + 1, 2, none⟩ (.string bx) = W5 at HK2 r4 ⊢
      have hk := HK2.out
      have hr := hk.res
      have o0 : W5.cell? ⟨w.heap.size + 1 + 1, 0, none⟩ = some (.int .i64 1) := blk_cell hk.box 0
      have o1 : W5.cell? ⟨w.heap.size + 1 + 1, 1, none⟩ = some (.string nm) := blk_cell hk.box 1
      have o2 : W5.cell? ⟨w.heap.size + 1 + 1, 2, none⟩ = some (.string bx) := blk_cell hk.box 2
      have o3 : W5.cell? ⟨w.heap.size + 1 + 1, 3, none⟩ = some (.slice A3 0 c3) := blk_cell hk.box 3
      have o4 : W5.cell? ⟨w.heap.size + 1 + 1, 4, none⟩ = some (.slice none 0 0) := blk_cell hk.box 4
      have g0 := blk_frozen hr 0
      have g1 := blk_frozen hr 1
      have g2 := blk_frozen hr 2
      have g3 := blk_frozen hr 3
      have g4 := blk_frozen hr 4
      have p0 := blk_cell hr 0
      have p1 := blk_cell hr 1
      have p2 := blk_cell hr 2
      have p3 := blk_cell hr 3
      have p4 := blk_cell hr 4
      simp only [zeroN] at p0 p1 p2 p3 p4
      have HE := Aside0.mk (fun a0 a1 a2 a3 a4 => na_end (w := w) (w3 := W5) (u := ⟨1, nm, bx, [], []⟩) (A3 := A3) (A4 := none) (c3 := c3) (c4 := 0) hk rfl a0 a1 a2 a3 a4)
      clear hk hr HK2 hst s4 HSRC
      go_wp2_with fail
      go_loopw [43] (fun vi wx => vi = .int .i64 (0 : Int) ∧ wx = W5) (fun _ _ => 0)
      case atStart => exact ⟨rfl, rfl⟩
      case round =>
        obtain ⟨rfl, rfl⟩ := hrel
        go_wp2_with fail
        refine bodyPost_ret (v := .agg #[.int .i64 1, .string nm, .string bx, .slice A3 0 c3, .slice none 0 0]) (by simp [results, Try.results25, go_sem, p0, p1, p2, p3, p4]) rfl ?_
        rw [HBX.out]
        exact HE.out _ _ _ _ _
theorem cTL_mem : ∀ (l : List T), ∀ y ∈ l, countT y ≤ countTL l := by
  intro l
  induction l with
  | nil => intro y hy; cases hy
  | cons k l ih =>
    intro y hy
    rw [countTL]
    rcases List.mem_cons.1 hy with e | e
    · rw [e]; omega
    · have := ih y e; omega
theorem spcTL_len (l : List T) : (spcTL l).length = l.length := by rw [spcTL_map, List.length_map]
theorem spcTL_take (l : List T) {j : Nat} (h : j < l.length) : spcTL (l.take (j + 1)) = spcTL (l.take j) ++ [spcT l[j]] := by
  rw [spcTL_map, spcTL_map, List.take_succ_eq_append_getElem h, List.map_append]
  rfl
set_option maxHeartbeats 8000000 in
set_option maxRecDepth 100000 in
theorem spc_calls : ∀ (n : Nat) (t : T), SizeOf.sizeOf t ≤ n → okT t = true → txB t = true → naT t = true → countT t ≤ 1000000 → ∀ (w : World) (P : Nat → Prop) (A3 : Option Addr) (c3 : Nat) (A4 : Option Addr) (c4 : Nat), (∀ k, P k → k < w.heap.size) → Kd.F k25 w P A4 t.f4.length t.f4 → t.f4.length ≤ c4 →
    Calls Try.prog 25 #[.agg #[.int .i64 t.f0, .string t.f1, .string t.f2, .slice A3 t.f3.length c3, .slice A4 t.f4.length c4]] w fun e w' => ToldK w w' (spcT t) e := by
  intro n
  induction n with
  | zero =>
    intro t h
    cases t
    simp at h
  | succ n ih =>
    intro t hsz hok htx hna hct w P A3 c3 A4 c4 hP h4 l4
    obtain ⟨hn3, hnk⟩ := naT_open hna
    obtain ⟨hok1, _, hok4, hokk⟩ := okT_open hok
    obtain ⟨htx1, htxk⟩ := txB_open htx
    obtain ⟨f0, f1, f2, f3, f4⟩ := t
    simp only at h4 l4 hn3 hnk hok4 hokk htx1 htxk ⊢
    subst hn3
    by_cases k1 : f0 = 1
    · subst k1
      have hf4 : f4 = [] := by
        rcases hok1 with ⟨_, _, _, e⟩ | ⟨_, e, _⟩ | ⟨e, _⟩
        · exact e
        · cases e
        · exact absurd e (by show ¬ (1 : Int) = 0; decide)
      subst hf4
      have := spc_text f1 f2 (htx1 rfl) w A3 c3 A4 c4
      rw [spcT, if_pos rfl, spcTL]
      exact this
    · have HC := Aside0.mk (show spcT ⟨f0, f1, f2, [], f4⟩ = ⟨f0, f1, f2, [], spcTL f4⟩ from by rw [spcT, if_neg k1])
      have d1 : decide (f0 = 1) = false := decide_eq_false k1
      have b1 : (f0 == 1) = false := beq_eq_false_iff_ne.2 k1
      have hcnt : countT ⟨f0, f1, f2, [], f4⟩ = 1 + countTL f4 := rfl
      rw [hcnt] at hct
      have hkl : ∀ y ∈ f4, countT y ≤ 1000000 := fun y hy => by
        have := cTL_mem f4 y hy
        omega
      have hlen : f4.length ≤ 1000000 := by
        have := countTL_ge f4
        omega
      have hks : ∀ y ∈ f4, SizeOf.sizeOf y ≤ n := fun y hy => by have h1 := kid_lt (t := ⟨f0, f1, f2, [], f4⟩) hy; omega
      obtain ⟨W, hW⟩ : ∃ W, W = ((w.alloc (.cells #[.int .i64 f0, .string f1, .string f2, .slice A3 0 c3, .slice A4 f4.length c4] 25)).alloc (.cells #[.int .i64 0, .string ⟨#[]⟩, .string ⟨#[]⟩, .slice none 0 0, .slice none 0 0] 25)).alloc (.cells #[.int .i64 f0, .string f1, .string f2, .slice A3 0 c3, .slice none 0 0] 25) := ⟨_, rfl⟩
      obtain ⟨z0, z1, z2, z3, z4⟩ := three_new w (.cells #[.int .i64 f0, .string f1, .string f2, .slice A3 0 c3, .slice A4 f4.length c4] 25) (.cells #[.int .i64 0, .string ⟨#[]⟩, .string ⟨#[]⟩, .slice none 0 0, .slice none 0 0] 25) (.cells #[.int .i64 f0, .string f1, .string f2, .slice A3 0 c3, .slice none 0 0] 25)
      rw [← hW] at z0 z1 z2 z3 z4
      have HK0 := Aside0.mk (show KB w W f0 f1 f2 A3 c3 (.slice none 0 0) [] from ⟨z4, z3, Kd.N_nil _ _ _ _ _, z1⟩)
      have HP := Aside0.mk hP
      have H4 := Aside0.mk h4
      have L4 := Aside0.mk l4
      have HLN := Aside0.mk hlen
      have IH := Aside0.mk (fun (q : T) (hq : q ∈ f4) => ih q (hks q hq) (hokk q hq) (htxk q hq) (hnk q hq) (hkl q hq))
      have HNK := Aside0.mk hnk
      clear hsz hok htx hna hct hP h4 l4 ih hok1 hok4 hokk htx1 htxk hnk hkl hks hlen hcnt
      go_enter Try.func25, Try.ntmps25
      go_upto_region 2 with fail
      rw [← hW]
      clear hW
      have c0 := blk_cell z2 0
      have c4 := blk_cell z2 4
      clear z0 z1 z2 z3 z4
      go_wp2_with fail
      go_loopw [43] (fun vi wr => ∃ (j : Nat) (v4 : Value), vi = .int .i64 j ∧ j ≤ f4.length ∧ Aside0 (KB w wr f0 f1 f2 A3 c3 v4 (spcTL (f4.take j)))) (fun vi _ => f4.length - (intOf vi).toNat)
      case atStart => exact ⟨0, _, rfl, Nat.zero_le _, HK0⟩
      case round =>
        clear HK0 c0 c4 d1 b1 k1
        obtain ⟨j, v4, rfl, hj, HT⟩ := hrel
        by_cases hlt2 : j < f4.length
        · have hF := Kd.F_step H4.out (fun k hk hk2 => HT.out.on.block k (HP.out k hk))
          obtain ⟨ad, A5, c5, A6, c6, rfl, y0, y1, y2, y3, y4, m3, g3, m4, g4⟩ := at_F hF (j : Int) (by omega) (by omega)
          have he : f4.getD (j : Int).toNat z25 = f4[j] := by simp [List.getD_eq_getElem?_getD, List.getElem?_eq_getElem hlt2]
          rw [he] at y0 y1 y2 y3 y4 m3 g3 m4 g4
          simp only [Int.toNat_natCast] at y0 y1 y2 y3 y4
          have hq : f4[j] ∈ f4 := List.getElem_mem _
          have hq3 : f4[j].f3 = [] := (naT_open (HNK.out _ hq)).1
          have hsn := spcTL_take f4 hlt2
          have hlen : (spcTL (f4.take j)).length ≤ 1000000 := by
            rw [spcTL_len, List.length_take]
            have := HLN.out
            omega
          have hkc := IH.out f4[j] hq
          generalize f4[j] = q at *
          generalize spcTL (f4.take j) = la at *
          have HWJ := Aside0.mk (wrap_succ j (by have := HLN.out; omega))
          have HSN := Aside0.mk hsn
          have HLA := Aside0.mk hlen
          have HKC := Aside0.mk (fun wx (hb : Below wr.heap.size wr wx) => hkc wx P A5 c5 A6 c6 (fun k hk => by have h1 := HP.out k hk; have h2 := HT.out.size; have h3 := hb.size; omega) (Kd.F_below g4 hb) m4)
          rw [hq3] at y3 HKC
          have hsp3 : (spcT q).f3 = [] := by
            cases q
            exact hq3
          generalize spcT q = u at *
          clear he hq hsn hF m3 g3 m4 g4 hlen hkc hq3
          go_upto_region 14 with fail
          have hcp : (wr.alloc (.cells #[.int .i64 q.f0, .string q.f1, .string q.f2, .slice A5 0 c5, .slice A6 q.f4.length c6] 25)).heap[wr.heap.size]? = some (.cells #[.int .i64 q.f0, .string q.f1, .string q.f2, .slice A5 0 c5, .slice A6 q.f4.length c6] 25 (0, 0)) := heap_alloc_new wr _
          have HB8 := Aside0.mk (below_alloc (Below.refl wr.heap.size wr) (.cells #[.int .i64 q.f0, .string q.f1, .string q.f2, .slice A5 0 c5, .slice A6 q.f4.length c6] 25))
          have HTP := Aside0.mk HT.out
          clear HT
          generalize wr.alloc (.cells #[.int .i64 q.f0, .string q.f1, .string q.f2, .slice A5 0 c5, .slice A6 q.f4.length c6] 25) = w8 at hcp HB8 ⊢
          have HT := Aside0.mk (HTP.out.moved HB8.out)
          have HCP := Aside0.mk hcp
          clear hcp y0 y1 y2 y3 y4
          have HDW := Aside0.mk (below_drew (Below.refl w8.heap.size w8))
          have hcd := (HDW.out.block _ (blk_lt HCP.out)).trans HCP.out
          have y0 := blk_cell HCP.out 0
          have y1 := blk_cell HCP.out 1
          have y2 := blk_cell HCP.out 2
          have y3 := blk_cell HCP.out 3
          have y4 := blk_cell HCP.out 4
          have yd0 := blk_cell hcd 0
          have yd1 := blk_cell hcd 1
          have yd2 := blk_cell hcd 2
          have yd3 := blk_cell hcd 3
          have yd4 := blk_cell hcd 4
          have x4 : w8.cell? ⟨w.heap.size + 1 + 1, 4, none⟩ = some v4 := blk_cell HT.out.box 4
          have x4d : w8.drew.cell? ⟨w.heap.size + 1 + 1, 4, none⟩ = some v4 := blk_cell (HT.out.moved HDW.out).box 4
          have HKW := Aside0.mk (HKC.out _ (below_step HB8.out HDW.out))
          have HTD := Aside0.mk (HT.out.moved HDW.out)
          clear hcd HKC
          have HOK := Aside0.mk (show ∀ k, wr.heap.size ≤ k → w.heap.size + 3 ≤ k ∧ some k ≠ v4.ownBlock from fun k hk => ⟨Nat.le_trans HTP.out.size hk, fun e => by have := Kd.N_lt HTP.out.n4 k e.symm; omega⟩)
          have HAF := Aside0.mk (show ∀ (w2 : World) (A9 A7 : Option Addr) (c9 c7 : Nat), u.f4.length ≤ c7 → Kd.N k25 25 w2 w8.drew.heap.size (fun k => w8.drew.heap.size ≤ k) (.slice A7 u.f4.length c7) u.f4 → Below w8.drew.heap.size w8.drew w2 →
              Aside0 (KB w w2 f0 f1 f2 A3 c3 v4 la) ∧ Aside0 (w.heap.size ≤ w2.heap.size) ∧ Aside0 (Kd.FK k25 w2 (fun k => wr.heap.size ≤ k) u [.int .i64 u.f0, .string u.f1, .string u.f2, .slice A9 0 c9, .slice A7 u.f4.length c7]) ∧ Aside0 (∀ k, w2.heap.size ≤ k → w.heap.size + 3 ≤ k) ∧ w2.cell? ⟨w.heap.size + 1 + 1, 4, none⟩ = some v4 ∧ (w2.alloc (.cells #[.int .i64 u.f0, .string u.f1, .string u.f2, .slice A9 0 c9, .slice A7 u.f4.length c7] 25)).cell? ⟨w.heap.size + 1 + 1, 4, none⟩ = some v4 from fun w2 A9 A7 c9 c7 m7 N7 hb2 => by
            have h2 := HTD.out.moved hb2
            refine ⟨⟨h2⟩, ⟨by have := h2.size; omega⟩, ⟨Kd.FK_mono (fk_na (W := w2) (A3 := A9) (c3 := c9) hsp3 m7 (Kd.N_F N7)) (fun k hk => show wr.heap.size ≤ k from Nat.le_trans (Nat.le_trans HB8.out.size HDW.out.size) hk)⟩, ⟨fun k hk => Nat.le_trans h2.size hk⟩, blk_cell h2.box 4, blk_cell (h2.moved (below_alloc (Below.refl _ _) _)).box 4⟩)
          clear hsp3
          go_region_law (first
            | (refine kids_step (w0 := w2) (W := w2) rfl w.heap.size (.tmp 48) (.tmp 51) 23 (.agg #[.int .i64 0, .string ⟨#[]⟩, .string ⟨#[]⟩, .slice none 0 0, .slice none 0 0]) rfl Try.underlying23 infoNd rfl v4 la u [.int .i64 u.f0, .string u.f1, .string u.f2, .slice A9 0 c9, .slice A7 u.f4.length c7] (fun k => w.heap.size + 3 ≤ k) (fun k => wr.heap.size ≤ k) (by simp [Act.eval, Act.put]) (by simp [Act.eval, Act.put]) HFK.out HOK.out HFR.out HT2.out.n4 (Below.refl _ _) HSZ2.out (by have := HLA.out; omega) ?_; intro v1 w3 ho hb hg hat; obtain ⟨L1, hL1⟩ : ∃ L1, L1 = (la ++ [u]).length := ⟨_, rfl⟩; obtain ⟨A1, k1, hv1⟩ := Kd.N_slice ho; rw [← hL1] at hv1; subst hv1; clear hL1; obtain ⟨g3, gf3, ht3⟩ := HT2.out.kid ho hb hg; have HT3 := Aside0.mk ht3; clear ho hb hg hat ht3)
            | (go_simp; go_at_call 25; refine HKW.out.mono ?_; rintro e w2 ⟨A9, c9, A7, c7, rfl, _, m7, N7, hb2⟩; obtain ⟨HT2, HSZ2, HFK, HFR, x42, x43⟩ := HAF.out w2 A9 A7 c9 c7 m7 N7 hb2; clear m7 N7 hb2))
          all_goals (simp only [Exit.inBlock, Exit.then]; go_wp2_with fail; go_roundw)
          all_goals first
            | exact ⟨j + 1, _, by rw [HWJ.out], hlt2, by rw [HSN.out]; exact HT3⟩
            | (rw [HWJ.out]; simp [intOf]; omega)
        · have hje : j = f4.length := by omega
          subst hje
          have hT := HT.out
          rw [List.take_of_length_le (Nat.le_refl _)] at hT
          have HRES := Aside0.mk HC.out
          generalize spcTL f4 = la at *
          obtain ⟨A7, c7, e4⟩ := Kd.N_slice hT.n4
          obtain ⟨n7, hn7⟩ : ∃ n7, n7 = la.length := ⟨_, rfl⟩
          rw [← hn7] at e4
          subst e4
          have o0 : wr.cell? ⟨w.heap.size + 1 + 1, 0, none⟩ = some (.int .i64 f0) := blk_cell hT.box 0
          have o1 : wr.cell? ⟨w.heap.size + 1 + 1, 1, none⟩ = some (.string f1) := blk_cell hT.box 1
          have o2 : wr.cell? ⟨w.heap.size + 1 + 1, 2, none⟩ = some (.string f2) := blk_cell hT.box 2
          have o3 : wr.cell? ⟨w.heap.size + 1 + 1, 3, none⟩ = some (.slice A3 0 c3) := blk_cell hT.box 3
          have o4 : wr.cell? ⟨w.heap.size + 1 + 1, 4, none⟩ = some (.slice A7 n7 c7) := blk_cell hT.box 4
          have hr := hT.res
          have g0 := blk_frozen hr 0
          have g1 := blk_frozen hr 1
          have g2 := blk_frozen hr 2
          have g3 := blk_frozen hr 3
          have g4 := blk_frozen hr 4
          have p0 := blk_cell hr 0
          have p1 := blk_cell hr 1
          have p2 := blk_cell hr 2
          have p3 := blk_cell hr 3
          have p4 := blk_cell hr 4
          simp only [zeroN] at p0 p1 p2 p3 p4
          have HE := Aside0.mk (fun a0 a1 a2 a3 a4 => na_end (w := w) (w3 := wr) (u := ⟨f0, f1, f2, [], la⟩) (A3 := A3) (A4 := A7) (c3 := c3) (c4 := c7) (by rw [hn7] at hT; exact hT) rfl a0 a1 a2 a3 a4)
          rw [← hn7] at HE
          clear hr hT HT hn7
          go_wp2_with fail
          refine bodyPost_ret (v := .agg #[.int .i64 f0, .string f1, .string f2, .slice A3 0 c3, .slice A7 n7 c7]) (by simp [results, Try.results25, go_sem, p0, p1, p2, p3, p4]) rfl ?_
          rw [HC.out]
          exact HE.out _ _ _ _ _
end Go.Proofs.Ytmfjbljdbkmkgaa.Dom

/- Printed by the program extprint.py of this session, out of the kit's print and contracts of this session's own; Lean checks it. -/
namespace Go.Proofs.Ytmfjbljdbkmkgaa.PDom
open Go.RowKit Go.Proofs.YtmfjbljdbkmkgaaW.PrintWords Go.Proofs.YtmfjbljdbkmkgaaW.PrintLast Go.Proofs.YtmfjbljdbkmkgaaW.PrintMore
attribute [local go_sem] max2_int min2_int max_two min_two max_three min_three max_four min_four   -- for this text's walks alone
set_option linter.unusedVariables false
set_option linter.unusedSimpArgs false

theorem eqA53 (d : Nat) (w : World) (x0 y0 : ByteArray) (x1 y1 : ByteArray) :
    (Op.equalIn (d + 2) 53 (.agg #[.string x0, .string x1]) (.agg #[.string y0, .string y1])).run Try.prog w = .ok (x0.toList == y0.toList && (x1.toList == y1.toList)) w := by
  refine eqA_of Try.underlying53 (by kernel_rfl) ?_
  refine eqf_cons (by rfl) (by go_simp; rfl) (by go_simp; rfl) (by go_simp) ?_
  exact eqf_last (by rfl) (by go_simp; rfl) (by go_simp; rfl) (by go_simp)
end Go.Proofs.Ytmfjbljdbkmkgaa.PDom

/- Printed by the program extprint.py of this session, out of the kit's print and contracts of this session's own; Lean checks it. -/
namespace Go.Proofs.Ytmfjbljdbkmkgaa.PDom
open Go.RowKit Go.Proofs.YtmfjbljdbkmkgaaW.PrintWords Go.Proofs.YtmfjbljdbkmkgaaW.PrintLast Go.Proofs.YtmfjbljdbkmkgaaW.PrintMore
attribute [local go_sem] max2_int min2_int max_two min_two max_three min_three max_four min_four   -- for this text's walks alone
set_option linter.unusedVariables false
set_option linter.unusedSimpArgs false

attribute [local go_sem high] eqA53

/-! ### spec_SameTree: function 14 -/
mutual
def spec_SameTree.j0 : Nat → Bool → Int → ByteArray → ByteArray → List (S53) → List (S25) → Int → ByteArray → ByteArray → List (S53) → List (S25) → Option (Bool)
  | 0, _, _, _, _, _, _, _, _, _, _, _ => none
  | k + 1, x43, x152000, x152001, x152002, x152003, x152004, x153000, x153001, x153002, x153003, x153004 => if x43 = true then (some false) else (spec_SameTree.l0 k (x152003.length : Int) 0 x152000 x152001 x152002 x152003 x152004 x153000 x153001 x153002 x153003 x153004)
def spec_SameTree.l0 : Nat → Int → Int → Int → ByteArray → ByteArray → List (S53) → List (S25) → Int → ByteArray → ByteArray → List (S53) → List (S25) → Option (Bool)
  | 0, _, _, _, _, _, _, _, _, _, _, _, _ => none
  | k + 1, x46, x47, x152000, x152001, x152002, x152003, x152004, x153000, x153001, x153002, x153003, x153004 => if x47 < x46 then (if 0 ≤ x47 then (if x47 < (x152003.length : Int) then (if x47 < (x153003.length : Int) then (if (!((((rd_T53 x152003 x47).f0).toList) == (((rd_T53 x153003 x47).f0).toList)) || (!((((rd_T53 x152003 x47).f1).toList) == (((rd_T53 x153003 x47).f1).toList)))) = true then (some false) else (spec_SameTree.l0 k x46 (wrap64 (x47 + 1)) x152000 x152001 x152002 x152003 x152004 x153000 x153001 x153002 x153003 x153004)) else (none)) else (none)) else (none)) else (spec_SameTree.l1 k (x152004.length : Int) 0 x152000 x152001 x152002 x152003 x152004 x153000 x153001 x153002 x153003 x153004)
def spec_SameTree.l1 : Nat → Int → Int → Int → ByteArray → ByteArray → List (S53) → List (S25) → Int → ByteArray → ByteArray → List (S53) → List (S25) → Option (Bool)
  | 0, _, _, _, _, _, _, _, _, _, _, _, _ => none
  | k + 1, x64, x65, x152000, x152001, x152002, x152003, x152004, x153000, x153001, x153002, x153003, x153004 => if x65 < x64 then (if 0 ≤ x65 then (if x65 < (x152004.length : Int) then (if x65 < (x153004.length : Int) then ((spec_SameTree.f k ((rd_T25 x152004 x65).f0) ((rd_T25 x152004 x65).f1) ((rd_T25 x152004 x65).f2) ((rd_T25 x152004 x65).f3) ((rd_T25 x152004 x65).f4) ((rd_T25 x153004 x65).f0) ((rd_T25 x153004 x65).f1) ((rd_T25 x153004 x65).f2) ((rd_T25 x153004 x65).f3) ((rd_T25 x153004 x65).f4)).bind fun t157 => (if t157 = true then (spec_SameTree.l1 k x64 (wrap64 (x65 + 1)) x152000 x152001 x152002 x152003 x152004 x153000 x153001 x153002 x153003 x153004) else (some false))) else (none)) else (none)) else (none)) else (some true)
def spec_SameTree.f : Nat → Int → ByteArray → ByteArray → List (S53) → List (S25) → Int → ByteArray → ByteArray → List (S53) → List (S25) → Option (Bool)
  | 0, _, _, _, _, _, _, _, _, _, _ => none
  | k + 1, a0_0, a0_1, a0_2, l0_3, l0_4, a1_0, a1_1, a1_2, l1_3, l1_4 => if a0_0 = a1_0 then (if a0_1.toList = a1_1.toList then (if a0_2.toList = a1_2.toList then (if (l0_3.length : Int) = (l1_3.length : Int) then (spec_SameTree.j0 k ((l0_4.length : Int) != (l1_4.length : Int)) a0_0 a0_1 a0_2 l0_3 l0_4 a1_0 a1_1 a1_2 l1_3 l1_4) else (spec_SameTree.j0 k true a0_0 a0_1 a0_2 l0_3 l0_4 a1_0 a1_1 a1_2 l1_3 l1_4)) else (spec_SameTree.j0 k true a0_0 a0_1 a0_2 l0_3 l0_4 a1_0 a1_1 a1_2 l1_3 l1_4)) else (spec_SameTree.j0 k true a0_0 a0_1 a0_2 l0_3 l0_4 a1_0 a1_1 a1_2 l1_3 l1_4)) else (spec_SameTree.j0 k true a0_0 a0_1 a0_2 l0_3 l0_4 a1_0 a1_1 a1_2 l1_3 l1_4)
end
theorem spec_SameTree.mono_l : ∀ k, (∀ y0 y1 y2 y3 y4 y5 y6 y7 y8 y9, LeO (spec_SameTree.f k y0 y1 y2 y3 y4 y5 y6 y7 y8 y9) (spec_SameTree.f (k + 1) y0 y1 y2 y3 y4 y5 y6 y7 y8 y9)) ∧ (∀ y0 y1 y2 y3 y4 y5 y6 y7 y8 y9 y10, LeO (spec_SameTree.j0 k y0 y1 y2 y3 y4 y5 y6 y7 y8 y9 y10) (spec_SameTree.j0 (k + 1) y0 y1 y2 y3 y4 y5 y6 y7 y8 y9 y10)) ∧ (∀ y0 y1 y2 y3 y4 y5 y6 y7 y8 y9 y10 y11, LeO (spec_SameTree.l0 k y0 y1 y2 y3 y4 y5 y6 y7 y8 y9 y10 y11) (spec_SameTree.l0 (k + 1) y0 y1 y2 y3 y4 y5 y6 y7 y8 y9 y10 y11)) ∧ (∀ y0 y1 y2 y3 y4 y5 y6 y7 y8 y9 y10 y11, LeO (spec_SameTree.l1 k y0 y1 y2 y3 y4 y5 y6 y7 y8 y9 y10 y11) (spec_SameTree.l1 (k + 1) y0 y1 y2 y3 y4 y5 y6 y7 y8 y9 y10 y11))
  | 0 => ⟨fun _ _ _ _ _ _ _ _ _ _ r h => by simp [spec_SameTree.f] at h, fun _ _ _ _ _ _ _ _ _ _ _ r h => by simp [spec_SameTree.j0] at h, fun _ _ _ _ _ _ _ _ _ _ _ _ r h => by simp [spec_SameTree.l0] at h, fun _ _ _ _ _ _ _ _ _ _ _ _ r h => by simp [spec_SameTree.l1] at h⟩
  | k + 1 => by
    obtain ⟨ih0, ih1, ih2, ih3⟩ := spec_SameTree.mono_l k
    refine ⟨?_, ?_, ?_, ?_⟩
    · intro y0 y1 y2 y3 y4 y5 y6 y7 y8 y9
      unfold spec_SameTree.f
      repeat' first
      | (with_reducible exact ih0 _ _ _ _ _ _ _ _ _ _)
      | (with_reducible exact ih1 _ _ _ _ _ _ _ _ _ _ _)
      | (with_reducible exact ih2 _ _ _ _ _ _ _ _ _ _ _ _)
      | (with_reducible exact ih3 _ _ _ _ _ _ _ _ _ _ _ _)
      | (with_reducible exact LeO.refl _)
      | (with_reducible exact LeO.none _)
      | (with_reducible refine LeO.ite ?_ ?_)
      | (with_reducible refine LeO.bind ?_ (fun _ => ?_))
      | exact ih0 _ _ _ _ _ _ _ _ _ _
      | exact ih1 _ _ _ _ _ _ _ _ _ _ _
      | exact ih2 _ _ _ _ _ _ _ _ _ _ _ _
      | exact ih3 _ _ _ _ _ _ _ _ _ _ _ _
      | exact LeO.none _
      | refine LeO.ite ?_ ?_
      | refine LeO.bind ?_ (fun _ => ?_)
    · intro y0 y1 y2 y3 y4 y5 y6 y7 y8 y9 y10
      unfold spec_SameTree.j0
      repeat' first
      | (with_reducible exact ih0 _ _ _ _ _ _ _ _ _ _)
      | (with_reducible exact ih1 _ _ _ _ _ _ _ _ _ _ _)
      | (with_reducible exact ih2 _ _ _ _ _ _ _ _ _ _ _ _)
      | (with_reducible exact ih3 _ _ _ _ _ _ _ _ _ _ _ _)
      | (with_reducible exact LeO.refl _)
      | (with_reducible exact LeO.none _)
      | (with_reducible refine LeO.ite ?_ ?_)
      | (with_reducible refine LeO.bind ?_ (fun _ => ?_))
      | exact ih0 _ _ _ _ _ _ _ _ _ _
      | exact ih1 _ _ _ _ _ _ _ _ _ _ _
      | exact ih2 _ _ _ _ _ _ _ _ _ _ _ _
      | exact ih3 _ _ _ _ _ _ _ _ _ _ _ _
      | exact LeO.none _
      | refine LeO.ite ?_ ?_
      | refine LeO.bind ?_ (fun _ => ?_)
    · intro y0 y1 y2 y3 y4 y5 y6 y7 y8 y9 y10 y11
      unfold spec_SameTree.l0
      repeat' first
      | (with_reducible exact ih0 _ _ _ _ _ _ _ _ _ _)
      | (with_reducible exact ih1 _ _ _ _ _ _ _ _ _ _ _)
      | (with_reducible exact ih2 _ _ _ _ _ _ _ _ _ _ _ _)
      | (with_reducible exact ih3 _ _ _ _ _ _ _ _ _ _ _ _)
      | (with_reducible exact LeO.refl _)
      | (with_reducible exact LeO.none _)
      | (with_reducible refine LeO.ite ?_ ?_)
      | (with_reducible refine LeO.bind ?_ (fun _ => ?_))
      | exact ih0 _ _ _ _ _ _ _ _ _ _
      | exact ih1 _ _ _ _ _ _ _ _ _ _ _
      | exact ih2 _ _ _ _ _ _ _ _ _ _ _ _
      | exact ih3 _ _ _ _ _ _ _ _ _ _ _ _
      | exact LeO.none _
      | refine LeO.ite ?_ ?_
      | refine LeO.bind ?_ (fun _ => ?_)
    · intro y0 y1 y2 y3 y4 y5 y6 y7 y8 y9 y10 y11
      unfold spec_SameTree.l1
      repeat' first
      | (with_reducible exact ih0 _ _ _ _ _ _ _ _ _ _)
      | (with_reducible exact ih1 _ _ _ _ _ _ _ _ _ _ _)
      | (with_reducible exact ih2 _ _ _ _ _ _ _ _ _ _ _ _)
      | (with_reducible exact ih3 _ _ _ _ _ _ _ _ _ _ _ _)
      | (with_reducible exact LeO.refl _)
      | (with_reducible exact LeO.none _)
      | (with_reducible refine LeO.ite ?_ ?_)
      | (with_reducible refine LeO.bind ?_ (fun _ => ?_))
      | exact ih0 _ _ _ _ _ _ _ _ _ _
      | exact ih1 _ _ _ _ _ _ _ _ _ _ _
      | exact ih2 _ _ _ _ _ _ _ _ _ _ _ _
      | exact ih3 _ _ _ _ _ _ _ _ _ _ _ _
      | exact LeO.none _
      | refine LeO.ite ?_ ?_
      | refine LeO.bind ?_ (fun _ => ?_)
theorem spec_SameTree.mono : ∀ a0 a1 a2 a3 a4 a5 a6 a7 a8 a9 k, LeO (spec_SameTree.f k a0 a1 a2 a3 a4 a5 a6 a7 a8 a9) (spec_SameTree.f (k + 1) a0 a1 a2 a3 a4 a5 a6 a7 a8 a9) := by
  intro a0 a1 a2 a3 a4 a5 a6 a7 a8 a9 k
  obtain ⟨ih0, ih1, ih2, ih3⟩ := spec_SameTree.mono_l k
  exact ih0 a0 a1 a2 a3 a4 a5 a6 a7 a8 a9
def spec_SameTree.T6 : Bool × List (List Nat × List Nat) := (true, [([], []), ([0], [0]), ([], []), ([1, 2], [1, 2]), ([3], [3]), ([], []), ([5], [5]), ([], []), ([6, 7], [6, 7]), ([8], [8]), ([4, 9], [4, 9])])
def spec_SameTree.B6 : List Nat := [0, 1, 0, 7, 15, 0, 32, 0, 224, 480, 1023]
theorem spec_SameTree.tab6 : rtab .any (opsOf Try.f14 6) = spec_SameTree.T6 := by kernel_rfl
theorem spec_SameTree.bits6 : waitsOk spec_SameTree.T6.2 spec_SameTree.B6 = true := by kernel_rfl
def spec_SameTree.T12 : Bool × List (List Nat × List Nat) := (true, [([], []), ([0], [0]), ([], []), ([1, 2], [1, 2]), ([3], [3]), ([], []), ([5], [5]), ([], []), ([6, 7], [6, 7]), ([8], [8]), ([4, 9], [4, 9]), ([10], [10])])
def spec_SameTree.B12 : List Nat := [0, 1, 0, 7, 15, 0, 32, 0, 224, 480, 1023, 2047]
theorem spec_SameTree.tab12 : rtab .any (opsOf Try.f14 12) = spec_SameTree.T12 := by kernel_rfl
theorem spec_SameTree.bits12 : waitsOk spec_SameTree.T12.2 spec_SameTree.B12 = true := by kernel_rfl
set_option maxHeartbeats 8000000 in
set_option maxRecDepth 100000 in
theorem spec_SameTree.calls (k : Nat) : ∀ (a0_0 : Int) (a0_1 : ByteArray) (a0_2 : ByteArray) (A0_3 : Option Addr) (c0_3 : Nat) (l0_3 : List (S53)) (A0_4 : Option Addr) (c0_4 : Nat) (l0_4 : List (S25)) (a1_0 : Int) (a1_1 : ByteArray) (a1_2 : ByteArray) (A1_3 : Option Addr) (c1_3 : Nat) (l1_3 : List (S53)) (A1_4 : Option Addr) (c1_4 : Nat) (l1_4 : List (S25)) (r : Bool) (w : World) (hr0_3 : Kd.C k53 w A0_3 l0_3.length l0_3) (hc0_3 : l0_3.length ≤ c0_3) (hr0_4 : Kd.C k25 w A0_4 l0_4.length l0_4) (hc0_4 : l0_4.length ≤ c0_4) (hr1_3 : Kd.C k53 w A1_3 l1_3.length l1_3) (hc1_3 : l1_3.length ≤ c1_3) (hr1_4 : Kd.C k25 w A1_4 l1_4.length l1_4) (hc1_4 : l1_4.length ≤ c1_4) (h : spec_SameTree.f k a0_0 a0_1 a0_2 l0_3 l0_4 a1_0 a1_1 a1_2 l1_3 l1_4 = some r),
    Calls Try.prog 14 #[.agg #[.int .i64 a0_0, .string a0_1, .string a0_2, .slice A0_3 l0_3.length c0_3, .slice A0_4 l0_4.length c0_4], .agg #[.int .i64 a1_0, .string a1_1, .string a1_2, .slice A1_3 l1_3.length c1_3, .slice A1_4 l1_4.length c1_4]] w fun e w' => e = .returned (.bool r) ∧ Below w.heap.size w w' := by
  induction k using Nat.strongRecOn with
  | _ k ih =>
  intro a0_0 a0_1 a0_2 A0_3 c0_3 l0_3 A0_4 c0_4 l0_4 a1_0 a1_1 a1_2 A1_3 c1_3 l1_3 A1_4 c1_4 l1_4 r w hr0_3 hc0_3 hr0_4 hc0_4 hr1_3 hc1_3 hr1_4 hc1_4 h
  cases k with
  | zero => exact absurd h (by simp [spec_SameTree.f])
  | succ k =>
  simp only [spec_SameTree.f] at h
  have hu25 := Try.underlying25
  have hu53 := Try.underlying53
  have HR0_3 := Aside0.mk hr0_3
  have HC0_3 := Aside0.mk hc0_3
  clear hr0_3 hc0_3
  have HR0_4 := Aside0.mk hr0_4
  have HC0_4 := Aside0.mk hc0_4
  clear hr0_4 hc0_4
  have HR1_3 := Aside0.mk hr1_3
  have HC1_3 := Aside0.mk hc1_3
  clear hr1_3 hc1_3
  have HR1_4 := Aside0.mk hr1_4
  have HC1_4 := Aside0.mk hc1_4
  clear hr1_4 hc1_4
  have HB := Aside0.mk (Below.refl w.heap.size w)
  have H : (if a0_0 = a1_0 then (if a0_1.toList = a1_1.toList then (if a0_2.toList = a1_2.toList then (if (l0_3.length : Int) = (l1_3.length : Int) then (spec_SameTree.j0 k ((l0_4.length : Int) != (l1_4.length : Int)) a0_0 a0_1 a0_2 l0_3 l0_4 a1_0 a1_1 a1_2 l1_3 l1_4) else (spec_SameTree.j0 k true a0_0 a0_1 a0_2 l0_3 l0_4 a1_0 a1_1 a1_2 l1_3 l1_4)) else (spec_SameTree.j0 k true a0_0 a0_1 a0_2 l0_3 l0_4 a1_0 a1_1 a1_2 l1_3 l1_4)) else (spec_SameTree.j0 k true a0_0 a0_1 a0_2 l0_3 l0_4 a1_0 a1_1 a1_2 l1_3 l1_4)) else (spec_SameTree.j0 k true a0_0 a0_1 a0_2 l0_3 l0_4 a1_0 a1_1 a1_2 l1_3 l1_4)) = some r := h
  clear h
  have HC3 := Aside0.mk H
  clear H
  go_enter Try.func14, Try.ntmps14
  go_upto_region 1 with (first | ((with_reducible refine gate_dst (N := 2) rfl ?_); (try (refine gate_guard (by rfl) ?_; dsimp only)); refine box_event ?hg (N := 2) ?hd (cs := #[.int .i64 a0_0, .string a0_1, .string a0_2, .slice A0_3 l0_3.length c0_3, .slice A0_4 l0_4.length c0_4]) (t := 25) ?hr ?_; (case hd => rfl); (case hg => rfl); (case hr => first | (go_simp; done) | (go_simp; rfl)); intro gb151 hg w4 hbox hb; have n0_ := Aside0.mk (below_step (by repeat (first | (with_reducible first | exact HB.out | apply below_alloc | apply pw_below_drewN | apply below_drew1) | exact HB.out)) hb); have n1_ := Aside0.mk (hbox); have n2_ := Aside0.mk ((by rw [hg]; exact (below_size (by repeat (first | (with_reducible first | exact HB.out | apply below_alloc | apply pw_below_drewN | apply below_drew1) | exact HB.out))) : w.heap.size ≤ gb151)); have n3_ := Aside0.mk ((by rw [hg]; exact (below_size (by repeat (first | (with_reducible first | exact HB.out | apply below_alloc | apply pw_below_drewN | apply below_drew1) | exact HB.out))) : w.heap.size ≤ gb151)); clear HB; have HB := n0_; have BK151 := n1_; have GW151 := n2_; have GE151 := n3_; clear n0_ n1_ n2_ n3_; clear hb hbox hg) | ((with_reducible refine gate_dst (N := 3) rfl ?_); (try (refine gate_guard (by rfl) ?_; dsimp only)); refine box_event ?hg (N := 3) ?hd (cs := #[.int .i64 a1_0, .string a1_1, .string a1_2, .slice A1_3 l1_3.length c1_3, .slice A1_4 l1_4.length c1_4]) (t := 25) ?hr ?_; (case hd => rfl); (case hg => rfl); (case hr => first | (go_simp; done) | (go_simp; rfl)); intro gb152 hg w5 hbox hb; have n0_ := Aside0.mk (blk_below (g := gb151) (o := .cells #[.int .i64 a0_0, .string a0_1, .string a0_2, .slice A0_3 l0_3.length c0_3, .slice A0_4 l0_4.length c0_4] 25 (0, 0)) (by (with_reducible repeat (first | refine blk_drewN ?_ _ | refine blk_drew ?_ | refine blk_alloc ?_ _)); exact BK151.out) hb); have n1_ := Aside0.mk (below_step (by repeat (first | (with_reducible first | exact HB.out | apply below_alloc | apply pw_below_drewN | apply below_drew1 | refine below_set ?_ GE151.out) | exact HB.out)) hb); have n2_ := Aside0.mk (hbox); have n3_ := Aside0.mk ((by rw [hg]; exact (below_size (by repeat (first | (with_reducible first | exact HB.out | apply below_alloc | apply pw_below_drewN | apply below_drew1 | refine below_set ?_ GE151.out) | exact HB.out))) : w.heap.size ≤ gb152)); have n4_ := Aside0.mk ((by rw [hg]; exact (below_size (by repeat (first | (with_reducible first | exact HB.out | apply below_alloc | apply pw_below_drewN | apply below_drew1 | refine below_set ?_ GE151.out) | exact HB.out))) : w.heap.size ≤ gb152)); have n5_ := Aside0.mk ((by rw [hg]; exact Nat.ne_of_lt (blk_lt (g := gb151) (o := .cells #[.int .i64 a0_0, .string a0_1, .string a0_2, .slice A0_3 l0_3.length c0_3, .slice A0_4 l0_4.length c0_4] 25 (0, 0)) (by (with_reducible repeat (first | refine blk_drewN ?_ _ | refine blk_drew ?_ | refine blk_alloc ?_ _)); exact BK151.out)) : gb151 ≠ gb152)); have n6_ := Aside0.mk ((by rw [hg]; exact Nat.ne_of_gt (blk_lt (g := gb151) (o := .cells #[.int .i64 a0_0, .string a0_1, .string a0_2, .slice A0_3 l0_3.length c0_3, .slice A0_4 l0_4.length c0_4] 25 (0, 0)) (by (with_reducible repeat (first | refine blk_drewN ?_ _ | refine blk_drew ?_ | refine blk_alloc ?_ _)); exact BK151.out)) : gb152 ≠ gb151)); clear BK151; clear HB; have BK151 := n0_; have HB := n1_; have BK152 := n2_; have GW152 := n3_; have GE152 := n4_; have NB151_152 := n5_; have NB152_151 := n6_; clear n0_ n1_ n2_ n3_ n4_ n5_ n6_; clear hb hbox hg))
  (try simp only [Act.put, List.setIfInBounds_toArray, List.set_cons_zero, List.set_cons_succ])
  go_cut [43] (fun v43 wc => ∃ (kq : Nat) (x43_2 : Bool), v43 = .bool x43_2 ∧ Aside0 (spec_SameTree.j0 kq x43_2 a0_0 a0_1 a0_2 l0_3 l0_4 a1_0 a1_1 a1_2 l1_3 l1_4 = some r) ∧ Aside0 (kq ≤ k) ∧ Aside0 (wc.heap[gb151]? = some (.cells #[.int .i64 a0_0, .string a0_1, .string a0_2, (.slice A0_3 l0_3.length c0_3), (.slice A0_4 l0_4.length c0_4)] 25 (0, 0))) ∧ Aside0 (wc.heap[gb152]? = some (.cells #[.int .i64 a1_0, .string a1_1, .string a1_2, (.slice A1_3 l1_3.length c1_3), (.slice A1_4 l1_4.length c1_4)] 25 (0, 0))) ∧ Aside0 (Below w.heap.size w wc))
  case first =>
    have H := HC3.out
    clear HC3
    by_cases c6 : a0_0 = a1_0
    · rw [if_pos c6] at H
      have c6b0 : (a0_0 == a1_0) = true := beq_iff_eq.mpr c6
      have c6b1 : (a0_0 != a1_0) = false := bne_eq_false_iff_eq.mpr c6
      clear c6
      (first | rw [c6b0] | (simp only [i64_w, i32_w]; rw [c6b0]) | skip)
      by_cases c7 : a0_1.toList = a1_1.toList
      · rw [if_pos c7] at H
        have c7b0 : (a0_1.toList == a1_1.toList) = true := beq_iff_eq.mpr c7
        have c7b1 : (a0_1.toList != a1_1.toList) = false := bne_eq_false_iff_eq.mpr c7
        clear c7
        by_cases c8 : a0_2.toList = a1_2.toList
        · rw [if_pos c8] at H
          have c8b0 : (a0_2.toList == a1_2.toList) = true := beq_iff_eq.mpr c8
          have c8b1 : (a0_2.toList != a1_2.toList) = false := bne_eq_false_iff_eq.mpr c8
          clear c8
          by_cases c9 : (l0_3.length : Int) = (l1_3.length : Int)
          · rw [if_pos c9] at H
            have c9b0 : ((l0_3.length : Int) == (l1_3.length : Int)) = true := beq_iff_eq.mpr c9
            have c9b1 : ((l0_3.length : Int) != (l1_3.length : Int)) = false := bne_eq_false_iff_eq.mpr c9
            have c9b2 : (l0_3.length == l1_3.length) = true := by first | simpa using c9 | (simp at c9 ⊢; omega)
            clear c9
            have H' := Aside0.mk H
            clear H
            have hnb10 := NB151_152.out
            have hnc10 := NB152_151.out
            have hcz11_0 : w5.cell? ⟨gb151, 0, none⟩ = some (.int .i64 a0_0) := (blk_cell BK151.out 0).trans rfl
            have hcz11_1 : w5.cell? ⟨gb151, 1, none⟩ = some (.string a0_1) := (blk_cell BK151.out 1).trans rfl
            have hcz11_2 : w5.cell? ⟨gb151, 2, none⟩ = some (.string a0_2) := (blk_cell BK151.out 2).trans rfl
            have hcz11_3 : w5.cell? ⟨gb151, 3, none⟩ = some (.slice A0_3 l0_3.length c0_3) := (blk_cell BK151.out 3).trans rfl
            have hcz11_4 : w5.cell? ⟨gb151, 4, none⟩ = some (.slice A0_4 l0_4.length c0_4) := (blk_cell BK151.out 4).trans rfl
            have hfz11_0 := blk_frozen BK151.out 0
            have hfz11_1 := blk_frozen BK151.out 1
            have hfz11_2 := blk_frozen BK151.out 2
            have hfz11_3 := blk_frozen BK151.out 3
            have hfz11_4 := blk_frozen BK151.out 4
            have hcz12_0 : w5.cell? ⟨gb152, 0, none⟩ = some (.int .i64 a1_0) := (blk_cell BK152.out 0).trans rfl
            have hcz12_1 : w5.cell? ⟨gb152, 1, none⟩ = some (.string a1_1) := (blk_cell BK152.out 1).trans rfl
            have hcz12_2 : w5.cell? ⟨gb152, 2, none⟩ = some (.string a1_2) := (blk_cell BK152.out 2).trans rfl
            have hcz12_3 : w5.cell? ⟨gb152, 3, none⟩ = some (.slice A1_3 l1_3.length c1_3) := (blk_cell BK152.out 3).trans rfl
            have hcz12_4 : w5.cell? ⟨gb152, 4, none⟩ = some (.slice A1_4 l1_4.length c1_4) := (blk_cell BK152.out 4).trans rfl
            have hfz12_0 := blk_frozen BK152.out 0
            have hfz12_1 := blk_frozen BK152.out 1
            have hfz12_2 := blk_frozen BK152.out 2
            have hfz12_3 := blk_frozen BK152.out 3
            have hfz12_4 := blk_frozen BK152.out 4
            go_wp2
            go_meet
            case rel => exact ⟨_, (((l0_4.length : Int) != (l1_4.length : Int))), (by first | rfl | (simp; done) | (simp [*]; done)), H', ⟨by first | omega | exact Nat.le_refl _⟩, ⟨by (with_reducible repeat (first | refine blk_drewN ?_ _ | refine blk_drew ?_ | refine blk_alloc ?_ _)); exact BK151.out⟩, ⟨by (with_reducible repeat (first | refine blk_drewN ?_ _ | refine blk_drew ?_ | refine blk_alloc ?_ _)); exact BK152.out⟩, ⟨by repeat (first | (with_reducible first | exact HB.out | apply below_alloc | apply pw_below_drewN | apply below_drew1 | refine below_set ?_ GE151.out | refine below_set ?_ GE152.out) | exact HB.out)⟩⟩
          · rw [if_neg c9] at H
            have c9b0 : ((l0_3.length : Int) == (l1_3.length : Int)) = false := beq_eq_false_iff_ne.mpr c9
            have c9b1 : ((l0_3.length : Int) != (l1_3.length : Int)) = true := bne_iff_ne.mpr c9
            have c9b2 : (l0_3.length == l1_3.length) = false := by first | simpa using c9 | (simp at c9 ⊢; omega)
            have H' := Aside0.mk H
            clear H
            have hnb13 := NB151_152.out
            have hnc13 := NB152_151.out
            have hcz14_0 : w5.cell? ⟨gb151, 0, none⟩ = some (.int .i64 a0_0) := (blk_cell BK151.out 0).trans rfl
            have hcz14_1 : w5.cell? ⟨gb151, 1, none⟩ = some (.string a0_1) := (blk_cell BK151.out 1).trans rfl
            have hcz14_2 : w5.cell? ⟨gb151, 2, none⟩ = some (.string a0_2) := (blk_cell BK151.out 2).trans rfl
            have hcz14_3 : w5.cell? ⟨gb151, 3, none⟩ = some (.slice A0_3 l0_3.length c0_3) := (blk_cell BK151.out 3).trans rfl
            have hcz14_4 : w5.cell? ⟨gb151, 4, none⟩ = some (.slice A0_4 l0_4.length c0_4) := (blk_cell BK151.out 4).trans rfl
            have hfz14_0 := blk_frozen BK151.out 0
            have hfz14_1 := blk_frozen BK151.out 1
            have hfz14_2 := blk_frozen BK151.out 2
            have hfz14_3 := blk_frozen BK151.out 3
            have hfz14_4 := blk_frozen BK151.out 4
            have hcz15_0 : w5.cell? ⟨gb152, 0, none⟩ = some (.int .i64 a1_0) := (blk_cell BK152.out 0).trans rfl
            have hcz15_1 : w5.cell? ⟨gb152, 1, none⟩ = some (.string a1_1) := (blk_cell BK152.out 1).trans rfl
            have hcz15_2 : w5.cell? ⟨gb152, 2, none⟩ = some (.string a1_2) := (blk_cell BK152.out 2).trans rfl
            have hcz15_3 : w5.cell? ⟨gb152, 3, none⟩ = some (.slice A1_3 l1_3.length c1_3) := (blk_cell BK152.out 3).trans rfl
            have hcz15_4 : w5.cell? ⟨gb152, 4, none⟩ = some (.slice A1_4 l1_4.length c1_4) := (blk_cell BK152.out 4).trans rfl
            have hfz15_0 := blk_frozen BK152.out 0
            have hfz15_1 := blk_frozen BK152.out 1
            have hfz15_2 := blk_frozen BK152.out 2
            have hfz15_3 := blk_frozen BK152.out 3
            have hfz15_4 := blk_frozen BK152.out 4
            go_wp2
            go_meet
            case rel => exact ⟨_, (true), (by first | rfl | (simp; done) | (simp [*]; done)), H', ⟨by first | omega | exact Nat.le_refl _⟩, ⟨by (with_reducible repeat (first | refine blk_drewN ?_ _ | refine blk_drew ?_ | refine blk_alloc ?_ _)); exact BK151.out⟩, ⟨by (with_reducible repeat (first | refine blk_drewN ?_ _ | refine blk_drew ?_ | refine blk_alloc ?_ _)); exact BK152.out⟩, ⟨by repeat (first | (with_reducible first | exact HB.out | apply below_alloc | apply pw_below_drewN | apply below_drew1 | refine below_set ?_ GE151.out | refine below_set ?_ GE152.out) | exact HB.out)⟩⟩
        · rw [if_neg c8] at H
          have c8b0 : (a0_2.toList == a1_2.toList) = false := beq_eq_false_iff_ne.mpr c8
          have c8b1 : (a0_2.toList != a1_2.toList) = true := bne_iff_ne.mpr c8
          have H' := Aside0.mk H
          clear H
          have hnb16 := NB151_152.out
          have hnc16 := NB152_151.out
          have hcz17_0 : w5.cell? ⟨gb151, 0, none⟩ = some (.int .i64 a0_0) := (blk_cell BK151.out 0).trans rfl
          have hcz17_1 : w5.cell? ⟨gb151, 1, none⟩ = some (.string a0_1) := (blk_cell BK151.out 1).trans rfl
          have hcz17_2 : w5.cell? ⟨gb151, 2, none⟩ = some (.string a0_2) := (blk_cell BK151.out 2).trans rfl
          have hcz17_3 : w5.cell? ⟨gb151, 3, none⟩ = some (.slice A0_3 l0_3.length c0_3) := (blk_cell BK151.out 3).trans rfl
          have hcz17_4 : w5.cell? ⟨gb151, 4, none⟩ = some (.slice A0_4 l0_4.length c0_4) := (blk_cell BK151.out 4).trans rfl
          have hfz17_0 := blk_frozen BK151.out 0
          have hfz17_1 := blk_frozen BK151.out 1
          have hfz17_2 := blk_frozen BK151.out 2
          have hfz17_3 := blk_frozen BK151.out 3
          have hfz17_4 := blk_frozen BK151.out 4
          have hcz18_0 : w5.cell? ⟨gb152, 0, none⟩ = some (.int .i64 a1_0) := (blk_cell BK152.out 0).trans rfl
          have hcz18_1 : w5.cell? ⟨gb152, 1, none⟩ = some (.string a1_1) := (blk_cell BK152.out 1).trans rfl
          have hcz18_2 : w5.cell? ⟨gb152, 2, none⟩ = some (.string a1_2) := (blk_cell BK152.out 2).trans rfl
          have hcz18_3 : w5.cell? ⟨gb152, 3, none⟩ = some (.slice A1_3 l1_3.length c1_3) := (blk_cell BK152.out 3).trans rfl
          have hcz18_4 : w5.cell? ⟨gb152, 4, none⟩ = some (.slice A1_4 l1_4.length c1_4) := (blk_cell BK152.out 4).trans rfl
          have hfz18_0 := blk_frozen BK152.out 0
          have hfz18_1 := blk_frozen BK152.out 1
          have hfz18_2 := blk_frozen BK152.out 2
          have hfz18_3 := blk_frozen BK152.out 3
          have hfz18_4 := blk_frozen BK152.out 4
          go_wp2
          go_meet
          case rel => exact ⟨_, (true), (by first | rfl | (simp; done) | (simp [*]; done)), H', ⟨by first | omega | exact Nat.le_refl _⟩, ⟨by (with_reducible repeat (first | refine blk_drewN ?_ _ | refine blk_drew ?_ | refine blk_alloc ?_ _)); exact BK151.out⟩, ⟨by (with_reducible repeat (first | refine blk_drewN ?_ _ | refine blk_drew ?_ | refine blk_alloc ?_ _)); exact BK152.out⟩, ⟨by repeat (first | (with_reducible first | exact HB.out | apply below_alloc | apply pw_below_drewN | apply below_drew1 | refine below_set ?_ GE151.out | refine below_set ?_ GE152.out) | exact HB.out)⟩⟩
      · rw [if_neg c7] at H
        have c7b0 : (a0_1.toList == a1_1.toList) = false := beq_eq_false_iff_ne.mpr c7
        have c7b1 : (a0_1.toList != a1_1.toList) = true := bne_iff_ne.mpr c7
        have H' := Aside0.mk H
        clear H
        have hnb19 := NB151_152.out
        have hnc19 := NB152_151.out
        have hcz20_0 : w5.cell? ⟨gb151, 0, none⟩ = some (.int .i64 a0_0) := (blk_cell BK151.out 0).trans rfl
        have hcz20_1 : w5.cell? ⟨gb151, 1, none⟩ = some (.string a0_1) := (blk_cell BK151.out 1).trans rfl
        have hcz20_2 : w5.cell? ⟨gb151, 2, none⟩ = some (.string a0_2) := (blk_cell BK151.out 2).trans rfl
        have hcz20_3 : w5.cell? ⟨gb151, 3, none⟩ = some (.slice A0_3 l0_3.length c0_3) := (blk_cell BK151.out 3).trans rfl
        have hcz20_4 : w5.cell? ⟨gb151, 4, none⟩ = some (.slice A0_4 l0_4.length c0_4) := (blk_cell BK151.out 4).trans rfl
        have hfz20_0 := blk_frozen BK151.out 0
        have hfz20_1 := blk_frozen BK151.out 1
        have hfz20_2 := blk_frozen BK151.out 2
        have hfz20_3 := blk_frozen BK151.out 3
        have hfz20_4 := blk_frozen BK151.out 4
        have hcz21_0 : w5.cell? ⟨gb152, 0, none⟩ = some (.int .i64 a1_0) := (blk_cell BK152.out 0).trans rfl
        have hcz21_1 : w5.cell? ⟨gb152, 1, none⟩ = some (.string a1_1) := (blk_cell BK152.out 1).trans rfl
        have hcz21_2 : w5.cell? ⟨gb152, 2, none⟩ = some (.string a1_2) := (blk_cell BK152.out 2).trans rfl
        have hcz21_3 : w5.cell? ⟨gb152, 3, none⟩ = some (.slice A1_3 l1_3.length c1_3) := (blk_cell BK152.out 3).trans rfl
        have hcz21_4 : w5.cell? ⟨gb152, 4, none⟩ = some (.slice A1_4 l1_4.length c1_4) := (blk_cell BK152.out 4).trans rfl
        have hfz21_0 := blk_frozen BK152.out 0
        have hfz21_1 := blk_frozen BK152.out 1
        have hfz21_2 := blk_frozen BK152.out 2
        have hfz21_3 := blk_frozen BK152.out 3
        have hfz21_4 := blk_frozen BK152.out 4
        go_wp2
        go_meet
        case rel => exact ⟨_, (true), (by first | rfl | (simp; done) | (simp [*]; done)), H', ⟨by first | omega | exact Nat.le_refl _⟩, ⟨by (with_reducible repeat (first | refine blk_drewN ?_ _ | refine blk_drew ?_ | refine blk_alloc ?_ _)); exact BK151.out⟩, ⟨by (with_reducible repeat (first | refine blk_drewN ?_ _ | refine blk_drew ?_ | refine blk_alloc ?_ _)); exact BK152.out⟩, ⟨by repeat (first | (with_reducible first | exact HB.out | apply below_alloc | apply pw_below_drewN | apply below_drew1 | refine below_set ?_ GE151.out | refine below_set ?_ GE152.out) | exact HB.out)⟩⟩
    · rw [if_neg c6] at H
      have c6b0 : (a0_0 == a1_0) = false := beq_eq_false_iff_ne.mpr c6
      have c6b1 : (a0_0 != a1_0) = true := bne_iff_ne.mpr c6
      (first | rw [c6b0] | (simp only [i64_w, i32_w]; rw [c6b0]) | skip)
      have H' := Aside0.mk H
      clear H
      have hnb22 := NB151_152.out
      have hnc22 := NB152_151.out
      have hcz23_0 : w5.cell? ⟨gb151, 0, none⟩ = some (.int .i64 a0_0) := (blk_cell BK151.out 0).trans rfl
      have hcz23_1 : w5.cell? ⟨gb151, 1, none⟩ = some (.string a0_1) := (blk_cell BK151.out 1).trans rfl
      have hcz23_2 : w5.cell? ⟨gb151, 2, none⟩ = some (.string a0_2) := (blk_cell BK151.out 2).trans rfl
      have hcz23_3 : w5.cell? ⟨gb151, 3, none⟩ = some (.slice A0_3 l0_3.length c0_3) := (blk_cell BK151.out 3).trans rfl
      have hcz23_4 : w5.cell? ⟨gb151, 4, none⟩ = some (.slice A0_4 l0_4.length c0_4) := (blk_cell BK151.out 4).trans rfl
      have hfz23_0 := blk_frozen BK151.out 0
      have hfz23_1 := blk_frozen BK151.out 1
      have hfz23_2 := blk_frozen BK151.out 2
      have hfz23_3 := blk_frozen BK151.out 3
      have hfz23_4 := blk_frozen BK151.out 4
      have hcz24_0 : w5.cell? ⟨gb152, 0, none⟩ = some (.int .i64 a1_0) := (blk_cell BK152.out 0).trans rfl
      have hcz24_1 : w5.cell? ⟨gb152, 1, none⟩ = some (.string a1_1) := (blk_cell BK152.out 1).trans rfl
      have hcz24_2 : w5.cell? ⟨gb152, 2, none⟩ = some (.string a1_2) := (blk_cell BK152.out 2).trans rfl
      have hcz24_3 : w5.cell? ⟨gb152, 3, none⟩ = some (.slice A1_3 l1_3.length c1_3) := (blk_cell BK152.out 3).trans rfl
      have hcz24_4 : w5.cell? ⟨gb152, 4, none⟩ = some (.slice A1_4 l1_4.length c1_4) := (blk_cell BK152.out 4).trans rfl
      have hfz24_0 := blk_frozen BK152.out 0
      have hfz24_1 := blk_frozen BK152.out 1
      have hfz24_2 := blk_frozen BK152.out 2
      have hfz24_3 := blk_frozen BK152.out 3
      have hfz24_4 := blk_frozen BK152.out 4
      go_wp2
      go_meet
      case rel => exact ⟨_, (true), (by first | rfl | (simp; done) | (simp [*]; done)), H', ⟨by first | omega | exact Nat.le_refl _⟩, ⟨by (with_reducible repeat (first | refine blk_drewN ?_ _ | refine blk_drew ?_ | refine blk_alloc ?_ _)); exact BK151.out⟩, ⟨by (with_reducible repeat (first | refine blk_drewN ?_ _ | refine blk_drew ?_ | refine blk_alloc ?_ _)); exact BK152.out⟩, ⟨by repeat (first | (with_reducible first | exact HB.out | apply below_alloc | apply pw_below_drewN | apply below_drew1 | refine below_set ?_ GE151.out | refine below_set ?_ GE152.out) | exact HB.out)⟩⟩
  case rest =>
    clear HC3
    try clear c1
    try clear c2
    try clear p2
    try clear c6
    try clear c6b0
    try clear c6b1
    try clear c7
    try clear c7b0
    try clear c7b1
    try clear c8
    try clear c8b0
    try clear c8b1
    try clear c9
    try clear c9b0
    try clear c9b1
    try clear c9b2
    try clear c10
    try clear c13
    try clear c14
    try clear c16
    try clear c19
    try clear c22
    try clear hcz11_0
    try clear hcz11_1
    try clear hcz11_2
    try clear hcz11_3
    try clear hcz11_4
    try clear hcz12_0
    try clear hcz12_1
    try clear hcz12_2
    try clear hcz12_3
    try clear hcz12_4
    try clear hcz14_0
    try clear hcz14_1
    try clear hcz14_2
    try clear hcz14_3
    try clear hcz14_4
    try clear hcz15_0
    try clear hcz15_1
    try clear hcz15_2
    try clear hcz15_3
    try clear hcz15_4
    try clear hcz17_0
    try clear hcz17_1
    try clear hcz17_2
    try clear hcz17_3
    try clear hcz17_4
    try clear hcz18_0
    try clear hcz18_1
    try clear hcz18_2
    try clear hcz18_3
    try clear hcz18_4
    try clear hcz20_0
    try clear hcz20_1
    try clear hcz20_2
    try clear hcz20_3
    try clear hcz20_4
    try clear hcz21_0
    try clear hcz21_1
    try clear hcz21_2
    try clear hcz21_3
    try clear hcz21_4
    try clear hcz23_0
    try clear hcz23_1
    try clear hcz23_2
    try clear hcz23_3
    try clear hcz23_4
    try clear hcz24_0
    try clear hcz24_1
    try clear hcz24_2
    try clear hcz24_3
    try clear hcz24_4
    try clear hfz11_0
    try clear hfz11_1
    try clear hfz11_2
    try clear hfz11_3
    try clear hfz11_4
    try clear hfz12_0
    try clear hfz12_1
    try clear hfz12_2
    try clear hfz12_3
    try clear hfz12_4
    try clear hfz14_0
    try clear hfz14_1
    try clear hfz14_2
    try clear hfz14_3
    try clear hfz14_4
    try clear hfz15_0
    try clear hfz15_1
    try clear hfz15_2
    try clear hfz15_3
    try clear hfz15_4
    try clear hfz17_0
    try clear hfz17_1
    try clear hfz17_2
    try clear hfz17_3
    try clear hfz17_4
    try clear hfz18_0
    try clear hfz18_1
    try clear hfz18_2
    try clear hfz18_3
    try clear hfz18_4
    try clear hfz20_0
    try clear hfz20_1
    try clear hfz20_2
    try clear hfz20_3
    try clear hfz20_4
    try clear hfz21_0
    try clear hfz21_1
    try clear hfz21_2
    try clear hfz21_3
    try clear hfz21_4
    try clear hfz23_0
    try clear hfz23_1
    try clear hfz23_2
    try clear hfz23_3
    try clear hfz23_4
    try clear hfz24_0
    try clear hfz24_1
    try clear hfz24_2
    try clear hfz24_3
    try clear hfz24_4
    obtain ⟨kq, x43_2, rfl, HA, HJ2, BK151, BK152, HB⟩ := hcut
    cases kq with
    | zero => exact absurd HA.out (by simp [spec_SameTree.j0])
    | succ kj2 =>
      have H := HA.out
      clear HA
      simp only [spec_SameTree.j0] at H
      by_cases c25 : x43_2 = true
      · subst c25
        have H1 : (some false) = some r := by rw [if_pos rfl] at H; exact H
        clear H
        have H := H1
        clear H1
        obtain rfl := Option.some.inj H
        go_wp2
        go_ret
        exact ⟨by first | rfl | (simp [errW_none, errW_some] <;> rfl) | (simp [*, errW_none, errW_some] <;> rfl), by repeat (first | (with_reducible first | exact HB.out | apply below_alloc | apply pw_below_drewN | apply below_drew1 | refine below_set ?_ GE151.out | refine below_set ?_ GE152.out) | exact HB.out)⟩
      · replace c25 := Bool.eq_false_iff.mpr c25
        subst c25
        have H1 : (spec_SameTree.l0 kj2 (l0_3.length : Int) 0 a0_0 a0_1 a0_2 l0_3 l0_4 a1_0 a1_1 a1_2 l1_3 l1_4) = some r := by rw [if_neg (show ¬ (false = true) by decide)] at H; exact H
        clear H
        have H := H1
        clear H1
        have H' := Aside0.mk H
        clear H
        have hnb26 := NB151_152.out
        have hnc26 := NB152_151.out
        have hcz27_0 : wc.cell? ⟨gb151, 0, none⟩ = some (.int .i64 a0_0) := (blk_cell BK151.out 0).trans rfl
        have hcz27_1 : wc.cell? ⟨gb151, 1, none⟩ = some (.string a0_1) := (blk_cell BK151.out 1).trans rfl
        have hcz27_2 : wc.cell? ⟨gb151, 2, none⟩ = some (.string a0_2) := (blk_cell BK151.out 2).trans rfl
        have hcz27_3 : wc.cell? ⟨gb151, 3, none⟩ = some (.slice A0_3 l0_3.length c0_3) := (blk_cell BK151.out 3).trans rfl
        have hcz27_4 : wc.cell? ⟨gb151, 4, none⟩ = some (.slice A0_4 l0_4.length c0_4) := (blk_cell BK151.out 4).trans rfl
        have hfz27_0 := blk_frozen BK151.out 0
        have hfz27_1 := blk_frozen BK151.out 1
        have hfz27_2 := blk_frozen BK151.out 2
        have hfz27_3 := blk_frozen BK151.out 3
        have hfz27_4 := blk_frozen BK151.out 4
        go_wp2
        go_loopg [47] kj2 (fun kq v47 w' => ∃ (x47_2 : Int), v47 = .int .i64 x47_2 ∧ Aside0 (spec_SameTree.l0 kq (l0_3.length : Int) x47_2 a0_0 a0_1 a0_2 l0_3 l0_4 a1_0 a1_1 a1_2 l1_3 l1_4 = some r) ∧ Aside0 (kq ≤ kj2) ∧ Aside0 (w'.heap[gb151]? = some (.cells #[.int .i64 a0_0, .string a0_1, .string a0_2, (.slice A0_3 l0_3.length c0_3), (.slice A0_4 l0_4.length c0_4)] 25 (0, 0))) ∧ Aside0 (w'.heap[gb152]? = some (.cells #[.int .i64 a1_0, .string a1_1, .string a1_2, (.slice A1_3 l1_3.length c1_3), (.slice A1_4 l1_4.length c1_4)] 25 (0, 0))) ∧ Aside0 (Below w.heap.size w w'))
        case atStart => exact ⟨(0), (by first | rfl | (simp; done) | (simp [*]; done)), H', ⟨Nat.le_refl _⟩, ⟨by (with_reducible repeat (first | refine blk_drewN ?_ _ | refine blk_drew ?_ | refine blk_alloc ?_ _)); exact BK151.out⟩, ⟨by (with_reducible repeat (first | refine blk_drewN ?_ _ | refine blk_drew ?_ | refine blk_alloc ?_ _)); exact BK152.out⟩, ⟨by repeat (first | (with_reducible first | exact HB.out | apply below_alloc | apply pw_below_drewN | apply below_drew1 | refine below_set ?_ GE151.out | refine below_set ?_ GE152.out) | exact HB.out)⟩⟩
        case round =>
          clear H'
          try clear c1
          try clear c2
          try clear p2
          try clear c6
          try clear c6b0
          try clear c6b1
          try clear c7
          try clear c7b0
          try clear c7b1
          try clear c8
          try clear c8b0
          try clear c8b1
          try clear c9
          try clear c9b0
          try clear c9b1
          try clear c9b2
          try clear c10
          try clear c13
          try clear c14
          try clear c16
          try clear c19
          try clear c22
          try clear c25
          try clear c26
          try clear hcz11_0
          try clear hcz11_1
          try clear hcz11_2
          try clear hcz11_3
          try clear hcz11_4
          try clear hcz12_0
          try clear hcz12_1
          try clear hcz12_2
          try clear hcz12_3
          try clear hcz12_4
          try clear hcz14_0
          try clear hcz14_1
          try clear hcz14_2
          try clear hcz14_3
          try clear hcz14_4
          try clear hcz15_0
          try clear hcz15_1
          try clear hcz15_2
          try clear hcz15_3
          try clear hcz15_4
          try clear hcz17_0
          try clear hcz17_1
          try clear hcz17_2
          try clear hcz17_3
          try clear hcz17_4
          try clear hcz18_0
          try clear hcz18_1
          try clear hcz18_2
          try clear hcz18_3
          try clear hcz18_4
          try clear hcz20_0
          try clear hcz20_1
          try clear hcz20_2
          try clear hcz20_3
          try clear hcz20_4
          try clear hcz21_0
          try clear hcz21_1
          try clear hcz21_2
          try clear hcz21_3
          try clear hcz21_4
          try clear hcz23_0
          try clear hcz23_1
          try clear hcz23_2
          try clear hcz23_3
          try clear hcz23_4
          try clear hcz24_0
          try clear hcz24_1
          try clear hcz24_2
          try clear hcz24_3
          try clear hcz24_4
          try clear hcz27_0
          try clear hcz27_1
          try clear hcz27_2
          try clear hcz27_3
          try clear hcz27_4
          try clear hfz11_0
          try clear hfz11_1
          try clear hfz11_2
          try clear hfz11_3
          try clear hfz11_4
          try clear hfz12_0
          try clear hfz12_1
          try clear hfz12_2
          try clear hfz12_3
          try clear hfz12_4
          try clear hfz14_0
          try clear hfz14_1
          try clear hfz14_2
          try clear hfz14_3
          try clear hfz14_4
          try clear hfz15_0
          try clear hfz15_1
          try clear hfz15_2
          try clear hfz15_3
          try clear hfz15_4
          try clear hfz17_0
          try clear hfz17_1
          try clear hfz17_2
          try clear hfz17_3
          try clear hfz17_4
          try clear hfz18_0
          try clear hfz18_1
          try clear hfz18_2
          try clear hfz18_3
          try clear hfz18_4
          try clear hfz20_0
          try clear hfz20_1
          try clear hfz20_2
          try clear hfz20_3
          try clear hfz20_4
          try clear hfz21_0
          try clear hfz21_1
          try clear hfz21_2
          try clear hfz21_3
          try clear hfz21_4
          try clear hfz23_0
          try clear hfz23_1
          try clear hfz23_2
          try clear hfz23_3
          try clear hfz23_4
          try clear hfz24_0
          try clear hfz24_1
          try clear hfz24_2
          try clear hfz24_3
          try clear hfz24_4
          try clear hfz27_0
          try clear hfz27_1
          try clear hfz27_2
          try clear hfz27_3
          try clear hfz27_4
          try clear p2
          obtain ⟨x47_2, rfl, HA, HK2, BK151, BK152, HB⟩ := hrel
          cases gk with
          | zero => exact absurd HA.out (by simp [spec_SameTree.l0])
          | succ k2 =>
            have H := HA.out
            clear HA
            simp only [spec_SameTree.l0] at H
            by_cases c28 : x47_2 < (l0_3.length : Int)
            · rw [if_pos c28] at H
              have c28b0 : decide (x47_2 < (l0_3.length : Int)) = true := decide_eq_true c28
              clear c28
              by_cases c29 : 0 ≤ x47_2
              · rw [if_pos c29] at H
                have c29b0 : decide (0 ≤ x47_2) = true := decide_eq_true c29
                clear c29
                by_cases c30 : x47_2 < (l0_3.length : Int)
                · rw [if_pos c30] at H
                  have c30b0 : decide (x47_2 < (l0_3.length : Int)) = true := decide_eq_true c30
                  clear c30
                  by_cases c31 : x47_2 < (l1_3.length : Int)
                  · rw [if_pos c31] at H
                    have c31b0 : decide (x47_2 < (l1_3.length : Int)) = true := decide_eq_true c31
                    clear c31
                    by_cases c32 : (!((((rd_T53 l0_3 x47_2).f0).toList) == (((rd_T53 l1_3 x47_2).f0).toList)) || (!((((rd_T53 l0_3 x47_2).f1).toList) == (((rd_T53 l1_3 x47_2).f1).toList)))) = true
                    · rw [if_pos c32] at H
                      have c32b0 : (!((((rd_T53 l0_3 x47_2).f0).toList) == (((rd_T53 l1_3 x47_2).f0).toList)) || (!((((rd_T53 l0_3 x47_2).f1).toList) == (((rd_T53 l1_3 x47_2).f1).toList)))) = true := c32
                      clear c32
                      obtain rfl := Option.some.inj H
                      try go_wp2
                      have n0_ := Aside0.mk (blk_drew BK151.out)
                      have n1_ := Aside0.mk (blk_drew BK152.out)
                      have n2_ := Aside0.mk (below_drew1 HB.out)
                      clear BK151
                      clear BK152
                      clear HB
                      have BK151 := n0_
                      have BK152 := n1_
                      have HB := n2_
                      clear n0_ n1_ n2_
                      have p153 : 0 ≤ (x47_2 : Int) := of_decide_eq_true (by first | (with_reducible assumption) | assumption)
                      have q153 : x47_2 < (l0_3.length : Int) := of_decide_eq_true (by first | (with_reducible assumption) | assumption)
                      obtain ⟨ad153, e153, hx153_0, hx153_1⟩ := at_T53 HR0_3.out x47_2 p153 q153
                      have hw153_1 := hx153_1
                      have hw153_0 := hx153_0
                      cases e153
                      replace hx153_0 := (HB.out.cell (World.block_lt_of_cell? w _ hx153_0)).trans hx153_0
                      replace hx153_1 := (HB.out.cell (World.block_lt_of_cell? w _ hx153_1)).trans hx153_1
                      replace p153 := eq_true p153
                      replace q153 := eq_true q153
                      have p154 : 0 ≤ (x47_2 : Int) := of_decide_eq_true (by first | (with_reducible assumption) | assumption)
                      have q154 : x47_2 < (l1_3.length : Int) := of_decide_eq_true (by first | (with_reducible assumption) | assumption)
                      obtain ⟨ad154, e154, hx154_0, hx154_1⟩ := at_T53 HR1_3.out x47_2 p154 q154
                      have hw154_1 := hx154_1
                      have hw154_0 := hx154_0
                      cases e154
                      replace hx154_0 := (HB.out.cell (World.block_lt_of_cell? w _ hx154_0)).trans hx154_0
                      replace hx154_1 := (HB.out.cell (World.block_lt_of_cell? w _ hx154_1)).trans hx154_1
                      replace p154 := eq_true p154
                      replace q154 := eq_true q154
                      refine start_ (n := 11) (S := fun w' => w'.cell? ⟨gb151, 0, none⟩ = some (.int .i64 a0_0) ∧ w'.cell? ⟨gb151, 1, none⟩ = some (.string a0_1) ∧ w'.cell? ⟨gb151, 2, none⟩ = some (.string a0_2) ∧ w'.cell? ⟨gb151, 3, none⟩ = some (.slice (some ad153) l0_3.length c0_3) ∧ w'.cell? ⟨gb151, 4, none⟩ = some (.slice A0_4 l0_4.length c0_4) ∧ w'.cell? ⟨gb152, 0, none⟩ = some (.int .i64 a1_0) ∧ w'.cell? ⟨gb152, 1, none⟩ = some (.string a1_1) ∧ w'.cell? ⟨gb152, 2, none⟩ = some (.string a1_2) ∧ w'.cell? ⟨gb152, 3, none⟩ = some (.slice (some ad154) l1_3.length c1_3) ∧ w'.cell? ⟨gb152, 4, none⟩ = some (.slice A1_4 l1_4.length c1_4) ∧ w'.cell? (ad153.add ((x47_2).toNat * 2)) = some (.string ((rd_T53 l0_3 x47_2).f0)) ∧ w'.cell? ⟨(ad153.add ((x47_2).toNat * 2)).block, (ad153.add ((x47_2).toNat * 2)).off + 1, none⟩ = some (.string ((rd_T53 l0_3 x47_2).f1)) ∧ w'.cell? (ad154.add ((x47_2).toNat * 2)) = some (.string ((rd_T53 l1_3 x47_2).f0)) ∧ w'.cell? ⟨(ad154.add ((x47_2).toNat * 2)).block, (ad154.add ((x47_2).toNat * 2)).off + 1, none⟩ = some (.string ((rd_T53 l1_3 x47_2).f1))) (ds := []) #[false, false, false, false, false, false, false, false, false, false, false] (by kernel_rfl) rfl rfl ⟨(blk_cell BK151.out 0).trans rfl, (blk_cell BK151.out 1).trans rfl, (blk_cell BK151.out 2).trans rfl, (blk_cell BK151.out 3).trans rfl, (blk_cell BK151.out 4).trans rfl, (blk_cell BK152.out 0).trans rfl, (blk_cell BK152.out 1).trans rfl, (blk_cell BK152.out 2).trans rfl, (blk_cell BK152.out 3).trans rfl, (blk_cell BK152.out 4).trans rfl, ((HB.out.cell (World.block_lt_of_cell? w _ hw153_0)).trans hw153_0), ((HB.out.cell (World.block_lt_of_cell? w _ hw153_1)).trans hw153_1), ((HB.out.cell (World.block_lt_of_cell? w _ hw154_0)).trans hw154_0), ((HB.out.cell (World.block_lt_of_cell? w _ hw154_1)).trans hw154_1)⟩ (fun hHeld => ?_); refine with_tabW spec_SameTree.tab6 spec_SameTree.bits6 (fun HT_ HW_ => ?_)
                      generalize wr.drew = w33 at BK151 BK152 HB hx153_0 hx153_1 hx154_0 hx154_1 hHeld ⊢
                      refine pure_ (i := 0) (N := some 50) (v := ?_) (a' := ?_) #[true, false, false, false, false, false, false, false, false, false, false] rfl rfl (any_of HT_.out (by kernel_rfl)) (fun _ _ _ h => h) (Or.inl ⟨by rfl, ?_⟩) ?_ ?_
                      rotate_left
                      · intro w'
                        go_simp
                        with_reducible rfl
                      rotate_left
                      · simp only [Act.put, List.setIfInBounds_toArray, List.set_cons_zero, List.set_cons_succ, i64_w, i32_w]
                        rfl
                      refine pure_ (i := 2) (N := some 52) (v := ?_) (a' := ?_) #[true, false, true, false, false, false, false, false, false, false, false] rfl rfl (any_of HT_.out (by kernel_rfl)) (fun _ _ _ h => h) (Or.inl ⟨by rfl, ?_⟩) ?_ ?_
                      rotate_left
                      · intro w'
                        go_simp
                        with_reducible rfl
                      rotate_left
                      · simp only [Act.put, List.setIfInBounds_toArray, List.set_cons_zero, List.set_cons_succ, i64_w, i32_w]
                        rfl
                      refine pure_ (i := 5) (N := some 55) (v := ?_) (a' := ?_) #[true, false, true, false, false, true, false, false, false, false, false] rfl rfl (any_of HT_.out (by kernel_rfl)) (fun _ _ _ h => h) (Or.inl ⟨by rfl, ?_⟩) ?_ ?_
                      rotate_left
                      · intro w'
                        go_simp
                        with_reducible rfl
                      rotate_left
                      · simp only [Act.put, List.setIfInBounds_toArray, List.set_cons_zero, List.set_cons_succ, i64_w, i32_w]
                        rfl
                      refine pure_ (i := 7) (N := some 57) (v := ?_) (a' := ?_) #[true, false, true, false, false, true, false, true, false, false, false] rfl rfl (any_of HT_.out (by kernel_rfl)) (fun _ _ _ h => h) (Or.inl ⟨by rfl, ?_⟩) ?_ ?_
                      rotate_left
                      · intro w'
                        go_simp
                        with_reducible rfl
                      rotate_left
                      · simp only [Act.put, List.setIfInBounds_toArray, List.set_cons_zero, List.set_cons_succ, i64_w, i32_w]
                        rfl
                      refine take_ (i := 1) (N := some 51) (v := ?_) (a' := ?_) #[true, true, true, false, false, true, false, true, false, false, false] rfl rfl (take_ofW HT_.out HW_.out (by kernel_rfl)) (fun _ _ _ h => h) (Or.inl ⟨by rfl, ?_⟩) hHeld ?_ ?_
                      rotate_left
                      · rintro w' ⟨s0, s1, s2, s3, s4, s5, s6, s7, s8, s9, s10, s11, s12, s13⟩
                        go_simp
                        with_reducible rfl
                      rotate_left
                      · simp only [Act.put, List.setIfInBounds_toArray, List.set_cons_zero, List.set_cons_succ, i64_w, i32_w]
                        rfl
                      refine pure_ (i := 3) (N := some 53) (v := ?_) (a' := ?_) #[true, true, true, true, false, true, false, true, false, false, false] rfl rfl (any_of HT_.out (by kernel_rfl)) (fun _ _ _ h => h) (Or.inl ⟨by rfl, ?_⟩) ?_ ?_
                      rotate_left
                      · intro w'
                        go_simp
                        with_reducible rfl
                      rotate_left
                      · simp only [Act.put, List.setIfInBounds_toArray, List.set_cons_zero, List.set_cons_succ, i64_w, i32_w]
                        rfl
                      refine take_ (i := 4) (N := some 54) (v := ?_) (a' := ?_) #[true, true, true, true, true, true, false, true, false, false, false] rfl rfl (take_ofW HT_.out HW_.out (by kernel_rfl)) (fun _ _ _ h => h) (Or.inl ⟨by rfl, ?_⟩) hHeld ?_ ?_
                      rotate_left
                      · rintro w' ⟨s0, s1, s2, s3, s4, s5, s6, s7, s8, s9, s10, s11, s12, s13⟩
                        go_simp
                        with_reducible rfl
                      rotate_left
                      · simp only [Act.put, List.setIfInBounds_toArray, List.set_cons_zero, List.set_cons_succ, i64_w, i32_w]
                        rfl
                      refine take_ (i := 6) (N := some 56) (v := ?_) (a' := ?_) #[true, true, true, true, true, true, true, true, false, false, false] rfl rfl (take_ofW HT_.out HW_.out (by kernel_rfl)) (fun _ _ _ h => h) (Or.inl ⟨by rfl, ?_⟩) hHeld ?_ ?_
                      rotate_left
                      · rintro w' ⟨s0, s1, s2, s3, s4, s5, s6, s7, s8, s9, s10, s11, s12, s13⟩
                        go_simp
                        with_reducible rfl
                      rotate_left
                      · simp only [Act.put, List.setIfInBounds_toArray, List.set_cons_zero, List.set_cons_succ, i64_w, i32_w]
                        rfl
                      refine pure_ (i := 8) (N := some 58) (v := ?_) (a' := ?_) #[true, true, true, true, true, true, true, true, true, false, false] rfl rfl (any_of HT_.out (by kernel_rfl)) (fun _ _ _ h => h) (Or.inl ⟨by rfl, ?_⟩) ?_ ?_
                      rotate_left
                      · intro w'
                        go_simp
                        with_reducible rfl
                      rotate_left
                      · simp only [Act.put, List.setIfInBounds_toArray, List.set_cons_zero, List.set_cons_succ, i64_w, i32_w]
                        rfl
                      refine take_ (i := 9) (N := some 59) (v := ?_) (a' := ?_) #[true, true, true, true, true, true, true, true, true, true, false] rfl rfl (take_ofW HT_.out HW_.out (by kernel_rfl)) (fun _ _ _ h => h) (Or.inl ⟨by rfl, ?_⟩) hHeld ?_ ?_
                      rotate_left
                      · rintro w' ⟨s0, s1, s2, s3, s4, s5, s6, s7, s8, s9, s10, s11, s12, s13⟩
                        go_simp
                        with_reducible rfl
                      rotate_left
                      · simp only [Act.put, List.setIfInBounds_toArray, List.set_cons_zero, List.set_cons_succ, i64_w, i32_w]
                        rfl
                      refine pure_ (i := 10) (N := some 60) (v := ?_) (a' := ?_) #[true, true, true, true, true, true, true, true, true, true, true] rfl rfl (any_of HT_.out (by kernel_rfl)) (fun _ _ _ h => h) (Or.inl ⟨by rfl, ?_⟩) ?_ ?_
                      rotate_left
                      · intro w'
                        go_simp
                        with_reducible rfl
                      rotate_left
                      · simp only [Act.put, List.setIfInBounds_toArray, List.set_cons_zero, List.set_cons_succ, i64_w, i32_w]
                        rfl
                      refine done_ (done_of HT_.out (by kernel_rfl)) ?_
                      try go_wp2
                      go_ret
                      exact ⟨by first | rfl | (simp [errW_none, errW_some] <;> rfl) | (simp [*, errW_none, errW_some] <;> rfl), by repeat (first | (with_reducible first | exact HB.out | apply below_alloc | apply pw_below_drewN | apply below_drew1 | refine below_set ?_ GE151.out | refine below_set ?_ GE152.out) | exact HB.out)⟩
                    · rw [if_neg c32] at H
                      have c32b0 : (!((((rd_T53 l0_3 x47_2).f0).toList) == (((rd_T53 l1_3 x47_2).f0).toList)) || (!((((rd_T53 l0_3 x47_2).f1).toList) == (((rd_T53 l1_3 x47_2).f1).toList)))) = false := by simpa using c32
                      clear c32
                      have H' := Aside0.mk H
                      clear H
                      try go_wp2
                      have n0_ := Aside0.mk (blk_drew BK151.out)
                      have n1_ := Aside0.mk (blk_drew BK152.out)
                      have n2_ := Aside0.mk (below_drew1 HB.out)
                      clear BK151
                      clear BK152
                      clear HB
                      have BK151 := n0_
                      have BK152 := n1_
                      have HB := n2_
                      clear n0_ n1_ n2_
                      have p153 : 0 ≤ (x47_2 : Int) := of_decide_eq_true (by first | (with_reducible assumption) | assumption)
                      have q153 : x47_2 < (l0_3.length : Int) := of_decide_eq_true (by first | (with_reducible assumption) | assumption)
                      obtain ⟨ad153, e153, hx153_0, hx153_1⟩ := at_T53 HR0_3.out x47_2 p153 q153
                      have hw153_1 := hx153_1
                      have hw153_0 := hx153_0
                      cases e153
                      replace hx153_0 := (HB.out.cell (World.block_lt_of_cell? w _ hx153_0)).trans hx153_0
                      replace hx153_1 := (HB.out.cell (World.block_lt_of_cell? w _ hx153_1)).trans hx153_1
                      replace p153 := eq_true p153
                      replace q153 := eq_true q153
                      have p154 : 0 ≤ (x47_2 : Int) := of_decide_eq_true (by first | (with_reducible assumption) | assumption)
                      have q154 : x47_2 < (l1_3.length : Int) := of_decide_eq_true (by first | (with_reducible assumption) | assumption)
                      obtain ⟨ad154, e154, hx154_0, hx154_1⟩ := at_T53 HR1_3.out x47_2 p154 q154
                      have hw154_1 := hx154_1
                      have hw154_0 := hx154_0
                      cases e154
                      replace hx154_0 := (HB.out.cell (World.block_lt_of_cell? w _ hx154_0)).trans hx154_0
                      replace hx154_1 := (HB.out.cell (World.block_lt_of_cell? w _ hx154_1)).trans hx154_1
                      replace p154 := eq_true p154
                      replace q154 := eq_true q154
                      refine start_ (n := 11) (S := fun w' => w'.cell? ⟨gb151, 0, none⟩ = some (.int .i64 a0_0) ∧ w'.cell? ⟨gb151, 1, none⟩ = some (.string a0_1) ∧ w'.cell? ⟨gb151, 2, none⟩ = some (.string a0_2) ∧ w'.cell? ⟨gb151, 3, none⟩ = some (.slice (some ad153) l0_3.length c0_3) ∧ w'.cell? ⟨gb151, 4, none⟩ = some (.slice A0_4 l0_4.length c0_4) ∧ w'.cell? ⟨gb152, 0, none⟩ = some (.int .i64 a1_0) ∧ w'.cell? ⟨gb152, 1, none⟩ = some (.string a1_1) ∧ w'.cell? ⟨gb152, 2, none⟩ = some (.string a1_2) ∧ w'.cell? ⟨gb152, 3, none⟩ = some (.slice (some ad154) l1_3.length c1_3) ∧ w'.cell? ⟨gb152, 4, none⟩ = some (.slice A1_4 l1_4.length c1_4) ∧ w'.cell? (ad153.add ((x47_2).toNat * 2)) = some (.string ((rd_T53 l0_3 x47_2).f0)) ∧ w'.cell? ⟨(ad153.add ((x47_2).toNat * 2)).block, (ad153.add ((x47_2).toNat * 2)).off + 1, none⟩ = some (.string ((rd_T53 l0_3 x47_2).f1)) ∧ w'.cell? (ad154.add ((x47_2).toNat * 2)) = some (.string ((rd_T53 l1_3 x47_2).f0)) ∧ w'.cell? ⟨(ad154.add ((x47_2).toNat * 2)).block, (ad154.add ((x47_2).toNat * 2)).off + 1, none⟩ = some (.string ((rd_T53 l1_3 x47_2).f1))) (ds := []) #[false, false, false, false, false, false, false, false, false, false, false] (by kernel_rfl) rfl rfl ⟨(blk_cell BK151.out 0).trans rfl, (blk_cell BK151.out 1).trans rfl, (blk_cell BK151.out 2).trans rfl, (blk_cell BK151.out 3).trans rfl, (blk_cell BK151.out 4).trans rfl, (blk_cell BK152.out 0).trans rfl, (blk_cell BK152.out 1).trans rfl, (blk_cell BK152.out 2).trans rfl, (blk_cell BK152.out 3).trans rfl, (blk_cell BK152.out 4).trans rfl, ((HB.out.cell (World.block_lt_of_cell? w _ hw153_0)).trans hw153_0), ((HB.out.cell (World.block_lt_of_cell? w _ hw153_1)).trans hw153_1), ((HB.out.cell (World.block_lt_of_cell? w _ hw154_0)).trans hw154_0), ((HB.out.cell (World.block_lt_of_cell? w _ hw154_1)).trans hw154_1)⟩ (fun hHeld => ?_); refine with_tabW spec_SameTree.tab6 spec_SameTree.bits6 (fun HT_ HW_ => ?_)
                      generalize wr.drew = w34 at BK151 BK152 HB hx153_0 hx153_1 hx154_0 hx154_1 hHeld ⊢
                      refine pure_ (i := 0) (N := some 50) (v := ?_) (a' := ?_) #[true, false, false, false, false, false, false, false, false, false, false] rfl rfl (any_of HT_.out (by kernel_rfl)) (fun _ _ _ h => h) (Or.inl ⟨by rfl, ?_⟩) ?_ ?_
                      rotate_left
                      · intro w'
                        go_simp
                        with_reducible rfl
                      rotate_left
                      · simp only [Act.put, List.setIfInBounds_toArray, List.set_cons_zero, List.set_cons_succ, i64_w, i32_w]
                        rfl
                      refine pure_ (i := 2) (N := some 52) (v := ?_) (a' := ?_) #[true, false, true, false, false, false, false, false, false, false, false] rfl rfl (any_of HT_.out (by kernel_rfl)) (fun _ _ _ h => h) (Or.inl ⟨by rfl, ?_⟩) ?_ ?_
                      rotate_left
                      · intro w'
                        go_simp
                        with_reducible rfl
                      rotate_left
                      · simp only [Act.put, List.setIfInBounds_toArray, List.set_cons_zero, List.set_cons_succ, i64_w, i32_w]
                        rfl
                      refine pure_ (i := 5) (N := some 55) (v := ?_) (a' := ?_) #[true, false, true, false, false, true, false, false, false, false, false] rfl rfl (any_of HT_.out (by kernel_rfl)) (fun _ _ _ h => h) (Or.inl ⟨by rfl, ?_⟩) ?_ ?_
                      rotate_left
                      · intro w'
                        go_simp
                        with_reducible rfl
                      rotate_left
                      · simp only [Act.put, List.setIfInBounds_toArray, List.set_cons_zero, List.set_cons_succ, i64_w, i32_w]
                        rfl
                      refine pure_ (i := 7) (N := some 57) (v := ?_) (a' := ?_) #[true, false, true, false, false, true, false, true, false, false, false] rfl rfl (any_of HT_.out (by kernel_rfl)) (fun _ _ _ h => h) (Or.inl ⟨by rfl, ?_⟩) ?_ ?_
                      rotate_left
                      · intro w'
                        go_simp
                        with_reducible rfl
                      rotate_left
                      · simp only [Act.put, List.setIfInBounds_toArray, List.set_cons_zero, List.set_cons_succ, i64_w, i32_w]
                        rfl
                      refine take_ (i := 1) (N := some 51) (v := ?_) (a' := ?_) #[true, true, true, false, false, true, false, true, false, false, false] rfl rfl (take_ofW HT_.out HW_.out (by kernel_rfl)) (fun _ _ _ h => h) (Or.inl ⟨by rfl, ?_⟩) hHeld ?_ ?_
                      rotate_left
                      · rintro w' ⟨s0, s1, s2, s3, s4, s5, s6, s7, s8, s9, s10, s11, s12, s13⟩
                        go_simp
                        with_reducible rfl
                      rotate_left
                      · simp only [Act.put, List.setIfInBounds_toArray, List.set_cons_zero, List.set_cons_succ, i64_w, i32_w]
                        rfl
                      refine pure_ (i := 3) (N := some 53) (v := ?_) (a' := ?_) #[true, true, true, true, false, true, false, true, false, false, false] rfl rfl (any_of HT_.out (by kernel_rfl)) (fun _ _ _ h => h) (Or.inl ⟨by rfl, ?_⟩) ?_ ?_
                      rotate_left
                      · intro w'
                        go_simp
                        with_reducible rfl
                      rotate_left
                      · simp only [Act.put, List.setIfInBounds_toArray, List.set_cons_zero, List.set_cons_succ, i64_w, i32_w]
                        rfl
                      refine take_ (i := 4) (N := some 54) (v := ?_) (a' := ?_) #[true, true, true, true, true, true, false, true, false, false, false] rfl rfl (take_ofW HT_.out HW_.out (by kernel_rfl)) (fun _ _ _ h => h) (Or.inl ⟨by rfl, ?_⟩) hHeld ?_ ?_
                      rotate_left
                      · rintro w' ⟨s0, s1, s2, s3, s4, s5, s6, s7, s8, s9, s10, s11, s12, s13⟩
                        go_simp
                        with_reducible rfl
                      rotate_left
                      · simp only [Act.put, List.setIfInBounds_toArray, List.set_cons_zero, List.set_cons_succ, i64_w, i32_w]
                        rfl
                      refine take_ (i := 6) (N := some 56) (v := ?_) (a' := ?_) #[true, true, true, true, true, true, true, true, false, false, false] rfl rfl (take_ofW HT_.out HW_.out (by kernel_rfl)) (fun _ _ _ h => h) (Or.inl ⟨by rfl, ?_⟩) hHeld ?_ ?_
                      rotate_left
                      · rintro w' ⟨s0, s1, s2, s3, s4, s5, s6, s7, s8, s9, s10, s11, s12, s13⟩
                        go_simp
                        with_reducible rfl
                      rotate_left
                      · simp only [Act.put, List.setIfInBounds_toArray, List.set_cons_zero, List.set_cons_succ, i64_w, i32_w]
                        rfl
                      refine pure_ (i := 8) (N := some 58) (v := ?_) (a' := ?_) #[true, true, true, true, true, true, true, true, true, false, false] rfl rfl (any_of HT_.out (by kernel_rfl)) (fun _ _ _ h => h) (Or.inl ⟨by rfl, ?_⟩) ?_ ?_
                      rotate_left
                      · intro w'
                        go_simp
                        with_reducible rfl
                      rotate_left
                      · simp only [Act.put, List.setIfInBounds_toArray, List.set_cons_zero, List.set_cons_succ, i64_w, i32_w]
                        rfl
                      refine take_ (i := 9) (N := some 59) (v := ?_) (a' := ?_) #[true, true, true, true, true, true, true, true, true, true, false] rfl rfl (take_ofW HT_.out HW_.out (by kernel_rfl)) (fun _ _ _ h => h) (Or.inl ⟨by rfl, ?_⟩) hHeld ?_ ?_
                      rotate_left
                      · rintro w' ⟨s0, s1, s2, s3, s4, s5, s6, s7, s8, s9, s10, s11, s12, s13⟩
                        go_simp
                        with_reducible rfl
                      rotate_left
                      · simp only [Act.put, List.setIfInBounds_toArray, List.set_cons_zero, List.set_cons_succ, i64_w, i32_w]
                        rfl
                      refine pure_ (i := 10) (N := some 60) (v := ?_) (a' := ?_) #[true, true, true, true, true, true, true, true, true, true, true] rfl rfl (any_of HT_.out (by kernel_rfl)) (fun _ _ _ h => h) (Or.inl ⟨by rfl, ?_⟩) ?_ ?_
                      rotate_left
                      · intro w'
                        go_simp
                        with_reducible rfl
                      rotate_left
                      · simp only [Act.put, List.setIfInBounds_toArray, List.set_cons_zero, List.set_cons_succ, i64_w, i32_w]
                        rfl
                      refine done_ (done_of HT_.out (by kernel_rfl)) ?_
                      try go_wp2
                      go_roundg k2
                      case measure => have := HJ2.out; have := HK2.out; omega
                      case rel => exact ⟨(wrap64 (x47_2 + 1)), (by first | rfl | (simp; done) | (simp [*]; done)), H', ⟨by have := HJ2.out; have := HK2.out; omega⟩, ⟨by (with_reducible repeat (first | refine blk_drewN ?_ _ | refine blk_drew ?_ | refine blk_alloc ?_ _)); exact BK151.out⟩, ⟨by (with_reducible repeat (first | refine blk_drewN ?_ _ | refine blk_drew ?_ | refine blk_alloc ?_ _)); exact BK152.out⟩, ⟨by repeat (first | (with_reducible first | exact HB.out | apply below_alloc | apply pw_below_drewN | apply below_drew1 | refine below_set ?_ GE151.out | refine below_set ?_ GE152.out) | exact HB.out)⟩⟩
                  · rw [if_neg c31] at H
                    exact absurd H (by simp)
                · rw [if_neg c30] at H
                  exact absurd H (by simp)
              · rw [if_neg c29] at H
                exact absurd H (by simp)
            · rw [if_neg c28] at H
              have c28b0 : decide (x47_2 < (l0_3.length : Int)) = false := decide_eq_false c28
              clear c28
              have H' := Aside0.mk H
              clear H
              have hnb35 := NB151_152.out
              have hnc35 := NB152_151.out
              have hcz36_0 : wr.cell? ⟨gb151, 0, none⟩ = some (.int .i64 a0_0) := (blk_cell BK151.out 0).trans rfl
              have hcz36_1 : wr.cell? ⟨gb151, 1, none⟩ = some (.string a0_1) := (blk_cell BK151.out 1).trans rfl
              have hcz36_2 : wr.cell? ⟨gb151, 2, none⟩ = some (.string a0_2) := (blk_cell BK151.out 2).trans rfl
              have hcz36_3 : wr.cell? ⟨gb151, 3, none⟩ = some (.slice A0_3 l0_3.length c0_3) := (blk_cell BK151.out 3).trans rfl
              have hcz36_4 : wr.cell? ⟨gb151, 4, none⟩ = some (.slice A0_4 l0_4.length c0_4) := (blk_cell BK151.out 4).trans rfl
              have hfz36_0 := blk_frozen BK151.out 0
              have hfz36_1 := blk_frozen BK151.out 1
              have hfz36_2 := blk_frozen BK151.out 2
              have hfz36_3 := blk_frozen BK151.out 3
              have hfz36_4 := blk_frozen BK151.out 4
              go_wp2
              go_loopg [65] k2 (fun kq v65 w' => ∃ (x65_3 : Int), v65 = .int .i64 x65_3 ∧ Aside0 (spec_SameTree.l1 kq (l0_4.length : Int) x65_3 a0_0 a0_1 a0_2 l0_3 l0_4 a1_0 a1_1 a1_2 l1_3 l1_4 = some r) ∧ Aside0 (kq ≤ k2) ∧ Aside0 (w'.heap[gb151]? = some (.cells #[.int .i64 a0_0, .string a0_1, .string a0_2, (.slice A0_3 l0_3.length c0_3), (.slice A0_4 l0_4.length c0_4)] 25 (0, 0))) ∧ Aside0 (w'.heap[gb152]? = some (.cells #[.int .i64 a1_0, .string a1_1, .string a1_2, (.slice A1_3 l1_3.length c1_3), (.slice A1_4 l1_4.length c1_4)] 25 (0, 0))) ∧ Aside0 (Below w.heap.size w w'))
              case atStart => exact ⟨(0), (by first | rfl | (simp; done) | (simp [*]; done)), H', ⟨Nat.le_refl _⟩, ⟨by (with_reducible repeat (first | refine blk_drewN ?_ _ | refine blk_drew ?_ | refine blk_alloc ?_ _)); exact BK151.out⟩, ⟨by (with_reducible repeat (first | refine blk_drewN ?_ _ | refine blk_drew ?_ | refine blk_alloc ?_ _)); exact BK152.out⟩, ⟨by repeat (first | (with_reducible first | exact HB.out | apply below_alloc | apply pw_below_drewN | apply below_drew1 | refine below_set ?_ GE151.out | refine below_set ?_ GE152.out) | exact HB.out)⟩⟩
              case round =>
                clear H'
                try clear c1
                try clear p1
                try clear q1
                try clear hx1
                try clear c2
                try clear p2
                try clear c3
                try clear c6
                try clear c6b0
                try clear c6b1
                try clear p6
                try clear c7
                try clear c7b0
                try clear c7b1
                try clear c8
                try clear c8b0
                try clear c8b1
                try clear c9
                try clear c9b0
                try clear c9b1
                try clear c9b2
                try clear c10
                try clear c13
                try clear c14
                try clear p15
                try clear q15
                try clear hx15
                try clear c16
                try clear c19
                try clear c22
                try clear c25
                try clear c26
                try clear c28
                try clear c28b0
                try clear c29
                try clear c29b0
                try clear c30
                try clear c30b0
                try clear c31
                try clear c31b0
                try clear c32
                try clear c32b0
                try clear c35
                try clear hcz11_0
                try clear hcz11_1
                try clear hcz11_2
                try clear hcz11_3
                try clear hcz11_4
                try clear hcz12_0
                try clear hcz12_1
                try clear hcz12_2
                try clear hcz12_3
                try clear hcz12_4
                try clear hcz14_0
                try clear hcz14_1
                try clear hcz14_2
                try clear hcz14_3
                try clear hcz14_4
                try clear hcz15_0
                try clear hcz15_1
                try clear hcz15_2
                try clear hcz15_3
                try clear hcz15_4
                try clear hcz17_0
                try clear hcz17_1
                try clear hcz17_2
                try clear hcz17_3
                try clear hcz17_4
                try clear hcz18_0
                try clear hcz18_1
                try clear hcz18_2
                try clear hcz18_3
                try clear hcz18_4
                try clear hcz20_0
                try clear hcz20_1
                try clear hcz20_2
                try clear hcz20_3
                try clear hcz20_4
                try clear hcz21_0
                try clear hcz21_1
                try clear hcz21_2
                try clear hcz21_3
                try clear hcz21_4
                try clear hcz23_0
                try clear hcz23_1
                try clear hcz23_2
                try clear hcz23_3
                try clear hcz23_4
                try clear hcz24_0
                try clear hcz24_1
                try clear hcz24_2
                try clear hcz24_3
                try clear hcz24_4
                try clear hcz27_0
                try clear hcz27_1
                try clear hcz27_2
                try clear hcz27_3
                try clear hcz27_4
                try clear hcz36_0
                try clear hcz36_1
                try clear hcz36_2
                try clear hcz36_3
                try clear hcz36_4
                try clear hfz11_0
                try clear hfz11_1
                try clear hfz11_2
                try clear hfz11_3
                try clear hfz11_4
                try clear hfz12_0
                try clear hfz12_1
                try clear hfz12_2
                try clear hfz12_3
                try clear hfz12_4
                try clear hfz14_0
                try clear hfz14_1
                try clear hfz14_2
                try clear hfz14_3
                try clear hfz14_4
                try clear hfz15_0
                try clear hfz15_1
                try clear hfz15_2
                try clear hfz15_3
                try clear hfz15_4
                try clear hfz17_0
                try clear hfz17_1
                try clear hfz17_2
                try clear hfz17_3
                try clear hfz17_4
                try clear hfz18_0
                try clear hfz18_1
                try clear hfz18_2
                try clear hfz18_3
                try clear hfz18_4
                try clear hfz20_0
                try clear hfz20_1
                try clear hfz20_2
                try clear hfz20_3
                try clear hfz20_4
                try clear hfz21_0
                try clear hfz21_1
                try clear hfz21_2
                try clear hfz21_3
                try clear hfz21_4
                try clear hfz23_0
                try clear hfz23_1
                try clear hfz23_2
                try clear hfz23_3
                try clear hfz23_4
                try clear hfz24_0
                try clear hfz24_1
                try clear hfz24_2
                try clear hfz24_3
                try clear hfz24_4
                try clear hfz27_0
                try clear hfz27_1
                try clear hfz27_2
                try clear hfz27_3
                try clear hfz27_4
                try clear hfz36_0
                try clear hfz36_1
                try clear hfz36_2
                try clear hfz36_3
                try clear hfz36_4
                try clear hx153_0
                try clear hx153_1
                try clear hx154_0
                try clear hx154_1
                try clear p153
                try clear p154
                try clear p2
                try clear q153
                try clear q154
                obtain ⟨x65_3, rfl, HA, HK3, BK151, BK152, HB⟩ := hrel
                cases gk with
                | zero => exact absurd HA.out (by simp [spec_SameTree.l1])
                | succ k3 =>
                  have H := HA.out
                  clear HA
                  simp only [spec_SameTree.l1] at H
                  by_cases c37 : x65_3 < (l0_4.length : Int)
                  · rw [if_pos c37] at H
                    have c37b0 : decide (x65_3 < (l0_4.length : Int)) = true := decide_eq_true c37
                    clear c37
                    by_cases c38 : 0 ≤ x65_3
                    · rw [if_pos c38] at H
                      have c38b0 : decide (0 ≤ x65_3) = true := decide_eq_true c38
                      clear c38
                      by_cases c39 : x65_3 < (l0_4.length : Int)
                      · rw [if_pos c39] at H
                        have c39b0 : decide (x65_3 < (l0_4.length : Int)) = true := decide_eq_true c39
                        clear c39
                        by_cases c40 : x65_3 < (l1_4.length : Int)
                        · rw [if_pos c40] at H
                          have c40b0 : decide (x65_3 < (l1_4.length : Int)) = true := decide_eq_true c40
                          clear c40
                          replace H := Option.bind_eq_some_iff.mp H
                          obtain ⟨t157, A410, H⟩ := H
                          replace H : (if t157 = true then (spec_SameTree.l1 k3 (l0_4.length : Int) (wrap64 (x65_3 + 1)) a0_0 a0_1 a0_2 l0_3 l0_4 a1_0 a1_1 a1_2 l1_3 l1_4) else (some false)) = some r := H
                          have A41 := Aside0.mk A410
                          clear A410
                          by_cases c42 : t157 = true
                          · subst c42
                            have H1 : (spec_SameTree.l1 k3 (l0_4.length : Int) (wrap64 (x65_3 + 1)) a0_0 a0_1 a0_2 l0_3 l0_4 a1_0 a1_1 a1_2 l1_3 l1_4) = some r := by rw [if_pos rfl] at H; exact H
                            clear H
                            have H := H1
                            clear H1
                            have H' := Aside0.mk H
                            clear H
                            try go_wp2
                            have n0_ := Aside0.mk (blk_drew BK151.out)
                            have n1_ := Aside0.mk (blk_drew BK152.out)
                            have n2_ := Aside0.mk (below_drew1 HB.out)
                            clear BK151
                            clear BK152
                            clear HB
                            have BK151 := n0_
                            have BK152 := n1_
                            have HB := n2_
                            clear n0_ n1_ n2_
                            have p155 : 0 ≤ (x65_3 : Int) := of_decide_eq_true (by first | (with_reducible assumption) | assumption)
                            have q155 : x65_3 < (l0_4.length : Int) := of_decide_eq_true (by first | (with_reducible assumption) | assumption)
                            obtain ⟨ad155, A155_3, c155_3, A155_4, c155_4, e155, hx155_0, hx155_1, hx155_2, hx155_3, hx155_4, hl155_3, hi155_3, hl155_4, hi155_4⟩ := at_T25 HR0_4.out x65_3 p155 q155
                            have hw155_4 := hx155_4
                            have hw155_3 := hx155_3
                            have hw155_2 := hx155_2
                            have hw155_1 := hx155_1
                            have hw155_0 := hx155_0
                            cases e155
                            replace hx155_0 := (HB.out.cell (World.block_lt_of_cell? w _ hx155_0)).trans hx155_0
                            replace hx155_1 := (HB.out.cell (World.block_lt_of_cell? w _ hx155_1)).trans hx155_1
                            replace hx155_2 := (HB.out.cell (World.block_lt_of_cell? w _ hx155_2)).trans hx155_2
                            replace hx155_3 := (HB.out.cell (World.block_lt_of_cell? w _ hx155_3)).trans hx155_3
                            replace hx155_4 := (HB.out.cell (World.block_lt_of_cell? w _ hx155_4)).trans hx155_4
                            have HR155_3 := Aside0.mk hi155_3
                            have HC155_3 := Aside0.mk hl155_3
                            clear hi155_3 hl155_3
                            have HR155_4 := Aside0.mk hi155_4
                            have HC155_4 := Aside0.mk hl155_4
                            clear hi155_4 hl155_4
                            replace p155 := eq_true p155
                            replace q155 := eq_true q155
                            have p156 : 0 ≤ (x65_3 : Int) := of_decide_eq_true (by first | (with_reducible assumption) | assumption)
                            have q156 : x65_3 < (l1_4.length : Int) := of_decide_eq_true (by first | (with_reducible assumption) | assumption)
                            obtain ⟨ad156, A156_3, c156_3, A156_4, c156_4, e156, hx156_0, hx156_1, hx156_2, hx156_3, hx156_4, hl156_3, hi156_3, hl156_4, hi156_4⟩ := at_T25 HR1_4.out x65_3 p156 q156
                            have hw156_4 := hx156_4
                            have hw156_3 := hx156_3
                            have hw156_2 := hx156_2
                            have hw156_1 := hx156_1
                            have hw156_0 := hx156_0
                            cases e156
                            replace hx156_0 := (HB.out.cell (World.block_lt_of_cell? w _ hx156_0)).trans hx156_0
                            replace hx156_1 := (HB.out.cell (World.block_lt_of_cell? w _ hx156_1)).trans hx156_1
                            replace hx156_2 := (HB.out.cell (World.block_lt_of_cell? w _ hx156_2)).trans hx156_2
                            replace hx156_3 := (HB.out.cell (World.block_lt_of_cell? w _ hx156_3)).trans hx156_3
                            replace hx156_4 := (HB.out.cell (World.block_lt_of_cell? w _ hx156_4)).trans hx156_4
                            have HR156_3 := Aside0.mk hi156_3
                            have HC156_3 := Aside0.mk hl156_3
                            clear hi156_3 hl156_3
                            have HR156_4 := Aside0.mk hi156_4
                            have HC156_4 := Aside0.mk hl156_4
                            clear hi156_4 hl156_4
                            replace p156 := eq_true p156
                            replace q156 := eq_true q156
                            refine start_ (n := 12) (S := fun w' => w'.cell? ⟨gb151, 0, none⟩ = some (.int .i64 a0_0) ∧ w'.cell? ⟨gb151, 1, none⟩ = some (.string a0_1) ∧ w'.cell? ⟨gb151, 2, none⟩ = some (.string a0_2) ∧ w'.cell? ⟨gb151, 3, none⟩ = some (.slice A0_3 l0_3.length c0_3) ∧ w'.cell? ⟨gb151, 4, none⟩ = some (.slice (some ad155) l0_4.length c0_4) ∧ w'.cell? ⟨gb152, 0, none⟩ = some (.int .i64 a1_0) ∧ w'.cell? ⟨gb152, 1, none⟩ = some (.string a1_1) ∧ w'.cell? ⟨gb152, 2, none⟩ = some (.string a1_2) ∧ w'.cell? ⟨gb152, 3, none⟩ = some (.slice A1_3 l1_3.length c1_3) ∧ w'.cell? ⟨gb152, 4, none⟩ = some (.slice (some ad156) l1_4.length c1_4) ∧ w'.cell? (ad155.add ((x65_3).toNat * 5)) = some (.int .i64 ((rd_T25 l0_4 x65_3).f0)) ∧ w'.cell? ⟨(ad155.add ((x65_3).toNat * 5)).block, (ad155.add ((x65_3).toNat * 5)).off + 1, none⟩ = some (.string ((rd_T25 l0_4 x65_3).f1)) ∧ w'.cell? ⟨(ad155.add ((x65_3).toNat * 5)).block, (ad155.add ((x65_3).toNat * 5)).off + 2, none⟩ = some (.string ((rd_T25 l0_4 x65_3).f2)) ∧ w'.cell? ⟨(ad155.add ((x65_3).toNat * 5)).block, (ad155.add ((x65_3).toNat * 5)).off + 3, none⟩ = some (.slice A155_3 ((rd_T25 l0_4 x65_3).f3).length c155_3) ∧ w'.cell? ⟨(ad155.add ((x65_3).toNat * 5)).block, (ad155.add ((x65_3).toNat * 5)).off + 4, none⟩ = some (.slice A155_4 ((rd_T25 l0_4 x65_3).f4).length c155_4) ∧ w'.cell? (ad156.add ((x65_3).toNat * 5)) = some (.int .i64 ((rd_T25 l1_4 x65_3).f0)) ∧ w'.cell? ⟨(ad156.add ((x65_3).toNat * 5)).block, (ad156.add ((x65_3).toNat * 5)).off + 1, none⟩ = some (.string ((rd_T25 l1_4 x65_3).f1)) ∧ w'.cell? ⟨(ad156.add ((x65_3).toNat * 5)).block, (ad156.add ((x65_3).toNat * 5)).off + 2, none⟩ = some (.string ((rd_T25 l1_4 x65_3).f2)) ∧ w'.cell? ⟨(ad156.add ((x65_3).toNat * 5)).block, (ad156.add ((x65_3).toNat * 5)).off + 3, none⟩ = some (.slice A156_3 ((rd_T25 l1_4 x65_3).f3).length c156_3) ∧ w'.cell? ⟨(ad156.add ((x65_3).toNat * 5)).block, (ad156.add ((x65_3).toNat * 5)).off + 4, none⟩ = some (.slice A156_4 ((rd_T25 l1_4 x65_3).f4).length c156_4)) (ds := []) #[false, false, false, false, false, false, false, false, false, false, false, false] (by kernel_rfl) rfl rfl ⟨(blk_cell BK151.out 0).trans rfl, (blk_cell BK151.out 1).trans rfl, (blk_cell BK151.out 2).trans rfl, (blk_cell BK151.out 3).trans rfl, (blk_cell BK151.out 4).trans rfl, (blk_cell BK152.out 0).trans rfl, (blk_cell BK152.out 1).trans rfl, (blk_cell BK152.out 2).trans rfl, (blk_cell BK152.out 3).trans rfl, (blk_cell BK152.out 4).trans rfl, ((HB.out.cell (World.block_lt_of_cell? w _ hw155_0)).trans hw155_0), ((HB.out.cell (World.block_lt_of_cell? w _ hw155_1)).trans hw155_1), ((HB.out.cell (World.block_lt_of_cell? w _ hw155_2)).trans hw155_2), ((HB.out.cell (World.block_lt_of_cell? w _ hw155_3)).trans hw155_3), ((HB.out.cell (World.block_lt_of_cell? w _ hw155_4)).trans hw155_4), ((HB.out.cell (World.block_lt_of_cell? w _ hw156_0)).trans hw156_0), ((HB.out.cell (World.block_lt_of_cell? w _ hw156_1)).trans hw156_1), ((HB.out.cell (World.block_lt_of_cell? w _ hw156_2)).trans hw156_2), ((HB.out.cell (World.block_lt_of_cell? w _ hw156_3)).trans hw156_3), ((HB.out.cell (World.block_lt_of_cell? w _ hw156_4)).trans hw156_4)⟩ (fun hHeld => ?_); refine with_tabW spec_SameTree.tab12 spec_SameTree.bits12 (fun HT_ HW_ => ?_)
                            generalize wr.drew = w43 at BK151 BK152 HB HR155_3 HR155_4 HR156_3 HR156_4 hx155_0 hx155_1 hx155_2 hx155_3 hx155_4 hx156_0 hx156_1 hx156_2 hx156_3 hx156_4 hHeld ⊢
                            refine pure_ (i := 0) (N := some 68) (v := ?_) (a' := ?_) #[true, false, false, false, false, false, false, false, false, false, false, false] rfl rfl (any_of HT_.out (by kernel_rfl)) (fun _ _ _ h => h) (Or.inl ⟨by rfl, ?_⟩) ?_ ?_
                            rotate_left
                            · intro w'
                              go_simp
                              with_reducible rfl
                            rotate_left
                            · simp only [Act.put, List.setIfInBounds_toArray, List.set_cons_zero, List.set_cons_succ, i64_w, i32_w]
                              rfl
                            refine pure_ (i := 2) (N := some 70) (v := ?_) (a' := ?_) #[true, false, true, false, false, false, false, false, false, false, false, false] rfl rfl (any_of HT_.out (by kernel_rfl)) (fun _ _ _ h => h) (Or.inl ⟨by rfl, ?_⟩) ?_ ?_
                            rotate_left
                            · intro w'
                              go_simp
                              with_reducible rfl
                            rotate_left
                            · simp only [Act.put, List.setIfInBounds_toArray, List.set_cons_zero, List.set_cons_succ, i64_w, i32_w]
                              rfl
                            refine pure_ (i := 5) (N := some 73) (v := ?_) (a' := ?_) #[true, false, true, false, false, true, false, false, false, false, false, false] rfl rfl (any_of HT_.out (by kernel_rfl)) (fun _ _ _ h => h) (Or.inl ⟨by rfl, ?_⟩) ?_ ?_
                            rotate_left
                            · intro w'
                              go_simp
                              with_reducible rfl
                            rotate_left
                            · simp only [Act.put, List.setIfInBounds_toArray, List.set_cons_zero, List.set_cons_succ, i64_w, i32_w]
                              rfl
                            refine pure_ (i := 7) (N := some 75) (v := ?_) (a' := ?_) #[true, false, true, false, false, true, false, true, false, false, false, false] rfl rfl (any_of HT_.out (by kernel_rfl)) (fun _ _ _ h => h) (Or.inl ⟨by rfl, ?_⟩) ?_ ?_
                            rotate_left
                            · intro w'
                              go_simp
                              with_reducible rfl
                            rotate_left
                            · simp only [Act.put, List.setIfInBounds_toArray, List.set_cons_zero, List.set_cons_succ, i64_w, i32_w]
                              rfl
                            refine take_ (i := 1) (N := some 69) (v := ?_) (a' := ?_) #[true, true, true, false, false, true, false, true, false, false, false, false] rfl rfl (take_ofW HT_.out HW_.out (by kernel_rfl)) (fun _ _ _ h => h) (Or.inl ⟨by rfl, ?_⟩) hHeld ?_ ?_
                            rotate_left
                            · rintro w' ⟨s0, s1, s2, s3, s4, s5, s6, s7, s8, s9, s10, s11, s12, s13, s14, s15, s16, s17, s18, s19⟩
                              go_simp
                              with_reducible rfl
                            rotate_left
                            · simp only [Act.put, List.setIfInBounds_toArray, List.set_cons_zero, List.set_cons_succ, i64_w, i32_w]
                              rfl
                            refine pure_ (i := 3) (N := some 71) (v := ?_) (a' := ?_) #[true, true, true, true, false, true, false, true, false, false, false, false] rfl rfl (any_of HT_.out (by kernel_rfl)) (fun _ _ _ h => h) (Or.inl ⟨by rfl, ?_⟩) ?_ ?_
                            rotate_left
                            · intro w'
                              go_simp
                              with_reducible rfl
                            rotate_left
                            · simp only [Act.put, List.setIfInBounds_toArray, List.set_cons_zero, List.set_cons_succ, i64_w, i32_w]
                              rfl
                            refine take_ (i := 4) (N := some 72) (v := ?_) (a' := ?_) #[true, true, true, true, true, true, false, true, false, false, false, false] rfl rfl (take_ofW HT_.out HW_.out (by kernel_rfl)) (fun _ _ _ h => h) (Or.inl ⟨by rfl, ?_⟩) hHeld ?_ ?_
                            rotate_left
                            · rintro w' ⟨s0, s1, s2, s3, s4, s5, s6, s7, s8, s9, s10, s11, s12, s13, s14, s15, s16, s17, s18, s19⟩
                              go_simp
                              with_reducible rfl
                            rotate_left
                            · simp only [Act.put, List.setIfInBounds_toArray, List.set_cons_zero, List.set_cons_succ, i64_w, i32_w]
                              rfl
                            refine take_ (i := 6) (N := some 74) (v := ?_) (a' := ?_) #[true, true, true, true, true, true, true, true, false, false, false, false] rfl rfl (take_ofW HT_.out HW_.out (by kernel_rfl)) (fun _ _ _ h => h) (Or.inl ⟨by rfl, ?_⟩) hHeld ?_ ?_
                            rotate_left
                            · rintro w' ⟨s0, s1, s2, s3, s4, s5, s6, s7, s8, s9, s10, s11, s12, s13, s14, s15, s16, s17, s18, s19⟩
                              go_simp
                              with_reducible rfl
                            rotate_left
                            · simp only [Act.put, List.setIfInBounds_toArray, List.set_cons_zero, List.set_cons_succ, i64_w, i32_w]
                              rfl
                            refine pure_ (i := 8) (N := some 76) (v := ?_) (a' := ?_) #[true, true, true, true, true, true, true, true, true, false, false, false] rfl rfl (any_of HT_.out (by kernel_rfl)) (fun _ _ _ h => h) (Or.inl ⟨by rfl, ?_⟩) ?_ ?_
                            rotate_left
                            · intro w'
                              go_simp
                              with_reducible rfl
                            rotate_left
                            · simp only [Act.put, List.setIfInBounds_toArray, List.set_cons_zero, List.set_cons_succ, i64_w, i32_w]
                              rfl
                            refine take_ (i := 9) (N := some 77) (v := ?_) (a' := ?_) #[true, true, true, true, true, true, true, true, true, true, false, false] rfl rfl (take_ofW HT_.out HW_.out (by kernel_rfl)) (fun _ _ _ h => h) (Or.inl ⟨by rfl, ?_⟩) hHeld ?_ ?_
                            rotate_left
                            · rintro w' ⟨s0, s1, s2, s3, s4, s5, s6, s7, s8, s9, s10, s11, s12, s13, s14, s15, s16, s17, s18, s19⟩
                              go_simp
                              with_reducible rfl
                            rotate_left
                            · simp only [Act.put, List.setIfInBounds_toArray, List.set_cons_zero, List.set_cons_succ, i64_w, i32_w]
                              rfl
                            refine one_ (i := 10) (N := some 78) #[true, true, true, true, true, true, true, true, true, true, true, false] rfl rfl (one_of HT_.out (by kernel_rfl)) (by decide) (fun K hK => ?_)
                            refine goes_ Try.func14 (by kernel_rfl) rfl #[.agg #[.int .i64 ((rd_T25 l0_4 x65_3).f0), .string ((rd_T25 l0_4 x65_3).f1), .string ((rd_T25 l0_4 x65_3).f2), .slice A155_3 ((rd_T25 l0_4 x65_3).f3).length c155_3, .slice A155_4 ((rd_T25 l0_4 x65_3).f4).length c155_4], .agg #[.int .i64 ((rd_T25 l1_4 x65_3).f0), .string ((rd_T25 l1_4 x65_3).f1), .string ((rd_T25 l1_4 x65_3).f2), .slice A156_3 ((rd_T25 l1_4 x65_3).f3).length c156_3, .slice A156_4 ((rd_T25 l1_4 x65_3).f4).length c156_4]] (by rfl) rfl rfl (by (try simp only [List.map_toArray, List.map_cons, List.map_nil]); first | done | rfl | (simp only [List.length_drop, List.length_take]; rfl)) ?_
                            with_reducible refine (ih k3 (by have := HJ2.out; have := HK2.out; have := HK3.out; omega) ((rd_T25 l0_4 x65_3).f0) ((rd_T25 l0_4 x65_3).f1) ((rd_T25 l0_4 x65_3).f2) _ _ ((rd_T25 l0_4 x65_3).f3) _ _ ((rd_T25 l0_4 x65_3).f4) ((rd_T25 l1_4 x65_3).f0) ((rd_T25 l1_4 x65_3).f1) ((rd_T25 l1_4 x65_3).f2) _ _ ((rd_T25 l1_4 x65_3).f3) _ _ ((rd_T25 l1_4 x65_3).f4) true _ ?side1 ?side2 ?side3 ?side4 ?side5 ?side6 ?side7 ?side8 A41.out).mono ?_
                            (case side1 => repeat (first | exact (Kd.C_below HR155_3.out HB.out) | (with_reducible refine Kd.C_alloc ?_ _) | (with_reducible refine Kd.C_drewN ?_ _) | (with_reducible refine Kd.C_drew ?_)))
                            (case side2 => exact HC155_3.out)
                            (case side3 => repeat (first | exact (Kd.C_below HR155_4.out HB.out) | (with_reducible refine Kd.C_alloc ?_ _) | (with_reducible refine Kd.C_drewN ?_ _) | (with_reducible refine Kd.C_drew ?_)))
                            (case side4 => exact HC155_4.out)
                            (case side5 => repeat (first | exact (Kd.C_below HR156_3.out HB.out) | (with_reducible refine Kd.C_alloc ?_ _) | (with_reducible refine Kd.C_drewN ?_ _) | (with_reducible refine Kd.C_drew ?_)))
                            (case side6 => exact HC156_3.out)
                            (case side7 => repeat (first | exact (Kd.C_below HR156_4.out HB.out) | (with_reducible refine Kd.C_alloc ?_ _) | (with_reducible refine Kd.C_drewN ?_ _) | (with_reducible refine Kd.C_drew ?_)))
                            (case side8 => exact HC156_4.out)
                            rintro e w44 ⟨rfl, hb⟩
                            refine ⟨_, rfl, ?_⟩
                            have n0_ := Aside0.mk (blk_below (g := gb151) (o := .cells #[.int .i64 a0_0, .string a0_1, .string a0_2, .slice A0_3 l0_3.length c0_3, .slice (some ad155) l0_4.length c0_4] 25 (0, 0)) (by (with_reducible repeat (first | refine blk_drewN ?_ _ | refine blk_drew ?_ | refine blk_alloc ?_ _)); exact BK151.out) hb)
                            have n1_ := Aside0.mk (blk_below (g := gb152) (o := .cells #[.int .i64 a1_0, .string a1_1, .string a1_2, .slice A1_3 l1_3.length c1_3, .slice (some ad156) l1_4.length c1_4] 25 (0, 0)) (by (with_reducible repeat (first | refine blk_drewN ?_ _ | refine blk_drew ?_ | refine blk_alloc ?_ _)); exact BK152.out) hb)
                            have n2_ := Aside0.mk (below_step (by repeat (first | (with_reducible first | exact HB.out | apply below_alloc | apply pw_below_drewN | apply below_drew1 | refine below_set ?_ GE151.out | refine below_set ?_ GE152.out) | exact HB.out)) hb)
                            clear BK151
                            clear BK152
                            clear HB
                            have BK151 := n0_
                            have BK152 := n1_
                            have HB := n2_
                            clear n0_ n1_ n2_
                            (try clear hb)
                            (try clear hb2)
                            (try clear hk)
                            (try clear hi)
                            refine hK.out _ _ ⟨(blk_cell BK151.out 0).trans rfl, (blk_cell BK151.out 1).trans rfl, (blk_cell BK151.out 2).trans rfl, (blk_cell BK151.out 3).trans rfl, (blk_cell BK151.out 4).trans rfl, (blk_cell BK152.out 0).trans rfl, (blk_cell BK152.out 1).trans rfl, (blk_cell BK152.out 2).trans rfl, (blk_cell BK152.out 3).trans rfl, (blk_cell BK152.out 4).trans rfl, ((HB.out.cell (World.block_lt_of_cell? w _ hw155_0)).trans hw155_0), ((HB.out.cell (World.block_lt_of_cell? w _ hw155_1)).trans hw155_1), ((HB.out.cell (World.block_lt_of_cell? w _ hw155_2)).trans hw155_2), ((HB.out.cell (World.block_lt_of_cell? w _ hw155_3)).trans hw155_3), ((HB.out.cell (World.block_lt_of_cell? w _ hw155_4)).trans hw155_4), ((HB.out.cell (World.block_lt_of_cell? w _ hw156_0)).trans hw156_0), ((HB.out.cell (World.block_lt_of_cell? w _ hw156_1)).trans hw156_1), ((HB.out.cell (World.block_lt_of_cell? w _ hw156_2)).trans hw156_2), ((HB.out.cell (World.block_lt_of_cell? w _ hw156_3)).trans hw156_3), ((HB.out.cell (World.block_lt_of_cell? w _ hw156_4)).trans hw156_4)⟩ (fun hHeld => ?_)
                            clear hK K
                            refine norm_ (a' := ?_) ?_ ?_
                            rotate_left
                            · show Act.put _ (some 78) _ = _
                              simp only [Act.put, List.setIfInBounds_toArray, List.set_cons_zero, List.set_cons_succ, i64_w, i32_w]
                              rfl
                            refine pure_ (i := 11) (N := some 79) (v := ?_) (a' := ?_) #[true, true, true, true, true, true, true, true, true, true, true, true] rfl rfl (any_of HT_.out (by kernel_rfl)) (fun _ _ _ h => h) (Or.inl ⟨by rfl, ?_⟩) ?_ ?_
                            rotate_left
                            · intro w'
                              go_simp
                              with_reducible rfl
                            rotate_left
                            · simp only [Act.put, List.setIfInBounds_toArray, List.set_cons_zero, List.set_cons_succ, i64_w, i32_w]
                              rfl
                            refine done_ (done_of HT_.out (by kernel_rfl)) ?_
                            try go_wp2
                            go_roundg k3
                            case measure => have := HJ2.out; have := HK2.out; have := HK3.out; omega
                            case rel => exact ⟨(wrap64 (x65_3 + 1)), (by first | rfl | (simp; done) | (simp [*]; done)), H', ⟨by have := HJ2.out; have := HK2.out; have := HK3.out; omega⟩, ⟨by (with_reducible repeat (first | refine blk_drewN ?_ _ | refine blk_drew ?_ | refine blk_alloc ?_ _)); exact BK151.out⟩, ⟨by (with_reducible repeat (first | refine blk_drewN ?_ _ | refine blk_drew ?_ | refine blk_alloc ?_ _)); exact BK152.out⟩, ⟨by repeat (first | (with_reducible first | exact HB.out | apply below_alloc | apply pw_below_drewN | apply below_drew1 | refine below_set ?_ GE151.out | refine below_set ?_ GE152.out) | exact HB.out)⟩⟩
                          · replace c42 := Bool.eq_false_iff.mpr c42
                            subst c42
                            have H1 : (some false) = some r := by rw [if_neg (show ¬ (false = true) by decide)] at H; exact H
                            clear H
                            have H := H1
                            clear H1
                            obtain rfl := Option.some.inj H
                            try go_wp2
                            have n0_ := Aside0.mk (blk_drew BK151.out)
                            have n1_ := Aside0.mk (blk_drew BK152.out)
                            have n2_ := Aside0.mk (below_drew1 HB.out)
                            clear BK151
                            clear BK152
                            clear HB
                            have BK151 := n0_
                            have BK152 := n1_
                            have HB := n2_
                            clear n0_ n1_ n2_
                            have p155 : 0 ≤ (x65_3 : Int) := of_decide_eq_true (by first | (with_reducible assumption) | assumption)
                            have q155 : x65_3 < (l0_4.length : Int) := of_decide_eq_true (by first | (with_reducible assumption) | assumption)
                            obtain ⟨ad155, A155_3, c155_3, A155_4, c155_4, e155, hx155_0, hx155_1, hx155_2, hx155_3, hx155_4, hl155_3, hi155_3, hl155_4, hi155_4⟩ := at_T25 HR0_4.out x65_3 p155 q155
                            have hw155_4 := hx155_4
                            have hw155_3 := hx155_3
                            have hw155_2 := hx155_2
                            have hw155_1 := hx155_1
                            have hw155_0 := hx155_0
                            cases e155
                            replace hx155_0 := (HB.out.cell (World.block_lt_of_cell? w _ hx155_0)).trans hx155_0
                            replace hx155_1 := (HB.out.cell (World.block_lt_of_cell? w _ hx155_1)).trans hx155_1
                            replace hx155_2 := (HB.out.cell (World.block_lt_of_cell? w _ hx155_2)).trans hx155_2
                            replace hx155_3 := (HB.out.cell (World.block_lt_of_cell? w _ hx155_3)).trans hx155_3
                            replace hx155_4 := (HB.out.cell (World.block_lt_of_cell? w _ hx155_4)).trans hx155_4
                            have HR155_3 := Aside0.mk hi155_3
                            have HC155_3 := Aside0.mk hl155_3
                            clear hi155_3 hl155_3
                            have HR155_4 := Aside0.mk hi155_4
                            have HC155_4 := Aside0.mk hl155_4
                            clear hi155_4 hl155_4
                            replace p155 := eq_true p155
                            replace q155 := eq_true q155
                            have p156 : 0 ≤ (x65_3 : Int) := of_decide_eq_true (by first | (with_reducible assumption) | assumption)
                            have q156 : x65_3 < (l1_4.length : Int) := of_decide_eq_true (by first | (with_reducible assumption) | assumption)
                            obtain ⟨ad156, A156_3, c156_3, A156_4, c156_4, e156, hx156_0, hx156_1, hx156_2, hx156_3, hx156_4, hl156_3, hi156_3, hl156_4, hi156_4⟩ := at_T25 HR1_4.out x65_3 p156 q156
                            have hw156_4 := hx156_4
                            have hw156_3 := hx156_3
                            have hw156_2 := hx156_2
                            have hw156_1 := hx156_1
                            have hw156_0 := hx156_0
                            cases e156
                            replace hx156_0 := (HB.out.cell (World.block_lt_of_cell? w _ hx156_0)).trans hx156_0
                            replace hx156_1 := (HB.out.cell (World.block_lt_of_cell? w _ hx156_1)).trans hx156_1
                            replace hx156_2 := (HB.out.cell (World.block_lt_of_cell? w _ hx156_2)).trans hx156_2
                            replace hx156_3 := (HB.out.cell (World.block_lt_of_cell? w _ hx156_3)).trans hx156_3
                            replace hx156_4 := (HB.out.cell (World.block_lt_of_cell? w _ hx156_4)).trans hx156_4
                            have HR156_3 := Aside0.mk hi156_3
                            have HC156_3 := Aside0.mk hl156_3
                            clear hi156_3 hl156_3
                            have HR156_4 := Aside0.mk hi156_4
                            have HC156_4 := Aside0.mk hl156_4
                            clear hi156_4 hl156_4
                            replace p156 := eq_true p156
                            replace q156 := eq_true q156
                            refine start_ (n := 12) (S := fun w' => w'.cell? ⟨gb151, 0, none⟩ = some (.int .i64 a0_0) ∧ w'.cell? ⟨gb151, 1, none⟩ = some (.string a0_1) ∧ w'.cell? ⟨gb151, 2, none⟩ = some (.string a0_2) ∧ w'.cell? ⟨gb151, 3, none⟩ = some (.slice A0_3 l0_3.length c0_3) ∧ w'.cell? ⟨gb151, 4, none⟩ = some (.slice (some ad155) l0_4.length c0_4) ∧ w'.cell? ⟨gb152, 0, none⟩ = some (.int .i64 a1_0) ∧ w'.cell? ⟨gb152, 1, none⟩ = some (.string a1_1) ∧ w'.cell? ⟨gb152, 2, none⟩ = some (.string a1_2) ∧ w'.cell? ⟨gb152, 3, none⟩ = some (.slice A1_3 l1_3.length c1_3) ∧ w'.cell? ⟨gb152, 4, none⟩ = some (.slice (some ad156) l1_4.length c1_4) ∧ w'.cell? (ad155.add ((x65_3).toNat * 5)) = some (.int .i64 ((rd_T25 l0_4 x65_3).f0)) ∧ w'.cell? ⟨(ad155.add ((x65_3).toNat * 5)).block, (ad155.add ((x65_3).toNat * 5)).off + 1, none⟩ = some (.string ((rd_T25 l0_4 x65_3).f1)) ∧ w'.cell? ⟨(ad155.add ((x65_3).toNat * 5)).block, (ad155.add ((x65_3).toNat * 5)).off + 2, none⟩ = some (.string ((rd_T25 l0_4 x65_3).f2)) ∧ w'.cell? ⟨(ad155.add ((x65_3).toNat * 5)).block, (ad155.add ((x65_3).toNat * 5)).off + 3, none⟩ = some (.slice A155_3 ((rd_T25 l0_4 x65_3).f3).length c155_3) ∧ w'.cell? ⟨(ad155.add ((x65_3).toNat * 5)).block, (ad155.add ((x65_3).toNat * 5)).off + 4, none⟩ = some (.slice A155_4 ((rd_T25 l0_4 x65_3).f4).length c155_4) ∧ w'.cell? (ad156.add ((x65_3).toNat * 5)) = some (.int .i64 ((rd_T25 l1_4 x65_3).f0)) ∧ w'.cell? ⟨(ad156.add ((x65_3).toNat * 5)).block, (ad156.add ((x65_3).toNat * 5)).off + 1, none⟩ = some (.string ((rd_T25 l1_4 x65_3).f1)) ∧ w'.cell? ⟨(ad156.add ((x65_3).toNat * 5)).block, (ad156.add ((x65_3).toNat * 5)).off + 2, none⟩ = some (.string ((rd_T25 l1_4 x65_3).f2)) ∧ w'.cell? ⟨(ad156.add ((x65_3).toNat * 5)).block, (ad156.add ((x65_3).toNat * 5)).off + 3, none⟩ = some (.slice A156_3 ((rd_T25 l1_4 x65_3).f3).length c156_3) ∧ w'.cell? ⟨(ad156.add ((x65_3).toNat * 5)).block, (ad156.add ((x65_3).toNat * 5)).off + 4, none⟩ = some (.slice A156_4 ((rd_T25 l1_4 x65_3).f4).length c156_4)) (ds := []) #[false, false, false, false, false, false, false, false, false, false, false, false] (by kernel_rfl) rfl rfl ⟨(blk_cell BK151.out 0).trans rfl, (blk_cell BK151.out 1).trans rfl, (blk_cell BK151.out 2).trans rfl, (blk_cell BK151.out 3).trans rfl, (blk_cell BK151.out 4).trans rfl, (blk_cell BK152.out 0).trans rfl, (blk_cell BK152.out 1).trans rfl, (blk_cell BK152.out 2).trans rfl, (blk_cell BK152.out 3).trans rfl, (blk_cell BK152.out 4).trans rfl, ((HB.out.cell (World.block_lt_of_cell? w _ hw155_0)).trans hw155_0), ((HB.out.cell (World.block_lt_of_cell? w _ hw155_1)).trans hw155_1), ((HB.out.cell (World.block_lt_of_cell? w _ hw155_2)).trans hw155_2), ((HB.out.cell (World.block_lt_of_cell? w _ hw155_3)).trans hw155_3), ((HB.out.cell (World.block_lt_of_cell? w _ hw155_4)).trans hw155_4), ((HB.out.cell (World.block_lt_of_cell? w _ hw156_0)).trans hw156_0), ((HB.out.cell (World.block_lt_of_cell? w _ hw156_1)).trans hw156_1), ((HB.out.cell (World.block_lt_of_cell? w _ hw156_2)).trans hw156_2), ((HB.out.cell (World.block_lt_of_cell? w _ hw156_3)).trans hw156_3), ((HB.out.cell (World.block_lt_of_cell? w _ hw156_4)).trans hw156_4)⟩ (fun hHeld => ?_); refine with_tabW spec_SameTree.tab12 spec_SameTree.bits12 (fun HT_ HW_ => ?_)
                            generalize wr.drew = w45 at BK151 BK152 HB HR155_3 HR155_4 HR156_3 HR156_4 hx155_0 hx155_1 hx155_2 hx155_3 hx155_4 hx156_0 hx156_1 hx156_2 hx156_3 hx156_4 hHeld ⊢
                            refine pure_ (i := 0) (N := some 68) (v := ?_) (a' := ?_) #[true, false, false, false, false, false, false, false, false, false, false, false] rfl rfl (any_of HT_.out (by kernel_rfl)) (fun _ _ _ h => h) (Or.inl ⟨by rfl, ?_⟩) ?_ ?_
                            rotate_left
                            · intro w'
                              go_simp
                              with_reducible rfl
                            rotate_left
                            · simp only [Act.put, List.setIfInBounds_toArray, List.set_cons_zero, List.set_cons_succ, i64_w, i32_w]
                              rfl
                            refine pure_ (i := 2) (N := some 70) (v := ?_) (a' := ?_) #[true, false, true, false, false, false, false, false, false, false, false, false] rfl rfl (any_of HT_.out (by kernel_rfl)) (fun _ _ _ h => h) (Or.inl ⟨by rfl, ?_⟩) ?_ ?_
                            rotate_left
                            · intro w'
                              go_simp
                              with_reducible rfl
                            rotate_left
                            · simp only [Act.put, List.setIfInBounds_toArray, List.set_cons_zero, List.set_cons_succ, i64_w, i32_w]
                              rfl
                            refine pure_ (i := 5) (N := some 73) (v := ?_) (a' := ?_) #[true, false, true, false, false, true, false, false, false, false, false, false] rfl rfl (any_of HT_.out (by kernel_rfl)) (fun _ _ _ h => h) (Or.inl ⟨by rfl, ?_⟩) ?_ ?_
                            rotate_left
                            · intro w'
                              go_simp
                              with_reducible rfl
                            rotate_left
                            · simp only [Act.put, List.setIfInBounds_toArray, List.set_cons_zero, List.set_cons_succ, i64_w, i32_w]
                              rfl
                            refine pure_ (i := 7) (N := some 75) (v := ?_) (a' := ?_) #[true, false, true, false, false, true, false, true, false, false, false, false] rfl rfl (any_of HT_.out (by kernel_rfl)) (fun _ _ _ h => h) (Or.inl ⟨by rfl, ?_⟩) ?_ ?_
                            rotate_left
                            · intro w'
                              go_simp
                              with_reducible rfl
                            rotate_left
                            · simp only [Act.put, List.setIfInBounds_toArray, List.set_cons_zero, List.set_cons_succ, i64_w, i32_w]
                              rfl
                            refine take_ (i := 1) (N := some 69) (v := ?_) (a' := ?_) #[true, true, true, false, false, true, false, true, false, false, false, false] rfl rfl (take_ofW HT_.out HW_.out (by kernel_rfl)) (fun _ _ _ h => h) (Or.inl ⟨by rfl, ?_⟩) hHeld ?_ ?_
                            rotate_left
                            · rintro w' ⟨s0, s1, s2, s3, s4, s5, s6, s7, s8, s9, s10, s11, s12, s13, s14, s15, s16, s17, s18, s19⟩
                              go_simp
                              with_reducible rfl
                            rotate_left
                            · simp only [Act.put, List.setIfInBounds_toArray, List.set_cons_zero, List.set_cons_succ, i64_w, i32_w]
                              rfl
                            refine pure_ (i := 3) (N := some 71) (v := ?_) (a' := ?_) #[true, true, true, true, false, true, false, true, false, false, false, false] rfl rfl (any_of HT_.out (by kernel_rfl)) (fun _ _ _ h => h) (Or.inl ⟨by rfl, ?_⟩) ?_ ?_
                            rotate_left
                            · intro w'
                              go_simp
                              with_reducible rfl
                            rotate_left
                            · simp only [Act.put, List.setIfInBounds_toArray, List.set_cons_zero, List.set_cons_succ, i64_w, i32_w]
                              rfl
                            refine take_ (i := 4) (N := some 72) (v := ?_) (a' := ?_) #[true, true, true, true, true, true, false, true, false, false, false, false] rfl rfl (take_ofW HT_.out HW_.out (by kernel_rfl)) (fun _ _ _ h => h) (Or.inl ⟨by rfl, ?_⟩) hHeld ?_ ?_
                            rotate_left
                            · rintro w' ⟨s0, s1, s2, s3, s4, s5, s6, s7, s8, s9, s10, s11, s12, s13, s14, s15, s16, s17, s18, s19⟩
                              go_simp
                              with_reducible rfl
                            rotate_left
                            · simp only [Act.put, List.setIfInBounds_toArray, List.set_cons_zero, List.set_cons_succ, i64_w, i32_w]
                              rfl
                            refine take_ (i := 6) (N := some 74) (v := ?_) (a' := ?_) #[true, true, true, true, true, true, true, true, false, false, false, false] rfl rfl (take_ofW HT_.out HW_.out (by kernel_rfl)) (fun _ _ _ h => h) (Or.inl ⟨by rfl, ?_⟩) hHeld ?_ ?_
                            rotate_left
                            · rintro w' ⟨s0, s1, s2, s3, s4, s5, s6, s7, s8, s9, s10, s11, s12, s13, s14, s15, s16, s17, s18, s19⟩
                              go_simp
                              with_reducible rfl
                            rotate_left
                            · simp only [Act.put, List.setIfInBounds_toArray, List.set_cons_zero, List.set_cons_succ, i64_w, i32_w]
                              rfl
                            refine pure_ (i := 8) (N := some 76) (v := ?_) (a' := ?_) #[true, true, true, true, true, true, true, true, true, false, false, false] rfl rfl (any_of HT_.out (by kernel_rfl)) (fun _ _ _ h => h) (Or.inl ⟨by rfl, ?_⟩) ?_ ?_
                            rotate_left
                            · intro w'
                              go_simp
                              with_reducible rfl
                            rotate_left
                            · simp only [Act.put, List.setIfInBounds_toArray, List.set_cons_zero, List.set_cons_succ, i64_w, i32_w]
                              rfl
                            refine take_ (i := 9) (N := some 77) (v := ?_) (a' := ?_) #[true, true, true, true, true, true, true, true, true, true, false, false] rfl rfl (take_ofW HT_.out HW_.out (by kernel_rfl)) (fun _ _ _ h => h) (Or.inl ⟨by rfl, ?_⟩) hHeld ?_ ?_
                            rotate_left
                            · rintro w' ⟨s0, s1, s2, s3, s4, s5, s6, s7, s8, s9, s10, s11, s12, s13, s14, s15, s16, s17, s18, s19⟩
                              go_simp
                              with_reducible rfl
                            rotate_left
                            · simp only [Act.put, List.setIfInBounds_toArray, List.set_cons_zero, List.set_cons_succ, i64_w, i32_w]
                              rfl
                            refine one_ (i := 10) (N := some 78) #[true, true, true, true, true, true, true, true, true, true, true, false] rfl rfl (one_of HT_.out (by kernel_rfl)) (by decide) (fun K hK => ?_)
                            refine goes_ Try.func14 (by kernel_rfl) rfl #[.agg #[.int .i64 ((rd_T25 l0_4 x65_3).f0), .string ((rd_T25 l0_4 x65_3).f1), .string ((rd_T25 l0_4 x65_3).f2), .slice A155_3 ((rd_T25 l0_4 x65_3).f3).length c155_3, .slice A155_4 ((rd_T25 l0_4 x65_3).f4).length c155_4], .agg #[.int .i64 ((rd_T25 l1_4 x65_3).f0), .string ((rd_T25 l1_4 x65_3).f1), .string ((rd_T25 l1_4 x65_3).f2), .slice A156_3 ((rd_T25 l1_4 x65_3).f3).length c156_3, .slice A156_4 ((rd_T25 l1_4 x65_3).f4).length c156_4]] (by rfl) rfl rfl (by (try simp only [List.map_toArray, List.map_cons, List.map_nil]); first | done | rfl | (simp only [List.length_drop, List.length_take]; rfl)) ?_
                            with_reducible refine (ih k3 (by have := HJ2.out; have := HK2.out; have := HK3.out; omega) ((rd_T25 l0_4 x65_3).f0) ((rd_T25 l0_4 x65_3).f1) ((rd_T25 l0_4 x65_3).f2) _ _ ((rd_T25 l0_4 x65_3).f3) _ _ ((rd_T25 l0_4 x65_3).f4) ((rd_T25 l1_4 x65_3).f0) ((rd_T25 l1_4 x65_3).f1) ((rd_T25 l1_4 x65_3).f2) _ _ ((rd_T25 l1_4 x65_3).f3) _ _ ((rd_T25 l1_4 x65_3).f4) false _ ?side1 ?side2 ?side3 ?side4 ?side5 ?side6 ?side7 ?side8 A41.out).mono ?_
                            (case side1 => repeat (first | exact (Kd.C_below HR155_3.out HB.out) | (with_reducible refine Kd.C_alloc ?_ _) | (with_reducible refine Kd.C_drewN ?_ _) | (with_reducible refine Kd.C_drew ?_)))
                            (case side2 => exact HC155_3.out)
                            (case side3 => repeat (first | exact (Kd.C_below HR155_4.out HB.out) | (with_reducible refine Kd.C_alloc ?_ _) | (with_reducible refine Kd.C_drewN ?_ _) | (with_reducible refine Kd.C_drew ?_)))
                            (case side4 => exact HC155_4.out)
                            (case side5 => repeat (first | exact (Kd.C_below HR156_3.out HB.out) | (with_reducible refine Kd.C_alloc ?_ _) | (with_reducible refine Kd.C_drewN ?_ _) | (with_reducible refine Kd.C_drew ?_)))
                            (case side6 => exact HC156_3.out)
                            (case side7 => repeat (first | exact (Kd.C_below HR156_4.out HB.out) | (with_reducible refine Kd.C_alloc ?_ _) | (with_reducible refine Kd.C_drewN ?_ _) | (with_reducible refine Kd.C_drew ?_)))
                            (case side8 => exact HC156_4.out)
                            rintro e w46 ⟨rfl, hb⟩
                            refine ⟨_, rfl, ?_⟩
                            have n0_ := Aside0.mk (blk_below (g := gb151) (o := .cells #[.int .i64 a0_0, .string a0_1, .string a0_2, .slice A0_3 l0_3.length c0_3, .slice (some ad155) l0_4.length c0_4] 25 (0, 0)) (by (with_reducible repeat (first | refine blk_drewN ?_ _ | refine blk_drew ?_ | refine blk_alloc ?_ _)); exact BK151.out) hb)
                            have n1_ := Aside0.mk (blk_below (g := gb152) (o := .cells #[.int .i64 a1_0, .string a1_1, .string a1_2, .slice A1_3 l1_3.length c1_3, .slice (some ad156) l1_4.length c1_4] 25 (0, 0)) (by (with_reducible repeat (first | refine blk_drewN ?_ _ | refine blk_drew ?_ | refine blk_alloc ?_ _)); exact BK152.out) hb)
                            have n2_ := Aside0.mk (below_step (by repeat (first | (with_reducible first | exact HB.out | apply below_alloc | apply pw_below_drewN | apply below_drew1 | refine below_set ?_ GE151.out | refine below_set ?_ GE152.out) | exact HB.out)) hb)
                            clear BK151
                            clear BK152
                            clear HB
                            have BK151 := n0_
                            have BK152 := n1_
                            have HB := n2_
                            clear n0_ n1_ n2_
                            (try clear hb)
                            (try clear hb2)
                            (try clear hk)
                            (try clear hi)
                            refine hK.out _ _ ⟨(blk_cell BK151.out 0).trans rfl, (blk_cell BK151.out 1).trans rfl, (blk_cell BK151.out 2).trans rfl, (blk_cell BK151.out 3).trans rfl, (blk_cell BK151.out 4).trans rfl, (blk_cell BK152.out 0).trans rfl, (blk_cell BK152.out 1).trans rfl, (blk_cell BK152.out 2).trans rfl, (blk_cell BK152.out 3).trans rfl, (blk_cell BK152.out 4).trans rfl, ((HB.out.cell (World.block_lt_of_cell? w _ hw155_0)).trans hw155_0), ((HB.out.cell (World.block_lt_of_cell? w _ hw155_1)).trans hw155_1), ((HB.out.cell (World.block_lt_of_cell? w _ hw155_2)).trans hw155_2), ((HB.out.cell (World.block_lt_of_cell? w _ hw155_3)).trans hw155_3), ((HB.out.cell (World.block_lt_of_cell? w _ hw155_4)).trans hw155_4), ((HB.out.cell (World.block_lt_of_cell? w _ hw156_0)).trans hw156_0), ((HB.out.cell (World.block_lt_of_cell? w _ hw156_1)).trans hw156_1), ((HB.out.cell (World.block_lt_of_cell? w _ hw156_2)).trans hw156_2), ((HB.out.cell (World.block_lt_of_cell? w _ hw156_3)).trans hw156_3), ((HB.out.cell (World.block_lt_of_cell? w _ hw156_4)).trans hw156_4)⟩ (fun hHeld => ?_)
                            clear hK K
                            refine norm_ (a' := ?_) ?_ ?_
                            rotate_left
                            · show Act.put _ (some 78) _ = _
                              simp only [Act.put, List.setIfInBounds_toArray, List.set_cons_zero, List.set_cons_succ, i64_w, i32_w]
                              rfl
                            refine pure_ (i := 11) (N := some 79) (v := ?_) (a' := ?_) #[true, true, true, true, true, true, true, true, true, true, true, true] rfl rfl (any_of HT_.out (by kernel_rfl)) (fun _ _ _ h => h) (Or.inl ⟨by rfl, ?_⟩) ?_ ?_
                            rotate_left
                            · intro w'
                              go_simp
                              with_reducible rfl
                            rotate_left
                            · simp only [Act.put, List.setIfInBounds_toArray, List.set_cons_zero, List.set_cons_succ, i64_w, i32_w]
                              rfl
                            refine done_ (done_of HT_.out (by kernel_rfl)) ?_
                            try go_wp2
                            go_ret
                            exact ⟨by first | rfl | (simp [errW_none, errW_some] <;> rfl) | (simp [*, errW_none, errW_some] <;> rfl), by repeat (first | (with_reducible first | exact HB.out | apply below_alloc | apply pw_below_drewN | apply below_drew1 | refine below_set ?_ GE151.out | refine below_set ?_ GE152.out) | exact HB.out)⟩
                        · rw [if_neg c40] at H
                          exact absurd H (by simp)
                      · rw [if_neg c39] at H
                        exact absurd H (by simp)
                    · rw [if_neg c38] at H
                      exact absurd H (by simp)
                  · rw [if_neg c37] at H
                    have c37b0 : decide (x65_3 < (l0_4.length : Int)) = false := decide_eq_false c37
                    clear c37
                    obtain rfl := Option.some.inj H
                    go_wp2
                    go_ret
                    exact ⟨by first | rfl | (simp [errW_none, errW_some] <;> rfl) | (simp [*, errW_none, errW_some] <;> rfl), by repeat (first | (with_reducible first | exact HB.out | apply below_alloc | apply pw_below_drewN | apply below_drew1 | refine below_set ?_ GE151.out | refine below_set ?_ GE152.out) | exact HB.out)⟩
end Go.Proofs.Ytmfjbljdbkmkgaa.PDom

/- What the printed functions on trees tell: the text, what stands within what, that a tree is itself. Plain facts. -/
namespace Go.Proofs.Ytmfjbljdbkmkgaa.PDom
open Go.RowKit Go.Proofs.YtmfjbljdbkmkgaaW.PrintWords Go.Proofs.YtmfjbljdbkmkgaaW.PrintLast Go.Proofs.YtmfjbljdbkmkgaaW.PrintMore Go.Proofs.Ytmfjbljdbkmkgaa.Dom Go.Proofs.Ytmfjbljdbkmkgaa.Txt
set_option linter.unusedVariables false
set_option linter.unusedSimpArgs false

theorem fit_kid {t y : T} (h : Fit t) (hy : y ∈ t.f4) : Fit y := by
  cases h with
  | mk _ _ _ h => exact h y hy
theorem fit_len {t : T} (h : Fit t) : t.f4.length ≤ 4398046510976 := by
  cases h with
  | mk _ _ h _ => exact h
theorem fit_len3 {t : T} (h : Fit t) : t.f3.length ≤ 4398046510976 := by
  cases h with
  | mk _ h _ _ => exact h
theorem fits2_ev (t : T) (ht : Fit t) : ∃ b, Ev (fun k => laws_zzFits2.f k t.f0 t.f1 t.f2 t.f3 t.f4) b := by
  obtain ⟨b, hb⟩ := fits2_tot t.f0 t.f1 t.f2 t.f3 t.f4 (Nat.le_trans (fit_len3 ht) (by decide)) (t.f3.length + 1) (by omega)
  exact ⟨b, Ev.of (fun k => laws_zzFits2.mono _ _ _ _ _ k) hb⟩
/-! ### The text -/
/-! ### A tree is itself -/
theorem same_l1 (u : T) (hk : u.f4.length ≤ 4398046510976) (ih : ∀ y ∈ u.f4, Ev (fun k => spec_SameTree.f k y.f0 y.f1 y.f2 y.f3 y.f4 y.f0 y.f1 y.f2 y.f3 y.f4) true) : ∀ (n j : Nat), u.f4.length = j + n →
    Ev (fun k => spec_SameTree.l1 k (u.f4.length : Int) (j : Int) u.f0 u.f1 u.f2 u.f3 u.f4 u.f0 u.f1 u.f2 u.f3 u.f4) true := by
  intro n
  induction n with
  | zero =>
    intro j hj
    refine Ev.step (f := fun _ => some true) (fun k => ?_) (Ev.now _)
    simp only [spec_SameTree.l1]
    rw [if_neg (by omega)]
  | succ n ihn =>
    intro j hj
    have hlt : j < u.f4.length := by omega
    refine Ev.step (f := fun k => (spec_SameTree.f k u.f4[j].f0 u.f4[j].f1 u.f4[j].f2 u.f4[j].f3 u.f4[j].f4 u.f4[j].f0 u.f4[j].f1 u.f4[j].f2 u.f4[j].f3 u.f4[j].f4).bind fun b => if b = true then spec_SameTree.l1 k (u.f4.length : Int) ((j + 1 : Nat) : Int) u.f0 u.f1 u.f2 u.f3 u.f4 u.f0 u.f1 u.f2 u.f3 u.f4 else some false) (fun k => ?_) ?_
    · simp only [spec_SameTree.l1]
      rw [if_pos (by omega), if_pos (by omega), if_pos (by omega), if_pos (by omega), rd_at u.f4 hlt, succ_wrap j (by omega)]
    · refine Ev.bind (ih _ (List.getElem_mem hlt)) ?_
      simpa using ihn (j + 1) (by omega)
theorem same_l0 (u : T) (ha : u.f3.length ≤ 4398046510976) (h1 : Ev (fun k => spec_SameTree.l1 k (u.f4.length : Int) ((0 : Nat) : Int) u.f0 u.f1 u.f2 u.f3 u.f4 u.f0 u.f1 u.f2 u.f3 u.f4) true) : ∀ (n j : Nat), u.f3.length = j + n →
    Ev (fun k => spec_SameTree.l0 k (u.f3.length : Int) (j : Int) u.f0 u.f1 u.f2 u.f3 u.f4 u.f0 u.f1 u.f2 u.f3 u.f4) true := by
  intro n
  induction n with
  | zero =>
    intro j hj
    refine Ev.step (f := fun k => spec_SameTree.l1 k (u.f4.length : Int) ((0 : Nat) : Int) u.f0 u.f1 u.f2 u.f3 u.f4 u.f0 u.f1 u.f2 u.f3 u.f4) (fun k => ?_) h1
    simp only [spec_SameTree.l0]
    rw [if_neg (by omega)]
    rfl
  | succ n ihn =>
    intro j hj
    refine Ev.step (f := fun k => spec_SameTree.l0 k (u.f3.length : Int) ((j + 1 : Nat) : Int) u.f0 u.f1 u.f2 u.f3 u.f4 u.f0 u.f1 u.f2 u.f3 u.f4) (fun k => ?_) (ihn (j + 1) (by omega))
    simp only [spec_SameTree.l0]
    rw [if_pos (by omega), if_pos (by omega), if_pos (by omega), if_pos (by omega), succ_wrap j (by omega)]
    simp
theorem same_ev (u : T) : Fit u → Ev (fun k => spec_SameTree.f k u.f0 u.f1 u.f2 u.f3 u.f4 u.f0 u.f1 u.f2 u.f3 u.f4) true := by
  induction u using T_induct with
  | h u ih =>
    intro hf
    have h1 := same_l1 u (fit_len hf) (fun y hy => ih y hy (fit_kid hf hy)) u.f4.length 0 (by omega)
    have h0 := same_l0 u (fit_len3 hf) h1 u.f3.length 0 (by omega)
    refine Ev.step (f := fun k => spec_SameTree.j0 k false u.f0 u.f1 u.f2 u.f3 u.f4 u.f0 u.f1 u.f2 u.f3 u.f4) (fun k => ?_) ?_
    · simp [spec_SameTree.f]
    · refine Ev.step (f := fun k => spec_SameTree.l0 k (u.f3.length : Int) ((0 : Nat) : Int) u.f0 u.f1 u.f2 u.f3 u.f4 u.f0 u.f1 u.f2 u.f3 u.f4) (fun k => ?_) h0
      simp only [spec_SameTree.j0]
      rw [if_neg (by simp)]
      rfl
/-! ### What stands within what -/
end Go.Proofs.Ytmfjbljdbkmkgaa.PDom

/- What impl.Quoted returns: the text within quotes. For texts of less than 2^31 bytes. -/
namespace Go.Proofs.Ytmfjbljdbkmkgaa.PDom
open Go.Proofs.Ytmfjbljdbkmkgaa.Keep Go.RowKit Go.Proofs.YtmfjbljdbkmkgaaW.PrintWords Go.Proofs.YtmfjbljdbkmkgaaW.PrintLast Go.Proofs.YtmfjbljdbkmkgaaW.PrintMore
set_option linter.unusedVariables false
set_option linter.unusedSimpArgs false

theorem run_convert_same {P : Program} (t e : TypeId) (ht : P.underlying t = some (.slice e)) (he : P.underlying e = some (.int .u8)) (g n c : Nat) (cs : Array Value) (W : World) (hg : W.heap[g]? = some (.cells cs e (0, 0))) :
    (convert t t (.slice (some ⟨g, 0, none⟩) n c)).run P W = .ok (.slice (some ⟨g, 0, none⟩) n c) (W.freeze ⟨g, cs.size, none⟩ 1) := by
  simp [convert, run_underlying ht, run_underlying he, markStringish, World.shape?, hg, Result.andThen]

/-- A text between two signs that are one byte each. -/
theorem around_any (w : World) (ad : Addr) (q : Int) (A0 : Option Addr) (n0 c0 : Nat) (l0 : List Int) (h0 : 0 < n0) (hb : n0 ≤ 4294967296) (hr : ReadsInt w .u8 A0 n0 l0) (hx : ReadsInt w .u8 (some ad) 1 [q]) :
    Calls Try.prog 102 #[.slice A0 n0 c0, .slice (some ad) 1 1] w fun e w' => ∃ v : Value, e = .returned v ∧ w'.ownsRow w.heap.size 5 1 v (l0.length + 2) (nums .u8 (q :: l0 ++ [q])) ∧ Below w.heap.size w w' := by
  have HR := Aside0.mk hr
  have HX := Aside0.mk hx
  have hl := Aside0.mk hr.1
  clear hr hx
  go_enter Try.func102, Try.ntmps102
  go_wp2_with (at_builtin; refine append_new rfl (.tmp 5) (.tmp 6) 58 5 .u8 1 rfl Try.underlying58 info5 (by decide) (some ad) A0 1 n0 c0 1 [q] l0 rfl rfl HX.out HR.out (by omega) h0 (by omega) (by omega) ?_)
  intro v1 w1 ho hg
  have hB := Below.grown (Below.refl w.heap.size w) hg (Nat.le_refl _) (fun _ h => by cases h)
  have hl2 : (1 + n0) = ([q] ++ l0).length := by have := hl.out; simp; omega
  rw [hl2] at ho
  have HO := Aside0.mk ho
  have HB := Aside0.mk hB
  have HX1 := Aside0.mk (HX.out.below hB)
  clear ho hg hB hl2
  go_wp2_with (at_builtin; refine append_row_keep (w0 := w) w.heap.size rfl (.tmp 8) (.tmp 9) 58 5 .u8 1 rfl Try.underlying58 info5 (by decide) v1 ([q] ++ l0) [q] (some ad) 1 1 rfl rfl HO.out HX1.out HB.out HB.out.size (by have := hl.out; simp; omega) ?_)
  intro v2 w2 ho2 _ hB2 _ _
  go_wp2
  go_ret
  exact ⟨_, rfl, ho2, hB2⟩

/-- The row of a constant text's one byte, marked as text. -/
def boxed (W : World) (q : Int) : World := (W.alloc (.cells #[.int .u8 q] 5)).freeze ⟨W.heap.size, 1, none⟩ 1
theorem boxed_heap (W : World) (q : Int) : (boxed W q).heap[W.heap.size]? = some (.cells #[.int .u8 q] 5 (1, 2)) := by
  simp [boxed, World.freeze, World.alloc, -World.alloc_eq]
  rw [Array.getElem_modify_self]
  simp
theorem boxed_below (W : World) (q : Int) : Below W.heap.size W (boxed W q) := by
  refine ⟨rfl, rfl, rfl, by simp [boxed, World.freeze, World.alloc, -World.alloc_eq], fun i hi => ?_⟩
  have h1 : W.heap.size ≠ i := by omega
  simp [boxed, World.freeze, World.alloc, -World.alloc_eq, Array.getElem?_modify, Array.getElem?_push, h1, Ne.symm h1]
theorem boxed_reads (W : World) (q : Int) : ReadsInt (boxed W q) .u8 (some ⟨W.heap.size, 0, none⟩) 1 [q] := by
  refine ⟨rfl, by omega, fun _ => ⟨_, rfl, fun j hj => ?_⟩⟩
  obtain rfl : j = 0 := by omega
  rw [add_plain]
  simp [World.cell?, boxed_heap]
theorem mark_one (q : Int) (W : World) : (convert 58 58 (.slice (some ⟨W.heap.size, 0, none⟩) 1 1)).run Try.prog (W.alloc (.cells #[.int .u8 q] 5)) = .ok (.slice (some ⟨W.heap.size, 0, none⟩) 1 1) (boxed W q) :=
  run_convert_same 58 5 Try.underlying58 Try.underlying5 W.heap.size 1 1 #[.int .u8 q] _ (heap_alloc_new W _)

theorem quoted_none (w : World) (A0 : Option Addr) (n0 c0 : Nat) (l0 : List Int) (k : Nat) (h0 : 0 < n0) (hb : n0 ≤ 4294967296) (hr : ReadsInt w .u8 A0 n0 l0) (hc : n0 ≤ c0) (b2 : Bool)
    (h1 : textutils_zzHas.f k l0 34 = some false) (h2 : textutils_zzHas.f k l0 39 = some b2) :
    Calls Try.prog 71 #[.slice A0 n0 c0] w fun e w' => ∃ v : Value, e = .returned v ∧ w'.ownsRow w.heap.size 5 1 v (l0.length + 2) (nums .u8 (34 :: l0 ++ [34])) ∧ Below w.heap.size w w' := by
  have hn := hr.1
  subst hn
  have HR := Aside0.mk hr
  have HC := Aside0.mk hc
  have H1 := Aside0.mk h1
  have H2 := Aside0.mk h2
  have h0' : ((l0.length : Int) == 0) = false := beq_eq_false_iff_ne.mpr (by omega)
  have kc : ∀ nd, (convert 58 58 (.slice (some ⟨w.heap.size, 0, none⟩) 1 1)).run Try.prog ((w.drewN nd).alloc (.cells #[.int .u8 34] 5)) = .ok (.slice (some ⟨w.heap.size, 0, none⟩) 1 1) (boxed (w.drewN nd) 34) := fun nd => mark_one 34 (w.drewN nd)
  clear hr hc h1 h2
  go_enter Try.func71, Try.ntmps71
  go_wp2_with fail
  refine (textutils_zzHas.calls k _ _ l0 34 false _ (Kd.C_of_reads (d := (0 : Int)) HR.out) HC.out H1.out).mono ?_
  rintro e w' ⟨rfl, ⟨nd, rfl⟩⟩
  go_wp2_with fail
  refine (textutils_zzHas.calls k _ _ l0 39 b2 _ (Kd.C_of_reads (d := (0 : Int)) (HR.out.drewN _)) HC.out H2.out).mono ?_
  rintro e w' ⟨rfl, ⟨nd2, rfl⟩⟩
  go_wp2_with fail
  have hB : Below w.heap.size w (boxed (w.drewN (nd + nd2)) 34) := below_step (pw_below_drewN (Below.refl _ _) _) (boxed_below (w.drewN (nd + nd2)) 34)
  refine (around_any _ ⟨w.heap.size, 0, none⟩ 34 _ _ _ l0 h0 hb (HR.out.below hB) (boxed_reads (w.drewN (nd + nd2)) 34)).mono ?_
  rintro e w' ⟨v, rfl, ho, hB2⟩
  go_wp2
  go_ret
  exact ⟨_, rfl, own_less ho hB.size, below_step hB hB2⟩

theorem quoted_single (w : World) (A0 : Option Addr) (n0 c0 : Nat) (l0 : List Int) (k : Nat) (h0 : 0 < n0) (hb : n0 ≤ 4294967296) (hr : ReadsInt w .u8 A0 n0 l0) (hc : n0 ≤ c0)
    (h1 : textutils_zzHas.f k l0 34 = some true) (h2 : textutils_zzHas.f k l0 39 = some false) :
    Calls Try.prog 71 #[.slice A0 n0 c0] w fun e w' => ∃ v : Value, e = .returned v ∧ w'.ownsRow w.heap.size 5 1 v (l0.length + 2) (nums .u8 (39 :: l0 ++ [39])) ∧ Below w.heap.size w w' := by
  have hn := hr.1
  subst hn
  have HR := Aside0.mk hr
  have HC := Aside0.mk hc
  have H1 := Aside0.mk h1
  have H2 := Aside0.mk h2
  have h0' : ((l0.length : Int) == 0) = false := beq_eq_false_iff_ne.mpr (by omega)
  have kc : ∀ nd, (convert 58 58 (.slice (some ⟨w.heap.size, 0, none⟩) 1 1)).run Try.prog ((w.drewN nd).alloc (.cells #[.int .u8 39] 5)) = .ok (.slice (some ⟨w.heap.size, 0, none⟩) 1 1) (boxed (w.drewN nd) 39) := fun nd => mark_one 39 (w.drewN nd)
  clear hr hc h1 h2
  go_enter Try.func71, Try.ntmps71
  go_wp2_with fail
  refine (textutils_zzHas.calls k _ _ l0 34 true _ (Kd.C_of_reads (d := (0 : Int)) HR.out) HC.out H1.out).mono ?_
  rintro e w' ⟨rfl, ⟨nd, rfl⟩⟩
  go_wp2_with fail
  refine (textutils_zzHas.calls k _ _ l0 39 false _ (Kd.C_of_reads (d := (0 : Int)) (HR.out.drewN _)) HC.out H2.out).mono ?_
  rintro e w' ⟨rfl, ⟨nd2, rfl⟩⟩
  go_wp2_with fail
  have hB : Below w.heap.size w (boxed (w.drewN (nd + nd2)) 39) := below_step (pw_below_drewN (Below.refl _ _) _) (boxed_below (w.drewN (nd + nd2)) 39)
  refine (around_any _ ⟨w.heap.size, 0, none⟩ 39 _ _ _ l0 h0 hb (HR.out.below hB) (boxed_reads (w.drewN (nd + nd2)) 39)).mono ?_
  rintro e w' ⟨v, rfl, ho, hB2⟩
  go_wp2
  go_ret
  exact ⟨_, rfl, own_less ho hB.size, below_step hB hB2⟩

theorem quoted_both (w : World) (A0 : Option Addr) (n0 c0 : Nat) (l0 : List Int) (k : Nat) (h0 : 0 < n0) (hb : n0 ≤ 4294967296) (hr : ReadsInt w .u8 A0 n0 l0) (hc : n0 ≤ c0) (t : List Int) (ht0 : 0 < t.length) (htb : t.length ≤ 4294967296)
    (h1 : textutils_zzHas.f k l0 34 = some true) (h2 : textutils_zzHas.f k l0 39 = some true) (h3 : textutils_zzReplaceAll.f k l0 (⟨#[34]⟩ : ByteArray) (⟨#[92, 34]⟩ : ByteArray) = some t) :
    Calls Try.prog 71 #[.slice A0 n0 c0] w fun e w' => ∃ v : Value, e = .returned v ∧ w'.ownsRow w.heap.size 5 1 v (t.length + 2) (nums .u8 (34 :: t ++ [34])) ∧ Below w.heap.size w w' := by
  have hn := hr.1
  subst hn
  have HR := Aside0.mk hr
  have HC := Aside0.mk hc
  have H1 := Aside0.mk h1
  have H2 := Aside0.mk h2
  have H3 := Aside0.mk h3
  have h0' : ((l0.length : Int) == 0) = false := beq_eq_false_iff_ne.mpr (by omega)
  clear hr hc h1 h2 h3
  go_enter Try.func71, Try.ntmps71
  go_wp2_with fail
  refine (textutils_zzHas.calls k _ _ l0 34 true _ (Kd.C_of_reads (d := (0 : Int)) HR.out) HC.out H1.out).mono ?_
  rintro e w' ⟨rfl, ⟨nd, rfl⟩⟩
  go_wp2_with fail
  refine (textutils_zzHas.calls k _ _ l0 39 true _ (Kd.C_of_reads (d := (0 : Int)) (HR.out.drewN _)) HC.out H2.out).mono ?_
  rintro e w' ⟨rfl, ⟨nd2, rfl⟩⟩
  go_wp2_with fail
  refine (textutils_zzReplaceAll.calls k _ _ l0 _ _ t _ (Kd.C_of_reads (d := (0 : Int)) (HR.out.drewN _)) HC.out H3.out).mono ?_
  rintro e w1 ⟨v, rfl, ho, hB1⟩
  obtain ⟨A1, c1, rfl, hr1⟩ := own_reads (Kd.own_of_R ho)
  have HB1 := Aside0.mk (below_step (pw_below_drewN (Below.refl w.heap.size w) _) hB1)
  have HR1 := Aside0.mk hr1
  clear ho hB1 hr1
  have kc : (convert 58 58 (.slice (some ⟨w1.heap.size, 0, none⟩) 1 1)).run Try.prog (w1.alloc (.cells #[.int .u8 34] 5)) = .ok (.slice (some ⟨w1.heap.size, 0, none⟩) 1 1) (boxed w1 34) := mark_one 34 w1
  go_wp2_with fail
  refine (around_any _ ⟨w1.heap.size, 0, none⟩ 34 _ _ _ t ht0 htb (HR1.out.below (boxed_below w1 34)) (boxed_reads w1 34)).mono ?_
  rintro e w' ⟨v, rfl, ho, hB2⟩
  go_wp2
  go_ret
  have hB := below_step HB1.out (boxed_below w1 34)
  exact ⟨_, rfl, own_less ho hB.size, below_step hB hB2⟩

theorem quoted_nil (w : World) (A0 : Option Addr) (c0 : Nat) :
    Calls Try.prog 71 #[.slice A0 0 c0] w fun e w' => e = .returned (.slice none 0 0) ∧ w' = w := by
  go_enter Try.func71, Try.ntmps71
  go_wp2
  go_ret
  exact ⟨rfl, rfl⟩

/-- The text within quotes. -/
def impl_Quoted.f (k : Nat) (a0 : ByteArray) : Option ByteArray :=
  if a0.size ≤ 2147483647 then (if a0.size = 0 then some ⟨#[]⟩ else
    (textutils_zzHas.f k (bytesOf a0) 34).bind fun b1 => (textutils_zzHas.f k (bytesOf a0) 39).bind fun b2 =>
      if b1 = true then (if b2 = true then (textutils_zzReplaceAll.f k (bytesOf a0) (⟨#[34]⟩ : ByteArray) (⟨#[92, 34]⟩ : ByteArray)).bind fun t => (if 0 < t.length then (if t.length ≤ 4294967296 then some (strOfNums (34 :: t ++ [34])) else none) else none)
        else some (strOfNums (39 :: bytesOf a0 ++ [39]))) else some (strOfNums (34 :: bytesOf a0 ++ [34]))) else none
theorem impl_Quoted.mono : ∀ a0 k, LeO (impl_Quoted.f k a0) (impl_Quoted.f (k + 1) a0) := by
  intro a0 k
  unfold impl_Quoted.f
  repeat' first
      | (with_reducible exact textutils_zzHas.mono _ _ _)
      | (with_reducible exact textutils_zzReplaceAll.mono _ _ _ _)
      | (with_reducible exact LeO.refl _)
      | (with_reducible exact LeO.none _)
      | (with_reducible refine LeO.ite ?_ ?_)
      | (with_reducible refine LeO.bind ?_ (fun _ => ?_))
theorem impl_Quoted.calls (k : Nat) (a0 : ByteArray) (r : ByteArray) (w : World) (h : impl_Quoted.f k a0 = some r) :
    Calls Try.prog 39 #[.string a0] w fun e w' => e = .returned (.string r) ∧ Below w.heap.size w w' := by
  unfold impl_Quoted.f at h
  have kb := fun W => print_bytes (P := Try.prog) 9 58 5 Try.underlying9 Try.underlying58 Try.underlying5 a0 W
  split at h
  case isFalse => cases h
  rename_i hs
  have hB0 := bytes_below (Below.refl w.heap.size w) (Nat.le_refl _) 5 a0
  have HB0 := Aside0.mk hB0
  have HRd := Aside0.mk (bytes_reads w 5 a0 (by omega))
  have hkn := run_convert_bytes_nil (P := Try.prog)
  clear hB0
  split at h
  · rename_i hz
    obtain rfl := Option.some.inj h
    have hz' : a0 = ⟨#[]⟩ := by
      cases a0 with | mk d => congr; exact Array.eq_empty_of_size_eq_zero hz
    subst hz'
    go_enter Try.func39, Try.ntmps39
    go_wp2_with fail
    refine (quoted_nil _ _ _).mono ?_
    rintro e w' ⟨rfl, rfl⟩
    have kn := run_convert_bytes_nil (Lib.bytesWorld w 5 ⟨#[]⟩) 58 5 Try.underlying58 Try.underlying5 0 0 9 Try.underlying9
    go_wp2
    go_ret
    exact ⟨rfl, HB0.out⟩
  · rename_i hz
    obtain ⟨b1, e1, h⟩ := Option.bind_eq_some_iff.1 h
    obtain ⟨b2, e2, h⟩ := Option.bind_eq_some_iff.1 h
    have E1 := Aside0.mk e1
    have E2 := Aside0.mk e2
    clear e1 e2
    have key : ∃ l : List Int, r = strOfNums l ∧ Calls Try.prog 71 #[.slice (some ⟨w.heap.size, 0, none⟩) a0.size (grownCap w a0.size 0 5)] (Lib.bytesWorld w 5 a0) fun e w' => ∃ v : Value, e = .returned v ∧ w'.ownsRow (Lib.bytesWorld w 5 a0).heap.size 5 1 v l.length (nums .u8 l) ∧ Below (Lib.bytesWorld w 5 a0).heap.size (Lib.bytesWorld w 5 a0) w' := by
      cases b1 with
      | true =>
        cases b2 with
        | true =>
          simp only [if_true] at h
          obtain ⟨t, e3, h⟩ := Option.bind_eq_some_iff.1 h
          split at h
          case isFalse => cases h
          rename_i ht0
          split at h
          case isFalse => cases h
          rename_i htb
          refine ⟨_, (Option.some.inj h).symm, (quoted_both _ _ _ _ (bytesOf a0) k (by omega) (by omega) HRd.out (grownCap_ge _ _ _ _) t ht0 htb E1.out E2.out e3).mono ?_⟩
          rintro e w' ⟨v, rfl, ho, hB⟩
          exact ⟨v, rfl, by simpa using ho, hB⟩
        | false =>
          simp only [if_true] at h
          refine ⟨_, (Option.some.inj h).symm, (quoted_single _ _ _ _ (bytesOf a0) k (by omega) (by omega) HRd.out (grownCap_ge _ _ _ _) E1.out E2.out).mono ?_⟩
          rintro e w' ⟨v, rfl, ho, hB⟩
          exact ⟨v, rfl, by simpa using ho, hB⟩
      | false =>
        refine ⟨_, (Option.some.inj h).symm, (quoted_none _ _ _ _ (bytesOf a0) k (by omega) (by omega) HRd.out (grownCap_ge _ _ _ _) b2 E1.out E2.out).mono ?_⟩
        rintro e w' ⟨v, rfl, ho, hB⟩
        exact ⟨v, rfl, by simpa using ho, hB⟩
    obtain ⟨l, rfl, hcall⟩ := key
    have HCall := Aside0.mk hcall
    clear hcall h hkn
    go_enter Try.func39, Try.ntmps39
    go_wp2_with fail
    refine (HCall.out).mono ?_
    rintro e w' ⟨v0, rfl, ho, hB⟩
    have hown := own_string (P := Try.prog) Try.underlying58 Try.underlying5 Try.underlying9 ho
    go_wp2
    go_ret
    exact ⟨rfl, below_step HB0.out hB⟩

end Go.Proofs.Ytmfjbljdbkmkgaa.PDom

/- impl.Blanks, and laws.inlineLives: it is true. -/
namespace Go.Proofs.Ytmfjbljdbkmkgaa.PDom
open Go.Proofs.Ytmfjbljdbkmkgaa.Keep Go.RowKit Go.Proofs.YtmfjbljdbkmkgaaW.PrintWords Go.Proofs.YtmfjbljdbkmkgaaW.PrintLast Go.Proofs.YtmfjbljdbkmkgaaW.PrintMore
set_option linter.unusedVariables false
set_option linter.unusedSimpArgs false

theorem zzblanks_calls (a0 : ByteArray) (w : World) (hs : a0.size ≤ 2147483647) (hne : a0.size ≠ 0) :
    Calls Try.prog 70 #[.string a0] w fun e w' => e = .returned (.string (strOfNums (Blank.norm false (bytesOf a0)))) ∧ Below w.heap.size w w' := by
  go_enter Try.func70, Try.ntmps70
  go_wp2_with (go_at_call 81; go_must (refine (Blank.blank_calls a0 w hs hne).mono ?_; rintro e w1 ⟨rfl, hB⟩; have HB := Aside0.mk hB; clear hB))
  go_ret
  exact ⟨rfl, HB.out⟩
theorem blanks_calls (a0 : ByteArray) (w : World) (hs : a0.size ≤ 2147483647) (hne : a0.size ≠ 0) :
    Calls Try.prog 38 #[.string a0] w fun e w' => e = .returned (.string (strOfNums (Blank.norm false (bytesOf a0)))) ∧ Below w.heap.size w w' := by
  go_enter Try.func38, Try.ntmps38
  go_wp2_with (go_at_call 70; go_must (refine (zzblanks_calls a0 w hs hne).mono ?_; rintro e w1 ⟨rfl, hB⟩; have HB := Aside0.mk hB; clear hB))
  go_ret
  exact ⟨rfl, HB.out⟩
theorem quoted_a : impl_Quoted.f 5 ⟨#[97]⟩ = some ⟨#[34, 97, 34]⟩ := by kernel_rfl
theorem norm_ab : strOfNums (Blank.norm false (bytesOf ⟨#[97, 32, 32, 98]⟩)) = ⟨#[97, 32, 98]⟩ := by kernel_rfl
def laws_inlineLives.f (_ : Nat) : Option Bool := some true
theorem laws_inlineLives.mono : ∀ k, LeO (laws_inlineLives.f k) (laws_inlineLives.f (k + 1)) := fun _ => LeO.refl _
theorem laws_inlineLives.calls (k : Nat) (r : Bool) (w : World) (h : laws_inlineLives.f k = some r) :
    Calls Try.prog 15 #[] w fun e w' => e = .returned (.bool r) ∧ Below w.heap.size w w' := by
  obtain rfl := Option.some.inj h
  have HQ := Aside0.mk quoted_a
  have HNA := Aside0.mk norm_ab
  clear h
  go_enter Try.func15, Try.ntmps15
  go_wp2_with (first
    | (go_at_call 38; go_must (refine (blanks_calls _ w (by decide) (by decide)).mono ?_; rw [HNA.out]; rintro e w1 ⟨rfl, hB⟩; have HB := Aside0.mk hB; clear hB))
    | (go_at_call 39; go_must (refine (impl_Quoted.calls 5 _ _ _ HQ.out).mono ?_; rintro e w2 ⟨rfl, hB2⟩; have HB2 := Aside0.mk (below_step HB.out hB2); clear hB2)))
  go_ret
  exact ⟨rfl, HB2.out⟩
end Go.Proofs.Ytmfjbljdbkmkgaa.PDom

/- A cut tree: what it is like, and what the printed functions tell of it. Plain facts. -/
namespace Go.Proofs.Ytmfjbljdbkmkgaa.PDom
open Go.RowKit Go.Proofs.YtmfjbljdbkmkgaaW.PrintWords Go.Proofs.YtmfjbljdbkmkgaaW.PrintLast Go.Proofs.YtmfjbljdbkmkgaaW.PrintMore Go.Proofs.Ytmfjbljdbkmkgaa.Dom Go.Proofs.Ytmfjbljdbkmkgaa.Txt
set_option linter.unusedVariables false
set_option linter.unusedSimpArgs false

theorem cut_txt {t : T} (h : CutOk t) : (txT t).length ≤ 300 * countT t := by
  induction h with
  | text k r hk hr hl =>
    rw [txT, countT]
    split
    · show (strOfNums r).data.toList.length ≤ _
      have := str_size r
      have e : (strOfNums r).data.toList.length = (strOfNums r).size := rfl
      omega
    · simp [txTL]
  | elem n ks hn hv hk ih =>
    rw [txT, if_neg (by decide), countT]
    have : (txTL ks).length ≤ 300 * countTL ks := by
      clear hv hk
      induction ks with
      | nil => simp [txTL]
      | cons y ks ih2 =>
        rw [txTL, List.length_append, countTL]
        have := ih y (by simp)
        have := ih2 (fun z hz => ih z (by simp [hz]))
        omega
    omega
theorem cutR_facts (t : T) (hf : FitX t) : CutOk (cutR t) ∧ countT (cutR t) ≤ 60 ∧ okT (cutR t) = true ∧ Fit (cutR t) ∧ (txT (cutR t)).length ≤ 18000 := by
  have hfx : FitX ⟨0, t.f1, t.f2, t.f3, t.f4⟩ := by obtain ⟨_, h1, h2, h3, h4, h5⟩ := hf; exact ⟨_, h1, h2, h3, h4, h5⟩
  have h1 := cut_ok ⟨0, t.f1, t.f2, t.f3, t.f4⟩ hfx 8 60
  obtain ⟨h2, h3, _⟩ := cut_count ⟨0, t.f1, t.f2, t.f3, t.f4⟩ 8 60 (by decide)
  obtain ⟨e0, e2, e3⟩ := cutT_0 t
  have hc : countT (cutR t) = countT (cutT 8 60 ⟨0, t.f1, t.f2, t.f3, t.f4⟩).1 := by rw [countT_eq, countT_eq]; rfl
  have hk : CutOk (cutR t) := by
    unfold cutR
    generalize (cutT 8 60 ⟨0, t.f1, t.f2, t.f3, t.f4⟩).1 = u at *
    cases h1 with
    | text k r hk hr hl => exact .elem divN [] (List.mem_cons_self) (fun _ => rfl) (fun y hy => by simp at hy)
    | elem n ks hn hv hk => exact .elem divN ks (List.mem_cons_self) (fun h => by rcases h with h | h <;> exact absurd h (by decide)) hk
  have hc60 : countT (cutR t) ≤ 60 := by omega
  have hok := cutOk_ok hk (by omega)
  exact ⟨hk, hc60, hok, ok_fit _ hok, by have := cut_txt hk; omega⟩
end Go.Proofs.Ytmfjbljdbkmkgaa.PDom

/- FnCollapseAny: the plain law. -/
namespace Go.Proofs.Ytmfjbljdbkmkgaa.Dom
open Go.RowKit Go.Proofs.YtmfjbljdbkmkgaaW.PrintWords Go.Proofs.YtmfjbljdbkmkgaaW.PrintLast Go.Proofs.YtmfjbljdbkmkgaaW.PrintMore Go.Proofs.Ytmfjbljdbkmkgaa.PDom Go.Proofs.Ytmfjbljdbkmkgaa.Txt Go.Proofs.Ytmfjbljdbkmkgaa.Blank
set_option linter.unusedVariables false
set_option linter.unusedSimpArgs false

theorem ws_blk (c : Int) : ws (blkN c) = ws c := by
  unfold blkN
  split
  · rename_i h
    rw [h]
    rfl
  · rfl
theorem norm_blk (l : List Int) : ∀ b, norm b (l.map blkN) = norm b l := by
  induction l with
  | nil => intro b; rfl
  | cons c l ih =>
    intro b
    rw [List.map_cons]
    simp only [norm]
    rw [ws_blk]
    cases h : ws c with
    | true => rw [if_pos rfl, if_pos rfl, ih]
    | false =>
      rw [if_neg (by simp), if_neg (by simp), ih]
      have : blkN c = c := by unfold blkN; rw [h]; rfl
      rw [this]
theorem blk_byt (l : List Int) (h : Byt l) : Byt (l.map blkN) := fun x hx => by
  obtain ⟨c, hc, rfl⟩ := List.mem_map.1 hx
  unfold blkN
  split
  · decide
  · exact h c hc
theorem bytes_blk (x : ByteArray) : bytesOf (blkB x) = (bytesOf x).map blkN := bytes_str (blk_byt _ (Byt.of x))
theorem ct_blk (b : Bt) (x : ByteArray) : b.ct (bytesOf (blkB x)) = b.ct (bytesOf x) := by
  unfold Bt.ct
  rw [bytes_blk, norm_blk]
theorem txt_blk (b : Bt) (x : ByteArray) : b.txt (bytesOf (blkB x)) = b.txt (bytesOf x) := by
  unfold Bt.txt
  rw [ct_blk]
theorem p1_spc (S : Srt) (hS : S.pr = []) (t : T) : okT t = true → ∀ b, p1 S b (spcT t) = p1 S b t := by
  induction t using T_induct with
  | h t ih =>
    intro hok b
    obtain ⟨h1, _, _, h4⟩ := okT_open hok
    obtain ⟨k, n, x, as_, ks⟩ := t
    simp only at h4 ih
    have hpr : inL S.pr n = false := by rw [hS]; rfl
    have hL : ∀ (l : List T), (∀ y ∈ l, y ∈ ks) → ∀ b, p1L S b (spcTL l) = p1L S b l := by
      intro l
      induction l with
      | nil => intro _ b; rfl
      | cons y l ih2 =>
        intro hm b
        rw [spcTL, p1L, p1L, ih y (hm y (by simp)) (h4 y (hm y (by simp))), ih2 (fun z hz => hm z (by simp [hz]))]
    rw [spcT, p1, p1]
    rcases h1 with ⟨e, _, _, e4⟩ | ⟨_, e, _⟩ | ⟨e, _⟩
    · have e4' : ks = [] := e4
      subst e4'
      rcases e with e | e
      · have e' : k = 1 := e
        rw [if_pos e', if_pos e', if_pos e', txt_blk, ct_blk]
        rfl
      · have e' : k = 2 := e
        subst e'
        rfl
    · cases e
    · have e' : k = 0 := e
      subst e'
      simp only [show ¬ ((0 : Int) = 1) by decide, if_false, if_true, hpr, Bool.false_eq_true, hL ks (fun y hy => hy)]
theorem col_spc (S : Srt) (hS : S.pr = []) (t : T) (hok : okT t = true) (h0 : t.f0 = 0) : colT S (spcT t) = colT S t := by
  obtain ⟨_, _, _, h4⟩ := okT_open hok
  obtain ⟨k, n, x, as_, ks⟩ := t
  have e' : k = 0 := h0
  subst e'
  have hpr : inL S.pr n = false := by rw [hS]; rfl
  have hL : ∀ (l : List T), (∀ y ∈ l, y ∈ ks) → ∀ b, p1L S b (spcTL l) = p1L S b l := by
    intro l
    induction l with
    | nil => intro _ b; rfl
    | cons y l ih2 =>
      intro hm b
      rw [spcTL, p1L, p1L, p1_spc S hS y (h4 y (hm y (by simp))), ih2 (fun z hz => hm z (by simp [hz]))]
  rw [spcT, if_neg (by decide), colT, colT, hpr, if_neg (by simp), if_neg (by simp), hL ks (fun y hy => hy)]
theorem cut_na {t : T} (h : CutOk t) : naT t = true := by
  induction h with
  | text k r hk hr hl => rfl
  | elem n ks hn hv hk ih =>
    rw [naT, Bool.and_eq_true]
    exact ⟨rfl, naTL_iff.2 ih⟩
theorem cut_tx {t : T} (h : CutOk t) : txB t = true := by
  induction h with
  | text k r hk hr hl =>
    rw [txB, Bool.and_eq_true]
    refine ⟨?_, rfl⟩
    rw [str_size, decide_eq_true (show r.length ≤ 2147483647 by omega), Bool.or_true]
  | elem n ks hn hv hk ih =>
    rw [txB, Bool.and_eq_true]
    exact ⟨rfl, txBL_iff.2 ih⟩
/-- The same of the tree with blanks. -/
theorem spc_ok (t : T) : okT t = true → okT (spcT t) = true := by
  induction t using T_induct with
  | h t ih =>
    intro hok
    obtain ⟨h1, h2, h3, h4⟩ := okT_open hok
    obtain ⟨k, n, x, as_, ks⟩ := t
    rw [spcT]
    refine okT_mk ?_ h2 (by show (spcTL ks).length ≤ _; rw [spcTL_len]; exact h3) (fun y hy => ?_)
    · rcases h1 with ⟨a, b, c, d⟩ | ⟨_, b, _⟩ | ⟨a, b⟩
      · have d' : ks = [] := d
        subst d'
        exact .inl ⟨a, b, c, rfl⟩
      · cases b
      · have a' : k = 0 := a
        subst a'
        exact .inr (.inr ⟨rfl, b⟩)
    · have hy' : y ∈ spcTL ks := hy
      rw [spcTL_map] at hy'
      obtain ⟨z, hz, rfl⟩ := List.mem_map.1 hy'
      exact ih z hz (h4 z hz)
theorem spc_tx (t : T) : txB t = true → txB (spcT t) = true := by
  induction t using T_induct with
  | h t ih =>
    intro htx
    obtain ⟨h1, h2⟩ := txB_open htx
    obtain ⟨k, n, x, as_, ks⟩ := t
    rw [spcT, txB, Bool.and_eq_true]
    refine ⟨?_, txBL_iff.2 (fun y hy => ?_)⟩
    · by_cases e : k = 1
      · have hx : x.size ≤ 2147483647 := h1 e
        rw [if_pos e]
        have : (blkB x).size = x.size := by unfold blkB; rw [str_size, List.length_map, bytesOf_length]
        rw [this, decide_eq_true hx, Bool.or_true]
      · have : (k != 1) = true := bne_iff_ne.2 e
        rw [this]
        rfl
    · rw [spcTL_map] at hy
      obtain ⟨z, hz, rfl⟩ := List.mem_map.1 hy
      exact ih z hz (h2 z hz)
theorem spc_count (t : T) : countT (spcT t) = countT t := by
  induction t using T_induct with
  | h t ih =>
    obtain ⟨k, n, x, as_, ks⟩ := t
    rw [spcT, countT, countT]
    have : ∀ l : List T, (∀ y ∈ l, y ∈ ks) → countTL (spcTL l) = countTL l := by
      intro l
      induction l with
      | nil => intro _; rfl
      | cons y l ih2 =>
        intro hm
        rw [spcTL, countTL, countTL, ih y (hm y (by simp)), ih2 (fun z hz => hm z (by simp [hz]))]
    rw [this ks (fun y hy => hy)]
/-- What is collapsed fits. -/
theorem p1_fit (S : Srt) (t : T) : okT t = true → ∀ b, (∀ y ∈ (p1 S b t).2, okT y = true) ∧ (p1 S b t).2.length ≤ 1 := by
  induction t using T_induct with
  | h t ih =>
    intro hok b
    obtain ⟨h1, h2, h3, h4⟩ := okT_open hok
    obtain ⟨k, n, x, as_, ks⟩ := t
    simp only at h2 h3 h4 ih
    have same : ∀ y ∈ [(⟨k, n, x, as_, ks⟩ : T)], okT y = true := fun y hy => by
      have : y = _ := List.mem_singleton.1 hy
      rw [this]; exact hok
    have hL : ∀ (l : List T), (∀ y ∈ l, y ∈ ks) → ∀ b, (∀ y ∈ (p1L S b l).2, okT y = true) ∧ (p1L S b l).2.length ≤ l.length := by
      intro l
      induction l with
      | nil => intro _ b; exact ⟨fun y hy => (by cases hy), Nat.le_refl _⟩
      | cons y l ih2 =>
        intro hm b
        obtain ⟨a1, a2⟩ := ih y (hm y (by simp)) (h4 y (hm y (by simp))) b
        obtain ⟨b1, b2⟩ := ih2 (fun z hz => hm z (by simp [hz])) (p1 S b y).1
        rw [p1L]
        refine ⟨fun z hz => ?_, ?_⟩
        · rcases List.mem_append.1 hz with hz | hz
          · exact a1 z hz
          · exact b1 z hz
        · rw [List.length_append, List.length_cons]
          omega
    rw [p1]
    split
    · rename_i e
      show (∀ y ∈ (if (b.ct (bytesOf x)).isEmpty = true then [] else [⟨k, n, strOfNums (b.ct (bytesOf x)), as_, ks⟩] : List T), okT y = true) ∧ (if (b.ct (bytesOf x)).isEmpty = true then [] else [⟨k, n, strOfNums (b.ct (bytesOf x)), as_, ks⟩] : List T).length ≤ 1
      split
      · exact ⟨fun y hy => (by cases hy), Nat.zero_le _⟩
      · refine ⟨fun y hy => ?_, Nat.le_refl _⟩
        have : y = _ := List.mem_singleton.1 hy
        rw [this]
        refine okT_mk ?_ h2 h3 h4
        rcases h1 with ⟨a, b, c, d⟩ | ⟨_, b, _⟩ | ⟨a, b⟩
        · exact .inl ⟨a, b, c, d⟩
        · cases b
        · have a' : k = 0 := a
          rw [e] at a'
          exact absurd a' (by decide)
    · split
      · split
        · exact ⟨same, Nat.le_refl _⟩
        · obtain ⟨a1, a2⟩ := hL ks (fun y hy => hy) (b.ent (S.kind n))
          refine ⟨fun y hy => ?_, Nat.le_refl _⟩
          have : y = _ := List.mem_singleton.1 hy
          rw [this]
          refine okT_mk ?_ h2 (Nat.le_trans a2 h3) a1
          rename_i e _
          rcases h1 with ⟨a, _⟩ | ⟨_, b, _⟩ | ⟨a, b⟩
          · have a' : k = 1 ∨ k = 2 := a
            rw [e] at a'
            exact absurd a' (by decide)
          · cases b
          · exact .inr (.inr ⟨a, b⟩)
      · exact ⟨same, Nat.le_refl _⟩
theorem p1L_fit (S : Srt) (l : List T) : (∀ y ∈ l, okT y = true) → ∀ b, (∀ y ∈ (p1L S b l).2, okT y = true) ∧ (p1L S b l).2.length ≤ l.length := by
  induction l with
  | nil => intro _ b; exact ⟨fun y hy => (by cases hy), Nat.le_refl _⟩
  | cons y l ih =>
    intro h b
    obtain ⟨a1, a2⟩ := p1_fit S y (h y (by simp)) b
    obtain ⟨b1, b2⟩ := ih (fun z hz => h z (by simp [hz])) (p1 S b y).1
    rw [p1L]
    refine ⟨fun z hz => ?_, ?_⟩
    · rcases List.mem_append.1 hz with hz | hz
      · exact a1 z hz
      · exact b1 z hz
    · rw [List.length_append, List.length_cons]
      omega
theorem p2_fit (S : Srt) (t : T) : okT t = true → ∀ tr, (∀ y ∈ (p2 S tr t).2, okT y = true) ∧ (p2 S tr t).2.length ≤ 1 := by
  induction t using T_induct with
  | h t ih =>
    intro hok tr
    obtain ⟨h1, h2, h3, h4⟩ := okT_open hok
    obtain ⟨k, n, x, as_, ks⟩ := t
    simp only at h2 h3 h4 ih
    have same : ∀ y ∈ [(⟨k, n, x, as_, ks⟩ : T)], okT y = true := fun y hy => by
      have : y = _ := List.mem_singleton.1 hy
      rw [this]; exact hok
    have hL : ∀ (l : List T), (∀ y ∈ l, y ∈ ks) → ∀ tr, (∀ y ∈ (p2L S tr l).2, okT y = true) ∧ (p2L S tr l).2.length ≤ l.length := by
      intro l
      induction l with
      | nil => intro _ tr; exact ⟨fun y hy => (by cases hy), Nat.le_refl _⟩
      | cons y l ih2 =>
        intro hm tr
        obtain ⟨b1, b2⟩ := ih2 (fun z hz => hm z (by simp [hz])) tr
        obtain ⟨a1, a2⟩ := ih y (hm y (by simp)) (h4 y (hm y (by simp))) (p2L S tr l).1
        rw [p2L]
        refine ⟨fun z hz => ?_, ?_⟩
        · rcases List.mem_append.1 hz with hz | hz
          · exact a1 z hz
          · exact b1 z hz
        · rw [List.length_append, List.length_cons]
          omega
    rw [p2]
    split
    · rename_i e
      have hno : NodeOk false (⟨k, n, strOfNums (trimB (bytesOf x)), as_, ks⟩ : T) := by
        rcases h1 with ⟨a, b, c, d⟩ | ⟨_, b, _⟩ | ⟨a, b⟩
        · exact .inl ⟨a, b, c, d⟩
        · cases b
        · have a' : k = 0 := a
          rw [e] at a'
          exact absurd a' (by decide)
      show (∀ y ∈ (if tr = 0 then [⟨k, n, x, as_, ks⟩] else if tr = 2 ∧ trimB (bytesOf x) = [] then [] else [⟨k, n, strOfNums (trimB (bytesOf x)), as_, ks⟩] : List T), okT y = true) ∧ (if tr = 0 then [⟨k, n, x, as_, ks⟩] else if tr = 2 ∧ trimB (bytesOf x) = [] then [] else [⟨k, n, strOfNums (trimB (bytesOf x)), as_, ks⟩] : List T).length ≤ 1
      split
      · exact ⟨same, Nat.le_refl _⟩
      · split
        · exact ⟨fun y hy => (by cases hy), Nat.zero_le _⟩
        · refine ⟨fun y hy => ?_, Nat.le_refl _⟩
          have : y = _ := List.mem_singleton.1 hy
          rw [this]
          exact okT_mk hno h2 h3 h4
    · split
      · split
        · exact ⟨same, Nat.le_refl _⟩
        · obtain ⟨a1, a2⟩ := hL ks (fun y hy => hy) (aft (S.kind n) tr)
          refine ⟨fun y hy => ?_, Nat.le_refl _⟩
          have : y = _ := List.mem_singleton.1 hy
          rw [this]
          refine okT_mk ?_ h2 (Nat.le_trans a2 h3) a1
          rename_i e _
          rcases h1 with ⟨a, _⟩ | ⟨_, b, _⟩ | ⟨a, b⟩
          · have a' : k = 1 ∨ k = 2 := a
            rw [e] at a'
            exact absurd a' (by decide)
          · cases b
          · exact .inr (.inr ⟨a, b⟩)
      · exact ⟨same, Nat.le_refl _⟩
theorem p2L_fit (S : Srt) (l : List T) : (∀ y ∈ l, okT y = true) → ∀ tr, (∀ y ∈ (p2L S tr l).2, okT y = true) ∧ (p2L S tr l).2.length ≤ l.length := by
  induction l with
  | nil => intro _ tr; exact ⟨fun y hy => (by cases hy), Nat.le_refl _⟩
  | cons y l ih =>
    intro h tr
    obtain ⟨b1, b2⟩ := ih (fun z hz => h z (by simp [hz])) tr
    obtain ⟨a1, a2⟩ := p2_fit S y (h y (by simp)) (p2L S tr l).1
    rw [p2L]
    refine ⟨fun z hz => ?_, ?_⟩
    · rcases List.mem_append.1 hz with hz | hz
      · exact a1 z hz
      · exact b1 z hz
    · rw [List.length_append, List.length_cons]
      omega
theorem col_ok (S : Srt) (t : T) (hok : okT t = true) : okT (colT S t) = true := by
  obtain ⟨h1, h2, h3, h4⟩ := okT_open hok
  obtain ⟨k, n, x, as_, ks⟩ := t
  rw [colT]
  split
  · exact hok
  · obtain ⟨a1, a2⟩ := p1L_fit S ks h4 ⟨none, false⟩
    obtain ⟨b1, b2⟩ := p2L_fit S _ a1 2
    refine okT_mk ?_ h2 (by show _ ≤ _; exact Nat.le_trans b2 (Nat.le_trans a2 h3)) b1
    rcases h1 with ⟨a, b, c, d⟩ | ⟨_, b, _⟩ | ⟨a, b⟩
    · have d' : ks = [] := d
      subst d'
      exact .inl ⟨a, b, c, rfl⟩
    · cases b
    · exact .inr (.inr ⟨a, b⟩)
end Go.Proofs.Ytmfjbljdbkmkgaa.Dom

/- Printed by the program extprint.py of this session, out of the kit's print and contracts of this session's own; Lean checks it. -/
namespace Go.Proofs.Ytmfjbljdbkmkgaa.PDom
open Go.RowKit Go.Proofs.YtmfjbljdbkmkgaaW.PrintWords Go.Proofs.YtmfjbljdbkmkgaaW.PrintLast Go.Proofs.YtmfjbljdbkmkgaaW.PrintMore
attribute [local go_sem] max2_int min2_int max_two min_two max_three min_three max_four min_four   -- for this text's walks alone
set_option linter.unusedVariables false
set_option linter.unusedSimpArgs false


/-! ### laws_inlineSort: function 21 -/
def laws_inlineSort.f  : Option (List ByteArray × List ByteArray × List ByteArray) := some ((([(⟨#[100, 105, 118]⟩ : ByteArray), (⟨#[112]⟩ : ByteArray), (⟨#[117, 108]⟩ : ByteArray), (⟨#[108, 105]⟩ : ByteArray), (⟨#[112, 114, 101]⟩ : ByteArray)] : List ByteArray)), (([(⟨#[105, 109, 103]⟩ : ByteArray), (⟨#[98, 114]⟩ : ByteArray)] : List ByteArray)), (([(⟨#[112, 114, 101]⟩ : ByteArray), (⟨#[99, 111, 100, 101]⟩ : ByteArray)] : List ByteArray)))
set_option maxHeartbeats 8000000 in
set_option maxRecDepth 100000 in
theorem laws_inlineSort.calls  (r1 : List ByteArray) (r2 : List ByteArray) (r3 : List ByteArray) (w : World) (h : laws_inlineSort.f  = some (r1, r2, r3)) :
    Calls Try.prog 21 #[] w fun e w' => ∃ v0_ v1_ v2_ : Value, e = .returned (.agg #[v0_, v1_, v2_]) ∧ Kd.R Kd.string 9 w' w.heap.size (fun k_ => some k_ ≠ (v1_ : Value).ownBlock ∧ some k_ ≠ (v2_ : Value).ownBlock) v0_ r1 ∧ Kd.R Kd.string 9 w' w.heap.size (fun k_ => some k_ ≠ (v0_ : Value).ownBlock ∧ some k_ ≠ (v2_ : Value).ownBlock) v1_ r2 ∧ Kd.R Kd.string 9 w' w.heap.size (fun k_ => some k_ ≠ (v0_ : Value).ownBlock ∧ some k_ ≠ (v1_ : Value).ownBlock) v2_ r3 ∧ Below w.heap.size w w' := by
  have hu37 := Try.underlying37
  have HB := Aside0.mk (Below.refl w.heap.size w)
  have H : (some ((([(⟨#[100, 105, 118]⟩ : ByteArray), (⟨#[112]⟩ : ByteArray), (⟨#[117, 108]⟩ : ByteArray), (⟨#[108, 105]⟩ : ByteArray), (⟨#[112, 114, 101]⟩ : ByteArray)] : List ByteArray)), (([(⟨#[105, 109, 103]⟩ : ByteArray), (⟨#[98, 114]⟩ : ByteArray)] : List ByteArray)), (([(⟨#[112, 114, 101]⟩ : ByteArray), (⟨#[99, 111, 100, 101]⟩ : ByteArray)] : List ByteArray)))) = some (r1, r2, r3) := h
  clear h
  obtain ⟨y234, hy234⟩ : ∃ y_ : List ByteArray, y_ = (([(⟨#[100, 105, 118]⟩ : ByteArray), (⟨#[112]⟩ : ByteArray), (⟨#[117, 108]⟩ : ByteArray), (⟨#[108, 105]⟩ : ByteArray), (⟨#[112, 114, 101]⟩ : ByteArray)] : List ByteArray)) := ⟨_, rfl⟩
  replace H : (some (y234, (([(⟨#[105, 109, 103]⟩ : ByteArray), (⟨#[98, 114]⟩ : ByteArray)] : List ByteArray)), (([(⟨#[112, 114, 101]⟩ : ByteArray), (⟨#[99, 111, 100, 101]⟩ : ByteArray)] : List ByteArray)))) = some (r1, r2, r3) := by first | (rw [hy234]; with_reducible exact H) | (have H2_ := (Option.bind_some _ _).symm.trans H; rw [hy234]; with_reducible exact H2_) | (have H2_ := (Option.bind_some _ _).symm.trans H; with_reducible exact H2_) | with_reducible exact H | (rw [hy234]; exact H) | exact H
  have Ny234 := Aside0.mk hy234
  clear hy234
  obtain ⟨y237, hy237⟩ : ∃ y_ : List ByteArray, y_ = (([(⟨#[105, 109, 103]⟩ : ByteArray), (⟨#[98, 114]⟩ : ByteArray)] : List ByteArray)) := ⟨_, rfl⟩
  replace H : (some (y234, y237, (([(⟨#[112, 114, 101]⟩ : ByteArray), (⟨#[99, 111, 100, 101]⟩ : ByteArray)] : List ByteArray)))) = some (r1, r2, r3) := by first | (rw [hy237]; with_reducible exact H) | (have H2_ := (Option.bind_some _ _).symm.trans H; rw [hy237]; with_reducible exact H2_) | (have H2_ := (Option.bind_some _ _).symm.trans H; with_reducible exact H2_) | with_reducible exact H | (rw [hy237]; exact H) | exact H
  have Ny237 := Aside0.mk hy237
  clear hy237
  obtain ⟨y240, hy240⟩ : ∃ y_ : List ByteArray, y_ = (([(⟨#[112, 114, 101]⟩ : ByteArray), (⟨#[99, 111, 100, 101]⟩ : ByteArray)] : List ByteArray)) := ⟨_, rfl⟩
  replace H : (some (y234, y237, y240)) = some (r1, r2, r3) := by first | (rw [hy240]; with_reducible exact H) | (have H2_ := (Option.bind_some _ _).symm.trans H; rw [hy240]; with_reducible exact H2_) | (have H2_ := (Option.bind_some _ _).symm.trans H; with_reducible exact H2_) | with_reducible exact H | (rw [hy240]; exact H) | exact H
  have Ny240 := Aside0.mk hy240
  clear hy240
  simp only [Option.some.injEq, Prod.mk.injEq] at H
  obtain ⟨rfl, rfl, rfl⟩ := H
  go_enter Try.func21, Try.ntmps21
  go_wp2_with (first | ((with_reducible refine gate_dst (N := 0) rfl ?_); refine box_event ?hg (N := 0) ?hd (cs := #[.slice none 0 0, .slice none 0 0, .slice none 0 0]) (t := 37) ?hr ?_; (case hd => rfl); (case hg => rfl); (case hr => first | (go_simp; done) | (go_simp; rfl)); intro gb233 hg w1 hbox hb; have n0_ := Aside0.mk (below_step (by repeat (first | (with_reducible first | exact HB.out | apply below_alloc | apply pw_below_drewN | apply below_drew1) | exact HB.out)) hb); have n1_ := Aside0.mk (hbox); have n2_ := Aside0.mk ((by rw [hg]; exact (below_size (by repeat (first | (with_reducible first | exact HB.out | apply below_alloc | apply pw_below_drewN | apply below_drew1) | exact HB.out))) : w.heap.size ≤ gb233)); have n3_ := Aside0.mk ((by rw [hg]; exact (below_size (by repeat (first | (with_reducible first | exact HB.out | apply below_alloc | apply pw_below_drewN | apply below_drew1) | exact HB.out))) : w.heap.size ≤ gb233)); clear HB; have HB := n0_; have BK233 := n1_; have GW233 := n2_; have GE233 := n3_; clear n0_ n1_ n2_ n3_; clear hb hbox hg) | ((with_reducible refine gate_dst (N := 1) rfl ?_); refine Kd.R_lit Kd.string _ 9 ?hg (N := 1) ?hd (xs := ([(⟨#[100, 105, 118]⟩ : ByteArray), (⟨#[112]⟩ : ByteArray), (⟨#[117, 108]⟩ : ByteArray), (⟨#[108, 105]⟩ : ByteArray), (⟨#[112, 114, 101]⟩ : ByteArray)] : List ByteArray)) (inner := [.string (⟨#[100, 105, 118]⟩ : ByteArray), .string (⟨#[112]⟩ : ByteArray), .string (⟨#[117, 108]⟩ : ByteArray), .string (⟨#[108, 105]⟩ : ByteArray), .string (⟨#[112, 114, 101]⟩ : ByteArray)]) (ok := fun _ => True) (okp := fun _ => True) ?hr ?hp (fun _ hk => hk) trivial (Below.refl _ _) (Nat.le_refl _) (by simp) ?_; (case hd => rfl); (case hg => rfl); (case hr => first | (go_simp; done) | (go_simp; rfl)); (case hp => exact (Reps.one (show Kd.M Kd.string _ _ _ (⟨#[100, 105, 118]⟩ : ByteArray) [.string (⟨#[100, 105, 118]⟩ : ByteArray)] from rfl) (Reps.one (show Kd.M Kd.string _ _ _ (⟨#[112]⟩ : ByteArray) [.string (⟨#[112]⟩ : ByteArray)] from rfl) (Reps.one (show Kd.M Kd.string _ _ _ (⟨#[117, 108]⟩ : ByteArray) [.string (⟨#[117, 108]⟩ : ByteArray)] from rfl) (Reps.one (show Kd.M Kd.string _ _ _ (⟨#[108, 105]⟩ : ByteArray) [.string (⟨#[108, 105]⟩ : ByteArray)] from rfl) (Reps.one (show Kd.M Kd.string _ _ _ (⟨#[112, 114, 101]⟩ : ByteArray) [.string (⟨#[112, 114, 101]⟩ : ByteArray)] from rfl) (Reps.none _ _))))))); intro v235 w2 ho3 hb hg_ hnew_; clear hg_ hnew_; (first | rw [← Ny234.out] at ho3 | (simp only [Int.reduceToNat] at ho3; rw [← Ny234.out] at ho3)); have n0_ := Aside0.mk (Kd.R_lower ho3 (below_size (by repeat (first | (with_reducible first | exact HB.out | apply below_alloc | apply pw_below_drewN | apply below_drew1 | refine below_set ?_ GE233.out) | exact HB.out)))); have n1_ := Aside0.mk (blk_below (g := gb233) (o := .cells #[.slice none 0 0, .slice none 0 0, .slice none 0 0] 37 (0, 0)) (by (with_reducible repeat (first | refine blk_drewN ?_ _ | refine blk_drew ?_ | refine blk_alloc ?_ _)); exact BK233.out) hb); have n2_ := Aside0.mk (below_step (by repeat (first | (with_reducible first | exact HB.out | apply below_alloc | apply pw_below_drewN | apply below_drew1 | refine below_set ?_ GE233.out) | exact HB.out)) hb); clear BK233; clear HB; have HO236 := n0_; have BK233 := n1_; have HB := n2_; clear n0_ n1_ n2_; clear hb ho3) | ((with_reducible refine gate_dst (N := 2) rfl ?_); refine Kd.R_lit Kd.string _ 9 ?hg (N := 2) ?hd (xs := ([(⟨#[105, 109, 103]⟩ : ByteArray), (⟨#[98, 114]⟩ : ByteArray)] : List ByteArray)) (inner := [.string (⟨#[105, 109, 103]⟩ : ByteArray), .string (⟨#[98, 114]⟩ : ByteArray)]) (ok := fun _ => True) (okp := fun _ => True) ?hr ?hp (fun _ hk => hk) trivial (Below.refl _ _) (Nat.le_refl _) (by simp) ?_; (case hd => rfl); (case hg => rfl); (case hr => first | (go_simp; done) | (go_simp; rfl)); (case hp => exact (Reps.one (show Kd.M Kd.string _ _ _ (⟨#[105, 109, 103]⟩ : ByteArray) [.string (⟨#[105, 109, 103]⟩ : ByteArray)] from rfl) (Reps.one (show Kd.M Kd.string _ _ _ (⟨#[98, 114]⟩ : ByteArray) [.string (⟨#[98, 114]⟩ : ByteArray)] from rfl) (Reps.none _ _)))); intro v238 w4 ho5 hb hg_ hnew_; clear hg_ hnew_; (first | rw [← Ny237.out] at ho5 | (simp only [Int.reduceToNat] at ho5; rw [← Ny237.out] at ho5)); have n0_ := Aside0.mk (Kd.R_elder' (by (with_reducible repeat (first | apply Kd.R_alloc | apply Kd.R_drewN | apply Kd.R_drew)); exact HO236.out) (Kd.R_base ho5) hb); have n1_ := Aside0.mk (Kd.R_lower (Kd.R_new' ho5 (Kd.R_lt (by (with_reducible repeat (first | apply Kd.R_alloc | apply Kd.R_drewN | apply Kd.R_drew)); exact HO236.out))) (below_size (by repeat (first | (with_reducible first | exact HB.out | apply below_alloc | apply pw_below_drewN | apply below_drew1 | refine below_set ?_ GE233.out) | exact HB.out)))); have n2_ := Aside0.mk (blk_below (g := gb233) (o := .cells #[.slice none 0 0, .slice none 0 0, .slice none 0 0] 37 (0, 0)) (by (with_reducible repeat (first | refine blk_drewN ?_ _ | refine blk_drew ?_ | refine blk_alloc ?_ _)); exact BK233.out) hb); have n3_ := Aside0.mk (below_step (by repeat (first | (with_reducible first | exact HB.out | apply below_alloc | apply pw_below_drewN | apply below_drew1 | refine below_set ?_ GE233.out) | exact HB.out)) hb); clear HO236; clear BK233; clear HB; have HO236 := n0_; have HO239 := n1_; have BK233 := n2_; have HB := n3_; clear n0_ n1_ n2_ n3_; clear hb ho5) | ((with_reducible refine gate_dst (N := 3) rfl ?_); refine Kd.R_lit Kd.string _ 9 ?hg (N := 3) ?hd (xs := ([(⟨#[112, 114, 101]⟩ : ByteArray), (⟨#[99, 111, 100, 101]⟩ : ByteArray)] : List ByteArray)) (inner := [.string (⟨#[112, 114, 101]⟩ : ByteArray), .string (⟨#[99, 111, 100, 101]⟩ : ByteArray)]) (ok := fun _ => True) (okp := fun _ => True) ?hr ?hp (fun _ hk => hk) trivial (Below.refl _ _) (Nat.le_refl _) (by simp) ?_; (case hd => rfl); (case hg => rfl); (case hr => first | (go_simp; done) | (go_simp; rfl)); (case hp => exact (Reps.one (show Kd.M Kd.string _ _ _ (⟨#[112, 114, 101]⟩ : ByteArray) [.string (⟨#[112, 114, 101]⟩ : ByteArray)] from rfl) (Reps.one (show Kd.M Kd.string _ _ _ (⟨#[99, 111, 100, 101]⟩ : ByteArray) [.string (⟨#[99, 111, 100, 101]⟩ : ByteArray)] from rfl) (Reps.none _ _)))); intro v241 w6 ho7 hb hg_ hnew_; clear hg_ hnew_; (first | rw [← Ny240.out] at ho7 | (simp only [Int.reduceToNat] at ho7; rw [← Ny240.out] at ho7)); have n0_ := Aside0.mk (Kd.R_elder' (by (with_reducible repeat (first | apply Kd.R_alloc | apply Kd.R_drewN | apply Kd.R_drew)); exact HO236.out) (Kd.R_base ho7) hb); have n1_ := Aside0.mk (Kd.R_elder' (by (with_reducible repeat (first | apply Kd.R_alloc | apply Kd.R_drewN | apply Kd.R_drew)); exact HO239.out) (Kd.R_base ho7) hb); have n2_ := Aside0.mk (Kd.R_lower (Kd.R_new' (Kd.R_new' ho7 (Kd.R_lt (by (with_reducible repeat (first | apply Kd.R_alloc | apply Kd.R_drewN | apply Kd.R_drew)); exact HO236.out))) (Kd.R_lt (by (with_reducible repeat (first | apply Kd.R_alloc | apply Kd.R_drewN | apply Kd.R_drew)); exact HO239.out))) (below_size (by repeat (first | (with_reducible first | exact HB.out | apply below_alloc | apply pw_below_drewN | apply below_drew1 | refine below_set ?_ GE233.out) | exact HB.out)))); have n3_ := Aside0.mk (blk_below (g := gb233) (o := .cells #[.slice none 0 0, .slice none 0 0, .slice none 0 0] 37 (0, 0)) (by (with_reducible repeat (first | refine blk_drewN ?_ _ | refine blk_drew ?_ | refine blk_alloc ?_ _)); exact BK233.out) hb); have n4_ := Aside0.mk (below_step (by repeat (first | (with_reducible first | exact HB.out | apply below_alloc | apply pw_below_drewN | apply below_drew1 | refine below_set ?_ GE233.out) | exact HB.out)) hb); clear HO236; clear HO239; clear BK233; clear HB; have HO236 := n0_; have HO239 := n1_; have HO242 := n2_; have BK233 := n3_; have HB := n4_; clear n0_ n1_ n2_ n3_ n4_; clear hb ho7; obtain ⟨Ao8, co8, eo8⟩ := Kd.R_slice HO242.out; subst eo8; obtain ⟨Ao9, co9, eo9⟩ := Kd.R_slice HO239.out; subst eo9; obtain ⟨Ao10, co10, eo10⟩ := Kd.R_slice HO236.out; subst eo10; have hcz11_0 : w6.cell? ⟨gb233, 0, none⟩ = some (.slice none 0 0) := (blk_cell BK233.out 0).trans rfl; have hcz11_1 : w6.cell? ⟨gb233, 1, none⟩ = some (.slice none 0 0) := (blk_cell BK233.out 1).trans rfl; have hcz11_2 : w6.cell? ⟨gb233, 2, none⟩ = some (.slice none 0 0) := (blk_cell BK233.out 2).trans rfl; have hfz11_0 := blk_frozen BK233.out 0; have hfz11_1 := blk_frozen BK233.out 1; have hfz11_2 := blk_frozen BK233.out 2))
  refine bodyPost_ret (results_cell_row rfl _ _ gb233 37 #[.slice Ao10 y234.length co10, .slice Ao9 y237.length co9, .slice Ao8 y240.length co8] (0, 0) _ rfl (by (with_reducible repeat (first | refine blk_drewN ?_ _ | refine blk_drew ?_ | refine blk_alloc ?_ _)); refine blk_put (cs := #[.slice Ao10 y234.length co10, .slice Ao9 y237.length co9, .slice none 0 0]) ?_ 2 _ rfl; (with_reducible repeat (first | refine blk_drewN ?_ _ | refine blk_drew ?_ | refine blk_alloc ?_ _)); refine blk_put (cs := #[.slice Ao10 y234.length co10, .slice none 0 0, .slice none 0 0]) ?_ 1 _ rfl; (with_reducible repeat (first | refine blk_drewN ?_ _ | refine blk_drew ?_ | refine blk_alloc ?_ _)); refine blk_put (cs := #[.slice none 0 0, .slice none 0 0, .slice none 0 0]) ?_ 0 _ rfl; (with_reducible repeat (first | refine blk_drewN ?_ _ | refine blk_drew ?_ | refine blk_alloc ?_ _)); exact BK233.out) Try.underlying37 rfl (by kernel_rfl)) rfl ?_
  exact ⟨_, _, _, by first | rfl | (simp [errW_none, errW_some] <;> rfl) | (simp [*, errW_none, errW_some] <;> rfl), by (with_reducible repeat (first | apply Kd.R_alloc | apply Kd.R_drewN | apply Kd.R_drew)); exact Kd.R_mono (Kd.R_far (p := ⟨gb233, 2, none⟩) (Kd.R_far (p := ⟨gb233, 1, none⟩) (Kd.R_far (p := ⟨gb233, 0, none⟩) (Kd.R_types HO236.out BK233.out (by decide)) (fun _ hk => hk.2) (.slice Ao10 y234.length co10)) (fun _ hk => hk.2) (.slice Ao9 y237.length co9)) (fun _ hk => hk.2) (.slice Ao8 y240.length co8)) (fun _ hk => ⟨hk.1.1.2, hk.1.2⟩), by (with_reducible repeat (first | apply Kd.R_alloc | apply Kd.R_drewN | apply Kd.R_drew)); exact Kd.R_mono (Kd.R_far (p := ⟨gb233, 2, none⟩) (Kd.R_far (p := ⟨gb233, 1, none⟩) (Kd.R_far (p := ⟨gb233, 0, none⟩) (Kd.R_types HO239.out BK233.out (by decide)) (fun _ hk => hk.2) (.slice Ao10 y234.length co10)) (fun _ hk => hk.2) (.slice Ao9 y237.length co9)) (fun _ hk => hk.2) (.slice Ao8 y240.length co8)) (fun _ hk => ⟨hk.1.1.2, hk.1.2⟩), by (with_reducible repeat (first | apply Kd.R_alloc | apply Kd.R_drewN | apply Kd.R_drew)); exact Kd.R_mono (Kd.R_far (p := ⟨gb233, 2, none⟩) (Kd.R_far (p := ⟨gb233, 1, none⟩) (Kd.R_far (p := ⟨gb233, 0, none⟩) (Kd.R_types HO242.out BK233.out (by decide)) (fun _ hk => hk.2) (.slice Ao10 y234.length co10)) (fun _ hk => hk.2) (.slice Ao9 y237.length co9)) (fun _ hk => hk.2) (.slice Ao8 y240.length co8)) (fun _ hk => ⟨hk.1.1.2, hk.1.2⟩), by repeat (first | (with_reducible first | exact HB.out | apply below_alloc | apply pw_below_drewN | apply below_drew1 | refine below_set ?_ GE233.out) | exact HB.out)⟩

-- NOT PRINTED: function 22 (spec_Full)

-- NOT PRINTED: function 23 (impl_Collapse)

-- NOT PRINTED: function 48 (spec_steps)

-- NOT PRINTED: function 49 (spec_refilled)
end Go.Proofs.Ytmfjbljdbkmkgaa.PDom

/- FnCollapseAny: the law's walk. -/
namespace Go.Proofs.Ytmfjbljdbkmkgaa.PDom
open Go.RowKit Go.Proofs.YtmfjbljdbkmkgaaW.PrintWords Go.Proofs.YtmfjbljdbkmkgaaW.PrintLast Go.Proofs.YtmfjbljdbkmkgaaW.PrintMore Go.Proofs.Ytmfjbljdbkmkgaa.Dom Go.Proofs.Ytmfjbljdbkmkgaa.Txt
set_option linter.unusedVariables false
set_option linter.unusedSimpArgs false

def bkL : List ByteArray := [(⟨#[100, 105, 118]⟩ : ByteArray), (⟨#[112]⟩ : ByteArray), (⟨#[117, 108]⟩ : ByteArray), (⟨#[108, 105]⟩ : ByteArray), (⟨#[112, 114, 101]⟩ : ByteArray)]
def vdL : List ByteArray := [(⟨#[105, 109, 103]⟩ : ByteArray), (⟨#[98, 114]⟩ : ByteArray)]
def prL : List ByteArray := [(⟨#[112, 114, 101]⟩ : ByteArray), (⟨#[99, 111, 100, 101]⟩ : ByteArray)]
theorem sort_f : laws_inlineSort.f = some (bkL, vdL, prL) := rfl
/-- The sort's rows, readable. -/
theorem sort_calls (w : World) : Calls Try.prog 21 #[] w fun e w' => ∃ B1 B2 B3 d1 d2 d3, e = .returned (.agg #[.slice B1 bkL.length d1, .slice B2 vdL.length d2, .slice B3 prL.length d3]) ∧
    Kd.F Kd.string w' (fun k => w.heap.size ≤ k) B1 bkL.length bkL ∧ Kd.F Kd.string w' (fun k => w.heap.size ≤ k) B2 vdL.length vdL ∧ Kd.F Kd.string w' (fun k => w.heap.size ≤ k) B3 prL.length prL ∧ Below w.heap.size w w' := by
  refine (laws_inlineSort.calls bkL vdL prL w sort_f).mono ?_
  rintro e w' ⟨v0, v1, v2, rfl, h0, h1, h2, hb⟩
  obtain ⟨B1, d1, rfl⟩ := Kd.R_slice h0
  obtain ⟨B2, d2, rfl⟩ := Kd.R_slice h1
  obtain ⟨B3, d3, rfl⟩ := Kd.R_slice h2
  exact ⟨B1, B2, B3, d1, d2, d3, rfl, Kd.R_F (Kd.R_mono (Kd.R_bound h0) (fun k hk => hk.2.1)), Kd.R_F (Kd.R_mono (Kd.R_bound h1) (fun k hk => hk.2.1)), Kd.R_F (Kd.R_mono (Kd.R_bound h2) (fun k hk => hk.2.1)), hb⟩
/-- What stands ahead of the comparison. -/
structure AB (w wr : World) (bs : Nat) (c : T) (A5 : Option Addr) (c5 : Nat) (cs : Array Value) : Prop where
  kn : wr.heap[w.heap.size]? = some (.cells #[.int .i64 0, .string divN, .string ⟨#[]⟩, .slice none 0 0, .slice A5 c.f4.length c5] 25 (0, 0))
  ks : wr.heap[bs]? = some (.cells cs 37 (0, 0))
  f4 : Kd.C k25 wr A5 c.f4.length c.f4
  l4 : c.f4.length ≤ c5
  on : Below w.heap.size w wr
theorem AB.moved {w wr w1 : World} {bs : Nat} {c : T} {A5 : Option Addr} {c5 : Nat} {cs : Array Value} (h : AB w wr bs c A5 c5 cs) (hb : Below wr.heap.size wr w1) : AB w w1 bs c A5 c5 cs :=
  ⟨(hb.block _ (blk_lt h.kn)).trans h.kn, (hb.block _ (blk_lt h.ks)).trans h.ks, Kd.C_below h.f4 hb, h.l4, h.on.trans (hb.mono h.on.size)⟩
theorem told_C {w w' : World} {u : T} {e : Ending} (h : Dom.Told w w' u e) : ∃ A3 c3 A4 c4, e = .returned (.agg #[.int .i64 u.f0, .string u.f1, .string u.f2, .slice A3 u.f3.length c3, .slice A4 u.f4.length c4]) ∧ Kd.C k53 w' A3 u.f3.length u.f3 ∧ u.f3.length ≤ c3 ∧ Kd.C k25 w' A4 u.f4.length u.f4 ∧ u.f4.length ≤ c4 ∧ Below w.heap.size w w' := by
  obtain ⟨A5, c5, A6, c6, rfl, m5, F5, m6, F6, hB, R5, N6⟩ := h
  exact ⟨A5, c5, A6, c6, rfl, Kd.F_now F5, m5, Kd.F_now F6, m6, hB⟩
theorem toldK_C {w w' : World} {u : T} {e : Ending} (h : Dom.ToldK w w' u e) : ∃ A3 c3 A4 c4, e = .returned (.agg #[.int .i64 u.f0, .string u.f1, .string u.f2, .slice A3 u.f3.length c3, .slice A4 u.f4.length c4]) ∧ Kd.C k53 w' A3 u.f3.length u.f3 ∧ u.f3.length ≤ c3 ∧ Kd.C k25 w' A4 u.f4.length u.f4 ∧ u.f4.length ≤ c4 ∧ Below w.heap.size w w' := by
  obtain ⟨A3, c3, A4, c4, rfl, h3, m4, N4, hB⟩ := h
  exact ⟨A3, c3, A4, c4, by rw [h3]; rfl, by rw [h3]; exact ⟨rfl, by simp, fun h => absurd h (Nat.lt_irrefl 0)⟩, by rw [h3]; exact Nat.zero_le _, Kd.F_now (Kd.N_F N4), m4, hB⟩
def SA : Srt := ⟨bkL, vdL, []⟩
set_option maxHeartbeats 8000000 in
set_option maxRecDepth 100000 in
theorem any_calls (t : T) (ht : FitX t) (w : World) (A3 : Option Addr) (c3 : Nat) (A4 : Option Addr) (c4 : Nat) (h3 : Kd.C k53 w A3 t.f3.length t.f3) (l3 : t.f3.length ≤ c3) (h4 : Kd.C k25 w A4 t.f4.length t.f4) (l4 : t.f4.length ≤ c4) :
    Calls Try.prog 7 #[.agg #[.int .i64 t.f0, .string t.f1, .string t.f2, .slice A3 t.f3.length c3, .slice A4 t.f4.length c4]] w fun e w' => e = .returned (.bool true) ∧ Below w.heap.size w w' := by
  obtain ⟨b1, e1⟩ := fits2_ev t ht.fit
  obtain ⟨kf, e1⟩ := Ev.rounds e1
  obtain ⟨hck, hcc, hcok, _, _⟩ := cutR_facts t ht
  have hna := cut_na hck
  have htx := cut_tx hck
  obtain ⟨W1, hW1⟩ : ∃ W1, W1 = w.alloc (.cells #[.int .i64 t.f0, .string t.f1, .string t.f2, .slice A3 t.f3.length c3, .slice A4 t.f4.length c4] 25) := ⟨_, rfl⟩
  have hb1 : Below w.heap.size w W1 := by rw [hW1]; exact below_alloc (Below.refl _ _) _
  have k1 : W1.heap[w.heap.size]? = some (.cells #[.int .i64 t.f0, .string t.f1, .string t.f2, .slice A3 t.f3.length c3, .slice A4 t.f4.length c4] 25 (0, 0)) := by rw [hW1]; exact heap_alloc_new _ _
  have HF := Aside0.mk (laws_zzFits2.calls kf t.f0 t.f1 t.f2 A3 c3 t.f3 A4 c4 t.f4 b1 W1 (Kd.C_below h3 hb1) l3 (Kd.C_below h4 hb1) l4 e1)
  have HCUT := Aside0.mk (fun (wx : World) (hb : Below W1.heap.size W1 wx) => cutR_calls t ht wx A3 c3 A4 c4 (Kd.C_below (Kd.C_below h3 hb1) hb) l3 (Kd.C_below (Kd.C_below h4 hb1) hb) l4)
  have K1 := Aside0.mk k1
  have HB1 := Aside0.mk hb1
  have HS := Aside0.mk sort_calls
  have c0 := blk_cell k1 0
  have c1 := blk_cell k1 1
  have c2 := blk_cell k1 2
  have c3' := blk_cell k1 3
  have c4' := blk_cell k1 4
  clear h3 h4 l3 l4 e1 k1 hb1 ht
  go_enter Try.func7, Try.ntmps7
  go_upto_region 1 with fail
  rw [← hW1]
  clear hW1
  cases b1 with
  | false =>
    go_wp2_with (go_at_call 9; go_must (refine HF.out.mono ?_; rintro e w2 ⟨rfl, hb2⟩; have HB2 := Aside0.mk hb2; clear hb2))
    go_ret
    exact ⟨rfl, below_step HB1.out HB2.out⟩
  | true =>
    go_upto_region 3 with (go_at_call 9; go_must (refine HF.out.mono ?_; rintro e w2 ⟨rfl, hb2⟩; have HB2 := Aside0.mk hb2; have k2 := (hb2.block _ (blk_lt K1.out)).trans K1.out; have K2 := Aside0.mk k2; have c0 := blk_cell k2 0; have c1 := blk_cell k2 1; have c2 := blk_cell k2 2; have c3' := blk_cell k2 3; have c4' := blk_cell k2 4; have HC2 := Aside0.mk (HCUT.out w2 hb2); clear hb2 k2))
    go_upto_region 4 with (go_at_call 10; go_must (refine HC2.out.mono ?_; rintro e w3 ⟨A5, c5, rfl, N5, hb3⟩; have k3 := (hb3.block _ (blk_lt K2.out)).trans K2.out; have K3 := Aside0.mk k3; have g0 := blk_frozen k3 0; have g1 := blk_frozen k3 1; have g2 := blk_frozen k3 2; have g3 := blk_frozen k3 3; have g4 := blk_frozen k3 4; have c0 := blk_cell k3 0; have c1 := blk_cell k3 1; have c2 := blk_cell k3 2; have c3' := blk_cell k3 3; have c4' := blk_cell k3 4; have HN5 := Aside0.mk N5; have HB3 := Aside0.mk hb3; clear N5 hb3 k3))
    have hlc : (cutR t).f4.length ≤ c5 := (Kd.N_reads' HN5.out).2.1
    have hlt2 := blk_lt K2.out
    have k4 := sets5_box K3.out (.int .i64 0) (.string divN) (.string ⟨#[]⟩) (.slice none 0 0) (.slice A5 (cutR t).f4.length c5)
    have hs4 := fun k (hk : k ≠ w.heap.size) => sets5 w3 w.heap.size (.int .i64 0) (.string divN) (.string ⟨#[]⟩) (.slice none 0 0) (.slice A5 (cutR t).f4.length c5) k hk
    have F4 := Kd.F_step (Kd.N_F HN5.out) (fun k hk _ => hs4 k (by omega))
    have hb4 : Below w.heap.size w (((((w3.setCell ⟨w.heap.size, 0, none⟩ (.int .i64 0)).setCell ⟨w.heap.size, 1, none⟩ (.string divN)).setCell ⟨w.heap.size, 2, none⟩ (.string ⟨#[]⟩)).setCell ⟨w.heap.size, 3, none⟩ (.slice none 0 0)).setCell ⟨w.heap.size, 4, none⟩ (.slice A5 (cutR t).f4.length c5)) :=
      Below.setCell (Below.setCell (Below.setCell (Below.setCell (Below.setCell (below_step (below_step HB1.out HB2.out) HB3.out) (p := ⟨w.heap.size, 0, none⟩) (Nat.le_refl _) _) (p := ⟨w.heap.size, 1, none⟩) (Nat.le_refl _) _) (p := ⟨w.heap.size, 2, none⟩) (Nat.le_refl _) _) (p := ⟨w.heap.size, 3, none⟩) (Nat.le_refl _) _) (p := ⟨w.heap.size, 4, none⟩) (Nat.le_refl _) _
    clear g0 g1 g2 g3 g4 c0 c1 c2 c3' c4' hs4 HN5 K3 HB3 HC2 HCUT HF
    generalize (((((w3.setCell ⟨w.heap.size, 0, none⟩ (.int .i64 0)).setCell ⟨w.heap.size, 1, none⟩ (.string divN)).setCell ⟨w.heap.size, 2, none⟩ (.string ⟨#[]⟩)).setCell ⟨w.heap.size, 3, none⟩ (.slice none 0 0)).setCell ⟨w.heap.size, 4, none⟩ (.slice A5 (cutR t).f4.length c5)) = w4 at k4 F4 hb4 ⊢
    have K4 := Aside0.mk k4
    have HF4 := Aside0.mk F4
    have HB4 := Aside0.mk hb4
    clear k4 F4 hb4
    go_upto_region 5 with (go_at_call 21; go_must (refine (HS.out _).mono ?_; rintro e w5 ⟨B1, B2, B3, d1, d2, d3, rfl, r1, r2, r3, hb5⟩; have R1 := Aside0.mk r1; have R2 := Aside0.mk r2; have HB5 := Aside0.mk hb5; clear r1 r2 r3 hb5))
    have hk6 := heap_alloc_new w5 (.cells #[.slice B1 bkL.length d1, .slice B2 vdL.length d2, .slice B3 prL.length d3] 37)
    have hb6 := below_alloc (Below.refl w5.heap.size w5) (.cells #[.slice B1 bkL.length d1, .slice B2 vdL.length d2, .slice B3 prL.length d3] 37)
    generalize w5.alloc (.cells #[.slice B1 bkL.length d1, .slice B2 vdL.length d2, .slice B3 prL.length d3] 37) = w6 at hk6 hb6 ⊢
    have K6 := Aside0.mk hk6
    have HB6 := Aside0.mk hb6
    have g2 := blk_frozen hk6 2
    have s2 := blk_cell hk6 2
    clear hk6 hb6
    go_upto_region 6 with fail
    have hs7 := fun k (hk : k ≠ w5.heap.size) => Below.heap_setCell w6 ⟨w5.heap.size, 2, none⟩ (.slice none 0 0) k hk
    have h45 := HB5.out.size
    have h44 := HB4.out.size
    have h4lt := blk_lt K4.out
    have hb456 := below_step HB5.out HB6.out
    have h5lt : w5.heap.size < w6.heap.size := blk_lt K6.out
    have hto7 : ∀ k, k < w4.heap.size → (w6.setCell ⟨w5.heap.size, 2, none⟩ (.slice none 0 0)).heap[k]? = w4.heap[k]? := fun k hk => (hs7 k (by omega)).trans (hb456.block k hk)
    have hto5 : ∀ k, k < w5.heap.size → (w6.setCell ⟨w5.heap.size, 2, none⟩ (.slice none 0 0)).heap[k]? = w5.heap[k]? := fun k hk => (hs7 k (by omega)).trans (HB6.out.block k hk)
    have HAB := Aside0.mk (show AB w (w6.setCell ⟨w5.heap.size, 2, none⟩ (.slice none 0 0)) w5.heap.size (cutR t) A5 c5 #[.slice B1 bkL.length d1, .slice B2 vdL.length d2, .slice none 0 0] from
      ⟨(hto7 _ h4lt).trans K4.out, blk_set K6.out 2 _, Kd.F_now (Kd.F_step (Kd.F_bound HF4.out) (fun k hk _ => hto7 k hk.2)), hlc, (HB4.out.trans (hb456.mono (by omega))).setCell (p := ⟨w5.heap.size, 2, none⟩) (by show _ ≤ w5.heap.size; omega) _⟩)
    have HR1 := Aside0.mk (Kd.F_now (Kd.F_step (Kd.F_bound R1.out) (fun k hk _ => hto5 k hk.2)))
    have HR2 := Aside0.mk (Kd.F_now (Kd.F_step (Kd.F_bound R2.out) (fun k hk _ => hto5 k hk.2)))
    clear g2 s2 hs7 h45 h44 h4lt hb456 h5lt hto7 hto5 hlc hlt2 K6 HB6 R1 R2 K4 HF4 HB4 HB5 HS K2 HB2 K1 HB1 c0 c1 c2 c3' c4' e1
    generalize w6.setCell ⟨w5.heap.size, 2, none⟩ (.slice none 0 0) = w7 at HAB HR1 HR2 ⊢
    generalize w5.heap.size = bs at *
    obtain ⟨c, hc⟩ : ∃ c, c = cutR t := ⟨_, rfl⟩
    rw [← hc] at HAB hck hcc hcok hna htx ⊢
    have hc0 : c.f0 = 0 := by rw [hc]; rfl
    have hc1 : c.f1 = divN := by rw [hc]; rfl
    have hc2 : c.f2 = ⟨#[]⟩ := by rw [hc]; rfl
    have hc3 : c.f3 = [] := by rw [hc]; rfl
    -- the calls
    have HCOL := Aside0.mk (fun (u : T) (X3 : Option Addr) (x3 : Nat) (X4 : Option Addr) (x4 : Nat) (hok : okT u = true) (htx : txB u = true) (h0 : u.f0 = 0) (hct : countT u ≤ 1000000) (wx : World) (hb : Below w7.heap.size w7 wx) (g3 : Kd.C k53 wx X3 u.f3.length u.f3) (m3 : u.f3.length ≤ x3) (g4 : Kd.C k25 wx X4 u.f4.length u.f4) (m4 : u.f4.length ≤ x4) =>
      col_calls u hok htx h0 hct SA (by decide) (by decide) (by decide) wx X3 x3 X4 x4 B1 B2 none d1 d2 0 g3 m3 g4 m4 (Kd.C_below HR1.out hb) (Kd.C_below HR2.out hb) (Kd.C_nil _ _))
    have HC1 := Aside0.mk (fun (wx : World) (hb : Below w7.heap.size w7 wx) => HCOL.out c none 0 A5 c5 hcok htx hc0 (by omega) wx hb (by rw [hc3]; exact Kd.C_nil _ _) (by rw [hc3]; exact Nat.le_refl _) (Kd.C_below HAB.out.f4 hb) HAB.out.l4)
    have HSP := Aside0.mk (fun (wx : World) (hb : Below w7.heap.size w7 wx) => spc_calls _ c (Nat.le_refl _) hcok htx hna (by omega) wx (fun k => k < wx.heap.size) none 0 A5 c5 (fun k hk => hk) (Kd.C_F k25_heap (Kd.C_below HAB.out.f4 hb)) HAB.out.l4)
    rw [hc0, hc1, hc2, hc3] at HC1 HSP
    have hsp0 : (spcT c).f0 = 0 := by cases c; exact hc0
    have HC2 := Aside0.mk (fun (X3 : Option Addr) (x3 : Nat) (X4 : Option Addr) (x4 : Nat) => HCOL.out (spcT c) X3 x3 X4 x4 (spc_ok c hcok) (spc_tx c htx) hsp0 (by rw [spc_count]; omega))
    have heq := col_spc SA rfl c hcok hc0
    rw [heq] at HC2
    have huok := col_ok SA c hcok
    generalize spcT c = sc at *
    generalize hu : colT SA c = u at *
    obtain ⟨ks, hks⟩ := Ev.rounds (same_ev u (ok_fit u huok))
    have HSAME := Aside0.mk (fun (X3 : Option Addr) (x3 : Nat) (X4 : Option Addr) (x4 : Nat) (Y3 : Option Addr) (y3 : Nat) (Y4 : Option Addr) (y4 : Nat) (wx : World) (g3 : Kd.C k53 wx X3 u.f3.length u.f3) (m3 : u.f3.length ≤ x3) (g4 : Kd.C k25 wx X4 u.f4.length u.f4) (m4 : u.f4.length ≤ x4) (i3 : Kd.C k53 wx Y3 u.f3.length u.f3) (n3 : u.f3.length ≤ y3) (i4 : Kd.C k25 wx Y4 u.f4.length u.f4) (n4 : u.f4.length ≤ y4) =>
      spec_SameTree.calls ks u.f0 u.f1 u.f2 X3 x3 u.f3 X4 x4 u.f4 u.f0 u.f1 u.f2 Y3 y3 u.f3 Y4 y4 u.f4 true wx g3 m3 g4 m4 i3 n3 i4 n4 hks)
    have HLV := Aside0.mk (fun (wx : World) => laws_inlineLives.calls 0 true wx rfl)
    clear hck hcc hcok hna htx hc hc0 hc1 hc2 hc3 hsp0 heq huok hu hks HCOL
    have n0 := blk_cell HAB.out.kn 0
    have n1 := blk_cell HAB.out.kn 1
    have n2 := blk_cell HAB.out.kn 2
    have n3 := blk_cell HAB.out.kn 3
    have n4 := blk_cell HAB.out.kn 4
    have s0 := blk_cell HAB.out.ks 0
    have s1 := blk_cell HAB.out.ks 1
    have s2 := blk_cell HAB.out.ks 2
    go_region_law (first
      | (go_simp; go_at_call_has 23 A5; refine (HC1.out _ (by first | exact (Below.refl _ _) | exact below_drew (Below.refl _ _) | exact below_drew (below_drew (Below.refl _ _)))).mono ?_; rintro e w8 h8; obtain ⟨X3, x3, X4, x4, rfl, g3, m3, g4, m4, hb8⟩ := told_C h8; have H78 := Aside0.mk (below_step (show Below w7.heap.size w7 _ from (by first | exact (Below.refl _ _) | exact below_drew (Below.refl _ _) | exact below_drew (below_drew (Below.refl _ _)))) hb8); have hab8 := HAB.out.moved H78.out; have n0 := blk_cell hab8.kn 0; have n1 := blk_cell hab8.kn 1; have n2 := blk_cell hab8.kn 2; have n3 := blk_cell hab8.kn 3; have n4 := blk_cell hab8.kn 4; have s0 := blk_cell hab8.ks 0; have s1 := blk_cell hab8.ks 1; have s2 := blk_cell hab8.ks 2; have hd_ := hab8.moved (below_drew (Below.refl _ _)); have nd0 := blk_cell hd_.kn 0; have nd1 := blk_cell hd_.kn 1; have nd2 := blk_cell hd_.kn 2; have nd3 := blk_cell hd_.kn 3; have nd4 := blk_cell hd_.kn 4; have sd0 := blk_cell hd_.ks 0; have sd1 := blk_cell hd_.ks 1; have sd2 := blk_cell hd_.ks 2; clear hd_; have HAB8 := Aside0.mk hab8; have G3 := Aside0.mk g3; have M3 := Aside0.mk m3; have G4 := Aside0.mk g4; have M4 := Aside0.mk m4; clear h8 g3 m3 g4 m4 hb8 hab8)
      | (go_simp; go_at_call 25; refine (HSP.out _ (by first | exact H78.out | exact below_drew H78.out | exact below_drew (below_drew H78.out))).mono ?_; rintro e w9 h9; obtain ⟨Y3, y3, Y4, y4, rfl, i3, o3, i4, o4, hb9⟩ := toldK_C h9; have H89 := Aside0.mk (below_step (show Below w8.heap.size w8 _ from (by first | exact (Below.refl _ _) | exact below_drew (Below.refl _ _) | exact below_drew (below_drew (Below.refl _ _)))) hb9); have H79 := Aside0.mk (below_step H78.out H89.out); have hab9 := HAB8.out.moved H89.out; have n0 := blk_cell hab9.kn 0; have n1 := blk_cell hab9.kn 1; have n2 := blk_cell hab9.kn 2; have n3 := blk_cell hab9.kn 3; have n4 := blk_cell hab9.kn 4; have s0 := blk_cell hab9.ks 0; have s1 := blk_cell hab9.ks 1; have s2 := blk_cell hab9.ks 2; have hd_ := hab9.moved (below_drew (Below.refl _ _)); have nd0 := blk_cell hd_.kn 0; have nd1 := blk_cell hd_.kn 1; have nd2 := blk_cell hd_.kn 2; have nd3 := blk_cell hd_.kn 3; have nd4 := blk_cell hd_.kn 4; have sd0 := blk_cell hd_.ks 0; have sd1 := blk_cell hd_.ks 1; have sd2 := blk_cell hd_.ks 2; clear hd_; have I3 := Aside0.mk i3; have O3 := Aside0.mk o3; have I4 := Aside0.mk i4; have O4 := Aside0.mk o4; clear h9 i3 o3 i4 o4 hb9 hab9)
      | (go_simp; go_at_call_has 23 Y4; refine (HC2.out Y3 y3 Y4 y4 _ (by first | exact H79.out | exact below_drew H79.out | exact below_drew (below_drew H79.out)) (Kd.C_below I3.out (by first | exact (Below.refl _ _) | exact below_drew (Below.refl _ _) | exact below_drew (below_drew (Below.refl _ _)))) O3.out (Kd.C_below I4.out (by first | exact (Below.refl _ _) | exact below_drew (Below.refl _ _) | exact below_drew (below_drew (Below.refl _ _)))) O4.out).mono ?_; rintro e w10 h10; obtain ⟨Z3, z3, Z4, z4, rfl, j3, q3, j4, q4, hb10⟩ := told_C h10; have H910 := Aside0.mk (below_step (show Below w9.heap.size w9 _ from (by first | exact (Below.refl _ _) | exact below_drew (Below.refl _ _) | exact below_drew (below_drew (Below.refl _ _)))) hb10); have H810 := Aside0.mk (below_step H89.out H910.out); have H710 := Aside0.mk (below_step H79.out H910.out); have J3 := Aside0.mk j3; have Q3 := Aside0.mk q3; have J4 := Aside0.mk j4; have Q4 := Aside0.mk q4; clear h10 j3 q3 j4 q4 hb10)
      | (go_simp; go_at_call 14; refine (HSAME.out X3 x3 X4 x4 Z3 z3 Z4 z4 _ (Kd.C_below G3.out (by first | exact H810.out | exact below_drew H810.out | exact below_drew (below_drew H810.out))) M3.out (Kd.C_below G4.out (by first | exact H810.out | exact below_drew H810.out | exact below_drew (below_drew H810.out))) M4.out (Kd.C_below J3.out (by first | exact (Below.refl _ _) | exact below_drew (Below.refl _ _) | exact below_drew (below_drew (Below.refl _ _)))) Q3.out (Kd.C_below J4.out (by first | exact (Below.refl _ _) | exact below_drew (Below.refl _ _) | exact below_drew (below_drew (Below.refl _ _)))) Q4.out).mono ?_; rintro e w11 ⟨rfl, hb11⟩; have H711 := Aside0.mk (below_step (show Below w7.heap.size w7 _ from (by first | exact H710.out | exact below_drew H710.out | exact below_drew (below_drew H710.out))) hb11); clear hb11)
      | (go_simp; go_at_call 15; refine (HLV.out _).mono ?_; rintro e w12 ⟨rfl, hb12⟩; have H712 := Aside0.mk (below_step (show Below w7.heap.size w7 _ from (by first | exact H711.out | exact below_drew H711.out | exact below_drew (below_drew H711.out))) hb12); clear hb12))
    all_goals (simp only [Exit.then]; go_wp2_with fail; go_ret)
    all_goals exact ⟨rfl, HAB.out.on.trans (H712.out.mono HAB.out.on.size)⟩
end Go.Proofs.Ytmfjbljdbkmkgaa.PDom

/- FnCollapseAny: the law's walk for trees that fit. -/
namespace Go.Proofs.Ytmfjbljdbkmkgaa.PDom
open Go.RowKit Go.Proofs.YtmfjbljdbkmkgaaW.PrintWords Go.Proofs.YtmfjbljdbkmkgaaW.PrintLast Go.Proofs.YtmfjbljdbkmkgaaW.PrintMore Go.Proofs.Ytmfjbljdbkmkgaa.Dom Go.Proofs.Ytmfjbljdbkmkgaa.Txt
set_option linter.unusedVariables false
set_option linter.unusedSimpArgs false

theorem row_calls_any (t : T) (A3 : Option Addr) (c3 : Nat) (A4 : Option Addr) (c4 : Nat) (w : World) (ht : FitX t) (h3 : Kd.C k53 w A3 t.f3.length t.f3) (l3 : t.f3.length ≤ c3) (h4 : Kd.C k25 w A4 t.f4.length t.f4) (l4 : t.f4.length ≤ c4) :
    Calls Try.prog 7 #[.agg #[.int .i64 t.f0, .string t.f1, .string t.f2, .slice A3 t.f3.length c3, .slice A4 t.f4.length c4]] w fun e w' => e = .returned (.bool true) ∧ Below w.heap.size w w' :=
  any_calls t ht w A3 c3 A4 c4 h3 l3 h4 l4
end Go.Proofs.Ytmfjbljdbkmkgaa.PDom

/- Arguments opened: what the reading of a datum says of memory, for texts, numbers, slices and structs, and how large they are. Each as large as a row's reach allows. -/
namespace Go.Proofs.Ytmfjbljdbkmkgaa.Open
open Go.RowKit Go.ChangeShapes Go.WideShapes Go.Proofs.YtmfjbljdbkmkgaaW.PrintWords Go.Proofs.YtmfjbljdbkmkgaaW.PrintLast Go.Proofs.YtmfjbljdbkmkgaaW.PrintMore

/-- A datum of type t that is read within the fuel tells a value of kind k in memory, and the value is Good. -/
def Opens {α : Type} (P : Program) (t : TypeId) (k : Kd α) (Good : α → Prop) (fuel : Nat) : Prop :=
  ∀ (H : Type) (enc : TypeId × Value → H) (W : World) (base : Nat) (spare : Nat → Bool) (held : Bool) (cs : List Value) (x : DataW H × List MemPlace),
    DataW.trod enc P W base spare held fuel t cs = some x → (∀ n ∈ x.1.weights P t, n ≤ reachBytes) → ∃ y, k.K W y cs ∧ Good y

theorem opens_string {P : Program} {t : TypeId} (ht : P.underlying t = some .string) (fuel : Nat) : Opens P t Kd.string (fun s => s.size ≤ 140737488351232) fuel := by
  intro H enc W base spare held cs x h hw
  obtain ⟨s, rfl, rfl, _⟩ := DataW.trod_string ht h
  refine ⟨s, rfl, ?_⟩
  have := hw s.data.toList.length (by simp [DataW.weights])
  rw [Array.length_toList] at this
  exact this
theorem opens_int {P : Program} {t : TypeId} {k : IntKind} (ht : P.underlying t = some (.int k)) (fuel : Nat) : Opens P t (Kd.int k) (fun n => (Lit.int k n).wf = true) fuel := by
  intro H enc W base spare held cs x h hw
  obtain ⟨n, rfl, rfl, hwf⟩ := DataW.trod_int ht h
  exact ⟨n, rfl, hwf⟩

theorem weights_all {H : Type} {P : Program} {e : TypeId} : ∀ {ds : List (DataW H)} {d : DataW H}, d ∈ ds → ∀ n ∈ d.weights P e, n ∈ DataW.weightsAll P e ds
  | d0 :: ds, d, hd, n, hn => by
    simp only [DataW.weightsAll, List.mem_append]
    rcases List.mem_cons.1 hd with rfl | hd
    · exact .inl hn
    · exact .inr (weights_all hd n hn)
theorem addr_add (a : Addr) (i j : Nat) : (a.add i).add j = a.add (i + j) := by
  unfold Addr.add
  by_cases h1 : i = 0 <;> by_cases h2 : j = 0 <;> simp [h1, h2, Nat.add_assoc]

theorem opens_slice {α : Type} {P : Program} {t e : TypeId} {k : Kd α} {Good : α → Prop} (ht : P.underlying t = some (.slice e)) (hc : P.cellsOf e = k.sz) {B : Nat} (hB : P.bytesOf e = B) (fuel : Nat) (he : ∀ n, n < fuel → Opens P e k Good n) :
    Opens P t (Kd.slice e k) (fun xs => xs.length * B ≤ 140737488351232 ∧ ∀ x ∈ xs, Good x) fuel := by
  intro H enc W base spare held cs x h hw
  rcases DataW.trod_slice ht h with ⟨rfl, rfl⟩ | ⟨a, len, cap, elems, rest, n, rfl, rfl, rfl, hb, hl, hm, hlen, hel, hsp, hns⟩
  · exact ⟨[], ⟨none, 0, rfl, Nat.le_refl _, Kd.C_nil _ _⟩, by simp, fun _ h => by cases h⟩
  · have hwt : (elems.length + rest.length) * B ≤ reachBytes := by
      refine hw _ ?_
      simp only [DataW.weights, ht, List.length_map, hB]
      exact List.mem_cons_self ..
    have each : ∀ i, i < len → ∃ y : α, Good y ∧ ∃ c : List Value, c.length = k.sz ∧ k.K W y c ∧ ∀ j u, c[j]? = some u → W.cell? (a.add (i * k.sz + j)) = some u := by
      intro i hi
      have h1 := hel i hi
      rw [hc, List.getElem?_eq_getElem (by omega)] at h1
      obtain ⟨c, hcs, hy⟩ := Option.bind_eq_some_iff.1 h1
      obtain ⟨_, hcl, hcc⟩ := World.cells?_some hcs
      obtain ⟨y, hK, hG⟩ := he n (by omega) H enc W base spare held c _ hy (fun q hq => hw q (by
        simp only [DataW.weights, ht, List.mem_cons, List.mem_append]
        exact .inr (.inl (weights_all (List.mem_map.2 ⟨elems[i], List.getElem_mem _, rfl⟩) q hq))))
      refine ⟨y, hG, c, hcl, hK, fun j u hu => ?_⟩
      have hj : j < k.sz := by have := (List.getElem?_eq_some_iff.1 hu).1; omega
      have h2 := hcc j hj
      rw [addr_add] at h2
      rw [h2]
      exact hu
    let ys : List α := List.ofFn fun i : Fin len => Classical.choose (each i i.isLt)
    have hyl : ys.length = len := List.length_ofFn
    have hyg : ∀ (i : Nat) (hi : i < len), ys[i]'(by omega) = Classical.choose (each i hi) := fun i hi => by simp [ys]
    refine ⟨ys, ⟨some a, cap, by rw [hyl], by omega, rfl, ?_, fun hp => ⟨a, rfl, fun j p hj => ?_⟩⟩, ?_, fun y hy => ?_⟩
    · rw [hyl]
      simp only [maxLen] at hm
      omega
    · obtain ⟨hjl, rfl⟩ := List.getElem?_eq_some_iff.1 hj
      have h1 := Classical.choose_spec (each j (by omega))
      rw [hyg j (by omega)]
      exact h1.2
    · rw [hyl]
      refine Nat.le_trans (Nat.mul_le_mul_right _ ?_) hwt
      omega
    · obtain ⟨i, hi, rfl⟩ := List.getElem_of_mem hy
      rw [hyg i (by omega)]
      exact (Classical.choose_spec (each i (by omega))).1

/-- Fields one behind the other, from the cell with number o on. -/
def OpensFs {β : Type} (P : Program) (fs : List Field) (o : Nat) (k : Kd β) (Good : β → Prop) (fuel : Nat) : Prop :=
  ∀ (H : Type) (enc : TypeId × Value → H) (W : World) (base : Nat) (spare : Nat → Bool) (held : Bool) (cs : List Value) (xs : List (DataW H × List MemPlace)), xs.length = fs.length →
    (∀ (i : Nat) (f : Field), fs[i]? = some f → DataW.trod enc P W base spare held fuel f.type ((cs.drop f.offset).take (P.cellsOf f.type)) = xs[i]?) →
    (∀ (i : Nat) (f : Field) (x : DataW H × List MemPlace), fs[i]? = some f → xs[i]? = some x → ∀ n ∈ x.1.weights P f.type, n ≤ reachBytes) → cs.length = o + k.sz → ∃ y, k.K W y (cs.drop o) ∧ Good y
theorem opens_last {β : Type} {P : Program} {f : Field} {o : Nat} {k : Kd β} {Good : β → Prop} {fuel : Nat} (ho : f.offset = o) (hc : P.cellsOf f.type = k.sz) (h : Opens P f.type k Good fuel) : OpensFs P [f] o k Good fuel := by
  intro H enc W base spare held cs xs hl hx hw hcs
  obtain ⟨x, rfl⟩ : ∃ x, xs = [x] := List.length_eq_one_iff.1 hl
  have h1 := hx 0 f rfl
  rw [ho, hc, List.take_of_length_le (by rw [List.length_drop]; omega)] at h1
  exact h H enc W base spare held _ x h1 (hw 0 f x rfl rfl)
theorem opens_cons {α β : Type} {P : Program} {f : Field} {fs : List Field} {o : Nat} {k : Kd α} {k2 : Kd β} {Good : α → Prop} {Good2 : β → Prop} {fuel : Nat} (ho : f.offset = o) (hc : P.cellsOf f.type = k.sz) (h : Opens P f.type k Good fuel) (h2 : OpensFs P fs (o + k.sz) k2 Good2 fuel) :
    OpensFs P (f :: fs) o (Kd.pair k k2) (fun y => Good y.1 ∧ Good2 y.2) fuel := by
  intro H enc W base spare held cs xs hl hx hw hcs
  cases xs with
  | nil => simp at hl
  | cons x xs =>
    have h1 := hx 0 f rfl
    rw [ho, hc] at h1
    obtain ⟨y1, hK1, hG1⟩ := h H enc W base spare held _ x h1 (hw 0 f x rfl rfl)
    have hsz : (Kd.pair k k2).sz = k.sz + k2.sz := rfl
    obtain ⟨y2, hK2, hG2⟩ := h2 H enc W base spare held cs xs (by simpa using hl) (fun i g hg => by have := hx (i + 1) g (by simpa using hg); simpa using this)
      (fun i g z hg hz => hw (i + 1) g z (by simpa using hg) (by simpa using hz)) (by omega)
    refine ⟨(y1, y2), ⟨(cs.drop o).take k.sz, cs.drop (o + k.sz), ?_, hK1, hK2⟩, hG1, hG2⟩
    rw [← List.drop_drop, List.take_append_drop]
theorem opens_struct {α β : Type} {P : Program} {t : TypeId} {fs : Array Field} {k : Kd β} {Good : β → Prop} {fuel : Nat} (ht : P.underlying t = some (.struct fs)) (hc : P.cellsOf t = k.sz) (f : α → β) (g : β → α) (hfg : ∀ y, f (g y) = y) (h : ∀ n, n < fuel → OpensFs P fs.toList 0 k Good n) :
    Opens P t (Kd.iso k f) (fun x => Good (f x)) fuel := by
  intro H enc W base spare held cs x hx hw
  obtain ⟨xs, n, rfl, rfl, hcl, hl, hf⟩ := DataW.trod_struct ht hx
  obtain ⟨y, hK, hG⟩ := h n (by omega) H enc W base spare held cs xs (by simpa using hl) (fun i g hg => hf i g (by simpa using hg)) (fun i q z hq hz m hm => hw m (by
    simp only [DataW.weights, ht]
    exact DataW.weights_mem_each (j := i) (t := q.type) (d := z.1) (by simp only [List.getElem?_map, hq]; rfl) (by simp only [List.getElem?_map, hz]; rfl) m hm)) (by omega)
  rw [List.drop_zero] at hK
  refine ⟨g y, ?_, by show Good (f (g y)); rw [hfg]; exact hG⟩
  show k.K W (f (g y)) cs
  rw [hfg]
  exact hK

end Go.Proofs.Ytmfjbljdbkmkgaa.Open

/- As OpenT, with the sizes of texts. A tree that comes in as an argument: what it reads as in memory, and that it fits. -/
namespace Go.Proofs.Ytmfjbljdbkmkgaa.PDom
open Go.RowKit Go.ChangeShapes Go.WideShapes Go.Proofs.YtmfjbljdbkmkgaaW.PrintWords Go.Proofs.YtmfjbljdbkmkgaaW.PrintLast Go.Proofs.YtmfjbljdbkmkgaaW.PrintMore Go.Proofs.Ytmfjbljdbkmkgaa.Dom Go.Proofs.Ytmfjbljdbkmkgaa.Open
set_option linter.unusedVariables false
set_option linter.unusedSimpArgs false

theorem opens_attr (fuel : Nat) : Opens Try.prog 53 k53 (fun _ => True) fuel := by
  have h := opens_struct (α := S53) (fuel := fuel) Try.underlying53 (by kernel_rfl) (fun x : S53 => (x.f0, x.f1)) (fun y => ⟨y.1, y.2⟩) (fun _ => rfl)
    (fun n _ => opens_cons (P := Try.prog) (o := 0) rfl (by kernel_rfl) (opens_string Try.underlying9 n) (opens_last (o := 1) rfl (by kernel_rfl) (opens_string Try.underlying9 n)))
  intro H enc W base spare held cs x hx hw
  obtain ⟨y, hK, _⟩ := h H enc W base spare held cs x hx hw
  exact ⟨y, hK, trivial⟩
theorem opens_T (fuel : Nat) : Opens Try.prog 25 k25 FitX fuel := by
  induction fuel using Nat.strongRecOn with
  | _ fuel ih =>
    have h := opens_struct (α := T) (fuel := fuel) Try.underlying25 (by kernel_rfl) (fun x : T => (x.f0, x.f1, x.f2, x.f3, x.f4)) (fun y => ⟨y.1, y.2.1, y.2.2.1, y.2.2.2.1, y.2.2.2.2⟩) (fun _ => rfl)
      (fun n hn => opens_cons (P := Try.prog) (o := 0) rfl (by kernel_rfl) (opens_int (k := .i64) Try.underlying3 n)
        (opens_cons (o := 1) rfl (by kernel_rfl) (opens_string Try.underlying9 n) (opens_cons (o := 2) rfl (by kernel_rfl) (opens_string Try.underlying9 n)
          (opens_cons (o := 3) rfl (by kernel_rfl) (opens_slice (k := k53) Try.underlying22 (by kernel_rfl) (B := 32) (by kernel_rfl) n (fun m _ => opens_attr m))
            (opens_last (o := 4) rfl (by kernel_rfl) (opens_slice (k := k25) Try.underlying23 (by kernel_rfl) (B := 88) (by kernel_rfl) n (fun m hm => ih m (by omega))))))))
    intro H enc W base spare held cs x hx hw
    obtain ⟨y, hK, hG⟩ := h H enc W base spare held cs x hx hw
    obtain ⟨_, _, rfl, rfl, ⟨_, _, rfl, rfl, ⟨_, _, rfl, rfl, ⟨_, _, rfl, ⟨A3, c3, rfl, l3, g3⟩, ⟨A4, c4, rfl, l4, g4⟩⟩⟩⟩⟩ := hK
    obtain ⟨_, hn, hx2, ⟨ha, _⟩, ⟨hb, hy⟩⟩ := hG
    have ha2 : y.f3.length * 32 ≤ 140737488351232 := ha
    have hb2 : y.f4.length * 88 ≤ 140737488351232 := hb
    exact ⟨y, k25_mk W y l3 g3 l4 g4, FitX.mk y hn hx2 (by omega) (by omega) hy⟩
theorem open_T {H : Type} {enc : TypeId × Value → H} {W : World} {base : Nat} {spare : Nat → Bool} {held : Bool} {v : Value} {d : DataW H} {ps : List MemPlace} {ts : List TypeId} {ds : List (DataW H)} {j : Nat} {t : TypeId} (e : t = 25)
    (hd : DataW.Trod enc Try.prog W base spare held t v d ps) (hsz : (DataW.weightsEach Try.prog ts ds).all (· ≤ reachBytes) = true) (ht : ts[j]? = some t) (hdj : ds[j]? = some d) :
    ∃ (y : T) (A3 : Option Addr) (c3 : Nat) (A4 : Option Addr) (c4 : Nat), FitX y ∧ v.cells.toList = [.int .i64 y.f0, .string y.f1, .string y.f2, .slice A3 y.f3.length c3, .slice A4 y.f4.length c4] ∧ k53.C W A3 y.f3.length y.f3 ∧ y.f3.length ≤ c3 ∧ k25.C W A4 y.f4.length y.f4 ∧ y.f4.length ≤ c4 := by
  subst e
  obtain ⟨fuel, hf⟩ := hd
  obtain ⟨y, hK, hG⟩ := opens_T fuel H enc W base spare held _ _ hf (fun n hn => by
    have := List.all_eq_true.1 hsz n (DataW.weights_mem_each ht hdj n hn)
    simpa using this)
  obtain ⟨A3, c3, A4, c4, hcs, l3, g3, l4, g4⟩ := k25_open hK
  exact ⟨y, A3, c3, A4, c4, hG, hcs, g3, l3, g4, l4⟩
end Go.Proofs.Ytmfjbljdbkmkgaa.PDom

/- The row of the law FnCollapseAny, out of its walk. No further conditions. -/
namespace Go.Proofs.Ytmfjbljdbkmkgaa.fnCollapseAny
open Go.ChangeShapes Go.WideShapes Go.ChangeAt Go.RowKit
open Go.ChangeMaps (open_string shut_string)
open Go.Proofs.Ytmfjbljdbkmkgaa.PDom
set_option linter.unusedVariables false
theorem own : ownKnob Try.prog.godebug = none := by kernel_rfl
theorem laidOut : laidOutB Try.prog = true := by kernel_rfl
set_option maxRecDepth 100000 in
theorem lifted (os : Os) (started : os.Started) (H : Type) (enc : TypeId × Value → H) :
    ReturnsInHanded {} Try.checked os 7 .any (Rows.fnCollapseAnySpec.pre6 enc Try.prog Try.f7 Rows.fnCollapseAnyRow.domain false) (Rows.fnCollapseAnySpec.post enc Try.prog Try.f7 false true false false) := by
  refine returnsInHanded_of_change_sized (C := Try.checked) own started (by kernel_rfl) Try.func7
    (ChangeSpec.witness6 (enc := enc) (C := Try.checked) false ⟨#[], #[.agg #[.int .i64 0, .string ByteArray.empty, .string ByteArray.empty, .slice none 0 0, .slice none 0 0]], []⟩ 8 (by kernel_rfl) (by kernel_rfl) (by kernel_rfl) (by kernel_rfl)) ?_
  intro W base args ds gs before hval0 hW hcnd hsz0 _
  have hsz : (DataW.weightsEach Try.prog (Try.f7.params.toList ++ Rows.fnCollapseAnySpec.plain.varTypes Try.prog) (ds ++ gs)).all (· ≤ reachBytes) = true := hsz0
  have hval : ∀ (j : Nat) t v, Try.f7.params[j]? = some t → args[j]? = some v → Value.okWide Try.prog W .any base t v := hval0
  have hW' := hW
  obtain ⟨p, q, hA0, hV, rfl, hfz, hnd⟩ := hW
  have hA : DataW.TrodAll enc Try.prog W 0 (fun _ => true) true Try.f7.params.toList args.toList ds p := hA0
  rw [Try.params7] at hA hval hsz
  obtain ⟨v0, vs0, d0, ds0, p0, q0, hargs, rfl, rfl, h0, r0⟩ := trodAll_cons hA
  obtain ⟨rfl, rfl, rfl⟩ := trodAll_nil r0
  obtain rfl : args = #[v0] := by cases args; simp_all
  obtain ⟨rfl, rfl⟩ := trodVars_none hV
  obtain ⟨cs0, rfl, hz0⟩ := okWide_struct Try.underlying25 (hval 0 25 v0 rfl rfl)
  have k0 := h0
  have lt0 : ∀ x ∈ p0, x.block < W.heap.size := by obtain ⟨m, hm⟩ := k0; exact DataW.trod_lt m _ _ _ hm
  obtain ⟨x0, A0, c0, B0, d_0, hF0, hcs0, hC0, hl0, hD0, hm0⟩ := open_T rfl h0 hsz (j := 0) (t := 25) rfl rfl
  obtain rfl : cs0 = #[.int .i64 x0.f0, .string x0.f1, .string x0.f2, .slice A0 x0.f3.length c0, .slice B0 x0.f4.length d_0] := by cases cs0; simpa [Value.cells] using hcs0
  clear hA0 hval0 hsz0
  refine (PDom.row_calls_any x0 A0 c0 B0 d_0 W hF0 hC0 hl0 hD0 hm0).mono fun e W' ⟨he, bel⟩ => ?_
  subst he
  exact ⟨_, rfl, _, _, _, [], _, [], hW', trodAll_mk1 (shut_bool Try.underlying4 _), (trodAll_cons_mk (Below.trod laidOut (by kernel_rfl) (of_decide_eq_true (by kernel_rfl)) k0 bel lt0) trodAll_mk0), rfl, bel.frame _, fun h => by cases h⟩
theorem over : Rows.fnCollapseAnyRow.holds Try.pinned (OpenSpec.ofChange Rows.fnCollapseAnySpec) :=
  OpenClaim.holds_of_wide 7 Try.f7 rfl rfl rfl rfl rfl rfl rfl ⟨rfl, rfl, rfl, rfl, rfl⟩ rfl rfl rfl rfl rfl (by kernel_rfl) Try.func7 (by kernel_rfl)
    (of_decide_eq_true (by kernel_rfl)) (by unfold Func.isWrapper; first | (rw [if_pos (by decide +kernel)]; kernel_rfl) | (rw [if_neg (by decide +kernel)]; exact ⟨rfl, rfl⟩))
    (fun os started H enc _ => lifted os started H enc)
theorem proved : Rows.FnCollapseAnySaid := over
#print axioms proved
end Go.Proofs.Ytmfjbljdbkmkgaa.fnCollapseAny
namespace Go.Proofs.Ytmfjbljdbkmkgaa
/-- The row, under a short name, for the claim. -/
theorem fnCollapseAny_holds : Rows.FnCollapseAnySaid := fnCollapseAny.proved
end Go.Proofs.Ytmfjbljdbkmkgaa
