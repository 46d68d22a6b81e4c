/- impl.StrikeTest, over the printed walk of the test (module StrP). -/
import Derived.Test.YtbhcoeabhdangaaDoorStrP
import Derived.Test.YtbhcoeabhdangaaDoorGuard
import Derived.Test.YtbhcoeabhdangaaDoorTxt
import Derived.Laws.EntriesVeiled
namespace Go.Proofs.YtbhcoeabhdangaaDoor.PInl
open Go.Proofs.YtbhcoeabhdangaaDoor.Txt Go.Proofs.YtbhcoeabhdangaaDoor.Guard Go.RowKit Go.Proofs.YtbhcoeabhdangaaDoorW.PrintWords Go.Proofs.YtbhcoeabhdangaaDoorW.PrintLast Go.Proofs.YtbhcoeabhdangaaDoorW.PrintMore
set_option linter.unusedVariables false
set_option linter.unusedSimpArgs false

theorem push_sz (w : World) (o : Obj) : (w.alloc o).heap.size = w.heap.size + 1 := Array.size_push _
theorem zztest_calls (k : Nat) (A0 : Option Addr) (n c0 : Nat) (l0 : List Int) (hn : l0.length = n) (a1 r : Int) (s : ByteArray) (w : World) (hr0 : Kd.C (Kd.int .u8) w A0 n l0) (hc0 : n ≤ c0) (h : strikethrough_strikethroughPlugin_handleUnEscapers.f k ⟨#[]⟩ l0 a1 = some (r, s)) :
    Calls Tryd.prog 26 #[.slice A0 n c0, .int .i64 a1] w fun e w' => e = .returned (.int .i64 r) ∧ Below w.heap.size w w' := by
  subst hn
  have HR := Aside0.mk hr0
  have HC0 := Aside0.mk hc0
  have H := Aside0.mk h
  clear hr0 hc0 h
  go_enter Tryd.func26, Tryd.ntmps26
  go_wp2_with fail
  refine (strikethrough_strikethroughPlugin_handleUnEscapers.calls k w.heap.size ⟨#[]⟩ A0 c0 l0 a1 r s w _ ⟨heap_alloc_new w _, Nat.le_refl _⟩ (below_alloc (Below.refl _ _) _) (Kd.C_below HR.out (below_alloc (Below.refl _ _) _)) HC0.out (Kd.far_C (0 : Int) HR.out (Nat.le_refl _)) H.out).mono ?_
  rintro e w' ⟨rfl, _, hB, _⟩
  go_wp2
  go_ret
  exact ⟨rfl, hB⟩
theorem str1_calls (k : Nat) (s : ByteArray) (a r x : Int) (q : ByteArray) (b0 b1 b2 : Nat) (W : World) (hs : s.size ≤ 140737488355328) (h : strikethrough_strikethroughPlugin_handleUnEscapers.f k ⟨#[]⟩ (bytesOf s) a = some (r, q))
    (h0 : W.heap[b0]? = some (.cells #[.string s] 9 (0, 0))) (h1 : W.heap[b1]? = some (.cells #[.int .i64 a] 3 (0, 0))) (h2 : W.heap[b2]? = some (.cells #[.int .i64 x] 3 (0, 0))) :
    Calls Tryd.prog 25 #[.pointer (some ⟨b0, 0, none⟩), .pointer (some ⟨b1, 0, none⟩), .pointer (some ⟨b2, 0, none⟩)] W fun e w' => e = .returned (.tuple #[]) ∧ ∃ w5, Below W.heap.size W w5 ∧ w' = w5.setCell ⟨b2, 0, none⟩ (.int .i64 r) := by
  have r0 := blk_cell h0 0
  have hB := bytes_below (Below.refl W.heap.size W) (Nat.le_refl _) 5 s
  have r1 := blk_cell ((hB.block _ (blk_lt h1)).trans h1) 0
  have H := Aside0.mk h
  have H2 := Aside0.mk h2
  have HBB := Aside0.mk hB
  have kb := fun W => print_bytes (P := Tryd.prog) 9 40 5 Tryd.underlying9 Tryd.underlying40 Tryd.underlying5 s W
  clear h h0 h1 h2 hB
  go_enter Tryd.func25, Tryd.ntmps25
  go_wp2_with fail
  refine (zztest_calls k _ _ _ (bytesOf s) (bytesOf_length s) a r q _ (Kd.C_of_reads (d := (0 : Int)) (bytes_reads W 5 s (by omega))) (grownCap_ge _ _ _ _) H.out).mono ?_
  rintro e w5 ⟨rfl, hb5⟩
  have hB5 := below_step HBB.out hb5
  have hk5 := (hB5.block _ (blk_lt H2.out)).trans H2.out
  have c5 := blk_cell hk5 0
  have f5 := blk_frozen hk5 0
  have HB5 := Aside0.mk hB5
  clear hb5 hB5 hk5
  go_wp2_with fail
  go_end0
  exact ⟨rfl, w5, HB5.out, rfl⟩
theorem strike_calls (k : Nat) (s : ByteArray) (a r : Int) (q : ByteArray) (w : World) (hs : s.size ≤ 140737488355328) (h : strikethrough_strikethroughPlugin_handleUnEscapers.f k ⟨#[]⟩ (bytesOf s) a = some (r, q)) :
    Calls Tryd.prog 9 #[.string s, .int .i64 a] w fun e w' => e = .returned (.int .i64 r) ∧ Below w.heap.size w w' := by
  have hmf : ∀ (fn : Fn) (first cap : Array Value) (w : World), (Instr.makeFunc fn first cap).run Tryd.prog w = .ok (.func fn first cap) w := fun _ _ _ _ => rfl
  have HC : ∀ (W : World) (b0 b1 b2 : Nat), W.heap[b0]? = some (.cells #[.string s] 9 (0, 0)) → W.heap[b1]? = some (.cells #[.int .i64 a] 3 (0, 0)) → W.heap[b2]? = some (.cells #[.int .i64 (-1)] 3 (0, 0)) →
      Calls Tryd.prog 24 #[.func (.func 25) #[] #[.pointer (some ⟨b0, 0, none⟩), .pointer (some ⟨b1, 0, none⟩), .pointer (some ⟨b2, 0, none⟩)]] W fun e w' => e = .returned (.bool false) ∧ w'.heap[b2]? = some (.cells #[.int .i64 r] 3 (0, 0)) ∧ ∃ w5, Below W.heap.size W w5 ∧ w' = (w5.setCell ⟨b2, 0, none⟩ (.int .i64 r)).setCell ⟨W.heap.size, 0, none⟩ (.bool false) := by
    intro W b0 b1 b2 h0 h1 h2
    have hA := below_alloc (Below.refl W.heap.size W) (.cells #[.bool false] 4)
    refine (guarded_calls 25 _ W (fun w2 => w2.heap[b2]? = some (.cells #[.int .i64 r] 3 (0, 0)) ∧ ∃ w5, Below W.heap.size W w5 ∧ w2 = w5.setCell ⟨b2, 0, none⟩ (.int .i64 r)) (fun _ _ => by kernel_rfl) ?_).mono ?_
    · refine (str1_calls k s a r (-1) q b0 b1 b2 _ hs h ((hA.block _ (blk_lt h0)).trans h0) ((hA.block _ (blk_lt h1)).trans h1) ((hA.block _ (blk_lt h2)).trans h2)).mono ?_
      rintro e w' ⟨rfl, w5, hb5, rfl⟩
      have hb := below_step hA hb5
      have k2 := (hb.block _ (blk_lt h2)).trans h2
      have kn := (hb5.block _ (by rw [push_sz]; omega)).trans (heap_alloc_new W (.cells #[.bool false] 4))
      have hne : W.heap.size ≠ b2 := by have := blk_lt h2; omega
      exact ⟨rfl, blk_far kn (p := ⟨b2, 0, none⟩) hne _, blk_set k2 0 _, w5, hb, rfl⟩
    · rintro e w' ⟨rfl, w2, ⟨hk, w5, hb5, rfl⟩, hg, rfl⟩
      have hne : b2 ≠ W.heap.size := by have := blk_lt h2; omega
      exact ⟨rfl, blk_far hk (p := ⟨W.heap.size, 0, none⟩) hne _, w5, hb5, rfl⟩
  have HCA := Aside0.mk HC
  clear HC h
  go_enter Tryd.func9, Tryd.ntmps9
  go_wp2_with fail
  have p1 := push_sz w (.cells #[.string s] 9)
  have p2 := push_sz (w.alloc (.cells #[.string s] 9)) (.cells #[.int .i64 a] 3)
  have t1 := heap_alloc_new (w.alloc (.cells #[.string s] 9)) (.cells #[.int .i64 a] 3)
  have t2 := heap_alloc_new ((w.alloc (.cells #[.string s] 9)).alloc (.cells #[.int .i64 a] 3)) (.cells #[.int .i64 (-1)] 3)
  rw [p1] at t1
  rw [p2, p1] at t2
  have t0 := ((below_alloc (Below.refl _ _) (.cells #[.int .i64 a] 3)).block _ (blk_lt (heap_alloc_new w (.cells #[.string s] 9)))).trans (heap_alloc_new w (.cells #[.string s] 9))
  have t01 := ((below_alloc (Below.refl _ _) (.cells #[.int .i64 (-1)] 3)).block _ (blk_lt t0)).trans t0
  have t11 := ((below_alloc (Below.refl _ _) (.cells #[.int .i64 (-1)] 3)).block _ (blk_lt t1)).trans t1
  refine (HCA.out _ _ _ _ t01 t11 t2).mono ?_
  rintro e w' ⟨rfl, hk, w5, hb5, hw⟩
  have HB := Aside0.mk (show Below w.heap.size w w' by
    rw [hw]
    have b3 : Below w.heap.size w (((w.alloc (.cells #[.string s] 9)).alloc (.cells #[.int .i64 a] 3)).alloc (.cells #[.int .i64 (-1)] 3)) := below_alloc (below_alloc (below_alloc (Below.refl _ _) _) _) _
    refine Below.setCell (Below.setCell (below_step b3 hb5) ?_ _) ?_ _
    · show w.heap.size ≤ w.heap.size + 1 + 1
      omega
    · exact b3.size)
  have ck := blk_cell hk 0
  clear hk hw hb5 t0 t01 t11 t1 t2 p1 p2
  go_wp2_with fail
  go_ret
  exact ⟨rfl, HB.out⟩
def impl_StrikeTest.f (k : Nat) (a0 : ByteArray) (a1 : Int) : Option Int := if a0.size ≤ 2147483647 then (strikethrough_strikethroughPlugin_handleUnEscapers.f k ⟨#[]⟩ (bytesOf a0) a1).bind fun r => some r.1 else none
theorem impl_StrikeTest.mono : ∀ a0 a1 k, LeO (impl_StrikeTest.f k a0 a1) (impl_StrikeTest.f (k + 1) a0 a1) := by
  intro a0 a1 k
  unfold impl_StrikeTest.f
  split
  · exact LeO.bind (strikethrough_strikethroughPlugin_handleUnEscapers.mono _ _ _ _) (fun _ => LeO.refl _)
  · exact LeO.refl _
theorem impl_StrikeTest.calls (k : Nat) (a0 : ByteArray) (a1 : Int) (r : Int) (w : World) (h : impl_StrikeTest.f k a0 a1 = some r) :
    Calls Tryd.prog 9 #[.string a0, .int .i64 a1] w fun e w' => e = .returned (.int .i64 r) ∧ Below w.heap.size w w' := by
  unfold impl_StrikeTest.f at h
  split at h
  case isFalse => cases h
  rename_i hs
  obtain ⟨⟨r1, q⟩, h1, h2⟩ := Option.bind_eq_some_iff.1 h
  obtain rfl := Option.some.inj h2
  exact strike_calls k a0 a1 r1 q w (by omega) h1
end Go.Proofs.YtbhcoeabhdangaaDoor.PInl
