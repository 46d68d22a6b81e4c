/- commonmark.fillInDefaultConfig of a config of four texts. -/
import Derived.Test.YtbhcoeabhdangaaValidX
import Derived.Deep.DeepMust
import Derived.Tactics2
namespace Go.Proofs.Ytbhcoeabhdangaa.PVal
open Go.Proofs.Ytbhcoeabhdangaa.Txt Go.RowKit Go.Proofs.YtbhcoeabhdangaaW.PrintWords Go.Proofs.YtbhcoeabhdangaaW.PrintLast Go.Proofs.YtbhcoeabhdangaaW.PrintMore
set_option linter.unusedVariables false
set_option linter.unusedSimpArgs false

/-- A text, or what stands in an empty one's place. -/
def orElse (s d : ByteArray) : ByteArray := if s.toList = ([] : List UInt8) then d else s
abbrev fullC (em st bu fe : ByteArray) : Array Value := cfgC (orElse em ⟨#[42]⟩) (orElse st ⟨#[42, 42]⟩) ⟨#[42, 32, 42, 32, 42]⟩ (orElse bu ⟨#[45]⟩) false (orElse fe ⟨#[96, 96, 96]⟩) ⟨#[97, 116, 120]⟩ ⟨#[105, 110, 108, 105, 110, 101, 100]⟩ ⟨#[114, 101, 110, 100, 101, 114]⟩ ⟨#[114, 101, 110, 100, 101, 114]⟩
theorem or_else (s d : ByteArray) : ((s.toList == ([] : List UInt8)) = true ∧ orElse s d = d) ∨ ((s.toList == ([] : List UInt8)) = false ∧ orElse s d = s) := by
  by_cases e : s.toList = ([] : List UInt8)
  · exact .inl ⟨beq_iff_eq.2 e, if_pos e⟩
  · exact .inr ⟨beq_eq_false_iff_ne.2 e, if_neg e⟩
set_option maxRecDepth 100000 in
set_option maxHeartbeats 40000000 in
theorem fill_calls (em st bu fe : ByteArray) (b : Nat) (w : World) (hk : w.heap[b]? = some (.cells (cfgC em st ⟨#[]⟩ bu false fe ⟨#[]⟩ ⟨#[]⟩ ⟨#[]⟩ ⟨#[]⟩) 57 (0, 0))) :
    Calls Try.prog 32 #[.pointer (some ⟨b, 0, none⟩)] w fun e w' => e = .returned (.agg (fullC em st bu fe)) ∧ Below b w w' := by
  have HBA := Aside0.mk (below_alloc (Below.refl w.heap.size w) (.cells #[.string ⟨#[]⟩, .string ⟨#[]⟩, .string ⟨#[]⟩, .string ⟨#[]⟩, .bool false, .string ⟨#[]⟩, .string ⟨#[]⟩, .string ⟨#[]⟩, .string ⟨#[]⟩, .string ⟨#[]⟩] 57))
  have KR := Aside0.mk (heap_alloc_new w (.cells #[.string ⟨#[]⟩, .string ⟨#[]⟩, .string ⟨#[]⟩, .string ⟨#[]⟩, .bool false, .string ⟨#[]⟩, .string ⟨#[]⟩, .string ⟨#[]⟩, .string ⟨#[]⟩, .string ⟨#[]⟩] 57))
  have hlt := blk_lt hk
  have hne : b ≠ w.heap.size := by omega
  have hne2 : w.heap.size ≠ b := by omega
  have HK := Aside0.mk ((HBA.out.block _ hlt).trans hk)
  have HB := Aside0.mk (show Below b w (w.alloc (.cells #[.string ⟨#[]⟩, .string ⟨#[]⟩, .string ⟨#[]⟩, .string ⟨#[]⟩, .bool false, .string ⟨#[]⟩, .string ⟨#[]⟩, .string ⟨#[]⟩, .string ⟨#[]⟩, .string ⟨#[]⟩] 57)) from (Below.refl b w).alloc (by omega) _)
  have HLE := Aside0.mk (show b ≤ w.heap.size by omega)
  unfold fullC
  have HO := Aside0.mk (And.intro (or_else em ⟨#[42]⟩) (And.intro (or_else st ⟨#[42, 42]⟩) (And.intro (or_else bu ⟨#[45]⟩) (or_else fe ⟨#[96, 96, 96]⟩))))
  generalize orElse em ⟨#[42]⟩ = em' at HO ⊢
  generalize orElse st ⟨#[42, 42]⟩ = st' at HO ⊢
  generalize orElse bu ⟨#[45]⟩ = bu' at HO ⊢
  generalize orElse fe ⟨#[96, 96, 96]⟩ = fe' at HO ⊢
  go_enter Try.func32, Try.ntmps32
  go_upto_region 1 with fail
  generalize w.alloc _ = w1 at HK KR HB ⊢
  generalize w.heap.size = rb at hne hne2 KR HLE ⊢
  have r0 := blk_cell HK.out 0
  have f0 := blk_frozen HK.out 0
  have s0 := blk_cell KR.out 0
  have g0 := blk_frozen KR.out 0
  have r1 := blk_cell HK.out 1
  have f1 := blk_frozen HK.out 1
  have s1 := blk_cell KR.out 1
  have g1 := blk_frozen KR.out 1
  have r2 := blk_cell HK.out 2
  have f2 := blk_frozen HK.out 2
  have s2 := blk_cell KR.out 2
  have g2 := blk_frozen KR.out 2
  have r3 := blk_cell HK.out 3
  have f3 := blk_frozen HK.out 3
  have s3 := blk_cell KR.out 3
  have g3 := blk_frozen KR.out 3
  have r4 := blk_cell HK.out 4
  have f4 := blk_frozen HK.out 4
  have s4 := blk_cell KR.out 4
  have g4 := blk_frozen KR.out 4
  have r5 := blk_cell HK.out 5
  have f5 := blk_frozen HK.out 5
  have s5 := blk_cell KR.out 5
  have g5 := blk_frozen KR.out 5
  have r6 := blk_cell HK.out 6
  have f6 := blk_frozen HK.out 6
  have s6 := blk_cell KR.out 6
  have g6 := blk_frozen KR.out 6
  have r7 := blk_cell HK.out 7
  have f7 := blk_frozen HK.out 7
  have s7 := blk_cell KR.out 7
  have g7 := blk_frozen KR.out 7
  have r8 := blk_cell HK.out 8
  have f8 := blk_frozen HK.out 8
  have s8 := blk_cell KR.out 8
  have g8 := blk_frozen KR.out 8
  have r9 := blk_cell HK.out 9
  have f9 := blk_frozen HK.out 9
  have s9 := blk_cell KR.out 9
  have g9 := blk_frozen KR.out 9
  clear hk hlt HBA HK KR
  obtain ⟨h0, h1, h2, h3⟩ := HO.out
  clear HO
  rcases h0 with ⟨q0, rfl⟩ | ⟨q0, rfl⟩ <;> rcases h1 with ⟨q1, rfl⟩ | ⟨q1, rfl⟩ <;> rcases h2 with ⟨q2, rfl⟩ | ⟨q2, rfl⟩ <;> rcases h3 with ⟨q3, rfl⟩ | ⟨q3, rfl⟩
  all_goals
    go_wp2
    refine bodyPost_ret (v := .agg (cfgC _ _ ⟨#[42, 32, 42, 32, 42]⟩ _ false _ ⟨#[97, 116, 120]⟩ ⟨#[105, 110, 108, 105, 110, 101, 100]⟩ ⟨#[114, 101, 110, 100, 101, 114]⟩ ⟨#[114, 101, 110, 100, 101, 114]⟩)) (by simp [results, Try.results32, go_sem, s0, s1, s2, s3, s4, s5, s6, s7, s8, s9, cfgC]; first | rfl | exact ⟨rfl, rfl, rfl, rfl⟩) rfl ?_
    refine ⟨rfl, ?_⟩
    repeat (first | (with_reducible exact HB.out) | (with_reducible refine Below.setCell ?_ (by first | exact Nat.le_refl _ | exact HLE.out) _))
end Go.Proofs.Ytbhcoeabhdangaa.PVal
