/-
  No cell of these rows narrows 'for every input' (looked for: loops, veiled, ifaces, maps, wideKeys, modest, calm, conditions, laid).
  DERIVED. THE GIVEN ROWS OF THIS SEAT. 4 by the template 'for every input the law returns true; each argument reads behind the call as it read before'; 0 by the template 'total and deterministic' (their statements: YtbhcoeabhdangaaTotals.lean).
  GIVEN WITH THE SEED: the statements are not yours to turn. If you find one false, say at which input.
  Laid BY PROGRAM, IN A SANDBOX (cutbox-rows.mjs): the forced cells as the released guide's own fill.sh prints them over the translation ed7fe6a2d24c7a1b… (all of the seat's roots in one cut). By AI agents, Wed Nov 11 2026. No macro, syntax, notation, axiom, sorry.
-/
import Derived.Test.YtbhcoeabhdangaaChecked
import GoSem.Claim
import GoSem.ClaimJoined
import GoSem.ClaimMapViews
import Derived.JoinedTies
import Derived.KernelRfl
namespace Go.Proofs.Ytbhcoeabhdangaa
/- THE CELL 'sum', in the pinned program and in every row, IS THE sha256 OF THE DUMP (.gsa) THAT YtbhcoeabhdangaaProg.lean LOADS. Nothing in Lean hashes anything: it is a label: what it is worth is what the hold of that sum in a sandbox is worth. -/
noncomputable def Try.pinned : Pinned := { name := "ytbhcoeabhdangaa", sum := "ed7fe6a2d24c7a1bc3f7a048fc29d36bb5749ab7ddf2afe62769655d61f67ba9", checked := Try.checked }
namespace Rows
def none {H : Type} : Left H := { results := [], args := [] }

/-- 'laws.FnEntities': WHATEVER THE INPUT: true; the input reads as it did. -/
def fnEntitiesSpec : ChangeSpec := { name := "fnEntities", fn := fun _ => fun
  | [d] => { results := [.lit (.bool true)], args := [d] }
  | _ => none }
def fnEntitiesRow : OpenClaim := { program := "ytbhcoeabhdangaa", sum := "ed7fe6a2d24c7a1bc3f7a048fc29d36bb5749ab7ddf2afe62769655d61f67ba9", func := "pub-ligature/laws.FnEntities", spec := "fnEntities", unfollowed := true, recurses := true, apart := false }
def FnEntitiesSaid : Prop := fnEntitiesRow.holds Try.pinned (OpenSpec.ofChange fnEntitiesSpec)

/-- ITS FALSE NEIGHBOUR: 'it returns false'. Refute it at one input. -/
def fnEntitiesWrong : ChangeSpec := { name := "fnEntities", fn := fun _ => fun
  | [d] => { results := [.lit (.bool false)], args := [d] }
  | _ => none }
def FnEntitiesWrongFalsely : Prop := fnEntitiesRow.holds Try.pinned (OpenSpec.ofChange fnEntitiesWrong)

/-- 'laws.FnFence': WHATEVER THE INPUT: true; the input reads as it did. -/
def fnFenceSpec : ChangeSpec := { name := "fnFence", fn := fun _ => fun
  | [d1, d2] => { results := [.lit (.bool true)], args := [d1, d2] }
  | _ => none }
def fnFenceRow : OpenClaim := { program := "ytbhcoeabhdangaa", sum := "ed7fe6a2d24c7a1bc3f7a048fc29d36bb5749ab7ddf2afe62769655d61f67ba9", func := "pub-ligature/laws.FnFence", spec := "fnFence", inPlace := ["internal/abi.NoEscape", "internal/bytealg.MakeNoZero"], apart := false }
def FnFenceSaid : Prop := fnFenceRow.holds Try.pinned (OpenSpec.ofChange fnFenceSpec)

/-- ITS FALSE NEIGHBOUR: 'it returns false'. Refute it at one input. -/
def fnFenceWrong : ChangeSpec := { name := "fnFence", fn := fun _ => fun
  | [d1, d2] => { results := [.lit (.bool false)], args := [d1, d2] }
  | _ => none }
def FnFenceWrongFalsely : Prop := fnFenceRow.holds Try.pinned (OpenSpec.ofChange fnFenceWrong)

/-- 'laws.FnLanguage': WHATEVER THE INPUT: true; the input reads as it did. -/
def fnLanguageSpec : ChangeSpec := { name := "fnLanguage", fn := fun _ => fun
  | [d1, d2, d3] => { results := [.lit (.bool true)], args := [d1, d2, d3] }
  | _ => none }
def fnLanguageRow : OpenClaim := { program := "ytbhcoeabhdangaa", sum := "ed7fe6a2d24c7a1bc3f7a048fc29d36bb5749ab7ddf2afe62769655d61f67ba9", func := "pub-ligature/laws.FnLanguage", spec := "fnLanguage", apart := false }
def FnLanguageSaid : Prop := fnLanguageRow.holds Try.pinned (OpenSpec.ofChange fnLanguageSpec)

/-- ITS FALSE NEIGHBOUR: 'it returns false'. Refute it at one input. -/
def fnLanguageWrong : ChangeSpec := { name := "fnLanguage", fn := fun _ => fun
  | [d1, d2, d3] => { results := [.lit (.bool false)], args := [d1, d2, d3] }
  | _ => none }
def FnLanguageWrongFalsely : Prop := fnLanguageRow.holds Try.pinned (OpenSpec.ofChange fnLanguageWrong)

/-- 'laws.FnValid': WHATEVER THE INPUT: true; the input reads as it did. -/
def fnValidSpec : ChangeSpec := { name := "fnValid", fn := fun _ => fun
  | [d1, d2, d3, d4] => { results := [.lit (.bool true)], args := [d1, d2, d3, d4] }
  | _ => none }
def fnValidRow : OpenClaim := { program := "ytbhcoeabhdangaa", sum := "ed7fe6a2d24c7a1bc3f7a048fc29d36bb5749ab7ddf2afe62769655d61f67ba9", func := "pub-ligature/laws.FnValid", spec := "fnValid", unfollowed := true, recurses := true, apart := false }
def FnValidSaid : Prop := fnValidRow.holds Try.pinned (OpenSpec.ofChange fnValidSpec)

/-- ITS FALSE NEIGHBOUR: 'it returns false'. Refute it at one input. -/
def fnValidWrong : ChangeSpec := { name := "fnValid", fn := fun _ => fun
  | [d1, d2, d3, d4] => { results := [.lit (.bool false)], args := [d1, d2, d3, d4] }
  | _ => none }
def FnValidWrongFalsely : Prop := fnValidRow.holds Try.pinned (OpenSpec.ofChange fnValidWrong)

/- THE SECOND FORM. 'bulk': how many values and letters a reading holds, each counted each time it is reached (what is shared counts as often as it is met; a slice's spare places count too). A statement '..UptoSaid' is the law's where the arguments, and the package variables that the reading takes, are together of bulk at most 1048576: NARROWER than '..Said'. Prove '..Said' where nothing that the law and all that it calls make is longer than what came in: it says more and counts as full. Else prove '..UptoSaid'. A law counts once. -/
mutual
def uptoBulk {H : Type} : DataW H → Nat
  | .lit (.string bytes) => bytes.length + 1
  | .lit _ => 1
  | .nil => 1
  | .ptr d => uptoBulk d + 1
  | .slice elems spare => uptoBulkAll elems + uptoBulkAll spare + 1
  | .agg parts => uptoBulkAll parts + 1
  | .iface _ d => uptoBulk d + 1
  | .map entries => uptoBulkEntries entries + 1
  | .held _ => 1
def uptoBulkAll {H : Type} : List (DataW H) → Nat
  | [] => 0
  | d :: r => uptoBulk d + uptoBulkAll r
def uptoBulkEntries {H : Type} : List (Lit × DataW H) → Nat
  | [] => 0
  | x :: r => uptoBulkEntry x + uptoBulkEntries r
def uptoBulkEntry {H : Type} : Lit × DataW H → Nat
  | (.string bytes, d) => bytes.length + uptoBulk d + 1
  | (_, d) => uptoBulk d + 1
 end
def uptoSmall : (H : Type) → List (DataW H) → Bool := fun _ ds => decide (uptoBulkAll ds ≤ 1048576)
def OpenSpec.upto (s : _root_.Go.ChangeSpec) : _root_.Go.OpenSpec := { _root_.Go.OpenSpec.ofChange s with cond := some uptoSmall }

/-- 'laws.FnEntities', WHERE WHAT IT READS IS OF BULK AT MOST 1048576: true; the input reads as it did. -/
def fnEntitiesUptoRow : OpenClaim := { program := "ytbhcoeabhdangaa", sum := "ed7fe6a2d24c7a1bc3f7a048fc29d36bb5749ab7ddf2afe62769655d61f67ba9", func := "pub-ligature/laws.FnEntities", spec := "fnEntities", unfollowed := true, recurses := true, apart := false, narrowed := true }
def FnEntitiesUptoSaid : Prop := fnEntitiesUptoRow.holds Try.pinned (OpenSpec.upto fnEntitiesSpec)

/-- 'laws.FnFence', WHERE WHAT IT READS IS OF BULK AT MOST 1048576: true; the input reads as it did. -/
def fnFenceUptoRow : OpenClaim := { program := "ytbhcoeabhdangaa", sum := "ed7fe6a2d24c7a1bc3f7a048fc29d36bb5749ab7ddf2afe62769655d61f67ba9", func := "pub-ligature/laws.FnFence", spec := "fnFence", inPlace := ["internal/abi.NoEscape", "internal/bytealg.MakeNoZero"], apart := false, narrowed := true }
def FnFenceUptoSaid : Prop := fnFenceUptoRow.holds Try.pinned (OpenSpec.upto fnFenceSpec)

/-- 'laws.FnLanguage', WHERE WHAT IT READS IS OF BULK AT MOST 1048576: true; the input reads as it did. -/
def fnLanguageUptoRow : OpenClaim := { program := "ytbhcoeabhdangaa", sum := "ed7fe6a2d24c7a1bc3f7a048fc29d36bb5749ab7ddf2afe62769655d61f67ba9", func := "pub-ligature/laws.FnLanguage", spec := "fnLanguage", apart := false, narrowed := true }
def FnLanguageUptoSaid : Prop := fnLanguageUptoRow.holds Try.pinned (OpenSpec.upto fnLanguageSpec)

/-- 'laws.FnValid', WHERE WHAT IT READS IS OF BULK AT MOST 1048576: true; the input reads as it did. -/
def fnValidUptoRow : OpenClaim := { program := "ytbhcoeabhdangaa", sum := "ed7fe6a2d24c7a1bc3f7a048fc29d36bb5749ab7ddf2afe62769655d61f67ba9", func := "pub-ligature/laws.FnValid", spec := "fnValid", unfollowed := true, recurses := true, apart := false, narrowed := true }
def FnValidUptoSaid : Prop := fnValidUptoRow.holds Try.pinned (OpenSpec.upto fnValidSpec)

end Rows
end Go.Proofs.Ytbhcoeabhdangaa
