/-
  NARROWER THAN 'FOR EVERY INPUT', by the rows' own cells (each row's printed sentence says how): FnRedundant: loops · FnEmptyCode: loops · FnMergeAdjacent: loops · FnCollapse: loops · FnCollapseAny: loops · FnListEnds: loops.
  DERIVED. THE GIVEN ROWS OF THIS SEAT. 6 by the template 'for every input the law returns true; each argument reads behind the call as it read before'; 0 by the template 'total and deterministic' (their statements: YtmfjbljdbkmkgaaTotals.lean).
  GIVEN WITH THE SEED: the statements are not yours to turn. If you find one false, say at which input.
  Laid BY PROGRAM, IN A SANDBOX (cutbox-rows.mjs): the forced cells as the released guide's own fill.sh prints them over the translation 1852125e17994bac… (all of the seat's roots in one cut). By AI agents, Wed Nov 11 2026. No macro, syntax, notation, axiom, sorry.
-/
import Derived.Test.YtmfjbljdbkmkgaaChecked
import GoSem.Claim
import GoSem.ClaimJoined
import GoSem.ClaimMapViews
import Derived.JoinedTies
import Derived.KernelRfl
namespace Go.Proofs.Ytmfjbljdbkmkgaa
/- THE CELL 'sum', in the pinned program and in every row, IS THE sha256 OF THE DUMP (.gsa) THAT YtmfjbljdbkmkgaaProg.lean LOADS. Nothing in Lean hashes anything: it is a label: what it is worth is what the hold of that sum in a sandbox is worth. -/
noncomputable def Try.pinned : Pinned := { name := "ytmfjbljdbkmkgaa", sum := "1852125e17994baccab77ebb844b21f17cf6ca7b597b6e1d908ffbf02c61d36c", checked := Try.checked }
namespace Rows
def none {H : Type} : Left H := { results := [], args := [] }

/-- 'laws.FnRedundant': WHATEVER THE INPUT: true; the input reads as it did. -/
def fnRedundantSpec : ChangeSpec := { name := "fnRedundant", fn := fun _ => fun
  | [d] => { results := [.lit (.bool true)], args := [d] }
  | _ => none }
def fnRedundantRow : OpenClaim := { program := "ytmfjbljdbkmkgaa", sum := "1852125e17994baccab77ebb844b21f17cf6ca7b597b6e1d908ffbf02c61d36c", func := "pub-ligature/laws.FnRedundant", spec := "fnRedundant", unfollowed := true, recurses := true, loops := true, apart := false }
def FnRedundantSaid : Prop := fnRedundantRow.holds Try.pinned (OpenSpec.ofChange fnRedundantSpec)

/-- ITS FALSE NEIGHBOUR: 'it returns false'. Refute it at one input. -/
def fnRedundantWrong : ChangeSpec := { name := "fnRedundant", fn := fun _ => fun
  | [d] => { results := [.lit (.bool false)], args := [d] }
  | _ => none }
def FnRedundantWrongFalsely : Prop := fnRedundantRow.holds Try.pinned (OpenSpec.ofChange fnRedundantWrong)

/-- 'laws.FnEmptyCode': WHATEVER THE INPUT: true; the input reads as it did. -/
def fnEmptyCodeSpec : ChangeSpec := { name := "fnEmptyCode", fn := fun _ => fun
  | [d] => { results := [.lit (.bool true)], args := [d] }
  | _ => none }
def fnEmptyCodeRow : OpenClaim := { program := "ytmfjbljdbkmkgaa", sum := "1852125e17994baccab77ebb844b21f17cf6ca7b597b6e1d908ffbf02c61d36c", func := "pub-ligature/laws.FnEmptyCode", spec := "fnEmptyCode", unfollowed := true, recurses := true, loops := true, apart := false }
def FnEmptyCodeSaid : Prop := fnEmptyCodeRow.holds Try.pinned (OpenSpec.ofChange fnEmptyCodeSpec)

/-- ITS FALSE NEIGHBOUR: 'it returns false'. Refute it at one input. -/
def fnEmptyCodeWrong : ChangeSpec := { name := "fnEmptyCode", fn := fun _ => fun
  | [d] => { results := [.lit (.bool false)], args := [d] }
  | _ => none }
def FnEmptyCodeWrongFalsely : Prop := fnEmptyCodeRow.holds Try.pinned (OpenSpec.ofChange fnEmptyCodeWrong)

/-- 'laws.FnMergeAdjacent': WHATEVER THE INPUT: true; the input reads as it did. -/
def fnMergeAdjacentSpec : ChangeSpec := { name := "fnMergeAdjacent", fn := fun _ => fun
  | [d] => { results := [.lit (.bool true)], args := [d] }
  | _ => none }
def fnMergeAdjacentRow : OpenClaim := { program := "ytmfjbljdbkmkgaa", sum := "1852125e17994baccab77ebb844b21f17cf6ca7b597b6e1d908ffbf02c61d36c", func := "pub-ligature/laws.FnMergeAdjacent", spec := "fnMergeAdjacent", unfollowed := true, recurses := true, loops := true, apart := false }
def FnMergeAdjacentSaid : Prop := fnMergeAdjacentRow.holds Try.pinned (OpenSpec.ofChange fnMergeAdjacentSpec)

/-- ITS FALSE NEIGHBOUR: 'it returns false'. Refute it at one input. -/
def fnMergeAdjacentWrong : ChangeSpec := { name := "fnMergeAdjacent", fn := fun _ => fun
  | [d] => { results := [.lit (.bool false)], args := [d] }
  | _ => none }
def FnMergeAdjacentWrongFalsely : Prop := fnMergeAdjacentRow.holds Try.pinned (OpenSpec.ofChange fnMergeAdjacentWrong)

/-- 'laws.FnCollapse': WHATEVER THE INPUT: true; the input reads as it did. -/
def fnCollapseSpec : ChangeSpec := { name := "fnCollapse", fn := fun _ => fun
  | [d] => { results := [.lit (.bool true)], args := [d] }
  | _ => none }
def fnCollapseRow : OpenClaim := { program := "ytmfjbljdbkmkgaa", sum := "1852125e17994baccab77ebb844b21f17cf6ca7b597b6e1d908ffbf02c61d36c", func := "pub-ligature/laws.FnCollapse", spec := "fnCollapse", unfollowed := true, recurses := true, loops := true, apart := false }
def FnCollapseSaid : Prop := fnCollapseRow.holds Try.pinned (OpenSpec.ofChange fnCollapseSpec)

/-- ITS FALSE NEIGHBOUR: 'it returns false'. Refute it at one input. -/
def fnCollapseWrong : ChangeSpec := { name := "fnCollapse", fn := fun _ => fun
  | [d] => { results := [.lit (.bool false)], args := [d] }
  | _ => none }
def FnCollapseWrongFalsely : Prop := fnCollapseRow.holds Try.pinned (OpenSpec.ofChange fnCollapseWrong)

/-- 'laws.FnCollapseAny': WHATEVER THE INPUT: true; the input reads as it did. -/
def fnCollapseAnySpec : ChangeSpec := { name := "fnCollapseAny", fn := fun _ => fun
  | [d] => { results := [.lit (.bool true)], args := [d] }
  | _ => none }
def fnCollapseAnyRow : OpenClaim := { program := "ytmfjbljdbkmkgaa", sum := "1852125e17994baccab77ebb844b21f17cf6ca7b597b6e1d908ffbf02c61d36c", func := "pub-ligature/laws.FnCollapseAny", spec := "fnCollapseAny", unfollowed := true, recurses := true, loops := true, apart := false }
def FnCollapseAnySaid : Prop := fnCollapseAnyRow.holds Try.pinned (OpenSpec.ofChange fnCollapseAnySpec)

/-- ITS FALSE NEIGHBOUR: 'it returns false'. Refute it at one input. -/
def fnCollapseAnyWrong : ChangeSpec := { name := "fnCollapseAny", fn := fun _ => fun
  | [d] => { results := [.lit (.bool false)], args := [d] }
  | _ => none }
def FnCollapseAnyWrongFalsely : Prop := fnCollapseAnyRow.holds Try.pinned (OpenSpec.ofChange fnCollapseAnyWrong)

/-- 'laws.FnListEnds': WHATEVER THE INPUT: true; the input reads as it did. -/
def fnListEndsSpec : ChangeSpec := { name := "fnListEnds", fn := fun _ => fun
  | [d] => { results := [.lit (.bool true)], args := [d] }
  | _ => none }
def fnListEndsRow : OpenClaim := { program := "ytmfjbljdbkmkgaa", sum := "1852125e17994baccab77ebb844b21f17cf6ca7b597b6e1d908ffbf02c61d36c", func := "pub-ligature/laws.FnListEnds", spec := "fnListEnds", unfollowed := true, recurses := true, loops := true, apart := false }
def FnListEndsSaid : Prop := fnListEndsRow.holds Try.pinned (OpenSpec.ofChange fnListEndsSpec)

/-- ITS FALSE NEIGHBOUR: 'it returns false'. Refute it at one input. -/
def fnListEndsWrong : ChangeSpec := { name := "fnListEnds", fn := fun _ => fun
  | [d] => { results := [.lit (.bool false)], args := [d] }
  | _ => none }
def FnListEndsWrongFalsely : Prop := fnListEndsRow.holds Try.pinned (OpenSpec.ofChange fnListEndsWrong)

/- THE SECOND FORM. 'bulk': how many values and letters a reading holds, each counted each time it is reached (what is shared counts as often as it is met; a slice's spare places count too). A statement '..UptoSaid' is the law's where the arguments, and the package variables that the reading takes, are together of bulk at most 1048576: NARROWER than '..Said'. Prove '..Said' where nothing that the law and all that it calls make is longer than what came in: it says more and counts as full. Else prove '..UptoSaid'. A law counts once. -/
mutual
def uptoBulk {H : Type} : DataW H → Nat
  | .lit (.string bytes) => bytes.length + 1
  | .lit _ => 1
  | .nil => 1
  | .ptr d => uptoBulk d + 1
  | .slice elems spare => uptoBulkAll elems + uptoBulkAll spare + 1
  | .agg parts => uptoBulkAll parts + 1
  | .iface _ d => uptoBulk d + 1
  | .map entries => uptoBulkEntries entries + 1
  | .held _ => 1
def uptoBulkAll {H : Type} : List (DataW H) → Nat
  | [] => 0
  | d :: r => uptoBulk d + uptoBulkAll r
def uptoBulkEntries {H : Type} : List (Lit × DataW H) → Nat
  | [] => 0
  | x :: r => uptoBulkEntry x + uptoBulkEntries r
def uptoBulkEntry {H : Type} : Lit × DataW H → Nat
  | (.string bytes, d) => bytes.length + uptoBulk d + 1
  | (_, d) => uptoBulk d + 1
 end
def uptoSmall : (H : Type) → List (DataW H) → Bool := fun _ ds => decide (uptoBulkAll ds ≤ 1048576)
def OpenSpec.upto (s : _root_.Go.ChangeSpec) : _root_.Go.OpenSpec := { _root_.Go.OpenSpec.ofChange s with cond := some uptoSmall }

/-- 'laws.FnRedundant', WHERE WHAT IT READS IS OF BULK AT MOST 1048576: true; the input reads as it did. -/
def fnRedundantUptoRow : OpenClaim := { program := "ytmfjbljdbkmkgaa", sum := "1852125e17994baccab77ebb844b21f17cf6ca7b597b6e1d908ffbf02c61d36c", func := "pub-ligature/laws.FnRedundant", spec := "fnRedundant", unfollowed := true, recurses := true, loops := true, apart := false, narrowed := true }
def FnRedundantUptoSaid : Prop := fnRedundantUptoRow.holds Try.pinned (OpenSpec.upto fnRedundantSpec)

/-- 'laws.FnEmptyCode', WHERE WHAT IT READS IS OF BULK AT MOST 1048576: true; the input reads as it did. -/
def fnEmptyCodeUptoRow : OpenClaim := { program := "ytmfjbljdbkmkgaa", sum := "1852125e17994baccab77ebb844b21f17cf6ca7b597b6e1d908ffbf02c61d36c", func := "pub-ligature/laws.FnEmptyCode", spec := "fnEmptyCode", unfollowed := true, recurses := true, loops := true, apart := false, narrowed := true }
def FnEmptyCodeUptoSaid : Prop := fnEmptyCodeUptoRow.holds Try.pinned (OpenSpec.upto fnEmptyCodeSpec)

/-- 'laws.FnMergeAdjacent', WHERE WHAT IT READS IS OF BULK AT MOST 1048576: true; the input reads as it did. -/
def fnMergeAdjacentUptoRow : OpenClaim := { program := "ytmfjbljdbkmkgaa", sum := "1852125e17994baccab77ebb844b21f17cf6ca7b597b6e1d908ffbf02c61d36c", func := "pub-ligature/laws.FnMergeAdjacent", spec := "fnMergeAdjacent", unfollowed := true, recurses := true, loops := true, apart := false, narrowed := true }
def FnMergeAdjacentUptoSaid : Prop := fnMergeAdjacentUptoRow.holds Try.pinned (OpenSpec.upto fnMergeAdjacentSpec)

/-- 'laws.FnCollapse', WHERE WHAT IT READS IS OF BULK AT MOST 1048576: true; the input reads as it did. -/
def fnCollapseUptoRow : OpenClaim := { program := "ytmfjbljdbkmkgaa", sum := "1852125e17994baccab77ebb844b21f17cf6ca7b597b6e1d908ffbf02c61d36c", func := "pub-ligature/laws.FnCollapse", spec := "fnCollapse", unfollowed := true, recurses := true, loops := true, apart := false, narrowed := true }
def FnCollapseUptoSaid : Prop := fnCollapseUptoRow.holds Try.pinned (OpenSpec.upto fnCollapseSpec)

/-- 'laws.FnCollapseAny', WHERE WHAT IT READS IS OF BULK AT MOST 1048576: true; the input reads as it did. -/
def fnCollapseAnyUptoRow : OpenClaim := { program := "ytmfjbljdbkmkgaa", sum := "1852125e17994baccab77ebb844b21f17cf6ca7b597b6e1d908ffbf02c61d36c", func := "pub-ligature/laws.FnCollapseAny", spec := "fnCollapseAny", unfollowed := true, recurses := true, loops := true, apart := false, narrowed := true }
def FnCollapseAnyUptoSaid : Prop := fnCollapseAnyUptoRow.holds Try.pinned (OpenSpec.upto fnCollapseAnySpec)

/-- 'laws.FnListEnds', WHERE WHAT IT READS IS OF BULK AT MOST 1048576: true; the input reads as it did. -/
def fnListEndsUptoRow : OpenClaim := { program := "ytmfjbljdbkmkgaa", sum := "1852125e17994baccab77ebb844b21f17cf6ca7b597b6e1d908ffbf02c61d36c", func := "pub-ligature/laws.FnListEnds", spec := "fnListEnds", unfollowed := true, recurses := true, loops := true, apart := false, narrowed := true }
def FnListEndsUptoSaid : Prop := fnListEndsUptoRow.holds Try.pinned (OpenSpec.upto fnListEndsSpec)

end Rows
end Go.Proofs.Ytmfjbljdbkmkgaa
