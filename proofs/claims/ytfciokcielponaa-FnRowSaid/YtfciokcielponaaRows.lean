/-
  No cell of these rows narrows 'for every input' (looked for: loops, veiled, ifaces, maps, wideKeys, modest, calm, conditions, laid).
  DERIVED. THE GIVEN ROWS OF THIS SEAT. 3 by the template 'for every input the law returns true; each argument reads behind the call as it read before'; 0 by the template 'total and deterministic' (their statements: YtfciokcielponaaTotals.lean).
  GIVEN WITH THE SEED: the statements are not yours to turn. If you find one false, say at which input.
  Laid BY PROGRAM, IN A SANDBOX (cutbox-rows.mjs): the forced cells as the released guide's own fill.sh prints them over the translation 0cdff88b35a868d5… (all of the seat's roots in one cut). By AI agents, Wed Nov 11 2026. No macro, syntax, notation, axiom, sorry.
-/
import Derived.Test.YtfciokcielponaaChecked
import GoSem.Claim
import GoSem.ClaimJoined
import GoSem.ClaimMapViews
import Derived.JoinedTies
import Derived.KernelRfl
namespace Go.Proofs.Ytfciokcielponaa
/- THE CELL 'sum', in the pinned program and in every row, IS THE sha256 OF THE DUMP (.gsa) THAT YtfciokcielponaaProg.lean LOADS. Nothing in Lean hashes anything: it is a label: what it is worth is what the hold of that sum in a sandbox is worth. -/
noncomputable def Try.pinned : Pinned := { name := "ytfciokcielponaa", sum := "0cdff88b35a868d5c22c57703384188cd69f48350a6711932e86333b84fd9033", checked := Try.checked }
namespace Rows
def none {H : Type} : Left H := { results := [], args := [] }

/-- 'laws.FnNoEmpty': WHATEVER THE INPUT: true; the input reads as it did. -/
def fnNoEmptySpec : ChangeSpec := { name := "fnNoEmpty", fn := fun _ => fun
  | [d] => { results := [.lit (.bool true)], args := [d] }
  | _ => none }
def fnNoEmptyRow : OpenClaim := { program := "ytfciokcielponaa", sum := "0cdff88b35a868d5c22c57703384188cd69f48350a6711932e86333b84fd9033", func := "pub-ligature/laws.FnNoEmpty", spec := "fnNoEmpty", unfollowed := true, recurses := true, apart := false }
def FnNoEmptySaid : Prop := fnNoEmptyRow.holds Try.pinned (OpenSpec.ofChange fnNoEmptySpec)

/-- ITS FALSE NEIGHBOUR: 'it returns false'. Refute it at one input. -/
def fnNoEmptyWrong : ChangeSpec := { name := "fnNoEmpty", fn := fun _ => fun
  | [d] => { results := [.lit (.bool false)], args := [d] }
  | _ => none }
def FnNoEmptyWrongFalsely : Prop := fnNoEmptyRow.holds Try.pinned (OpenSpec.ofChange fnNoEmptyWrong)

/-- 'laws.FnRow': WHATEVER THE INPUT: true; the input reads as it did. -/
def fnRowSpec : ChangeSpec := { name := "fnRow", fn := fun _ => fun
  | [d1, d2, d3] => { results := [.lit (.bool true)], args := [d1, d2, d3] }
  | _ => none }
def fnRowRow : OpenClaim := { program := "ytfciokcielponaa", sum := "0cdff88b35a868d5c22c57703384188cd69f48350a6711932e86333b84fd9033", func := "pub-ligature/laws.FnRow", spec := "fnRow", inPlace := ["internal/abi.NoEscape", "internal/bytealg.MakeNoZero"], unfollowed := true, recurses := true, apart := false }
def FnRowSaid : Prop := fnRowRow.holds Try.pinned (OpenSpec.ofChange fnRowSpec)

/-- ITS FALSE NEIGHBOUR: 'it returns false'. Refute it at one input. -/
def fnRowWrong : ChangeSpec := { name := "fnRow", fn := fun _ => fun
  | [d1, d2, d3] => { results := [.lit (.bool false)], args := [d1, d2, d3] }
  | _ => none }
def FnRowWrongFalsely : Prop := fnRowRow.holds Try.pinned (OpenSpec.ofChange fnRowWrong)

/-- 'laws.FnChangedAll': WHATEVER THE INPUT: true; the input reads as it did. -/
def fnChangedAllSpec : ChangeSpec := { name := "fnChangedAll", fn := fun _ => fun
  | [d1, d2] => { results := [.lit (.bool true)], args := [d1, d2] }
  | _ => none }
def fnChangedAllRow : OpenClaim := { program := "ytfciokcielponaa", sum := "0cdff88b35a868d5c22c57703384188cd69f48350a6711932e86333b84fd9033", func := "pub-ligature/laws.FnChangedAll", spec := "fnChangedAll", inPlace := ["slices.overlaps[[]byte]"], unfollowed := true, recurses := true, apart := false }
def FnChangedAllSaid : Prop := fnChangedAllRow.holds Try.pinned (OpenSpec.ofChange fnChangedAllSpec)

/-- ITS FALSE NEIGHBOUR: 'it returns false'. Refute it at one input. -/
def fnChangedAllWrong : ChangeSpec := { name := "fnChangedAll", fn := fun _ => fun
  | [d1, d2] => { results := [.lit (.bool false)], args := [d1, d2] }
  | _ => none }
def FnChangedAllWrongFalsely : Prop := fnChangedAllRow.holds Try.pinned (OpenSpec.ofChange fnChangedAllWrong)

/- THE SECOND FORM. 'bulk': how many values and letters a reading holds, each counted each time it is reached (what is shared counts as often as it is met; a slice's spare places count too). A statement '..UptoSaid' is the law's where the arguments, and the package variables that the reading takes, are together of bulk at most 1048576: NARROWER than '..Said'. Prove '..Said' where nothing that the law and all that it calls make is longer than what came in: it says more and counts as full. Else prove '..UptoSaid'. A law counts once. -/
mutual
def uptoBulk {H : Type} : DataW H → Nat
  | .lit (.string bytes) => bytes.length + 1
  | .lit _ => 1
  | .nil => 1
  | .ptr d => uptoBulk d + 1
  | .slice elems spare => uptoBulkAll elems + uptoBulkAll spare + 1
  | .agg parts => uptoBulkAll parts + 1
  | .iface _ d => uptoBulk d + 1
  | .map entries => uptoBulkEntries entries + 1
  | .held _ => 1
def uptoBulkAll {H : Type} : List (DataW H) → Nat
  | [] => 0
  | d :: r => uptoBulk d + uptoBulkAll r
def uptoBulkEntries {H : Type} : List (Lit × DataW H) → Nat
  | [] => 0
  | x :: r => uptoBulkEntry x + uptoBulkEntries r
def uptoBulkEntry {H : Type} : Lit × DataW H → Nat
  | (.string bytes, d) => bytes.length + uptoBulk d + 1
  | (_, d) => uptoBulk d + 1
 end
def uptoSmall : (H : Type) → List (DataW H) → Bool := fun _ ds => decide (uptoBulkAll ds ≤ 1048576)
def OpenSpec.upto (s : _root_.Go.ChangeSpec) : _root_.Go.OpenSpec := { _root_.Go.OpenSpec.ofChange s with cond := some uptoSmall }

/-- 'laws.FnNoEmpty', WHERE WHAT IT READS IS OF BULK AT MOST 1048576: true; the input reads as it did. -/
def fnNoEmptyUptoRow : OpenClaim := { program := "ytfciokcielponaa", sum := "0cdff88b35a868d5c22c57703384188cd69f48350a6711932e86333b84fd9033", func := "pub-ligature/laws.FnNoEmpty", spec := "fnNoEmpty", unfollowed := true, recurses := true, apart := false, narrowed := true }
def FnNoEmptyUptoSaid : Prop := fnNoEmptyUptoRow.holds Try.pinned (OpenSpec.upto fnNoEmptySpec)

/-- 'laws.FnRow', WHERE WHAT IT READS IS OF BULK AT MOST 1048576: true; the input reads as it did. -/
def fnRowUptoRow : OpenClaim := { program := "ytfciokcielponaa", sum := "0cdff88b35a868d5c22c57703384188cd69f48350a6711932e86333b84fd9033", func := "pub-ligature/laws.FnRow", spec := "fnRow", inPlace := ["internal/abi.NoEscape", "internal/bytealg.MakeNoZero"], unfollowed := true, recurses := true, apart := false, narrowed := true }
def FnRowUptoSaid : Prop := fnRowUptoRow.holds Try.pinned (OpenSpec.upto fnRowSpec)

/-- 'laws.FnChangedAll', WHERE WHAT IT READS IS OF BULK AT MOST 1048576: true; the input reads as it did. -/
def fnChangedAllUptoRow : OpenClaim := { program := "ytfciokcielponaa", sum := "0cdff88b35a868d5c22c57703384188cd69f48350a6711932e86333b84fd9033", func := "pub-ligature/laws.FnChangedAll", spec := "fnChangedAll", inPlace := ["slices.overlaps[[]byte]"], unfollowed := true, recurses := true, apart := false, narrowed := true }
def FnChangedAllUptoSaid : Prop := fnChangedAllUptoRow.holds Try.pinned (OpenSpec.upto fnChangedAllSpec)

end Rows
end Go.Proofs.Ytfciokcielponaa
