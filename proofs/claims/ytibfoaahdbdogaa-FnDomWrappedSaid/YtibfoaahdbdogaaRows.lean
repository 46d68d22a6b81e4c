/-
  NARROWER THAN 'FOR EVERY INPUT', by the rows' own cells (each row's printed sentence says how): FnDomName: loops · FnDomAll: loops · FnDomFind: loops · FnDomSibling: loops · FnDomReplaced: loops · FnDomWrapped: loops.
  DERIVED. THE GIVEN ROWS OF THIS SEAT. 6 by the template 'for every input the law returns true; each argument reads behind the call as it read before'; 0 by the template 'total and deterministic' (their statements: YtibfoaahdbdogaaTotals.lean).
  GIVEN WITH THE SEED: the statements are not yours to turn. If you find one false, say at which input.
  Laid BY PROGRAM, IN A SANDBOX (cutbox-rows.mjs): the forced cells as the released guide's own fill.sh prints them over the translation 4a694347c1c34561… (all of the seat's roots in one cut). By AI agents, Wed Nov 11 2026. No macro, syntax, notation, axiom, sorry.
-/
import Derived.Test.YtibfoaahdbdogaaChecked
import GoSem.Claim
import GoSem.ClaimJoined
import GoSem.ClaimMapViews
import Derived.JoinedTies
import Derived.KernelRfl
namespace Go.Proofs.Ytibfoaahdbdogaa
/- THE CELL 'sum', in the pinned program and in every row, IS THE sha256 OF THE DUMP (.gsa) THAT YtibfoaahdbdogaaProg.lean LOADS. Nothing in Lean hashes anything: it is a label: what it is worth is what the hold of that sum in a sandbox is worth. -/
noncomputable def Try.pinned : Pinned := { name := "ytibfoaahdbdogaa", sum := "4a694347c1c3456121a4fe5ff702ef1e947b6490a1593cbf4e032b4367874543", checked := Try.checked }
namespace Rows
def none {H : Type} : Left H := { results := [], args := [] }

/-- 'laws.FnDomName': WHATEVER THE INPUT: true; the input reads as it did. -/
def fnDomNameSpec : ChangeSpec := { name := "fnDomName", fn := fun _ => fun
  | [d] => { results := [.lit (.bool true)], args := [d] }
  | _ => none }
def fnDomNameRow : OpenClaim := { program := "ytibfoaahdbdogaa", sum := "4a694347c1c3456121a4fe5ff702ef1e947b6490a1593cbf4e032b4367874543", func := "pub-ligature/laws.FnDomName", spec := "fnDomName", recurses := true, loops := true, apart := false }
def FnDomNameSaid : Prop := fnDomNameRow.holds Try.pinned (OpenSpec.ofChange fnDomNameSpec)

/-- ITS FALSE NEIGHBOUR: 'it returns false'. Refute it at one input. -/
def fnDomNameWrong : ChangeSpec := { name := "fnDomName", fn := fun _ => fun
  | [d] => { results := [.lit (.bool false)], args := [d] }
  | _ => none }
def FnDomNameWrongFalsely : Prop := fnDomNameRow.holds Try.pinned (OpenSpec.ofChange fnDomNameWrong)

/-- 'laws.FnDomAll': WHATEVER THE INPUT: true; the input reads as it did. -/
def fnDomAllSpec : ChangeSpec := { name := "fnDomAll", fn := fun _ => fun
  | [d] => { results := [.lit (.bool true)], args := [d] }
  | _ => none }
def fnDomAllRow : OpenClaim := { program := "ytibfoaahdbdogaa", sum := "4a694347c1c3456121a4fe5ff702ef1e947b6490a1593cbf4e032b4367874543", func := "pub-ligature/laws.FnDomAll", spec := "fnDomAll", unfollowed := true, recurses := true, loops := true, apart := false }
def FnDomAllSaid : Prop := fnDomAllRow.holds Try.pinned (OpenSpec.ofChange fnDomAllSpec)

/-- ITS FALSE NEIGHBOUR: 'it returns false'. Refute it at one input. -/
def fnDomAllWrong : ChangeSpec := { name := "fnDomAll", fn := fun _ => fun
  | [d] => { results := [.lit (.bool false)], args := [d] }
  | _ => none }
def FnDomAllWrongFalsely : Prop := fnDomAllRow.holds Try.pinned (OpenSpec.ofChange fnDomAllWrong)

/-- 'laws.FnDomFind': WHATEVER THE INPUT: true; the input reads as it did. -/
def fnDomFindSpec : ChangeSpec := { name := "fnDomFind", fn := fun _ => fun
  | [d1, d2, d3] => { results := [.lit (.bool true)], args := [d1, d2, d3] }
  | _ => none }
def fnDomFindRow : OpenClaim := { program := "ytibfoaahdbdogaa", sum := "4a694347c1c3456121a4fe5ff702ef1e947b6490a1593cbf4e032b4367874543", func := "pub-ligature/laws.FnDomFind", spec := "fnDomFind", unfollowed := true, recurses := true, loops := true, apart := false }
def FnDomFindSaid : Prop := fnDomFindRow.holds Try.pinned (OpenSpec.ofChange fnDomFindSpec)

/-- ITS FALSE NEIGHBOUR: 'it returns false'. Refute it at one input. -/
def fnDomFindWrong : ChangeSpec := { name := "fnDomFind", fn := fun _ => fun
  | [d1, d2, d3] => { results := [.lit (.bool false)], args := [d1, d2, d3] }
  | _ => none }
def FnDomFindWrongFalsely : Prop := fnDomFindRow.holds Try.pinned (OpenSpec.ofChange fnDomFindWrong)

/-- 'laws.FnDomSibling': WHATEVER THE INPUT: true; the input reads as it did. -/
def fnDomSiblingSpec : ChangeSpec := { name := "fnDomSibling", fn := fun _ => fun
  | [d1, d2, d3] => { results := [.lit (.bool true)], args := [d1, d2, d3] }
  | _ => none }
def fnDomSiblingRow : OpenClaim := { program := "ytibfoaahdbdogaa", sum := "4a694347c1c3456121a4fe5ff702ef1e947b6490a1593cbf4e032b4367874543", func := "pub-ligature/laws.FnDomSibling", spec := "fnDomSibling", unfollowed := true, recurses := true, loops := true, apart := false }
def FnDomSiblingSaid : Prop := fnDomSiblingRow.holds Try.pinned (OpenSpec.ofChange fnDomSiblingSpec)

/-- ITS FALSE NEIGHBOUR: 'it returns false'. Refute it at one input. -/
def fnDomSiblingWrong : ChangeSpec := { name := "fnDomSibling", fn := fun _ => fun
  | [d1, d2, d3] => { results := [.lit (.bool false)], args := [d1, d2, d3] }
  | _ => none }
def FnDomSiblingWrongFalsely : Prop := fnDomSiblingRow.holds Try.pinned (OpenSpec.ofChange fnDomSiblingWrong)

/-- 'laws.FnDomReplaced': WHATEVER THE INPUT: true; the input reads as it did. -/
def fnDomReplacedSpec : ChangeSpec := { name := "fnDomReplaced", fn := fun _ => fun
  | [d1, d2, d3] => { results := [.lit (.bool true)], args := [d1, d2, d3] }
  | _ => none }
def fnDomReplacedRow : OpenClaim := { program := "ytibfoaahdbdogaa", sum := "4a694347c1c3456121a4fe5ff702ef1e947b6490a1593cbf4e032b4367874543", func := "pub-ligature/laws.FnDomReplaced", spec := "fnDomReplaced", unfollowed := true, recurses := true, loops := true, apart := false }
def FnDomReplacedSaid : Prop := fnDomReplacedRow.holds Try.pinned (OpenSpec.ofChange fnDomReplacedSpec)

/-- ITS FALSE NEIGHBOUR: 'it returns false'. Refute it at one input. -/
def fnDomReplacedWrong : ChangeSpec := { name := "fnDomReplaced", fn := fun _ => fun
  | [d1, d2, d3] => { results := [.lit (.bool false)], args := [d1, d2, d3] }
  | _ => none }
def FnDomReplacedWrongFalsely : Prop := fnDomReplacedRow.holds Try.pinned (OpenSpec.ofChange fnDomReplacedWrong)

/-- 'laws.FnDomWrapped': WHATEVER THE INPUT: true; the input reads as it did. -/
def fnDomWrappedSpec : ChangeSpec := { name := "fnDomWrapped", fn := fun _ => fun
  | [d1, d2, d3] => { results := [.lit (.bool true)], args := [d1, d2, d3] }
  | _ => none }
def fnDomWrappedRow : OpenClaim := { program := "ytibfoaahdbdogaa", sum := "4a694347c1c3456121a4fe5ff702ef1e947b6490a1593cbf4e032b4367874543", func := "pub-ligature/laws.FnDomWrapped", spec := "fnDomWrapped", unfollowed := true, recurses := true, loops := true, apart := false }
def FnDomWrappedSaid : Prop := fnDomWrappedRow.holds Try.pinned (OpenSpec.ofChange fnDomWrappedSpec)

/-- ITS FALSE NEIGHBOUR: 'it returns false'. Refute it at one input. -/
def fnDomWrappedWrong : ChangeSpec := { name := "fnDomWrapped", fn := fun _ => fun
  | [d1, d2, d3] => { results := [.lit (.bool false)], args := [d1, d2, d3] }
  | _ => none }
def FnDomWrappedWrongFalsely : Prop := fnDomWrappedRow.holds Try.pinned (OpenSpec.ofChange fnDomWrappedWrong)

/- THE SECOND FORM. 'bulk': how many values and letters a reading holds, each counted each time it is reached (what is shared counts as often as it is met; a slice's spare places count too). A statement '..UptoSaid' is the law's where the arguments, and the package variables that the reading takes, are together of bulk at most 1048576: NARROWER than '..Said'. Prove '..Said' where nothing that the law and all that it calls make is longer than what came in: it says more and counts as full. Else prove '..UptoSaid'. A law counts once. -/
mutual
def uptoBulk {H : Type} : DataW H → Nat
  | .lit (.string bytes) => bytes.length + 1
  | .lit _ => 1
  | .nil => 1
  | .ptr d => uptoBulk d + 1
  | .slice elems spare => uptoBulkAll elems + uptoBulkAll spare + 1
  | .agg parts => uptoBulkAll parts + 1
  | .iface _ d => uptoBulk d + 1
  | .map entries => uptoBulkEntries entries + 1
  | .held _ => 1
def uptoBulkAll {H : Type} : List (DataW H) → Nat
  | [] => 0
  | d :: r => uptoBulk d + uptoBulkAll r
def uptoBulkEntries {H : Type} : List (Lit × DataW H) → Nat
  | [] => 0
  | x :: r => uptoBulkEntry x + uptoBulkEntries r
def uptoBulkEntry {H : Type} : Lit × DataW H → Nat
  | (.string bytes, d) => bytes.length + uptoBulk d + 1
  | (_, d) => uptoBulk d + 1
 end
def uptoSmall : (H : Type) → List (DataW H) → Bool := fun _ ds => decide (uptoBulkAll ds ≤ 1048576)
def OpenSpec.upto (s : _root_.Go.ChangeSpec) : _root_.Go.OpenSpec := { _root_.Go.OpenSpec.ofChange s with cond := some uptoSmall }

/-- 'laws.FnDomName', WHERE WHAT IT READS IS OF BULK AT MOST 1048576: true; the input reads as it did. -/
def fnDomNameUptoRow : OpenClaim := { program := "ytibfoaahdbdogaa", sum := "4a694347c1c3456121a4fe5ff702ef1e947b6490a1593cbf4e032b4367874543", func := "pub-ligature/laws.FnDomName", spec := "fnDomName", recurses := true, loops := true, apart := false, narrowed := true }
def FnDomNameUptoSaid : Prop := fnDomNameUptoRow.holds Try.pinned (OpenSpec.upto fnDomNameSpec)

/-- 'laws.FnDomAll', WHERE WHAT IT READS IS OF BULK AT MOST 1048576: true; the input reads as it did. -/
def fnDomAllUptoRow : OpenClaim := { program := "ytibfoaahdbdogaa", sum := "4a694347c1c3456121a4fe5ff702ef1e947b6490a1593cbf4e032b4367874543", func := "pub-ligature/laws.FnDomAll", spec := "fnDomAll", unfollowed := true, recurses := true, loops := true, apart := false, narrowed := true }
def FnDomAllUptoSaid : Prop := fnDomAllUptoRow.holds Try.pinned (OpenSpec.upto fnDomAllSpec)

/-- 'laws.FnDomFind', WHERE WHAT IT READS IS OF BULK AT MOST 1048576: true; the input reads as it did. -/
def fnDomFindUptoRow : OpenClaim := { program := "ytibfoaahdbdogaa", sum := "4a694347c1c3456121a4fe5ff702ef1e947b6490a1593cbf4e032b4367874543", func := "pub-ligature/laws.FnDomFind", spec := "fnDomFind", unfollowed := true, recurses := true, loops := true, apart := false, narrowed := true }
def FnDomFindUptoSaid : Prop := fnDomFindUptoRow.holds Try.pinned (OpenSpec.upto fnDomFindSpec)

/-- 'laws.FnDomSibling', WHERE WHAT IT READS IS OF BULK AT MOST 1048576: true; the input reads as it did. -/
def fnDomSiblingUptoRow : OpenClaim := { program := "ytibfoaahdbdogaa", sum := "4a694347c1c3456121a4fe5ff702ef1e947b6490a1593cbf4e032b4367874543", func := "pub-ligature/laws.FnDomSibling", spec := "fnDomSibling", unfollowed := true, recurses := true, loops := true, apart := false, narrowed := true }
def FnDomSiblingUptoSaid : Prop := fnDomSiblingUptoRow.holds Try.pinned (OpenSpec.upto fnDomSiblingSpec)

/-- 'laws.FnDomReplaced', WHERE WHAT IT READS IS OF BULK AT MOST 1048576: true; the input reads as it did. -/
def fnDomReplacedUptoRow : OpenClaim := { program := "ytibfoaahdbdogaa", sum := "4a694347c1c3456121a4fe5ff702ef1e947b6490a1593cbf4e032b4367874543", func := "pub-ligature/laws.FnDomReplaced", spec := "fnDomReplaced", unfollowed := true, recurses := true, loops := true, apart := false, narrowed := true }
def FnDomReplacedUptoSaid : Prop := fnDomReplacedUptoRow.holds Try.pinned (OpenSpec.upto fnDomReplacedSpec)

/-- 'laws.FnDomWrapped', WHERE WHAT IT READS IS OF BULK AT MOST 1048576: true; the input reads as it did. -/
def fnDomWrappedUptoRow : OpenClaim := { program := "ytibfoaahdbdogaa", sum := "4a694347c1c3456121a4fe5ff702ef1e947b6490a1593cbf4e032b4367874543", func := "pub-ligature/laws.FnDomWrapped", spec := "fnDomWrapped", unfollowed := true, recurses := true, loops := true, apart := false, narrowed := true }
def FnDomWrappedUptoSaid : Prop := fnDomWrappedUptoRow.holds Try.pinned (OpenSpec.upto fnDomWrappedSpec)

end Rows
end Go.Proofs.Ytibfoaahdbdogaa
