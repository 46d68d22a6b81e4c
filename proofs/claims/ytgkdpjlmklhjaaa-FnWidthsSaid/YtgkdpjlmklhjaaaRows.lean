/-
  No cell of these rows narrows 'for every input' (looked for: loops, veiled, ifaces, maps, wideKeys, modest, calm, conditions, laid).
  DERIVED. THE GIVEN ROWS OF THIS SEAT. 5 by the template 'for every input the law returns true; each argument reads behind the call as it read before'; 0 by the template 'total and deterministic' (their statements: YtgkdpjlmklhjaaaTotals.lean).
  GIVEN WITH THE SEED: the statements are not yours to turn. If you find one false, say at which input.
  Laid BY PROGRAM, IN A SANDBOX (cutbox-rows.mjs): the forced cells as the released guide's own fill.sh prints them over the translation a17eefb3f27f2930… (all of the seat's roots in one cut). By AI agents, Wed Nov 11 2026. No macro, syntax, notation, axiom, sorry.
-/
import Derived.Test.YtgkdpjlmklhjaaaChecked
import GoSem.Claim
import GoSem.ClaimJoined
import GoSem.ClaimMapViews
import Derived.JoinedTies
import Derived.KernelRfl
namespace Go.Proofs.Ytgkdpjlmklhjaaa
/- THE CELL 'sum', in the pinned program and in every row, IS THE sha256 OF THE DUMP (.gsa) THAT YtgkdpjlmklhjaaaProg.lean LOADS. Nothing in Lean hashes anything: it is a label: what it is worth is what the hold of that sum in a sandbox is worth. -/
noncomputable def Try.pinned : Pinned := { name := "ytgkdpjlmklhjaaa", sum := "a17eefb3f27f293047c481b6aec026a8c4cff0a1416028de50c1a5d78ff703e4", checked := Try.checked }
namespace Rows
def none {H : Type} : Left H := { results := [], args := [] }

/-- 'laws.FnOneBlank': WHATEVER THE INPUT: true; the input reads as it did. -/
def fnOneBlankSpec : ChangeSpec := { name := "fnOneBlank", fn := fun _ => fun
  | [d] => { results := [.lit (.bool true)], args := [d] }
  | _ => none }
def fnOneBlankRow : OpenClaim := { program := "ytgkdpjlmklhjaaa", sum := "a17eefb3f27f293047c481b6aec026a8c4cff0a1416028de50c1a5d78ff703e4", func := "pub-ligature/laws.FnOneBlank", spec := "fnOneBlank", apart := false }
def FnOneBlankSaid : Prop := fnOneBlankRow.holds Try.pinned (OpenSpec.ofChange fnOneBlankSpec)

/-- ITS FALSE NEIGHBOUR: 'it returns false'. Refute it at one input. -/
def fnOneBlankWrong : ChangeSpec := { name := "fnOneBlank", fn := fun _ => fun
  | [d] => { results := [.lit (.bool false)], args := [d] }
  | _ => none }
def FnOneBlankWrongFalsely : Prop := fnOneBlankRow.holds Try.pinned (OpenSpec.ofChange fnOneBlankWrong)

/-- 'laws.FnLevel': WHATEVER THE INPUT: true; the input reads as it did. -/
def fnLevelSpec : ChangeSpec := { name := "fnLevel", fn := fun _ => fun
  | [d] => { results := [.lit (.bool true)], args := [d] }
  | _ => none }
def fnLevelRow : OpenClaim := { program := "ytgkdpjlmklhjaaa", sum := "a17eefb3f27f293047c481b6aec026a8c4cff0a1416028de50c1a5d78ff703e4", func := "pub-ligature/laws.FnLevel", spec := "fnLevel", recurses := true, apart := false }
def FnLevelSaid : Prop := fnLevelRow.holds Try.pinned (OpenSpec.ofChange fnLevelSpec)

/-- ITS FALSE NEIGHBOUR: 'it returns false'. Refute it at one input. -/
def fnLevelWrong : ChangeSpec := { name := "fnLevel", fn := fun _ => fun
  | [d] => { results := [.lit (.bool false)], args := [d] }
  | _ => none }
def FnLevelWrongFalsely : Prop := fnLevelRow.holds Try.pinned (OpenSpec.ofChange fnLevelWrong)

/-- 'laws.FnSpan': WHATEVER THE INPUT: true; the input reads as it did. -/
def fnSpanSpec : ChangeSpec := { name := "fnSpan", fn := fun _ => fun
  | [d1, d2, d3, d4, d5] => { results := [.lit (.bool true)], args := [d1, d2, d3, d4, d5] }
  | _ => none }
def fnSpanRow : OpenClaim := { program := "ytgkdpjlmklhjaaa", sum := "a17eefb3f27f293047c481b6aec026a8c4cff0a1416028de50c1a5d78ff703e4", func := "pub-ligature/laws.FnSpan", spec := "fnSpan", apart := false }
def FnSpanSaid : Prop := fnSpanRow.holds Try.pinned (OpenSpec.ofChange fnSpanSpec)

/-- ITS FALSE NEIGHBOUR: 'it returns false'. Refute it at one input. -/
def fnSpanWrong : ChangeSpec := { name := "fnSpan", fn := fun _ => fun
  | [d1, d2, d3, d4, d5] => { results := [.lit (.bool false)], args := [d1, d2, d3, d4, d5] }
  | _ => none }
def FnSpanWrongFalsely : Prop := fnSpanRow.holds Try.pinned (OpenSpec.ofChange fnSpanWrong)

/-- 'laws.FnWidths': WHATEVER THE INPUT: true; the input reads as it did. -/
def fnWidthsSpec : ChangeSpec := { name := "fnWidths", fn := fun _ => fun
  | [d] => { results := [.lit (.bool true)], args := [d] }
  | _ => none }
def fnWidthsRow : OpenClaim := { program := "ytgkdpjlmklhjaaa", sum := "a17eefb3f27f293047c481b6aec026a8c4cff0a1416028de50c1a5d78ff703e4", func := "pub-ligature/laws.FnWidths", spec := "fnWidths", apart := false }
def FnWidthsSaid : Prop := fnWidthsRow.holds Try.pinned (OpenSpec.ofChange fnWidthsSpec)

/-- ITS FALSE NEIGHBOUR: 'it returns false'. Refute it at one input. -/
def fnWidthsWrong : ChangeSpec := { name := "fnWidths", fn := fun _ => fun
  | [d] => { results := [.lit (.bool false)], args := [d] }
  | _ => none }
def FnWidthsWrongFalsely : Prop := fnWidthsRow.holds Try.pinned (OpenSpec.ofChange fnWidthsWrong)

/-- 'laws.FnTitle': WHATEVER THE INPUT: true; the input reads as it did. -/
def fnTitleSpec : ChangeSpec := { name := "fnTitle", fn := fun _ => fun
  | [d] => { results := [.lit (.bool true)], args := [d] }
  | _ => none }
def fnTitleRow : OpenClaim := { program := "ytgkdpjlmklhjaaa", sum := "a17eefb3f27f293047c481b6aec026a8c4cff0a1416028de50c1a5d78ff703e4", func := "pub-ligature/laws.FnTitle", spec := "fnTitle", apart := false }
def FnTitleSaid : Prop := fnTitleRow.holds Try.pinned (OpenSpec.ofChange fnTitleSpec)

/-- ITS FALSE NEIGHBOUR: 'it returns false'. Refute it at one input. -/
def fnTitleWrong : ChangeSpec := { name := "fnTitle", fn := fun _ => fun
  | [d] => { results := [.lit (.bool false)], args := [d] }
  | _ => none }
def FnTitleWrongFalsely : Prop := fnTitleRow.holds Try.pinned (OpenSpec.ofChange fnTitleWrong)

/- THE SECOND FORM. 'bulk': how many values and letters a reading holds, each counted each time it is reached (what is shared counts as often as it is met; a slice's spare places count too). A statement '..UptoSaid' is the law's where the arguments, and the package variables that the reading takes, are together of bulk at most 1048576: NARROWER than '..Said'. Prove '..Said' where nothing that the law and all that it calls make is longer than what came in: it says more and counts as full. Else prove '..UptoSaid'. A law counts once. -/
mutual
def uptoBulk {H : Type} : DataW H → Nat
  | .lit (.string bytes) => bytes.length + 1
  | .lit _ => 1
  | .nil => 1
  | .ptr d => uptoBulk d + 1
  | .slice elems spare => uptoBulkAll elems + uptoBulkAll spare + 1
  | .agg parts => uptoBulkAll parts + 1
  | .iface _ d => uptoBulk d + 1
  | .map entries => uptoBulkEntries entries + 1
  | .held _ => 1
def uptoBulkAll {H : Type} : List (DataW H) → Nat
  | [] => 0
  | d :: r => uptoBulk d + uptoBulkAll r
def uptoBulkEntries {H : Type} : List (Lit × DataW H) → Nat
  | [] => 0
  | x :: r => uptoBulkEntry x + uptoBulkEntries r
def uptoBulkEntry {H : Type} : Lit × DataW H → Nat
  | (.string bytes, d) => bytes.length + uptoBulk d + 1
  | (_, d) => uptoBulk d + 1
 end
def uptoSmall : (H : Type) → List (DataW H) → Bool := fun _ ds => decide (uptoBulkAll ds ≤ 1048576)
def OpenSpec.upto (s : _root_.Go.ChangeSpec) : _root_.Go.OpenSpec := { _root_.Go.OpenSpec.ofChange s with cond := some uptoSmall }

/-- 'laws.FnOneBlank', WHERE WHAT IT READS IS OF BULK AT MOST 1048576: true; the input reads as it did. -/
def fnOneBlankUptoRow : OpenClaim := { program := "ytgkdpjlmklhjaaa", sum := "a17eefb3f27f293047c481b6aec026a8c4cff0a1416028de50c1a5d78ff703e4", func := "pub-ligature/laws.FnOneBlank", spec := "fnOneBlank", apart := false, narrowed := true }
def FnOneBlankUptoSaid : Prop := fnOneBlankUptoRow.holds Try.pinned (OpenSpec.upto fnOneBlankSpec)

/-- 'laws.FnLevel', WHERE WHAT IT READS IS OF BULK AT MOST 1048576: true; the input reads as it did. -/
def fnLevelUptoRow : OpenClaim := { program := "ytgkdpjlmklhjaaa", sum := "a17eefb3f27f293047c481b6aec026a8c4cff0a1416028de50c1a5d78ff703e4", func := "pub-ligature/laws.FnLevel", spec := "fnLevel", recurses := true, apart := false, narrowed := true }
def FnLevelUptoSaid : Prop := fnLevelUptoRow.holds Try.pinned (OpenSpec.upto fnLevelSpec)

/-- 'laws.FnSpan', WHERE WHAT IT READS IS OF BULK AT MOST 1048576: true; the input reads as it did. -/
def fnSpanUptoRow : OpenClaim := { program := "ytgkdpjlmklhjaaa", sum := "a17eefb3f27f293047c481b6aec026a8c4cff0a1416028de50c1a5d78ff703e4", func := "pub-ligature/laws.FnSpan", spec := "fnSpan", apart := false, narrowed := true }
def FnSpanUptoSaid : Prop := fnSpanUptoRow.holds Try.pinned (OpenSpec.upto fnSpanSpec)

/-- 'laws.FnWidths', WHERE WHAT IT READS IS OF BULK AT MOST 1048576: true; the input reads as it did. -/
def fnWidthsUptoRow : OpenClaim := { program := "ytgkdpjlmklhjaaa", sum := "a17eefb3f27f293047c481b6aec026a8c4cff0a1416028de50c1a5d78ff703e4", func := "pub-ligature/laws.FnWidths", spec := "fnWidths", apart := false, narrowed := true }
def FnWidthsUptoSaid : Prop := fnWidthsUptoRow.holds Try.pinned (OpenSpec.upto fnWidthsSpec)

/-- 'laws.FnTitle', WHERE WHAT IT READS IS OF BULK AT MOST 1048576: true; the input reads as it did. -/
def fnTitleUptoRow : OpenClaim := { program := "ytgkdpjlmklhjaaa", sum := "a17eefb3f27f293047c481b6aec026a8c4cff0a1416028de50c1a5d78ff703e4", func := "pub-ligature/laws.FnTitle", spec := "fnTitle", apart := false, narrowed := true }
def FnTitleUptoSaid : Prop := fnTitleUptoRow.holds Try.pinned (OpenSpec.upto fnTitleSpec)

end Rows
end Go.Proofs.Ytgkdpjlmklhjaaa
