/-
  No cell of these rows narrows 'for every input' (looked for: loops, veiled, ifaces, maps, wideKeys, modest, calm, conditions, laid).
  DERIVED. THE GIVEN ROWS OF THIS SEAT. 5 by the template 'for every input the law returns true; each argument reads behind the call as it read before'; 0 by the template 'total and deterministic' (their statements: YtcamdmkaahgihaaTotals.lean).
  GIVEN WITH THE SEED: the statements are not yours to turn. If you find one false, say at which input.
  Laid BY PROGRAM, IN A SANDBOX (cutbox-rows.mjs): the forced cells as the released guide's own fill.sh prints them over the translation ba200d489db629dd… (all of the seat's roots in one cut). By AI agents, Wed Nov 11 2026. No macro, syntax, notation, axiom, sorry.
-/
import Derived.Test.YtcamdmkaahgihaaChecked
import GoSem.Claim
import GoSem.ClaimJoined
import GoSem.ClaimMapViews
import Derived.JoinedTies
import Derived.KernelRfl
namespace Go.Proofs.Ytcamdmkaahgihaa
/- THE CELL 'sum', in the pinned program and in every row, IS THE sha256 OF THE DUMP (.gsa) THAT YtcamdmkaahgihaaProg.lean LOADS. Nothing in Lean hashes anything: it is a label: what it is worth is what the hold of that sum in a sandbox is worth. -/
noncomputable def Try.pinned : Pinned := { name := "ytcamdmkaahgihaa", sum := "ba200d489db629dd7c33f3baf5673fda30b521d031c3c1ccc68d9f15d9b3b33f", checked := Try.checked }
namespace Rows
def none {H : Type} : Left H := { results := [], args := [] }

/-- 'laws.FnExactValidName': WHATEVER THE INPUT: true; the input reads as it did. -/
def fnExactValidNameSpec : ChangeSpec := { name := "fnExactValidName", fn := fun _ => fun
  | [d] => { results := [.lit (.bool true)], args := [d] }
  | _ => none }
def fnExactValidNameRow : OpenClaim := { program := "ytcamdmkaahgihaa", sum := "ba200d489db629dd7c33f3baf5673fda30b521d031c3c1ccc68d9f15d9b3b33f", func := "loop.example/pub-shellsyntax/laws.FnExactValidName", spec := "fnExactValidName", apart := false }
def FnExactValidNameSaid : Prop := fnExactValidNameRow.holds Try.pinned (OpenSpec.ofChange fnExactValidNameSpec)

/-- ITS FALSE NEIGHBOUR: 'it returns false'. Refute it at one input. -/
def fnExactValidNameWrong : ChangeSpec := { name := "fnExactValidName", fn := fun _ => fun
  | [d] => { results := [.lit (.bool false)], args := [d] }
  | _ => none }
def FnExactValidNameWrongFalsely : Prop := fnExactValidNameRow.holds Try.pinned (OpenSpec.ofChange fnExactValidNameWrong)

/-- 'laws.FnNameJoin': WHATEVER THE INPUT: true; the input reads as it did. -/
def fnNameJoinSpec : ChangeSpec := { name := "fnNameJoin", fn := fun _ => fun
  | [d1, d2] => { results := [.lit (.bool true)], args := [d1, d2] }
  | _ => none }
def fnNameJoinRow : OpenClaim := { program := "ytcamdmkaahgihaa", sum := "ba200d489db629dd7c33f3baf5673fda30b521d031c3c1ccc68d9f15d9b3b33f", func := "loop.example/pub-shellsyntax/laws.FnNameJoin", spec := "fnNameJoin", apart := false }
def FnNameJoinSaid : Prop := fnNameJoinRow.holds Try.pinned (OpenSpec.ofChange fnNameJoinSpec)

/-- ITS FALSE NEIGHBOUR: 'it returns false'. Refute it at one input. -/
def fnNameJoinWrong : ChangeSpec := { name := "fnNameJoin", fn := fun _ => fun
  | [d1, d2] => { results := [.lit (.bool false)], args := [d1, d2] }
  | _ => none }
def FnNameJoinWrongFalsely : Prop := fnNameJoinRow.holds Try.pinned (OpenSpec.ofChange fnNameJoinWrong)

/-- 'laws.FnKeyword': WHATEVER THE INPUT: true; the input reads as it did. -/
def fnKeywordSpec : ChangeSpec := { name := "fnKeyword", fn := fun _ => fun
  | [d1, d2] => { results := [.lit (.bool true)], args := [d1, d2] }
  | _ => none }
def fnKeywordRow : OpenClaim := { program := "ytcamdmkaahgihaa", sum := "ba200d489db629dd7c33f3baf5673fda30b521d031c3c1ccc68d9f15d9b3b33f", func := "loop.example/pub-shellsyntax/laws.FnKeyword", spec := "fnKeyword", apart := false }
def FnKeywordSaid : Prop := fnKeywordRow.holds Try.pinned (OpenSpec.ofChange fnKeywordSpec)

/-- ITS FALSE NEIGHBOUR: 'it returns false'. Refute it at one input. -/
def fnKeywordWrong : ChangeSpec := { name := "fnKeyword", fn := fun _ => fun
  | [d1, d2] => { results := [.lit (.bool false)], args := [d1, d2] }
  | _ => none }
def FnKeywordWrongFalsely : Prop := fnKeywordRow.holds Try.pinned (OpenSpec.ofChange fnKeywordWrong)

/-- 'laws.FnKeywordBash': WHATEVER THE INPUT: true; the input reads as it did. -/
def fnKeywordBashSpec : ChangeSpec := { name := "fnKeywordBash", fn := fun _ => fun
  | [d] => { results := [.lit (.bool true)], args := [d] }
  | _ => none }
def fnKeywordBashRow : OpenClaim := { program := "ytcamdmkaahgihaa", sum := "ba200d489db629dd7c33f3baf5673fda30b521d031c3c1ccc68d9f15d9b3b33f", func := "loop.example/pub-shellsyntax/laws.FnKeywordBash", spec := "fnKeywordBash", apart := false }
def FnKeywordBashSaid : Prop := fnKeywordBashRow.holds Try.pinned (OpenSpec.ofChange fnKeywordBashSpec)

/-- ITS FALSE NEIGHBOUR: 'it returns false'. Refute it at one input. -/
def fnKeywordBashWrong : ChangeSpec := { name := "fnKeywordBash", fn := fun _ => fun
  | [d] => { results := [.lit (.bool false)], args := [d] }
  | _ => none }
def FnKeywordBashWrongFalsely : Prop := fnKeywordBashRow.holds Try.pinned (OpenSpec.ofChange fnKeywordBashWrong)

/-- 'laws.FnKeywordNone': WHATEVER THE INPUT: true; the input reads as it did. -/
def fnKeywordNoneSpec : ChangeSpec := { name := "fnKeywordNone", fn := fun _ => fun
  | [d] => { results := [.lit (.bool true)], args := [d] }
  | _ => none }
def fnKeywordNoneRow : OpenClaim := { program := "ytcamdmkaahgihaa", sum := "ba200d489db629dd7c33f3baf5673fda30b521d031c3c1ccc68d9f15d9b3b33f", func := "loop.example/pub-shellsyntax/laws.FnKeywordNone", spec := "fnKeywordNone", apart := false }
def FnKeywordNoneSaid : Prop := fnKeywordNoneRow.holds Try.pinned (OpenSpec.ofChange fnKeywordNoneSpec)

/-- ITS FALSE NEIGHBOUR: 'it returns false'. Refute it at one input. -/
def fnKeywordNoneWrong : ChangeSpec := { name := "fnKeywordNone", fn := fun _ => fun
  | [d] => { results := [.lit (.bool false)], args := [d] }
  | _ => none }
def FnKeywordNoneWrongFalsely : Prop := fnKeywordNoneRow.holds Try.pinned (OpenSpec.ofChange fnKeywordNoneWrong)

/- THE SECOND FORM. 'bulk': how many values and letters a reading holds, each counted each time it is reached (what is shared counts as often as it is met; a slice's spare places count too). A statement '..UptoSaid' is the law's where the arguments, and the package variables that the reading takes, are together of bulk at most 1048576: NARROWER than '..Said'. Prove '..Said' where nothing that the law and all that it calls make is longer than what came in: it says more and counts as full. Else prove '..UptoSaid'. A law counts once. -/
mutual
def uptoBulk {H : Type} : DataW H → Nat
  | .lit (.string bytes) => bytes.length + 1
  | .lit _ => 1
  | .nil => 1
  | .ptr d => uptoBulk d + 1
  | .slice elems spare => uptoBulkAll elems + uptoBulkAll spare + 1
  | .agg parts => uptoBulkAll parts + 1
  | .iface _ d => uptoBulk d + 1
  | .map entries => uptoBulkEntries entries + 1
  | .held _ => 1
def uptoBulkAll {H : Type} : List (DataW H) → Nat
  | [] => 0
  | d :: r => uptoBulk d + uptoBulkAll r
def uptoBulkEntries {H : Type} : List (Lit × DataW H) → Nat
  | [] => 0
  | x :: r => uptoBulkEntry x + uptoBulkEntries r
def uptoBulkEntry {H : Type} : Lit × DataW H → Nat
  | (.string bytes, d) => bytes.length + uptoBulk d + 1
  | (_, d) => uptoBulk d + 1
 end
def uptoSmall : (H : Type) → List (DataW H) → Bool := fun _ ds => decide (uptoBulkAll ds ≤ 1048576)
def OpenSpec.upto (s : _root_.Go.ChangeSpec) : _root_.Go.OpenSpec := { _root_.Go.OpenSpec.ofChange s with cond := some uptoSmall }

/-- 'laws.FnExactValidName', WHERE WHAT IT READS IS OF BULK AT MOST 1048576: true; the input reads as it did. -/
def fnExactValidNameUptoRow : OpenClaim := { program := "ytcamdmkaahgihaa", sum := "ba200d489db629dd7c33f3baf5673fda30b521d031c3c1ccc68d9f15d9b3b33f", func := "loop.example/pub-shellsyntax/laws.FnExactValidName", spec := "fnExactValidName", apart := false, narrowed := true }
def FnExactValidNameUptoSaid : Prop := fnExactValidNameUptoRow.holds Try.pinned (OpenSpec.upto fnExactValidNameSpec)

/-- 'laws.FnNameJoin', WHERE WHAT IT READS IS OF BULK AT MOST 1048576: true; the input reads as it did. -/
def fnNameJoinUptoRow : OpenClaim := { program := "ytcamdmkaahgihaa", sum := "ba200d489db629dd7c33f3baf5673fda30b521d031c3c1ccc68d9f15d9b3b33f", func := "loop.example/pub-shellsyntax/laws.FnNameJoin", spec := "fnNameJoin", apart := false, narrowed := true }
def FnNameJoinUptoSaid : Prop := fnNameJoinUptoRow.holds Try.pinned (OpenSpec.upto fnNameJoinSpec)

/-- 'laws.FnKeyword', WHERE WHAT IT READS IS OF BULK AT MOST 1048576: true; the input reads as it did. -/
def fnKeywordUptoRow : OpenClaim := { program := "ytcamdmkaahgihaa", sum := "ba200d489db629dd7c33f3baf5673fda30b521d031c3c1ccc68d9f15d9b3b33f", func := "loop.example/pub-shellsyntax/laws.FnKeyword", spec := "fnKeyword", apart := false, narrowed := true }
def FnKeywordUptoSaid : Prop := fnKeywordUptoRow.holds Try.pinned (OpenSpec.upto fnKeywordSpec)

/-- 'laws.FnKeywordBash', WHERE WHAT IT READS IS OF BULK AT MOST 1048576: true; the input reads as it did. -/
def fnKeywordBashUptoRow : OpenClaim := { program := "ytcamdmkaahgihaa", sum := "ba200d489db629dd7c33f3baf5673fda30b521d031c3c1ccc68d9f15d9b3b33f", func := "loop.example/pub-shellsyntax/laws.FnKeywordBash", spec := "fnKeywordBash", apart := false, narrowed := true }
def FnKeywordBashUptoSaid : Prop := fnKeywordBashUptoRow.holds Try.pinned (OpenSpec.upto fnKeywordBashSpec)

/-- 'laws.FnKeywordNone', WHERE WHAT IT READS IS OF BULK AT MOST 1048576: true; the input reads as it did. -/
def fnKeywordNoneUptoRow : OpenClaim := { program := "ytcamdmkaahgihaa", sum := "ba200d489db629dd7c33f3baf5673fda30b521d031c3c1ccc68d9f15d9b3b33f", func := "loop.example/pub-shellsyntax/laws.FnKeywordNone", spec := "fnKeywordNone", apart := false, narrowed := true }
def FnKeywordNoneUptoSaid : Prop := fnKeywordNoneUptoRow.holds Try.pinned (OpenSpec.upto fnKeywordNoneSpec)

end Rows
end Go.Proofs.Ytcamdmkaahgihaa
