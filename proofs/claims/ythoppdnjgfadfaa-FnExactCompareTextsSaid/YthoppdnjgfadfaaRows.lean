/-
  No cell of these rows narrows 'for every input' (looked for: loops, veiled, ifaces, maps, wideKeys, modest, calm, conditions, laid).
  DERIVED. THE GIVEN ROWS OF THIS SEAT. 8 by the template 'for every input the law returns true; each argument reads behind the call as it read before'; 0 by the template 'total and deterministic' (their statements: YthoppdnjgfadfaaTotals.lean).
  GIVEN WITH THE SEED: the statements are not yours to turn. If you find one false, say at which input.
  Laid BY PROGRAM, IN A SANDBOX (cutbox-rows.mjs): the forced cells as the released guide's own fill.sh prints them over the translation 13867cceb8305a4d… (all of the seat's roots in one cut). By AI agents, Wed Nov 11 2026. No macro, syntax, notation, axiom, sorry.
-/
import Derived.Test.YthoppdnjgfadfaaChecked
import GoSem.Claim
import GoSem.ClaimJoined
import GoSem.ClaimMapViews
import Derived.JoinedTies
import Derived.KernelRfl
namespace Go.Proofs.Ythoppdnjgfadfaa
/- THE CELL 'sum', in the pinned program and in every row, IS THE sha256 OF THE DUMP (.gsa) THAT YthoppdnjgfadfaaProg.lean LOADS. Nothing in Lean hashes anything: it is a label: what it is worth is what the hold of that sum in a sandbox is worth. -/
noncomputable def Try.pinned : Pinned := { name := "ythoppdnjgfadfaa", sum := "13867cceb8305a4d03bd0cbe332e8e08a916141b5c63d2b480068c517d9c6958", checked := Try.checked }
namespace Rows
def none {H : Type} : Left H := { results := [], args := [] }

/-- 'laws.FnLessTexts': WHATEVER THE INPUT: true; the input reads as it did. -/
def fnLessTextsSpec : ChangeSpec := { name := "fnLessTexts", fn := fun _ => fun
  | [d] => { results := [.lit (.bool true)], args := [d] }
  | _ => none }
def fnLessTextsRow : OpenClaim := { program := "ythoppdnjgfadfaa", sum := "13867cceb8305a4d03bd0cbe332e8e08a916141b5c63d2b480068c517d9c6958", func := "loop.example/lib-comparemaps/laws.FnLessTexts", spec := "fnLessTexts", apart := false }
def FnLessTextsSaid : Prop := fnLessTextsRow.holds Try.pinned (OpenSpec.ofChange fnLessTextsSpec)

/-- ITS FALSE NEIGHBOUR: 'it returns false'. Refute it at one input. -/
def fnLessTextsWrong : ChangeSpec := { name := "fnLessTexts", fn := fun _ => fun
  | [d] => { results := [.lit (.bool false)], args := [d] }
  | _ => none }
def FnLessTextsWrongFalsely : Prop := fnLessTextsRow.holds Try.pinned (OpenSpec.ofChange fnLessTextsWrong)

/-- 'laws.FnCompareTexts': WHATEVER THE INPUT: true; the input reads as it did. -/
def fnCompareTextsSpec : ChangeSpec := { name := "fnCompareTexts", fn := fun _ => fun
  | [d] => { results := [.lit (.bool true)], args := [d] }
  | _ => none }
def fnCompareTextsRow : OpenClaim := { program := "ythoppdnjgfadfaa", sum := "13867cceb8305a4d03bd0cbe332e8e08a916141b5c63d2b480068c517d9c6958", func := "loop.example/lib-comparemaps/laws.FnCompareTexts", spec := "fnCompareTexts", apart := false }
def FnCompareTextsSaid : Prop := fnCompareTextsRow.holds Try.pinned (OpenSpec.ofChange fnCompareTextsSpec)

/-- ITS FALSE NEIGHBOUR: 'it returns false'. Refute it at one input. -/
def fnCompareTextsWrong : ChangeSpec := { name := "fnCompareTexts", fn := fun _ => fun
  | [d] => { results := [.lit (.bool false)], args := [d] }
  | _ => none }
def FnCompareTextsWrongFalsely : Prop := fnCompareTextsRow.holds Try.pinned (OpenSpec.ofChange fnCompareTextsWrong)

/-- 'laws.FnCompareTextsChain': WHATEVER THE INPUT: true; the input reads as it did. -/
def fnCompareTextsChainSpec : ChangeSpec := { name := "fnCompareTextsChain", fn := fun _ => fun
  | [d] => { results := [.lit (.bool true)], args := [d] }
  | _ => none }
def fnCompareTextsChainRow : OpenClaim := { program := "ythoppdnjgfadfaa", sum := "13867cceb8305a4d03bd0cbe332e8e08a916141b5c63d2b480068c517d9c6958", func := "loop.example/lib-comparemaps/laws.FnCompareTextsChain", spec := "fnCompareTextsChain", apart := false }
def FnCompareTextsChainSaid : Prop := fnCompareTextsChainRow.holds Try.pinned (OpenSpec.ofChange fnCompareTextsChainSpec)

/-- ITS FALSE NEIGHBOUR: 'it returns false'. Refute it at one input. -/
def fnCompareTextsChainWrong : ChangeSpec := { name := "fnCompareTextsChain", fn := fun _ => fun
  | [d] => { results := [.lit (.bool false)], args := [d] }
  | _ => none }
def FnCompareTextsChainWrongFalsely : Prop := fnCompareTextsChainRow.holds Try.pinned (OpenSpec.ofChange fnCompareTextsChainWrong)

/-- 'laws.FnCompareTextsTurned': WHATEVER THE INPUT: true; the input reads as it did. -/
def fnCompareTextsTurnedSpec : ChangeSpec := { name := "fnCompareTextsTurned", fn := fun _ => fun
  | [d] => { results := [.lit (.bool true)], args := [d] }
  | _ => none }
def fnCompareTextsTurnedRow : OpenClaim := { program := "ythoppdnjgfadfaa", sum := "13867cceb8305a4d03bd0cbe332e8e08a916141b5c63d2b480068c517d9c6958", func := "loop.example/lib-comparemaps/laws.FnCompareTextsTurned", spec := "fnCompareTextsTurned", apart := false }
def FnCompareTextsTurnedSaid : Prop := fnCompareTextsTurnedRow.holds Try.pinned (OpenSpec.ofChange fnCompareTextsTurnedSpec)

/-- ITS FALSE NEIGHBOUR: 'it returns false'. Refute it at one input. -/
def fnCompareTextsTurnedWrong : ChangeSpec := { name := "fnCompareTextsTurned", fn := fun _ => fun
  | [d] => { results := [.lit (.bool false)], args := [d] }
  | _ => none }
def FnCompareTextsTurnedWrongFalsely : Prop := fnCompareTextsTurnedRow.holds Try.pinned (OpenSpec.ofChange fnCompareTextsTurnedWrong)

/-- 'laws.FnExactCompareTexts': WHATEVER THE INPUT: true; the input reads as it did. -/
def fnExactCompareTextsSpec : ChangeSpec := { name := "fnExactCompareTexts", fn := fun _ => fun
  | [d1, d2] => { results := [.lit (.bool true)], args := [d1, d2] }
  | _ => none }
def fnExactCompareTextsRow : OpenClaim := { program := "ythoppdnjgfadfaa", sum := "13867cceb8305a4d03bd0cbe332e8e08a916141b5c63d2b480068c517d9c6958", func := "loop.example/lib-comparemaps/laws.FnExactCompareTexts", spec := "fnExactCompareTexts", apart := false }
def FnExactCompareTextsSaid : Prop := fnExactCompareTextsRow.holds Try.pinned (OpenSpec.ofChange fnExactCompareTextsSpec)

/-- ITS FALSE NEIGHBOUR: 'it returns false'. Refute it at one input. -/
def fnExactCompareTextsWrong : ChangeSpec := { name := "fnExactCompareTexts", fn := fun _ => fun
  | [d1, d2] => { results := [.lit (.bool false)], args := [d1, d2] }
  | _ => none }
def FnExactCompareTextsWrongFalsely : Prop := fnExactCompareTextsRow.holds Try.pinned (OpenSpec.ofChange fnExactCompareTextsWrong)

/-- 'laws.FnCompareTextsJoin': WHATEVER THE INPUT: true; the input reads as it did. -/
def fnCompareTextsJoinSpec : ChangeSpec := { name := "fnCompareTextsJoin", fn := fun _ => fun
  | [d] => { results := [.lit (.bool true)], args := [d] }
  | _ => none }
def fnCompareTextsJoinRow : OpenClaim := { program := "ythoppdnjgfadfaa", sum := "13867cceb8305a4d03bd0cbe332e8e08a916141b5c63d2b480068c517d9c6958", func := "loop.example/lib-comparemaps/laws.FnCompareTextsJoin", spec := "fnCompareTextsJoin", apart := false }
def FnCompareTextsJoinSaid : Prop := fnCompareTextsJoinRow.holds Try.pinned (OpenSpec.ofChange fnCompareTextsJoinSpec)

/-- ITS FALSE NEIGHBOUR: 'it returns false'. Refute it at one input. -/
def fnCompareTextsJoinWrong : ChangeSpec := { name := "fnCompareTextsJoin", fn := fun _ => fun
  | [d] => { results := [.lit (.bool false)], args := [d] }
  | _ => none }
def FnCompareTextsJoinWrongFalsely : Prop := fnCompareTextsJoinRow.holds Try.pinned (OpenSpec.ofChange fnCompareTextsJoinWrong)

/-- 'laws.FnCompareTextsLess': WHATEVER THE INPUT: true; the input reads as it did. -/
def fnCompareTextsLessSpec : ChangeSpec := { name := "fnCompareTextsLess", fn := fun _ => fun
  | [d] => { results := [.lit (.bool true)], args := [d] }
  | _ => none }
def fnCompareTextsLessRow : OpenClaim := { program := "ythoppdnjgfadfaa", sum := "13867cceb8305a4d03bd0cbe332e8e08a916141b5c63d2b480068c517d9c6958", func := "loop.example/lib-comparemaps/laws.FnCompareTextsLess", spec := "fnCompareTextsLess", apart := false }
def FnCompareTextsLessSaid : Prop := fnCompareTextsLessRow.holds Try.pinned (OpenSpec.ofChange fnCompareTextsLessSpec)

/-- ITS FALSE NEIGHBOUR: 'it returns false'. Refute it at one input. -/
def fnCompareTextsLessWrong : ChangeSpec := { name := "fnCompareTextsLess", fn := fun _ => fun
  | [d] => { results := [.lit (.bool false)], args := [d] }
  | _ => none }
def FnCompareTextsLessWrongFalsely : Prop := fnCompareTextsLessRow.holds Try.pinned (OpenSpec.ofChange fnCompareTextsLessWrong)

/-- 'laws.FnCompareTextsSelf': WHATEVER THE INPUT: true; the input reads as it did. -/
def fnCompareTextsSelfSpec : ChangeSpec := { name := "fnCompareTextsSelf", fn := fun _ => fun
  | [d] => { results := [.lit (.bool true)], args := [d] }
  | _ => none }
def fnCompareTextsSelfRow : OpenClaim := { program := "ythoppdnjgfadfaa", sum := "13867cceb8305a4d03bd0cbe332e8e08a916141b5c63d2b480068c517d9c6958", func := "loop.example/lib-comparemaps/laws.FnCompareTextsSelf", spec := "fnCompareTextsSelf", apart := false }
def FnCompareTextsSelfSaid : Prop := fnCompareTextsSelfRow.holds Try.pinned (OpenSpec.ofChange fnCompareTextsSelfSpec)

/-- ITS FALSE NEIGHBOUR: 'it returns false'. Refute it at one input. -/
def fnCompareTextsSelfWrong : ChangeSpec := { name := "fnCompareTextsSelf", fn := fun _ => fun
  | [d] => { results := [.lit (.bool false)], args := [d] }
  | _ => none }
def FnCompareTextsSelfWrongFalsely : Prop := fnCompareTextsSelfRow.holds Try.pinned (OpenSpec.ofChange fnCompareTextsSelfWrong)

/- THE SECOND FORM. 'bulk': how many values and letters a reading holds, each counted each time it is reached (what is shared counts as often as it is met; a slice's spare places count too). A statement '..UptoSaid' is the law's where the arguments, and the package variables that the reading takes, are together of bulk at most 1048576: NARROWER than '..Said'. Prove '..Said' where nothing that the law and all that it calls make is longer than what came in: it says more and counts as full. Else prove '..UptoSaid'. A law counts once. -/
mutual
def uptoBulk {H : Type} : DataW H → Nat
  | .lit (.string bytes) => bytes.length + 1
  | .lit _ => 1
  | .nil => 1
  | .ptr d => uptoBulk d + 1
  | .slice elems spare => uptoBulkAll elems + uptoBulkAll spare + 1
  | .agg parts => uptoBulkAll parts + 1
  | .iface _ d => uptoBulk d + 1
  | .map entries => uptoBulkEntries entries + 1
  | .held _ => 1
def uptoBulkAll {H : Type} : List (DataW H) → Nat
  | [] => 0
  | d :: r => uptoBulk d + uptoBulkAll r
def uptoBulkEntries {H : Type} : List (Lit × DataW H) → Nat
  | [] => 0
  | x :: r => uptoBulkEntry x + uptoBulkEntries r
def uptoBulkEntry {H : Type} : Lit × DataW H → Nat
  | (.string bytes, d) => bytes.length + uptoBulk d + 1
  | (_, d) => uptoBulk d + 1
 end
def uptoSmall : (H : Type) → List (DataW H) → Bool := fun _ ds => decide (uptoBulkAll ds ≤ 1048576)
def OpenSpec.upto (s : _root_.Go.ChangeSpec) : _root_.Go.OpenSpec := { _root_.Go.OpenSpec.ofChange s with cond := some uptoSmall }

/-- 'laws.FnLessTexts', WHERE WHAT IT READS IS OF BULK AT MOST 1048576: true; the input reads as it did. -/
def fnLessTextsUptoRow : OpenClaim := { program := "ythoppdnjgfadfaa", sum := "13867cceb8305a4d03bd0cbe332e8e08a916141b5c63d2b480068c517d9c6958", func := "loop.example/lib-comparemaps/laws.FnLessTexts", spec := "fnLessTexts", apart := false, narrowed := true }
def FnLessTextsUptoSaid : Prop := fnLessTextsUptoRow.holds Try.pinned (OpenSpec.upto fnLessTextsSpec)

/-- 'laws.FnCompareTexts', WHERE WHAT IT READS IS OF BULK AT MOST 1048576: true; the input reads as it did. -/
def fnCompareTextsUptoRow : OpenClaim := { program := "ythoppdnjgfadfaa", sum := "13867cceb8305a4d03bd0cbe332e8e08a916141b5c63d2b480068c517d9c6958", func := "loop.example/lib-comparemaps/laws.FnCompareTexts", spec := "fnCompareTexts", apart := false, narrowed := true }
def FnCompareTextsUptoSaid : Prop := fnCompareTextsUptoRow.holds Try.pinned (OpenSpec.upto fnCompareTextsSpec)

/-- 'laws.FnCompareTextsChain', WHERE WHAT IT READS IS OF BULK AT MOST 1048576: true; the input reads as it did. -/
def fnCompareTextsChainUptoRow : OpenClaim := { program := "ythoppdnjgfadfaa", sum := "13867cceb8305a4d03bd0cbe332e8e08a916141b5c63d2b480068c517d9c6958", func := "loop.example/lib-comparemaps/laws.FnCompareTextsChain", spec := "fnCompareTextsChain", apart := false, narrowed := true }
def FnCompareTextsChainUptoSaid : Prop := fnCompareTextsChainUptoRow.holds Try.pinned (OpenSpec.upto fnCompareTextsChainSpec)

/-- 'laws.FnCompareTextsTurned', WHERE WHAT IT READS IS OF BULK AT MOST 1048576: true; the input reads as it did. -/
def fnCompareTextsTurnedUptoRow : OpenClaim := { program := "ythoppdnjgfadfaa", sum := "13867cceb8305a4d03bd0cbe332e8e08a916141b5c63d2b480068c517d9c6958", func := "loop.example/lib-comparemaps/laws.FnCompareTextsTurned", spec := "fnCompareTextsTurned", apart := false, narrowed := true }
def FnCompareTextsTurnedUptoSaid : Prop := fnCompareTextsTurnedUptoRow.holds Try.pinned (OpenSpec.upto fnCompareTextsTurnedSpec)

/-- 'laws.FnExactCompareTexts', WHERE WHAT IT READS IS OF BULK AT MOST 1048576: true; the input reads as it did. -/
def fnExactCompareTextsUptoRow : OpenClaim := { program := "ythoppdnjgfadfaa", sum := "13867cceb8305a4d03bd0cbe332e8e08a916141b5c63d2b480068c517d9c6958", func := "loop.example/lib-comparemaps/laws.FnExactCompareTexts", spec := "fnExactCompareTexts", apart := false, narrowed := true }
def FnExactCompareTextsUptoSaid : Prop := fnExactCompareTextsUptoRow.holds Try.pinned (OpenSpec.upto fnExactCompareTextsSpec)

/-- 'laws.FnCompareTextsJoin', WHERE WHAT IT READS IS OF BULK AT MOST 1048576: true; the input reads as it did. -/
def fnCompareTextsJoinUptoRow : OpenClaim := { program := "ythoppdnjgfadfaa", sum := "13867cceb8305a4d03bd0cbe332e8e08a916141b5c63d2b480068c517d9c6958", func := "loop.example/lib-comparemaps/laws.FnCompareTextsJoin", spec := "fnCompareTextsJoin", apart := false, narrowed := true }
def FnCompareTextsJoinUptoSaid : Prop := fnCompareTextsJoinUptoRow.holds Try.pinned (OpenSpec.upto fnCompareTextsJoinSpec)

/-- 'laws.FnCompareTextsLess', WHERE WHAT IT READS IS OF BULK AT MOST 1048576: true; the input reads as it did. -/
def fnCompareTextsLessUptoRow : OpenClaim := { program := "ythoppdnjgfadfaa", sum := "13867cceb8305a4d03bd0cbe332e8e08a916141b5c63d2b480068c517d9c6958", func := "loop.example/lib-comparemaps/laws.FnCompareTextsLess", spec := "fnCompareTextsLess", apart := false, narrowed := true }
def FnCompareTextsLessUptoSaid : Prop := fnCompareTextsLessUptoRow.holds Try.pinned (OpenSpec.upto fnCompareTextsLessSpec)

/-- 'laws.FnCompareTextsSelf', WHERE WHAT IT READS IS OF BULK AT MOST 1048576: true; the input reads as it did. -/
def fnCompareTextsSelfUptoRow : OpenClaim := { program := "ythoppdnjgfadfaa", sum := "13867cceb8305a4d03bd0cbe332e8e08a916141b5c63d2b480068c517d9c6958", func := "loop.example/lib-comparemaps/laws.FnCompareTextsSelf", spec := "fnCompareTextsSelf", apart := false, narrowed := true }
def FnCompareTextsSelfUptoSaid : Prop := fnCompareTextsSelfUptoRow.holds Try.pinned (OpenSpec.upto fnCompareTextsSelfSpec)

end Rows
end Go.Proofs.Ythoppdnjgfadfaa
