/-
  No cell of these rows narrows 'for every input' (looked for: loops, veiled, ifaces, maps, wideKeys, modest, calm, conditions, laid).
  DERIVED. THE GIVEN ROWS OF THIS SEAT. 7 by the template 'for every input the law returns true; each argument reads behind the call as it read before'; 0 by the template 'total and deterministic' (their statements: YtnfelnlakfaaoaaTotals.lean).
  GIVEN WITH THE SEED: the statements are not yours to turn. If you find one false, say at which input.
  Laid BY PROGRAM, IN A SANDBOX (cutbox-rows.mjs): the forced cells as the released guide's own fill.sh prints them over the translation 75ef1de1a300e827… (all of the seat's roots in one cut). By AI agents, Wed Nov 11 2026. No macro, syntax, notation, axiom, sorry.
-/
import Derived.Test.YtnfelnlakfaaoaaChecked
import GoSem.Claim
import GoSem.ClaimJoined
import GoSem.ClaimMapViews
import Derived.JoinedTies
import Derived.KernelRfl
namespace Go.Proofs.Ytnfelnlakfaaoaa
/- THE CELL 'sum', in the pinned program and in every row, IS THE sha256 OF THE DUMP (.gsa) THAT YtnfelnlakfaaoaaProg.lean LOADS. Nothing in Lean hashes anything: it is a label: what it is worth is what the hold of that sum in a sandbox is worth. -/
noncomputable def Try.pinned : Pinned := { name := "ytnfelnlakfaaoaa", sum := "75ef1de1a300e827e0e7a367b538065e29ab9d59597703fc85283af9ca8bb4e1", checked := Try.checked }
namespace Rows
def none {H : Type} : Left H := { results := [], args := [] }

/-- 'laws.FnLessUints': WHATEVER THE INPUT: true; the input reads as it did. -/
def fnLessUintsSpec : ChangeSpec := { name := "fnLessUints", fn := fun _ => fun
  | [d] => { results := [.lit (.bool true)], args := [d] }
  | _ => none }
def fnLessUintsRow : OpenClaim := { program := "ytnfelnlakfaaoaa", sum := "75ef1de1a300e827e0e7a367b538065e29ab9d59597703fc85283af9ca8bb4e1", func := "loop.example/lib-comparemaps/laws.FnLessUints", spec := "fnLessUints", apart := false }
def FnLessUintsSaid : Prop := fnLessUintsRow.holds Try.pinned (OpenSpec.ofChange fnLessUintsSpec)

/-- ITS FALSE NEIGHBOUR: 'it returns false'. Refute it at one input. -/
def fnLessUintsWrong : ChangeSpec := { name := "fnLessUints", fn := fun _ => fun
  | [d] => { results := [.lit (.bool false)], args := [d] }
  | _ => none }
def FnLessUintsWrongFalsely : Prop := fnLessUintsRow.holds Try.pinned (OpenSpec.ofChange fnLessUintsWrong)

/-- 'laws.FnCompareUints': WHATEVER THE INPUT: true; the input reads as it did. -/
def fnCompareUintsSpec : ChangeSpec := { name := "fnCompareUints", fn := fun _ => fun
  | [d] => { results := [.lit (.bool true)], args := [d] }
  | _ => none }
def fnCompareUintsRow : OpenClaim := { program := "ytnfelnlakfaaoaa", sum := "75ef1de1a300e827e0e7a367b538065e29ab9d59597703fc85283af9ca8bb4e1", func := "loop.example/lib-comparemaps/laws.FnCompareUints", spec := "fnCompareUints", apart := false }
def FnCompareUintsSaid : Prop := fnCompareUintsRow.holds Try.pinned (OpenSpec.ofChange fnCompareUintsSpec)

/-- ITS FALSE NEIGHBOUR: 'it returns false'. Refute it at one input. -/
def fnCompareUintsWrong : ChangeSpec := { name := "fnCompareUints", fn := fun _ => fun
  | [d] => { results := [.lit (.bool false)], args := [d] }
  | _ => none }
def FnCompareUintsWrongFalsely : Prop := fnCompareUintsRow.holds Try.pinned (OpenSpec.ofChange fnCompareUintsWrong)

/-- 'laws.FnCompareUintsChain': WHATEVER THE INPUT: true; the input reads as it did. -/
def fnCompareUintsChainSpec : ChangeSpec := { name := "fnCompareUintsChain", fn := fun _ => fun
  | [d] => { results := [.lit (.bool true)], args := [d] }
  | _ => none }
def fnCompareUintsChainRow : OpenClaim := { program := "ytnfelnlakfaaoaa", sum := "75ef1de1a300e827e0e7a367b538065e29ab9d59597703fc85283af9ca8bb4e1", func := "loop.example/lib-comparemaps/laws.FnCompareUintsChain", spec := "fnCompareUintsChain", apart := false }
def FnCompareUintsChainSaid : Prop := fnCompareUintsChainRow.holds Try.pinned (OpenSpec.ofChange fnCompareUintsChainSpec)

/-- ITS FALSE NEIGHBOUR: 'it returns false'. Refute it at one input. -/
def fnCompareUintsChainWrong : ChangeSpec := { name := "fnCompareUintsChain", fn := fun _ => fun
  | [d] => { results := [.lit (.bool false)], args := [d] }
  | _ => none }
def FnCompareUintsChainWrongFalsely : Prop := fnCompareUintsChainRow.holds Try.pinned (OpenSpec.ofChange fnCompareUintsChainWrong)

/-- 'laws.FnCompareUintsTurned': WHATEVER THE INPUT: true; the input reads as it did. -/
def fnCompareUintsTurnedSpec : ChangeSpec := { name := "fnCompareUintsTurned", fn := fun _ => fun
  | [d] => { results := [.lit (.bool true)], args := [d] }
  | _ => none }
def fnCompareUintsTurnedRow : OpenClaim := { program := "ytnfelnlakfaaoaa", sum := "75ef1de1a300e827e0e7a367b538065e29ab9d59597703fc85283af9ca8bb4e1", func := "loop.example/lib-comparemaps/laws.FnCompareUintsTurned", spec := "fnCompareUintsTurned", apart := false }
def FnCompareUintsTurnedSaid : Prop := fnCompareUintsTurnedRow.holds Try.pinned (OpenSpec.ofChange fnCompareUintsTurnedSpec)

/-- ITS FALSE NEIGHBOUR: 'it returns false'. Refute it at one input. -/
def fnCompareUintsTurnedWrong : ChangeSpec := { name := "fnCompareUintsTurned", fn := fun _ => fun
  | [d] => { results := [.lit (.bool false)], args := [d] }
  | _ => none }
def FnCompareUintsTurnedWrongFalsely : Prop := fnCompareUintsTurnedRow.holds Try.pinned (OpenSpec.ofChange fnCompareUintsTurnedWrong)

/-- 'laws.FnExactCompareUints': WHATEVER THE INPUT: true; the input reads as it did. -/
def fnExactCompareUintsSpec : ChangeSpec := { name := "fnExactCompareUints", fn := fun _ => fun
  | [d1, d2] => { results := [.lit (.bool true)], args := [d1, d2] }
  | _ => none }
def fnExactCompareUintsRow : OpenClaim := { program := "ytnfelnlakfaaoaa", sum := "75ef1de1a300e827e0e7a367b538065e29ab9d59597703fc85283af9ca8bb4e1", func := "loop.example/lib-comparemaps/laws.FnExactCompareUints", spec := "fnExactCompareUints", apart := false }
def FnExactCompareUintsSaid : Prop := fnExactCompareUintsRow.holds Try.pinned (OpenSpec.ofChange fnExactCompareUintsSpec)

/-- ITS FALSE NEIGHBOUR: 'it returns false'. Refute it at one input. -/
def fnExactCompareUintsWrong : ChangeSpec := { name := "fnExactCompareUints", fn := fun _ => fun
  | [d1, d2] => { results := [.lit (.bool false)], args := [d1, d2] }
  | _ => none }
def FnExactCompareUintsWrongFalsely : Prop := fnExactCompareUintsRow.holds Try.pinned (OpenSpec.ofChange fnExactCompareUintsWrong)

/-- 'laws.FnCompareUintsLess': WHATEVER THE INPUT: true; the input reads as it did. -/
def fnCompareUintsLessSpec : ChangeSpec := { name := "fnCompareUintsLess", fn := fun _ => fun
  | [d] => { results := [.lit (.bool true)], args := [d] }
  | _ => none }
def fnCompareUintsLessRow : OpenClaim := { program := "ytnfelnlakfaaoaa", sum := "75ef1de1a300e827e0e7a367b538065e29ab9d59597703fc85283af9ca8bb4e1", func := "loop.example/lib-comparemaps/laws.FnCompareUintsLess", spec := "fnCompareUintsLess", apart := false }
def FnCompareUintsLessSaid : Prop := fnCompareUintsLessRow.holds Try.pinned (OpenSpec.ofChange fnCompareUintsLessSpec)

/-- ITS FALSE NEIGHBOUR: 'it returns false'. Refute it at one input. -/
def fnCompareUintsLessWrong : ChangeSpec := { name := "fnCompareUintsLess", fn := fun _ => fun
  | [d] => { results := [.lit (.bool false)], args := [d] }
  | _ => none }
def FnCompareUintsLessWrongFalsely : Prop := fnCompareUintsLessRow.holds Try.pinned (OpenSpec.ofChange fnCompareUintsLessWrong)

/-- 'laws.FnCompareUintsSelf': WHATEVER THE INPUT: true; the input reads as it did. -/
def fnCompareUintsSelfSpec : ChangeSpec := { name := "fnCompareUintsSelf", fn := fun _ => fun
  | [d] => { results := [.lit (.bool true)], args := [d] }
  | _ => none }
def fnCompareUintsSelfRow : OpenClaim := { program := "ytnfelnlakfaaoaa", sum := "75ef1de1a300e827e0e7a367b538065e29ab9d59597703fc85283af9ca8bb4e1", func := "loop.example/lib-comparemaps/laws.FnCompareUintsSelf", spec := "fnCompareUintsSelf", apart := false }
def FnCompareUintsSelfSaid : Prop := fnCompareUintsSelfRow.holds Try.pinned (OpenSpec.ofChange fnCompareUintsSelfSpec)

/-- ITS FALSE NEIGHBOUR: 'it returns false'. Refute it at one input. -/
def fnCompareUintsSelfWrong : ChangeSpec := { name := "fnCompareUintsSelf", fn := fun _ => fun
  | [d] => { results := [.lit (.bool false)], args := [d] }
  | _ => none }
def FnCompareUintsSelfWrongFalsely : Prop := fnCompareUintsSelfRow.holds Try.pinned (OpenSpec.ofChange fnCompareUintsSelfWrong)

/- THE SECOND FORM. 'bulk': how many values and letters a reading holds, each counted each time it is reached (what is shared counts as often as it is met; a slice's spare places count too). A statement '..UptoSaid' is the law's where the arguments, and the package variables that the reading takes, are together of bulk at most 1048576: NARROWER than '..Said'. Prove '..Said' where nothing that the law and all that it calls make is longer than what came in: it says more and counts as full. Else prove '..UptoSaid'. A law counts once. -/
mutual
def uptoBulk {H : Type} : DataW H → Nat
  | .lit (.string bytes) => bytes.length + 1
  | .lit _ => 1
  | .nil => 1
  | .ptr d => uptoBulk d + 1
  | .slice elems spare => uptoBulkAll elems + uptoBulkAll spare + 1
  | .agg parts => uptoBulkAll parts + 1
  | .iface _ d => uptoBulk d + 1
  | .map entries => uptoBulkEntries entries + 1
  | .held _ => 1
def uptoBulkAll {H : Type} : List (DataW H) → Nat
  | [] => 0
  | d :: r => uptoBulk d + uptoBulkAll r
def uptoBulkEntries {H : Type} : List (Lit × DataW H) → Nat
  | [] => 0
  | x :: r => uptoBulkEntry x + uptoBulkEntries r
def uptoBulkEntry {H : Type} : Lit × DataW H → Nat
  | (.string bytes, d) => bytes.length + uptoBulk d + 1
  | (_, d) => uptoBulk d + 1
 end
def uptoSmall : (H : Type) → List (DataW H) → Bool := fun _ ds => decide (uptoBulkAll ds ≤ 1048576)
def OpenSpec.upto (s : _root_.Go.ChangeSpec) : _root_.Go.OpenSpec := { _root_.Go.OpenSpec.ofChange s with cond := some uptoSmall }

/-- 'laws.FnLessUints', WHERE WHAT IT READS IS OF BULK AT MOST 1048576: true; the input reads as it did. -/
def fnLessUintsUptoRow : OpenClaim := { program := "ytnfelnlakfaaoaa", sum := "75ef1de1a300e827e0e7a367b538065e29ab9d59597703fc85283af9ca8bb4e1", func := "loop.example/lib-comparemaps/laws.FnLessUints", spec := "fnLessUints", apart := false, narrowed := true }
def FnLessUintsUptoSaid : Prop := fnLessUintsUptoRow.holds Try.pinned (OpenSpec.upto fnLessUintsSpec)

/-- 'laws.FnCompareUints', WHERE WHAT IT READS IS OF BULK AT MOST 1048576: true; the input reads as it did. -/
def fnCompareUintsUptoRow : OpenClaim := { program := "ytnfelnlakfaaoaa", sum := "75ef1de1a300e827e0e7a367b538065e29ab9d59597703fc85283af9ca8bb4e1", func := "loop.example/lib-comparemaps/laws.FnCompareUints", spec := "fnCompareUints", apart := false, narrowed := true }
def FnCompareUintsUptoSaid : Prop := fnCompareUintsUptoRow.holds Try.pinned (OpenSpec.upto fnCompareUintsSpec)

/-- 'laws.FnCompareUintsChain', WHERE WHAT IT READS IS OF BULK AT MOST 1048576: true; the input reads as it did. -/
def fnCompareUintsChainUptoRow : OpenClaim := { program := "ytnfelnlakfaaoaa", sum := "75ef1de1a300e827e0e7a367b538065e29ab9d59597703fc85283af9ca8bb4e1", func := "loop.example/lib-comparemaps/laws.FnCompareUintsChain", spec := "fnCompareUintsChain", apart := false, narrowed := true }
def FnCompareUintsChainUptoSaid : Prop := fnCompareUintsChainUptoRow.holds Try.pinned (OpenSpec.upto fnCompareUintsChainSpec)

/-- 'laws.FnCompareUintsTurned', WHERE WHAT IT READS IS OF BULK AT MOST 1048576: true; the input reads as it did. -/
def fnCompareUintsTurnedUptoRow : OpenClaim := { program := "ytnfelnlakfaaoaa", sum := "75ef1de1a300e827e0e7a367b538065e29ab9d59597703fc85283af9ca8bb4e1", func := "loop.example/lib-comparemaps/laws.FnCompareUintsTurned", spec := "fnCompareUintsTurned", apart := false, narrowed := true }
def FnCompareUintsTurnedUptoSaid : Prop := fnCompareUintsTurnedUptoRow.holds Try.pinned (OpenSpec.upto fnCompareUintsTurnedSpec)

/-- 'laws.FnExactCompareUints', WHERE WHAT IT READS IS OF BULK AT MOST 1048576: true; the input reads as it did. -/
def fnExactCompareUintsUptoRow : OpenClaim := { program := "ytnfelnlakfaaoaa", sum := "75ef1de1a300e827e0e7a367b538065e29ab9d59597703fc85283af9ca8bb4e1", func := "loop.example/lib-comparemaps/laws.FnExactCompareUints", spec := "fnExactCompareUints", apart := false, narrowed := true }
def FnExactCompareUintsUptoSaid : Prop := fnExactCompareUintsUptoRow.holds Try.pinned (OpenSpec.upto fnExactCompareUintsSpec)

/-- 'laws.FnCompareUintsLess', WHERE WHAT IT READS IS OF BULK AT MOST 1048576: true; the input reads as it did. -/
def fnCompareUintsLessUptoRow : OpenClaim := { program := "ytnfelnlakfaaoaa", sum := "75ef1de1a300e827e0e7a367b538065e29ab9d59597703fc85283af9ca8bb4e1", func := "loop.example/lib-comparemaps/laws.FnCompareUintsLess", spec := "fnCompareUintsLess", apart := false, narrowed := true }
def FnCompareUintsLessUptoSaid : Prop := fnCompareUintsLessUptoRow.holds Try.pinned (OpenSpec.upto fnCompareUintsLessSpec)

/-- 'laws.FnCompareUintsSelf', WHERE WHAT IT READS IS OF BULK AT MOST 1048576: true; the input reads as it did. -/
def fnCompareUintsSelfUptoRow : OpenClaim := { program := "ytnfelnlakfaaoaa", sum := "75ef1de1a300e827e0e7a367b538065e29ab9d59597703fc85283af9ca8bb4e1", func := "loop.example/lib-comparemaps/laws.FnCompareUintsSelf", spec := "fnCompareUintsSelf", apart := false, narrowed := true }
def FnCompareUintsSelfUptoSaid : Prop := fnCompareUintsSelfUptoRow.holds Try.pinned (OpenSpec.upto fnCompareUintsSelfSpec)

end Rows
end Go.Proofs.Ytnfelnlakfaaoaa
