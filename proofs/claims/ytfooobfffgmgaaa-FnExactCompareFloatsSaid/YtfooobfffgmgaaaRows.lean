/-
  No cell of these rows narrows 'for every input' (looked for: loops, veiled, ifaces, maps, wideKeys, modest, calm, conditions, laid).
  DERIVED. THE GIVEN ROWS OF THIS SEAT. 8 by the template 'for every input the law returns true; each argument reads behind the call as it read before'; 0 by the template 'total and deterministic' (their statements: YtfooobfffgmgaaaTotals.lean).
  GIVEN WITH THE SEED: the statements are not yours to turn. If you find one false, say at which input.
  Laid BY PROGRAM, IN A SANDBOX (cutbox-rows.mjs): the forced cells as the released guide's own fill.sh prints them over the translation ce1a7d60da02aff6… (all of the seat's roots in one cut). By AI agents, Wed Nov 11 2026. No macro, syntax, notation, axiom, sorry.
-/
import Derived.Test.YtfooobfffgmgaaaChecked
import GoSem.Claim
import GoSem.ClaimJoined
import GoSem.ClaimMapViews
import Derived.JoinedTies
import Derived.KernelRfl
namespace Go.Proofs.Ytfooobfffgmgaaa
/- THE CELL 'sum', in the pinned program and in every row, IS THE sha256 OF THE DUMP (.gsa) THAT YtfooobfffgmgaaaProg.lean LOADS. Nothing in Lean hashes anything: it is a label: what it is worth is what the hold of that sum in a sandbox is worth. -/
noncomputable def Try.pinned : Pinned := { name := "ytfooobfffgmgaaa", sum := "ce1a7d60da02aff67fedfd103c78381bb4add1992cd451f329c9a1609e0ce4b4", checked := Try.checked }
namespace Rows
def none {H : Type} : Left H := { results := [], args := [] }

/-- 'laws.FnLessFloats': WHATEVER THE INPUT: true; the input reads as it did. -/
def fnLessFloatsSpec : ChangeSpec := { name := "fnLessFloats", fn := fun _ => fun
  | [d] => { results := [.lit (.bool true)], args := [d] }
  | _ => none }
def fnLessFloatsRow : OpenClaim := { program := "ytfooobfffgmgaaa", sum := "ce1a7d60da02aff67fedfd103c78381bb4add1992cd451f329c9a1609e0ce4b4", func := "loop.example/lib-comparemaps/laws.FnLessFloats", spec := "fnLessFloats", inPlace := ["math.Float64bits", "math.Float64frombits"], apart := false }
def FnLessFloatsSaid : Prop := fnLessFloatsRow.holds Try.pinned (OpenSpec.ofChange fnLessFloatsSpec)

/-- ITS FALSE NEIGHBOUR: 'it returns false'. Refute it at one input. -/
def fnLessFloatsWrong : ChangeSpec := { name := "fnLessFloats", fn := fun _ => fun
  | [d] => { results := [.lit (.bool false)], args := [d] }
  | _ => none }
def FnLessFloatsWrongFalsely : Prop := fnLessFloatsRow.holds Try.pinned (OpenSpec.ofChange fnLessFloatsWrong)

/-- 'laws.FnExactCompareFloats': WHATEVER THE INPUT: true; the input reads as it did. -/
def fnExactCompareFloatsSpec : ChangeSpec := { name := "fnExactCompareFloats", fn := fun _ => fun
  | [d1, d2] => { results := [.lit (.bool true)], args := [d1, d2] }
  | _ => none }
def fnExactCompareFloatsRow : OpenClaim := { program := "ytfooobfffgmgaaa", sum := "ce1a7d60da02aff67fedfd103c78381bb4add1992cd451f329c9a1609e0ce4b4", func := "loop.example/lib-comparemaps/laws.FnExactCompareFloats", spec := "fnExactCompareFloats", apart := false }
def FnExactCompareFloatsSaid : Prop := fnExactCompareFloatsRow.holds Try.pinned (OpenSpec.ofChange fnExactCompareFloatsSpec)

/-- ITS FALSE NEIGHBOUR: 'it returns false'. Refute it at one input. -/
def fnExactCompareFloatsWrong : ChangeSpec := { name := "fnExactCompareFloats", fn := fun _ => fun
  | [d1, d2] => { results := [.lit (.bool false)], args := [d1, d2] }
  | _ => none }
def FnExactCompareFloatsWrongFalsely : Prop := fnExactCompareFloatsRow.holds Try.pinned (OpenSpec.ofChange fnExactCompareFloatsWrong)

/-- 'laws.FnCompareFloats': WHATEVER THE INPUT: true; the input reads as it did. -/
def fnCompareFloatsSpec : ChangeSpec := { name := "fnCompareFloats", fn := fun _ => fun
  | [d] => { results := [.lit (.bool true)], args := [d] }
  | _ => none }
def fnCompareFloatsRow : OpenClaim := { program := "ytfooobfffgmgaaa", sum := "ce1a7d60da02aff67fedfd103c78381bb4add1992cd451f329c9a1609e0ce4b4", func := "loop.example/lib-comparemaps/laws.FnCompareFloats", spec := "fnCompareFloats", inPlace := ["math.Float64bits", "math.Float64frombits"], apart := false }
def FnCompareFloatsSaid : Prop := fnCompareFloatsRow.holds Try.pinned (OpenSpec.ofChange fnCompareFloatsSpec)

/-- ITS FALSE NEIGHBOUR: 'it returns false'. Refute it at one input. -/
def fnCompareFloatsWrong : ChangeSpec := { name := "fnCompareFloats", fn := fun _ => fun
  | [d] => { results := [.lit (.bool false)], args := [d] }
  | _ => none }
def FnCompareFloatsWrongFalsely : Prop := fnCompareFloatsRow.holds Try.pinned (OpenSpec.ofChange fnCompareFloatsWrong)

/-- 'laws.FnCompareFloatsChain': WHATEVER THE INPUT: true; the input reads as it did. -/
def fnCompareFloatsChainSpec : ChangeSpec := { name := "fnCompareFloatsChain", fn := fun _ => fun
  | [d] => { results := [.lit (.bool true)], args := [d] }
  | _ => none }
def fnCompareFloatsChainRow : OpenClaim := { program := "ytfooobfffgmgaaa", sum := "ce1a7d60da02aff67fedfd103c78381bb4add1992cd451f329c9a1609e0ce4b4", func := "loop.example/lib-comparemaps/laws.FnCompareFloatsChain", spec := "fnCompareFloatsChain", inPlace := ["math.Float64bits", "math.Float64frombits"], apart := false }
def FnCompareFloatsChainSaid : Prop := fnCompareFloatsChainRow.holds Try.pinned (OpenSpec.ofChange fnCompareFloatsChainSpec)

/-- ITS FALSE NEIGHBOUR: 'it returns false'. Refute it at one input. -/
def fnCompareFloatsChainWrong : ChangeSpec := { name := "fnCompareFloatsChain", fn := fun _ => fun
  | [d] => { results := [.lit (.bool false)], args := [d] }
  | _ => none }
def FnCompareFloatsChainWrongFalsely : Prop := fnCompareFloatsChainRow.holds Try.pinned (OpenSpec.ofChange fnCompareFloatsChainWrong)

/-- 'laws.FnCompareFloatsTurned': WHATEVER THE INPUT: true; the input reads as it did. -/
def fnCompareFloatsTurnedSpec : ChangeSpec := { name := "fnCompareFloatsTurned", fn := fun _ => fun
  | [d] => { results := [.lit (.bool true)], args := [d] }
  | _ => none }
def fnCompareFloatsTurnedRow : OpenClaim := { program := "ytfooobfffgmgaaa", sum := "ce1a7d60da02aff67fedfd103c78381bb4add1992cd451f329c9a1609e0ce4b4", func := "loop.example/lib-comparemaps/laws.FnCompareFloatsTurned", spec := "fnCompareFloatsTurned", inPlace := ["math.Float64bits", "math.Float64frombits"], apart := false }
def FnCompareFloatsTurnedSaid : Prop := fnCompareFloatsTurnedRow.holds Try.pinned (OpenSpec.ofChange fnCompareFloatsTurnedSpec)

/-- ITS FALSE NEIGHBOUR: 'it returns false'. Refute it at one input. -/
def fnCompareFloatsTurnedWrong : ChangeSpec := { name := "fnCompareFloatsTurned", fn := fun _ => fun
  | [d] => { results := [.lit (.bool false)], args := [d] }
  | _ => none }
def FnCompareFloatsTurnedWrongFalsely : Prop := fnCompareFloatsTurnedRow.holds Try.pinned (OpenSpec.ofChange fnCompareFloatsTurnedWrong)

/-- 'laws.FnCompareFloatsLess': WHATEVER THE INPUT: true; the input reads as it did. -/
def fnCompareFloatsLessSpec : ChangeSpec := { name := "fnCompareFloatsLess", fn := fun _ => fun
  | [d] => { results := [.lit (.bool true)], args := [d] }
  | _ => none }
def fnCompareFloatsLessRow : OpenClaim := { program := "ytfooobfffgmgaaa", sum := "ce1a7d60da02aff67fedfd103c78381bb4add1992cd451f329c9a1609e0ce4b4", func := "loop.example/lib-comparemaps/laws.FnCompareFloatsLess", spec := "fnCompareFloatsLess", inPlace := ["math.Float64bits", "math.Float64frombits"], apart := false }
def FnCompareFloatsLessSaid : Prop := fnCompareFloatsLessRow.holds Try.pinned (OpenSpec.ofChange fnCompareFloatsLessSpec)

/-- ITS FALSE NEIGHBOUR: 'it returns false'. Refute it at one input. -/
def fnCompareFloatsLessWrong : ChangeSpec := { name := "fnCompareFloatsLess", fn := fun _ => fun
  | [d] => { results := [.lit (.bool false)], args := [d] }
  | _ => none }
def FnCompareFloatsLessWrongFalsely : Prop := fnCompareFloatsLessRow.holds Try.pinned (OpenSpec.ofChange fnCompareFloatsLessWrong)

/-- 'laws.FnCompareFloatsNone': WHATEVER THE INPUT: true; the input reads as it did. -/
def fnCompareFloatsNoneSpec : ChangeSpec := { name := "fnCompareFloatsNone", fn := fun _ => fun
  | [d] => { results := [.lit (.bool true)], args := [d] }
  | _ => none }
def fnCompareFloatsNoneRow : OpenClaim := { program := "ytfooobfffgmgaaa", sum := "ce1a7d60da02aff67fedfd103c78381bb4add1992cd451f329c9a1609e0ce4b4", func := "loop.example/lib-comparemaps/laws.FnCompareFloatsNone", spec := "fnCompareFloatsNone", inPlace := ["math.Float64bits", "math.Float64frombits"], apart := false }
def FnCompareFloatsNoneSaid : Prop := fnCompareFloatsNoneRow.holds Try.pinned (OpenSpec.ofChange fnCompareFloatsNoneSpec)

/-- ITS FALSE NEIGHBOUR: 'it returns false'. Refute it at one input. -/
def fnCompareFloatsNoneWrong : ChangeSpec := { name := "fnCompareFloatsNone", fn := fun _ => fun
  | [d] => { results := [.lit (.bool false)], args := [d] }
  | _ => none }
def FnCompareFloatsNoneWrongFalsely : Prop := fnCompareFloatsNoneRow.holds Try.pinned (OpenSpec.ofChange fnCompareFloatsNoneWrong)

/-- 'laws.FnCompareFloatsSelf': WHATEVER THE INPUT: true; the input reads as it did. -/
def fnCompareFloatsSelfSpec : ChangeSpec := { name := "fnCompareFloatsSelf", fn := fun _ => fun
  | [d] => { results := [.lit (.bool true)], args := [d] }
  | _ => none }
def fnCompareFloatsSelfRow : OpenClaim := { program := "ytfooobfffgmgaaa", sum := "ce1a7d60da02aff67fedfd103c78381bb4add1992cd451f329c9a1609e0ce4b4", func := "loop.example/lib-comparemaps/laws.FnCompareFloatsSelf", spec := "fnCompareFloatsSelf", inPlace := ["math.Float64bits", "math.Float64frombits"], apart := false }
def FnCompareFloatsSelfSaid : Prop := fnCompareFloatsSelfRow.holds Try.pinned (OpenSpec.ofChange fnCompareFloatsSelfSpec)

/-- ITS FALSE NEIGHBOUR: 'it returns false'. Refute it at one input. -/
def fnCompareFloatsSelfWrong : ChangeSpec := { name := "fnCompareFloatsSelf", fn := fun _ => fun
  | [d] => { results := [.lit (.bool false)], args := [d] }
  | _ => none }
def FnCompareFloatsSelfWrongFalsely : Prop := fnCompareFloatsSelfRow.holds Try.pinned (OpenSpec.ofChange fnCompareFloatsSelfWrong)

/- THE SECOND FORM. 'bulk': how many values and letters a reading holds, each counted each time it is reached (what is shared counts as often as it is met; a slice's spare places count too). A statement '..UptoSaid' is the law's where the arguments, and the package variables that the reading takes, are together of bulk at most 1048576: NARROWER than '..Said'. Prove '..Said' where nothing that the law and all that it calls make is longer than what came in: it says more and counts as full. Else prove '..UptoSaid'. A law counts once. -/
mutual
def uptoBulk {H : Type} : DataW H → Nat
  | .lit (.string bytes) => bytes.length + 1
  | .lit _ => 1
  | .nil => 1
  | .ptr d => uptoBulk d + 1
  | .slice elems spare => uptoBulkAll elems + uptoBulkAll spare + 1
  | .agg parts => uptoBulkAll parts + 1
  | .iface _ d => uptoBulk d + 1
  | .map entries => uptoBulkEntries entries + 1
  | .held _ => 1
def uptoBulkAll {H : Type} : List (DataW H) → Nat
  | [] => 0
  | d :: r => uptoBulk d + uptoBulkAll r
def uptoBulkEntries {H : Type} : List (Lit × DataW H) → Nat
  | [] => 0
  | x :: r => uptoBulkEntry x + uptoBulkEntries r
def uptoBulkEntry {H : Type} : Lit × DataW H → Nat
  | (.string bytes, d) => bytes.length + uptoBulk d + 1
  | (_, d) => uptoBulk d + 1
 end
def uptoSmall : (H : Type) → List (DataW H) → Bool := fun _ ds => decide (uptoBulkAll ds ≤ 1048576)
def OpenSpec.upto (s : _root_.Go.ChangeSpec) : _root_.Go.OpenSpec := { _root_.Go.OpenSpec.ofChange s with cond := some uptoSmall }

/-- 'laws.FnLessFloats', WHERE WHAT IT READS IS OF BULK AT MOST 1048576: true; the input reads as it did. -/
def fnLessFloatsUptoRow : OpenClaim := { program := "ytfooobfffgmgaaa", sum := "ce1a7d60da02aff67fedfd103c78381bb4add1992cd451f329c9a1609e0ce4b4", func := "loop.example/lib-comparemaps/laws.FnLessFloats", spec := "fnLessFloats", inPlace := ["math.Float64bits", "math.Float64frombits"], apart := false, narrowed := true }
def FnLessFloatsUptoSaid : Prop := fnLessFloatsUptoRow.holds Try.pinned (OpenSpec.upto fnLessFloatsSpec)

/-- 'laws.FnExactCompareFloats', WHERE WHAT IT READS IS OF BULK AT MOST 1048576: true; the input reads as it did. -/
def fnExactCompareFloatsUptoRow : OpenClaim := { program := "ytfooobfffgmgaaa", sum := "ce1a7d60da02aff67fedfd103c78381bb4add1992cd451f329c9a1609e0ce4b4", func := "loop.example/lib-comparemaps/laws.FnExactCompareFloats", spec := "fnExactCompareFloats", apart := false, narrowed := true }
def FnExactCompareFloatsUptoSaid : Prop := fnExactCompareFloatsUptoRow.holds Try.pinned (OpenSpec.upto fnExactCompareFloatsSpec)

/-- 'laws.FnCompareFloats', WHERE WHAT IT READS IS OF BULK AT MOST 1048576: true; the input reads as it did. -/
def fnCompareFloatsUptoRow : OpenClaim := { program := "ytfooobfffgmgaaa", sum := "ce1a7d60da02aff67fedfd103c78381bb4add1992cd451f329c9a1609e0ce4b4", func := "loop.example/lib-comparemaps/laws.FnCompareFloats", spec := "fnCompareFloats", inPlace := ["math.Float64bits", "math.Float64frombits"], apart := false, narrowed := true }
def FnCompareFloatsUptoSaid : Prop := fnCompareFloatsUptoRow.holds Try.pinned (OpenSpec.upto fnCompareFloatsSpec)

/-- 'laws.FnCompareFloatsChain', WHERE WHAT IT READS IS OF BULK AT MOST 1048576: true; the input reads as it did. -/
def fnCompareFloatsChainUptoRow : OpenClaim := { program := "ytfooobfffgmgaaa", sum := "ce1a7d60da02aff67fedfd103c78381bb4add1992cd451f329c9a1609e0ce4b4", func := "loop.example/lib-comparemaps/laws.FnCompareFloatsChain", spec := "fnCompareFloatsChain", inPlace := ["math.Float64bits", "math.Float64frombits"], apart := false, narrowed := true }
def FnCompareFloatsChainUptoSaid : Prop := fnCompareFloatsChainUptoRow.holds Try.pinned (OpenSpec.upto fnCompareFloatsChainSpec)

/-- 'laws.FnCompareFloatsTurned', WHERE WHAT IT READS IS OF BULK AT MOST 1048576: true; the input reads as it did. -/
def fnCompareFloatsTurnedUptoRow : OpenClaim := { program := "ytfooobfffgmgaaa", sum := "ce1a7d60da02aff67fedfd103c78381bb4add1992cd451f329c9a1609e0ce4b4", func := "loop.example/lib-comparemaps/laws.FnCompareFloatsTurned", spec := "fnCompareFloatsTurned", inPlace := ["math.Float64bits", "math.Float64frombits"], apart := false, narrowed := true }
def FnCompareFloatsTurnedUptoSaid : Prop := fnCompareFloatsTurnedUptoRow.holds Try.pinned (OpenSpec.upto fnCompareFloatsTurnedSpec)

/-- 'laws.FnCompareFloatsLess', WHERE WHAT IT READS IS OF BULK AT MOST 1048576: true; the input reads as it did. -/
def fnCompareFloatsLessUptoRow : OpenClaim := { program := "ytfooobfffgmgaaa", sum := "ce1a7d60da02aff67fedfd103c78381bb4add1992cd451f329c9a1609e0ce4b4", func := "loop.example/lib-comparemaps/laws.FnCompareFloatsLess", spec := "fnCompareFloatsLess", inPlace := ["math.Float64bits", "math.Float64frombits"], apart := false, narrowed := true }
def FnCompareFloatsLessUptoSaid : Prop := fnCompareFloatsLessUptoRow.holds Try.pinned (OpenSpec.upto fnCompareFloatsLessSpec)

/-- 'laws.FnCompareFloatsNone', WHERE WHAT IT READS IS OF BULK AT MOST 1048576: true; the input reads as it did. -/
def fnCompareFloatsNoneUptoRow : OpenClaim := { program := "ytfooobfffgmgaaa", sum := "ce1a7d60da02aff67fedfd103c78381bb4add1992cd451f329c9a1609e0ce4b4", func := "loop.example/lib-comparemaps/laws.FnCompareFloatsNone", spec := "fnCompareFloatsNone", inPlace := ["math.Float64bits", "math.Float64frombits"], apart := false, narrowed := true }
def FnCompareFloatsNoneUptoSaid : Prop := fnCompareFloatsNoneUptoRow.holds Try.pinned (OpenSpec.upto fnCompareFloatsNoneSpec)

/-- 'laws.FnCompareFloatsSelf', WHERE WHAT IT READS IS OF BULK AT MOST 1048576: true; the input reads as it did. -/
def fnCompareFloatsSelfUptoRow : OpenClaim := { program := "ytfooobfffgmgaaa", sum := "ce1a7d60da02aff67fedfd103c78381bb4add1992cd451f329c9a1609e0ce4b4", func := "loop.example/lib-comparemaps/laws.FnCompareFloatsSelf", spec := "fnCompareFloatsSelf", inPlace := ["math.Float64bits", "math.Float64frombits"], apart := false, narrowed := true }
def FnCompareFloatsSelfUptoSaid : Prop := fnCompareFloatsSelfUptoRow.holds Try.pinned (OpenSpec.upto fnCompareFloatsSelfSpec)

end Rows
end Go.Proofs.Ytfooobfffgmgaaa
