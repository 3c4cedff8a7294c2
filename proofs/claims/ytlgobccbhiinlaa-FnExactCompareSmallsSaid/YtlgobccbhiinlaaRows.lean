/-
  No cell of these rows narrows 'for every input' (looked for: loops, veiled, ifaces, maps, wideKeys, modest, calm, conditions, laid).
  DERIVED. THE GIVEN ROWS OF THIS SEAT. 9 by the template 'for every input the law returns true; each argument reads behind the call as it read before'; 0 by the template 'total and deterministic' (their statements: YtlgobccbhiinlaaTotals.lean).
  GIVEN WITH THE SEED: the statements are not yours to turn. If you find one false, say at which input.
  Laid BY PROGRAM, IN A SANDBOX (cutbox-rows.mjs): the forced cells as the released guide's own fill.sh prints them over the translation 77cecdc7d558e444… (all of the seat's roots in one cut). By AI agents, Wed Nov 11 2026. No macro, syntax, notation, axiom, sorry.
-/
import Derived.Test.YtlgobccbhiinlaaChecked
import GoSem.Claim
import GoSem.ClaimJoined
import GoSem.ClaimMapViews
import Derived.JoinedTies
import Derived.KernelRfl
namespace Go.Proofs.Ytlgobccbhiinlaa
/- THE CELL 'sum', in the pinned program and in every row, IS THE sha256 OF THE DUMP (.gsa) THAT YtlgobccbhiinlaaProg.lean LOADS. Nothing in Lean hashes anything: it is a label: what it is worth is what the hold of that sum in a sandbox is worth. -/
noncomputable def Try.pinned : Pinned := { name := "ytlgobccbhiinlaa", sum := "77cecdc7d558e4440580369ab4564ed07e83ca91b0e135f13107b18fd5305887", checked := Try.checked }
namespace Rows
def none {H : Type} : Left H := { results := [], args := [] }

/-- 'laws.FnCompareSmallsLess': WHATEVER THE INPUT: true; the input reads as it did. -/
def fnCompareSmallsLessSpec : ChangeSpec := { name := "fnCompareSmallsLess", fn := fun _ => fun
  | [d] => { results := [.lit (.bool true)], args := [d] }
  | _ => none }
def fnCompareSmallsLessRow : OpenClaim := { program := "ytlgobccbhiinlaa", sum := "77cecdc7d558e4440580369ab4564ed07e83ca91b0e135f13107b18fd5305887", func := "loop.example/lib-comparemaps/laws.FnCompareSmallsLess", spec := "fnCompareSmallsLess", inPlace := ["math.Float64bits", "math.Float64frombits", "math.Float32frombits"], apart := false }
def FnCompareSmallsLessSaid : Prop := fnCompareSmallsLessRow.holds Try.pinned (OpenSpec.ofChange fnCompareSmallsLessSpec)

/-- ITS FALSE NEIGHBOUR: 'it returns false'. Refute it at one input. -/
def fnCompareSmallsLessWrong : ChangeSpec := { name := "fnCompareSmallsLess", fn := fun _ => fun
  | [d] => { results := [.lit (.bool false)], args := [d] }
  | _ => none }
def FnCompareSmallsLessWrongFalsely : Prop := fnCompareSmallsLessRow.holds Try.pinned (OpenSpec.ofChange fnCompareSmallsLessWrong)

/-- 'laws.FnCompareSmallsNone': WHATEVER THE INPUT: true; the input reads as it did. -/
def fnCompareSmallsNoneSpec : ChangeSpec := { name := "fnCompareSmallsNone", fn := fun _ => fun
  | [d] => { results := [.lit (.bool true)], args := [d] }
  | _ => none }
def fnCompareSmallsNoneRow : OpenClaim := { program := "ytlgobccbhiinlaa", sum := "77cecdc7d558e4440580369ab4564ed07e83ca91b0e135f13107b18fd5305887", func := "loop.example/lib-comparemaps/laws.FnCompareSmallsNone", spec := "fnCompareSmallsNone", inPlace := ["math.Float64bits", "math.Float64frombits", "math.Float32frombits"], apart := false }
def FnCompareSmallsNoneSaid : Prop := fnCompareSmallsNoneRow.holds Try.pinned (OpenSpec.ofChange fnCompareSmallsNoneSpec)

/-- ITS FALSE NEIGHBOUR: 'it returns false'. Refute it at one input. -/
def fnCompareSmallsNoneWrong : ChangeSpec := { name := "fnCompareSmallsNone", fn := fun _ => fun
  | [d] => { results := [.lit (.bool false)], args := [d] }
  | _ => none }
def FnCompareSmallsNoneWrongFalsely : Prop := fnCompareSmallsNoneRow.holds Try.pinned (OpenSpec.ofChange fnCompareSmallsNoneWrong)

/-- 'laws.FnCompareSmallsSelf': WHATEVER THE INPUT: true; the input reads as it did. -/
def fnCompareSmallsSelfSpec : ChangeSpec := { name := "fnCompareSmallsSelf", fn := fun _ => fun
  | [d] => { results := [.lit (.bool true)], args := [d] }
  | _ => none }
def fnCompareSmallsSelfRow : OpenClaim := { program := "ytlgobccbhiinlaa", sum := "77cecdc7d558e4440580369ab4564ed07e83ca91b0e135f13107b18fd5305887", func := "loop.example/lib-comparemaps/laws.FnCompareSmallsSelf", spec := "fnCompareSmallsSelf", inPlace := ["math.Float64bits", "math.Float64frombits", "math.Float32frombits"], apart := false }
def FnCompareSmallsSelfSaid : Prop := fnCompareSmallsSelfRow.holds Try.pinned (OpenSpec.ofChange fnCompareSmallsSelfSpec)

/-- ITS FALSE NEIGHBOUR: 'it returns false'. Refute it at one input. -/
def fnCompareSmallsSelfWrong : ChangeSpec := { name := "fnCompareSmallsSelf", fn := fun _ => fun
  | [d] => { results := [.lit (.bool false)], args := [d] }
  | _ => none }
def FnCompareSmallsSelfWrongFalsely : Prop := fnCompareSmallsSelfRow.holds Try.pinned (OpenSpec.ofChange fnCompareSmallsSelfWrong)

/-- 'laws.FnLessSmalls': WHATEVER THE INPUT: true; the input reads as it did. -/
def fnLessSmallsSpec : ChangeSpec := { name := "fnLessSmalls", fn := fun _ => fun
  | [d] => { results := [.lit (.bool true)], args := [d] }
  | _ => none }
def fnLessSmallsRow : OpenClaim := { program := "ytlgobccbhiinlaa", sum := "77cecdc7d558e4440580369ab4564ed07e83ca91b0e135f13107b18fd5305887", func := "loop.example/lib-comparemaps/laws.FnLessSmalls", spec := "fnLessSmalls", inPlace := ["math.Float64bits", "math.Float64frombits", "math.Float32frombits"], apart := false }
def FnLessSmallsSaid : Prop := fnLessSmallsRow.holds Try.pinned (OpenSpec.ofChange fnLessSmallsSpec)

/-- ITS FALSE NEIGHBOUR: 'it returns false'. Refute it at one input. -/
def fnLessSmallsWrong : ChangeSpec := { name := "fnLessSmalls", fn := fun _ => fun
  | [d] => { results := [.lit (.bool false)], args := [d] }
  | _ => none }
def FnLessSmallsWrongFalsely : Prop := fnLessSmallsRow.holds Try.pinned (OpenSpec.ofChange fnLessSmallsWrong)

/-- 'laws.FnExactCompareSmalls': WHATEVER THE INPUT: true; the input reads as it did. -/
def fnExactCompareSmallsSpec : ChangeSpec := { name := "fnExactCompareSmalls", fn := fun _ => fun
  | [d1, d2] => { results := [.lit (.bool true)], args := [d1, d2] }
  | _ => none }
def fnExactCompareSmallsRow : OpenClaim := { program := "ytlgobccbhiinlaa", sum := "77cecdc7d558e4440580369ab4564ed07e83ca91b0e135f13107b18fd5305887", func := "loop.example/lib-comparemaps/laws.FnExactCompareSmalls", spec := "fnExactCompareSmalls", apart := false }
def FnExactCompareSmallsSaid : Prop := fnExactCompareSmallsRow.holds Try.pinned (OpenSpec.ofChange fnExactCompareSmallsSpec)

/-- ITS FALSE NEIGHBOUR: 'it returns false'. Refute it at one input. -/
def fnExactCompareSmallsWrong : ChangeSpec := { name := "fnExactCompareSmalls", fn := fun _ => fun
  | [d1, d2] => { results := [.lit (.bool false)], args := [d1, d2] }
  | _ => none }
def FnExactCompareSmallsWrongFalsely : Prop := fnExactCompareSmallsRow.holds Try.pinned (OpenSpec.ofChange fnExactCompareSmallsWrong)

/-- 'laws.FnCompareSmalls': WHATEVER THE INPUT: true; the input reads as it did. -/
def fnCompareSmallsSpec : ChangeSpec := { name := "fnCompareSmalls", fn := fun _ => fun
  | [d] => { results := [.lit (.bool true)], args := [d] }
  | _ => none }
def fnCompareSmallsRow : OpenClaim := { program := "ytlgobccbhiinlaa", sum := "77cecdc7d558e4440580369ab4564ed07e83ca91b0e135f13107b18fd5305887", func := "loop.example/lib-comparemaps/laws.FnCompareSmalls", spec := "fnCompareSmalls", inPlace := ["math.Float64bits", "math.Float64frombits", "math.Float32frombits"], apart := false }
def FnCompareSmallsSaid : Prop := fnCompareSmallsRow.holds Try.pinned (OpenSpec.ofChange fnCompareSmallsSpec)

/-- ITS FALSE NEIGHBOUR: 'it returns false'. Refute it at one input. -/
def fnCompareSmallsWrong : ChangeSpec := { name := "fnCompareSmalls", fn := fun _ => fun
  | [d] => { results := [.lit (.bool false)], args := [d] }
  | _ => none }
def FnCompareSmallsWrongFalsely : Prop := fnCompareSmallsRow.holds Try.pinned (OpenSpec.ofChange fnCompareSmallsWrong)

/-- 'laws.FnCompareSmallsChain': WHATEVER THE INPUT: true; the input reads as it did. -/
def fnCompareSmallsChainSpec : ChangeSpec := { name := "fnCompareSmallsChain", fn := fun _ => fun
  | [d] => { results := [.lit (.bool true)], args := [d] }
  | _ => none }
def fnCompareSmallsChainRow : OpenClaim := { program := "ytlgobccbhiinlaa", sum := "77cecdc7d558e4440580369ab4564ed07e83ca91b0e135f13107b18fd5305887", func := "loop.example/lib-comparemaps/laws.FnCompareSmallsChain", spec := "fnCompareSmallsChain", inPlace := ["math.Float64bits", "math.Float64frombits", "math.Float32frombits"], apart := false }
def FnCompareSmallsChainSaid : Prop := fnCompareSmallsChainRow.holds Try.pinned (OpenSpec.ofChange fnCompareSmallsChainSpec)

/-- ITS FALSE NEIGHBOUR: 'it returns false'. Refute it at one input. -/
def fnCompareSmallsChainWrong : ChangeSpec := { name := "fnCompareSmallsChain", fn := fun _ => fun
  | [d] => { results := [.lit (.bool false)], args := [d] }
  | _ => none }
def FnCompareSmallsChainWrongFalsely : Prop := fnCompareSmallsChainRow.holds Try.pinned (OpenSpec.ofChange fnCompareSmallsChainWrong)

/-- 'laws.FnCompareSmallsTurned': WHATEVER THE INPUT: true; the input reads as it did. -/
def fnCompareSmallsTurnedSpec : ChangeSpec := { name := "fnCompareSmallsTurned", fn := fun _ => fun
  | [d] => { results := [.lit (.bool true)], args := [d] }
  | _ => none }
def fnCompareSmallsTurnedRow : OpenClaim := { program := "ytlgobccbhiinlaa", sum := "77cecdc7d558e4440580369ab4564ed07e83ca91b0e135f13107b18fd5305887", func := "loop.example/lib-comparemaps/laws.FnCompareSmallsTurned", spec := "fnCompareSmallsTurned", inPlace := ["math.Float64bits", "math.Float64frombits", "math.Float32frombits"], apart := false }
def FnCompareSmallsTurnedSaid : Prop := fnCompareSmallsTurnedRow.holds Try.pinned (OpenSpec.ofChange fnCompareSmallsTurnedSpec)

/-- ITS FALSE NEIGHBOUR: 'it returns false'. Refute it at one input. -/
def fnCompareSmallsTurnedWrong : ChangeSpec := { name := "fnCompareSmallsTurned", fn := fun _ => fun
  | [d] => { results := [.lit (.bool false)], args := [d] }
  | _ => none }
def FnCompareSmallsTurnedWrongFalsely : Prop := fnCompareSmallsTurnedRow.holds Try.pinned (OpenSpec.ofChange fnCompareSmallsTurnedWrong)

/-- 'laws.FnCompareSmallsFloats': WHATEVER THE INPUT: true; the input reads as it did. -/
def fnCompareSmallsFloatsSpec : ChangeSpec := { name := "fnCompareSmallsFloats", fn := fun _ => fun
  | [d] => { results := [.lit (.bool true)], args := [d] }
  | _ => none }
def fnCompareSmallsFloatsRow : OpenClaim := { program := "ytlgobccbhiinlaa", sum := "77cecdc7d558e4440580369ab4564ed07e83ca91b0e135f13107b18fd5305887", func := "loop.example/lib-comparemaps/laws.FnCompareSmallsFloats", spec := "fnCompareSmallsFloats", inPlace := ["math.Float64bits", "math.Float64frombits", "math.Float32frombits"], apart := false }
def FnCompareSmallsFloatsSaid : Prop := fnCompareSmallsFloatsRow.holds Try.pinned (OpenSpec.ofChange fnCompareSmallsFloatsSpec)

/-- ITS FALSE NEIGHBOUR: 'it returns false'. Refute it at one input. -/
def fnCompareSmallsFloatsWrong : ChangeSpec := { name := "fnCompareSmallsFloats", fn := fun _ => fun
  | [d] => { results := [.lit (.bool false)], args := [d] }
  | _ => none }
def FnCompareSmallsFloatsWrongFalsely : Prop := fnCompareSmallsFloatsRow.holds Try.pinned (OpenSpec.ofChange fnCompareSmallsFloatsWrong)

/- THE SECOND FORM. 'bulk': how many values and letters a reading holds, each counted each time it is reached (what is shared counts as often as it is met; a slice's spare places count too). A statement '..UptoSaid' is the law's where the arguments, and the package variables that the reading takes, are together of bulk at most 1048576: NARROWER than '..Said'. Prove '..Said' where nothing that the law and all that it calls make is longer than what came in: it says more and counts as full. Else prove '..UptoSaid'. A law counts once. -/
mutual
def uptoBulk {H : Type} : DataW H → Nat
  | .lit (.string bytes) => bytes.length + 1
  | .lit _ => 1
  | .nil => 1
  | .ptr d => uptoBulk d + 1
  | .slice elems spare => uptoBulkAll elems + uptoBulkAll spare + 1
  | .agg parts => uptoBulkAll parts + 1
  | .iface _ d => uptoBulk d + 1
  | .map entries => uptoBulkEntries entries + 1
  | .held _ => 1
def uptoBulkAll {H : Type} : List (DataW H) → Nat
  | [] => 0
  | d :: r => uptoBulk d + uptoBulkAll r
def uptoBulkEntries {H : Type} : List (Lit × DataW H) → Nat
  | [] => 0
  | x :: r => uptoBulkEntry x + uptoBulkEntries r
def uptoBulkEntry {H : Type} : Lit × DataW H → Nat
  | (.string bytes, d) => bytes.length + uptoBulk d + 1
  | (_, d) => uptoBulk d + 1
 end
def uptoSmall : (H : Type) → List (DataW H) → Bool := fun _ ds => decide (uptoBulkAll ds ≤ 1048576)
def OpenSpec.upto (s : _root_.Go.ChangeSpec) : _root_.Go.OpenSpec := { _root_.Go.OpenSpec.ofChange s with cond := some uptoSmall }

/-- 'laws.FnCompareSmallsLess', WHERE WHAT IT READS IS OF BULK AT MOST 1048576: true; the input reads as it did. -/
def fnCompareSmallsLessUptoRow : OpenClaim := { program := "ytlgobccbhiinlaa", sum := "77cecdc7d558e4440580369ab4564ed07e83ca91b0e135f13107b18fd5305887", func := "loop.example/lib-comparemaps/laws.FnCompareSmallsLess", spec := "fnCompareSmallsLess", inPlace := ["math.Float64bits", "math.Float64frombits", "math.Float32frombits"], apart := false, narrowed := true }
def FnCompareSmallsLessUptoSaid : Prop := fnCompareSmallsLessUptoRow.holds Try.pinned (OpenSpec.upto fnCompareSmallsLessSpec)

/-- 'laws.FnCompareSmallsNone', WHERE WHAT IT READS IS OF BULK AT MOST 1048576: true; the input reads as it did. -/
def fnCompareSmallsNoneUptoRow : OpenClaim := { program := "ytlgobccbhiinlaa", sum := "77cecdc7d558e4440580369ab4564ed07e83ca91b0e135f13107b18fd5305887", func := "loop.example/lib-comparemaps/laws.FnCompareSmallsNone", spec := "fnCompareSmallsNone", inPlace := ["math.Float64bits", "math.Float64frombits", "math.Float32frombits"], apart := false, narrowed := true }
def FnCompareSmallsNoneUptoSaid : Prop := fnCompareSmallsNoneUptoRow.holds Try.pinned (OpenSpec.upto fnCompareSmallsNoneSpec)

/-- 'laws.FnCompareSmallsSelf', WHERE WHAT IT READS IS OF BULK AT MOST 1048576: true; the input reads as it did. -/
def fnCompareSmallsSelfUptoRow : OpenClaim := { program := "ytlgobccbhiinlaa", sum := "77cecdc7d558e4440580369ab4564ed07e83ca91b0e135f13107b18fd5305887", func := "loop.example/lib-comparemaps/laws.FnCompareSmallsSelf", spec := "fnCompareSmallsSelf", inPlace := ["math.Float64bits", "math.Float64frombits", "math.Float32frombits"], apart := false, narrowed := true }
def FnCompareSmallsSelfUptoSaid : Prop := fnCompareSmallsSelfUptoRow.holds Try.pinned (OpenSpec.upto fnCompareSmallsSelfSpec)

/-- 'laws.FnLessSmalls', WHERE WHAT IT READS IS OF BULK AT MOST 1048576: true; the input reads as it did. -/
def fnLessSmallsUptoRow : OpenClaim := { program := "ytlgobccbhiinlaa", sum := "77cecdc7d558e4440580369ab4564ed07e83ca91b0e135f13107b18fd5305887", func := "loop.example/lib-comparemaps/laws.FnLessSmalls", spec := "fnLessSmalls", inPlace := ["math.Float64bits", "math.Float64frombits", "math.Float32frombits"], apart := false, narrowed := true }
def FnLessSmallsUptoSaid : Prop := fnLessSmallsUptoRow.holds Try.pinned (OpenSpec.upto fnLessSmallsSpec)

/-- 'laws.FnExactCompareSmalls', WHERE WHAT IT READS IS OF BULK AT MOST 1048576: true; the input reads as it did. -/
def fnExactCompareSmallsUptoRow : OpenClaim := { program := "ytlgobccbhiinlaa", sum := "77cecdc7d558e4440580369ab4564ed07e83ca91b0e135f13107b18fd5305887", func := "loop.example/lib-comparemaps/laws.FnExactCompareSmalls", spec := "fnExactCompareSmalls", apart := false, narrowed := true }
def FnExactCompareSmallsUptoSaid : Prop := fnExactCompareSmallsUptoRow.holds Try.pinned (OpenSpec.upto fnExactCompareSmallsSpec)

/-- 'laws.FnCompareSmalls', WHERE WHAT IT READS IS OF BULK AT MOST 1048576: true; the input reads as it did. -/
def fnCompareSmallsUptoRow : OpenClaim := { program := "ytlgobccbhiinlaa", sum := "77cecdc7d558e4440580369ab4564ed07e83ca91b0e135f13107b18fd5305887", func := "loop.example/lib-comparemaps/laws.FnCompareSmalls", spec := "fnCompareSmalls", inPlace := ["math.Float64bits", "math.Float64frombits", "math.Float32frombits"], apart := false, narrowed := true }
def FnCompareSmallsUptoSaid : Prop := fnCompareSmallsUptoRow.holds Try.pinned (OpenSpec.upto fnCompareSmallsSpec)

/-- 'laws.FnCompareSmallsChain', WHERE WHAT IT READS IS OF BULK AT MOST 1048576: true; the input reads as it did. -/
def fnCompareSmallsChainUptoRow : OpenClaim := { program := "ytlgobccbhiinlaa", sum := "77cecdc7d558e4440580369ab4564ed07e83ca91b0e135f13107b18fd5305887", func := "loop.example/lib-comparemaps/laws.FnCompareSmallsChain", spec := "fnCompareSmallsChain", inPlace := ["math.Float64bits", "math.Float64frombits", "math.Float32frombits"], apart := false, narrowed := true }
def FnCompareSmallsChainUptoSaid : Prop := fnCompareSmallsChainUptoRow.holds Try.pinned (OpenSpec.upto fnCompareSmallsChainSpec)

/-- 'laws.FnCompareSmallsTurned', WHERE WHAT IT READS IS OF BULK AT MOST 1048576: true; the input reads as it did. -/
def fnCompareSmallsTurnedUptoRow : OpenClaim := { program := "ytlgobccbhiinlaa", sum := "77cecdc7d558e4440580369ab4564ed07e83ca91b0e135f13107b18fd5305887", func := "loop.example/lib-comparemaps/laws.FnCompareSmallsTurned", spec := "fnCompareSmallsTurned", inPlace := ["math.Float64bits", "math.Float64frombits", "math.Float32frombits"], apart := false, narrowed := true }
def FnCompareSmallsTurnedUptoSaid : Prop := fnCompareSmallsTurnedUptoRow.holds Try.pinned (OpenSpec.upto fnCompareSmallsTurnedSpec)

/-- 'laws.FnCompareSmallsFloats', WHERE WHAT IT READS IS OF BULK AT MOST 1048576: true; the input reads as it did. -/
def fnCompareSmallsFloatsUptoRow : OpenClaim := { program := "ytlgobccbhiinlaa", sum := "77cecdc7d558e4440580369ab4564ed07e83ca91b0e135f13107b18fd5305887", func := "loop.example/lib-comparemaps/laws.FnCompareSmallsFloats", spec := "fnCompareSmallsFloats", inPlace := ["math.Float64bits", "math.Float64frombits", "math.Float32frombits"], apart := false, narrowed := true }
def FnCompareSmallsFloatsUptoSaid : Prop := fnCompareSmallsFloatsUptoRow.holds Try.pinned (OpenSpec.upto fnCompareSmallsFloatsSpec)

end Rows
end Go.Proofs.Ytlgobccbhiinlaa
