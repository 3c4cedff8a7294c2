/-
  No cell of these rows narrows 'for every input' (looked for: loops, veiled, ifaces, maps, wideKeys, modest, calm, conditions, laid).
  DERIVED. THE GIVEN ROWS OF THIS SEAT. 9 by the template 'for every input the law returns true; each argument reads behind the call as it read before'; 0 by the template 'total and deterministic' (their statements: YtodioogiinghcaaTotals.lean).
  GIVEN WITH THE SEED: the statements are not yours to turn. If you find one false, say at which input.
  Laid BY PROGRAM, IN A SANDBOX (cutbox-rows.mjs): the forced cells as the released guide's own fill.sh prints them over the translation c894a20b8d200a4e… (all of the seat's roots in one cut). By AI agents, Wed Nov 11 2026. No macro, syntax, notation, axiom, sorry.
-/
import Derived.Test.YtodioogiinghcaaChecked
import GoSem.Claim
import GoSem.ClaimJoined
import GoSem.ClaimMapViews
import Derived.JoinedTies
import Derived.KernelRfl
namespace Go.Proofs.Ytodioogiinghcaa
/- THE CELL 'sum', in the pinned program and in every row, IS THE sha256 OF THE DUMP (.gsa) THAT YtodioogiinghcaaProg.lean LOADS. Nothing in Lean hashes anything: it is a label: what it is worth is what the hold of that sum in a sandbox is worth. -/
noncomputable def Try.pinned : Pinned := { name := "ytodioogiinghcaa", sum := "c894a20b8d200a4e436d34c4d21f218f467a4f6c98b9983623b397345aafa653", checked := Try.checked }
namespace Rows
def none {H : Type} : Left H := { results := [], args := [] }

/-- 'laws.FnLessInts': WHATEVER THE INPUT: true; the input reads as it did. -/
def fnLessIntsSpec : ChangeSpec := { name := "fnLessInts", fn := fun _ => fun
  | [d] => { results := [.lit (.bool true)], args := [d] }
  | _ => none }
def fnLessIntsRow : OpenClaim := { program := "ytodioogiinghcaa", sum := "c894a20b8d200a4e436d34c4d21f218f467a4f6c98b9983623b397345aafa653", func := "loop.example/lib-comparemaps/laws.FnLessInts", spec := "fnLessInts", apart := false }
def FnLessIntsSaid : Prop := fnLessIntsRow.holds Try.pinned (OpenSpec.ofChange fnLessIntsSpec)

/-- ITS FALSE NEIGHBOUR: 'it returns false'. Refute it at one input. -/
def fnLessIntsWrong : ChangeSpec := { name := "fnLessInts", fn := fun _ => fun
  | [d] => { results := [.lit (.bool false)], args := [d] }
  | _ => none }
def FnLessIntsWrongFalsely : Prop := fnLessIntsRow.holds Try.pinned (OpenSpec.ofChange fnLessIntsWrong)

/-- 'laws.FnCompareInts': WHATEVER THE INPUT: true; the input reads as it did. -/
def fnCompareIntsSpec : ChangeSpec := { name := "fnCompareInts", fn := fun _ => fun
  | [d] => { results := [.lit (.bool true)], args := [d] }
  | _ => none }
def fnCompareIntsRow : OpenClaim := { program := "ytodioogiinghcaa", sum := "c894a20b8d200a4e436d34c4d21f218f467a4f6c98b9983623b397345aafa653", func := "loop.example/lib-comparemaps/laws.FnCompareInts", spec := "fnCompareInts", apart := false }
def FnCompareIntsSaid : Prop := fnCompareIntsRow.holds Try.pinned (OpenSpec.ofChange fnCompareIntsSpec)

/-- ITS FALSE NEIGHBOUR: 'it returns false'. Refute it at one input. -/
def fnCompareIntsWrong : ChangeSpec := { name := "fnCompareInts", fn := fun _ => fun
  | [d] => { results := [.lit (.bool false)], args := [d] }
  | _ => none }
def FnCompareIntsWrongFalsely : Prop := fnCompareIntsRow.holds Try.pinned (OpenSpec.ofChange fnCompareIntsWrong)

/-- 'laws.FnCompareIntsBelow': WHATEVER THE INPUT: true; the input reads as it did. -/
def fnCompareIntsBelowSpec : ChangeSpec := { name := "fnCompareIntsBelow", fn := fun _ => fun
  | [d] => { results := [.lit (.bool true)], args := [d] }
  | _ => none }
def fnCompareIntsBelowRow : OpenClaim := { program := "ytodioogiinghcaa", sum := "c894a20b8d200a4e436d34c4d21f218f467a4f6c98b9983623b397345aafa653", func := "loop.example/lib-comparemaps/laws.FnCompareIntsBelow", spec := "fnCompareIntsBelow", apart := false }
def FnCompareIntsBelowSaid : Prop := fnCompareIntsBelowRow.holds Try.pinned (OpenSpec.ofChange fnCompareIntsBelowSpec)

/-- ITS FALSE NEIGHBOUR: 'it returns false'. Refute it at one input. -/
def fnCompareIntsBelowWrong : ChangeSpec := { name := "fnCompareIntsBelow", fn := fun _ => fun
  | [d] => { results := [.lit (.bool false)], args := [d] }
  | _ => none }
def FnCompareIntsBelowWrongFalsely : Prop := fnCompareIntsBelowRow.holds Try.pinned (OpenSpec.ofChange fnCompareIntsBelowWrong)

/-- 'laws.FnCompareIntsChain': WHATEVER THE INPUT: true; the input reads as it did. -/
def fnCompareIntsChainSpec : ChangeSpec := { name := "fnCompareIntsChain", fn := fun _ => fun
  | [d] => { results := [.lit (.bool true)], args := [d] }
  | _ => none }
def fnCompareIntsChainRow : OpenClaim := { program := "ytodioogiinghcaa", sum := "c894a20b8d200a4e436d34c4d21f218f467a4f6c98b9983623b397345aafa653", func := "loop.example/lib-comparemaps/laws.FnCompareIntsChain", spec := "fnCompareIntsChain", apart := false }
def FnCompareIntsChainSaid : Prop := fnCompareIntsChainRow.holds Try.pinned (OpenSpec.ofChange fnCompareIntsChainSpec)

/-- ITS FALSE NEIGHBOUR: 'it returns false'. Refute it at one input. -/
def fnCompareIntsChainWrong : ChangeSpec := { name := "fnCompareIntsChain", fn := fun _ => fun
  | [d] => { results := [.lit (.bool false)], args := [d] }
  | _ => none }
def FnCompareIntsChainWrongFalsely : Prop := fnCompareIntsChainRow.holds Try.pinned (OpenSpec.ofChange fnCompareIntsChainWrong)

/-- 'laws.FnCompareIntsTurned': WHATEVER THE INPUT: true; the input reads as it did. -/
def fnCompareIntsTurnedSpec : ChangeSpec := { name := "fnCompareIntsTurned", fn := fun _ => fun
  | [d] => { results := [.lit (.bool true)], args := [d] }
  | _ => none }
def fnCompareIntsTurnedRow : OpenClaim := { program := "ytodioogiinghcaa", sum := "c894a20b8d200a4e436d34c4d21f218f467a4f6c98b9983623b397345aafa653", func := "loop.example/lib-comparemaps/laws.FnCompareIntsTurned", spec := "fnCompareIntsTurned", apart := false }
def FnCompareIntsTurnedSaid : Prop := fnCompareIntsTurnedRow.holds Try.pinned (OpenSpec.ofChange fnCompareIntsTurnedSpec)

/-- ITS FALSE NEIGHBOUR: 'it returns false'. Refute it at one input. -/
def fnCompareIntsTurnedWrong : ChangeSpec := { name := "fnCompareIntsTurned", fn := fun _ => fun
  | [d] => { results := [.lit (.bool false)], args := [d] }
  | _ => none }
def FnCompareIntsTurnedWrongFalsely : Prop := fnCompareIntsTurnedRow.holds Try.pinned (OpenSpec.ofChange fnCompareIntsTurnedWrong)

/-- 'laws.FnExactCompareInts': WHATEVER THE INPUT: true; the input reads as it did. -/
def fnExactCompareIntsSpec : ChangeSpec := { name := "fnExactCompareInts", fn := fun _ => fun
  | [d1, d2] => { results := [.lit (.bool true)], args := [d1, d2] }
  | _ => none }
def fnExactCompareIntsRow : OpenClaim := { program := "ytodioogiinghcaa", sum := "c894a20b8d200a4e436d34c4d21f218f467a4f6c98b9983623b397345aafa653", func := "loop.example/lib-comparemaps/laws.FnExactCompareInts", spec := "fnExactCompareInts", apart := false }
def FnExactCompareIntsSaid : Prop := fnExactCompareIntsRow.holds Try.pinned (OpenSpec.ofChange fnExactCompareIntsSpec)

/-- ITS FALSE NEIGHBOUR: 'it returns false'. Refute it at one input. -/
def fnExactCompareIntsWrong : ChangeSpec := { name := "fnExactCompareInts", fn := fun _ => fun
  | [d1, d2] => { results := [.lit (.bool false)], args := [d1, d2] }
  | _ => none }
def FnExactCompareIntsWrongFalsely : Prop := fnExactCompareIntsRow.holds Try.pinned (OpenSpec.ofChange fnExactCompareIntsWrong)

/-- 'laws.FnCompareIntsUints': WHATEVER THE INPUT: true; the input reads as it did. -/
def fnCompareIntsUintsSpec : ChangeSpec := { name := "fnCompareIntsUints", fn := fun _ => fun
  | [d] => { results := [.lit (.bool true)], args := [d] }
  | _ => none }
def fnCompareIntsUintsRow : OpenClaim := { program := "ytodioogiinghcaa", sum := "c894a20b8d200a4e436d34c4d21f218f467a4f6c98b9983623b397345aafa653", func := "loop.example/lib-comparemaps/laws.FnCompareIntsUints", spec := "fnCompareIntsUints", apart := false }
def FnCompareIntsUintsSaid : Prop := fnCompareIntsUintsRow.holds Try.pinned (OpenSpec.ofChange fnCompareIntsUintsSpec)

/-- ITS FALSE NEIGHBOUR: 'it returns false'. Refute it at one input. -/
def fnCompareIntsUintsWrong : ChangeSpec := { name := "fnCompareIntsUints", fn := fun _ => fun
  | [d] => { results := [.lit (.bool false)], args := [d] }
  | _ => none }
def FnCompareIntsUintsWrongFalsely : Prop := fnCompareIntsUintsRow.holds Try.pinned (OpenSpec.ofChange fnCompareIntsUintsWrong)

/-- 'laws.FnCompareIntsLess': WHATEVER THE INPUT: true; the input reads as it did. -/
def fnCompareIntsLessSpec : ChangeSpec := { name := "fnCompareIntsLess", fn := fun _ => fun
  | [d] => { results := [.lit (.bool true)], args := [d] }
  | _ => none }
def fnCompareIntsLessRow : OpenClaim := { program := "ytodioogiinghcaa", sum := "c894a20b8d200a4e436d34c4d21f218f467a4f6c98b9983623b397345aafa653", func := "loop.example/lib-comparemaps/laws.FnCompareIntsLess", spec := "fnCompareIntsLess", apart := false }
def FnCompareIntsLessSaid : Prop := fnCompareIntsLessRow.holds Try.pinned (OpenSpec.ofChange fnCompareIntsLessSpec)

/-- ITS FALSE NEIGHBOUR: 'it returns false'. Refute it at one input. -/
def fnCompareIntsLessWrong : ChangeSpec := { name := "fnCompareIntsLess", fn := fun _ => fun
  | [d] => { results := [.lit (.bool false)], args := [d] }
  | _ => none }
def FnCompareIntsLessWrongFalsely : Prop := fnCompareIntsLessRow.holds Try.pinned (OpenSpec.ofChange fnCompareIntsLessWrong)

/-- 'laws.FnCompareIntsSelf': WHATEVER THE INPUT: true; the input reads as it did. -/
def fnCompareIntsSelfSpec : ChangeSpec := { name := "fnCompareIntsSelf", fn := fun _ => fun
  | [d] => { results := [.lit (.bool true)], args := [d] }
  | _ => none }
def fnCompareIntsSelfRow : OpenClaim := { program := "ytodioogiinghcaa", sum := "c894a20b8d200a4e436d34c4d21f218f467a4f6c98b9983623b397345aafa653", func := "loop.example/lib-comparemaps/laws.FnCompareIntsSelf", spec := "fnCompareIntsSelf", apart := false }
def FnCompareIntsSelfSaid : Prop := fnCompareIntsSelfRow.holds Try.pinned (OpenSpec.ofChange fnCompareIntsSelfSpec)

/-- ITS FALSE NEIGHBOUR: 'it returns false'. Refute it at one input. -/
def fnCompareIntsSelfWrong : ChangeSpec := { name := "fnCompareIntsSelf", fn := fun _ => fun
  | [d] => { results := [.lit (.bool false)], args := [d] }
  | _ => none }
def FnCompareIntsSelfWrongFalsely : Prop := fnCompareIntsSelfRow.holds Try.pinned (OpenSpec.ofChange fnCompareIntsSelfWrong)

/- THE SECOND FORM. 'bulk': how many values and letters a reading holds, each counted each time it is reached (what is shared counts as often as it is met; a slice's spare places count too). A statement '..UptoSaid' is the law's where the arguments, and the package variables that the reading takes, are together of bulk at most 1048576: NARROWER than '..Said'. Prove '..Said' where nothing that the law and all that it calls make is longer than what came in: it says more and counts as full. Else prove '..UptoSaid'. A law counts once. -/
mutual
def uptoBulk {H : Type} : DataW H → Nat
  | .lit (.string bytes) => bytes.length + 1
  | .lit _ => 1
  | .nil => 1
  | .ptr d => uptoBulk d + 1
  | .slice elems spare => uptoBulkAll elems + uptoBulkAll spare + 1
  | .agg parts => uptoBulkAll parts + 1
  | .iface _ d => uptoBulk d + 1
  | .map entries => uptoBulkEntries entries + 1
  | .held _ => 1
def uptoBulkAll {H : Type} : List (DataW H) → Nat
  | [] => 0
  | d :: r => uptoBulk d + uptoBulkAll r
def uptoBulkEntries {H : Type} : List (Lit × DataW H) → Nat
  | [] => 0
  | x :: r => uptoBulkEntry x + uptoBulkEntries r
def uptoBulkEntry {H : Type} : Lit × DataW H → Nat
  | (.string bytes, d) => bytes.length + uptoBulk d + 1
  | (_, d) => uptoBulk d + 1
 end
def uptoSmall : (H : Type) → List (DataW H) → Bool := fun _ ds => decide (uptoBulkAll ds ≤ 1048576)
def OpenSpec.upto (s : _root_.Go.ChangeSpec) : _root_.Go.OpenSpec := { _root_.Go.OpenSpec.ofChange s with cond := some uptoSmall }

/-- 'laws.FnLessInts', WHERE WHAT IT READS IS OF BULK AT MOST 1048576: true; the input reads as it did. -/
def fnLessIntsUptoRow : OpenClaim := { program := "ytodioogiinghcaa", sum := "c894a20b8d200a4e436d34c4d21f218f467a4f6c98b9983623b397345aafa653", func := "loop.example/lib-comparemaps/laws.FnLessInts", spec := "fnLessInts", apart := false, narrowed := true }
def FnLessIntsUptoSaid : Prop := fnLessIntsUptoRow.holds Try.pinned (OpenSpec.upto fnLessIntsSpec)

/-- 'laws.FnCompareInts', WHERE WHAT IT READS IS OF BULK AT MOST 1048576: true; the input reads as it did. -/
def fnCompareIntsUptoRow : OpenClaim := { program := "ytodioogiinghcaa", sum := "c894a20b8d200a4e436d34c4d21f218f467a4f6c98b9983623b397345aafa653", func := "loop.example/lib-comparemaps/laws.FnCompareInts", spec := "fnCompareInts", apart := false, narrowed := true }
def FnCompareIntsUptoSaid : Prop := fnCompareIntsUptoRow.holds Try.pinned (OpenSpec.upto fnCompareIntsSpec)

/-- 'laws.FnCompareIntsBelow', WHERE WHAT IT READS IS OF BULK AT MOST 1048576: true; the input reads as it did. -/
def fnCompareIntsBelowUptoRow : OpenClaim := { program := "ytodioogiinghcaa", sum := "c894a20b8d200a4e436d34c4d21f218f467a4f6c98b9983623b397345aafa653", func := "loop.example/lib-comparemaps/laws.FnCompareIntsBelow", spec := "fnCompareIntsBelow", apart := false, narrowed := true }
def FnCompareIntsBelowUptoSaid : Prop := fnCompareIntsBelowUptoRow.holds Try.pinned (OpenSpec.upto fnCompareIntsBelowSpec)

/-- 'laws.FnCompareIntsChain', WHERE WHAT IT READS IS OF BULK AT MOST 1048576: true; the input reads as it did. -/
def fnCompareIntsChainUptoRow : OpenClaim := { program := "ytodioogiinghcaa", sum := "c894a20b8d200a4e436d34c4d21f218f467a4f6c98b9983623b397345aafa653", func := "loop.example/lib-comparemaps/laws.FnCompareIntsChain", spec := "fnCompareIntsChain", apart := false, narrowed := true }
def FnCompareIntsChainUptoSaid : Prop := fnCompareIntsChainUptoRow.holds Try.pinned (OpenSpec.upto fnCompareIntsChainSpec)

/-- 'laws.FnCompareIntsTurned', WHERE WHAT IT READS IS OF BULK AT MOST 1048576: true; the input reads as it did. -/
def fnCompareIntsTurnedUptoRow : OpenClaim := { program := "ytodioogiinghcaa", sum := "c894a20b8d200a4e436d34c4d21f218f467a4f6c98b9983623b397345aafa653", func := "loop.example/lib-comparemaps/laws.FnCompareIntsTurned", spec := "fnCompareIntsTurned", apart := false, narrowed := true }
def FnCompareIntsTurnedUptoSaid : Prop := fnCompareIntsTurnedUptoRow.holds Try.pinned (OpenSpec.upto fnCompareIntsTurnedSpec)

/-- 'laws.FnExactCompareInts', WHERE WHAT IT READS IS OF BULK AT MOST 1048576: true; the input reads as it did. -/
def fnExactCompareIntsUptoRow : OpenClaim := { program := "ytodioogiinghcaa", sum := "c894a20b8d200a4e436d34c4d21f218f467a4f6c98b9983623b397345aafa653", func := "loop.example/lib-comparemaps/laws.FnExactCompareInts", spec := "fnExactCompareInts", apart := false, narrowed := true }
def FnExactCompareIntsUptoSaid : Prop := fnExactCompareIntsUptoRow.holds Try.pinned (OpenSpec.upto fnExactCompareIntsSpec)

/-- 'laws.FnCompareIntsUints', WHERE WHAT IT READS IS OF BULK AT MOST 1048576: true; the input reads as it did. -/
def fnCompareIntsUintsUptoRow : OpenClaim := { program := "ytodioogiinghcaa", sum := "c894a20b8d200a4e436d34c4d21f218f467a4f6c98b9983623b397345aafa653", func := "loop.example/lib-comparemaps/laws.FnCompareIntsUints", spec := "fnCompareIntsUints", apart := false, narrowed := true }
def FnCompareIntsUintsUptoSaid : Prop := fnCompareIntsUintsUptoRow.holds Try.pinned (OpenSpec.upto fnCompareIntsUintsSpec)

/-- 'laws.FnCompareIntsLess', WHERE WHAT IT READS IS OF BULK AT MOST 1048576: true; the input reads as it did. -/
def fnCompareIntsLessUptoRow : OpenClaim := { program := "ytodioogiinghcaa", sum := "c894a20b8d200a4e436d34c4d21f218f467a4f6c98b9983623b397345aafa653", func := "loop.example/lib-comparemaps/laws.FnCompareIntsLess", spec := "fnCompareIntsLess", apart := false, narrowed := true }
def FnCompareIntsLessUptoSaid : Prop := fnCompareIntsLessUptoRow.holds Try.pinned (OpenSpec.upto fnCompareIntsLessSpec)

/-- 'laws.FnCompareIntsSelf', WHERE WHAT IT READS IS OF BULK AT MOST 1048576: true; the input reads as it did. -/
def fnCompareIntsSelfUptoRow : OpenClaim := { program := "ytodioogiinghcaa", sum := "c894a20b8d200a4e436d34c4d21f218f467a4f6c98b9983623b397345aafa653", func := "loop.example/lib-comparemaps/laws.FnCompareIntsSelf", spec := "fnCompareIntsSelf", apart := false, narrowed := true }
def FnCompareIntsSelfUptoSaid : Prop := fnCompareIntsSelfUptoRow.holds Try.pinned (OpenSpec.upto fnCompareIntsSelfSpec)

end Rows
end Go.Proofs.Ytodioogiinghcaa
