/-
  No cell of these rows narrows 'for every input' (looked for: loops, veiled, ifaces, maps, wideKeys, modest, calm, conditions, laid).
  DERIVED. THE GIVEN ROWS OF THIS SEAT. 5 by the template 'for every input the law returns true; each argument reads behind the call as it read before'; 0 by the template 'total and deterministic' (their statements: YtpfobfmmebhkfaaTotals.lean).
  GIVEN WITH THE SEED: the statements are not yours to turn. If you find one false, say at which input.
  Laid BY PROGRAM, IN A SANDBOX (cutbox-rows.mjs): the forced cells as the released guide's own fill.sh prints them over the translation 10460fa23d80231b… (all of the seat's roots in one cut). By AI agents, Wed Nov 11 2026. No macro, syntax, notation, axiom, sorry.
-/
import Derived.Test.YtpfobfmmebhkfaaChecked
import GoSem.Claim
import GoSem.ClaimJoined
import GoSem.ClaimMapViews
import Derived.JoinedTies
import Derived.KernelRfl
namespace Go.Proofs.Ytpfobfmmebhkfaa
/- THE CELL 'sum', in the pinned program and in every row, IS THE sha256 OF THE DUMP (.gsa) THAT YtpfobfmmebhkfaaProg.lean LOADS. Nothing in Lean hashes anything: it is a label: what it is worth is what the hold of that sum in a sandbox is worth. -/
noncomputable def Try.pinned : Pinned := { name := "ytpfobfmmebhkfaa", sum := "10460fa23d80231b1ffb6c5569471a4edd7cba034d850f7fdcd01676634872b6", checked := Try.checked }
namespace Rows
def none {H : Type} : Left H := { results := [], args := [] }

/-- 'laws.FnExactLessFloats': WHATEVER THE INPUT: true; the input reads as it did. -/
def fnExactLessFloatsSpec : ChangeSpec := { name := "fnExactLessFloats", fn := fun _ => fun
  | [d1, d2] => { results := [.lit (.bool true)], args := [d1, d2] }
  | _ => none }
def fnExactLessFloatsRow : OpenClaim := { program := "ytpfobfmmebhkfaa", sum := "10460fa23d80231b1ffb6c5569471a4edd7cba034d850f7fdcd01676634872b6", func := "loop.example/lib-comparemaps/laws.FnExactLessFloats", spec := "fnExactLessFloats", apart := false }
def FnExactLessFloatsSaid : Prop := fnExactLessFloatsRow.holds Try.pinned (OpenSpec.ofChange fnExactLessFloatsSpec)

/-- ITS FALSE NEIGHBOUR: 'it returns false'. Refute it at one input. -/
def fnExactLessFloatsWrong : ChangeSpec := { name := "fnExactLessFloats", fn := fun _ => fun
  | [d1, d2] => { results := [.lit (.bool false)], args := [d1, d2] }
  | _ => none }
def FnExactLessFloatsWrongFalsely : Prop := fnExactLessFloatsRow.holds Try.pinned (OpenSpec.ofChange fnExactLessFloatsWrong)

/-- 'laws.FnExactLessInts': WHATEVER THE INPUT: true; the input reads as it did. -/
def fnExactLessIntsSpec : ChangeSpec := { name := "fnExactLessInts", fn := fun _ => fun
  | [d1, d2] => { results := [.lit (.bool true)], args := [d1, d2] }
  | _ => none }
def fnExactLessIntsRow : OpenClaim := { program := "ytpfobfmmebhkfaa", sum := "10460fa23d80231b1ffb6c5569471a4edd7cba034d850f7fdcd01676634872b6", func := "loop.example/lib-comparemaps/laws.FnExactLessInts", spec := "fnExactLessInts", apart := false }
def FnExactLessIntsSaid : Prop := fnExactLessIntsRow.holds Try.pinned (OpenSpec.ofChange fnExactLessIntsSpec)

/-- ITS FALSE NEIGHBOUR: 'it returns false'. Refute it at one input. -/
def fnExactLessIntsWrong : ChangeSpec := { name := "fnExactLessInts", fn := fun _ => fun
  | [d1, d2] => { results := [.lit (.bool false)], args := [d1, d2] }
  | _ => none }
def FnExactLessIntsWrongFalsely : Prop := fnExactLessIntsRow.holds Try.pinned (OpenSpec.ofChange fnExactLessIntsWrong)

/-- 'laws.FnExactLessSmalls': WHATEVER THE INPUT: true; the input reads as it did. -/
def fnExactLessSmallsSpec : ChangeSpec := { name := "fnExactLessSmalls", fn := fun _ => fun
  | [d1, d2] => { results := [.lit (.bool true)], args := [d1, d2] }
  | _ => none }
def fnExactLessSmallsRow : OpenClaim := { program := "ytpfobfmmebhkfaa", sum := "10460fa23d80231b1ffb6c5569471a4edd7cba034d850f7fdcd01676634872b6", func := "loop.example/lib-comparemaps/laws.FnExactLessSmalls", spec := "fnExactLessSmalls", apart := false }
def FnExactLessSmallsSaid : Prop := fnExactLessSmallsRow.holds Try.pinned (OpenSpec.ofChange fnExactLessSmallsSpec)

/-- ITS FALSE NEIGHBOUR: 'it returns false'. Refute it at one input. -/
def fnExactLessSmallsWrong : ChangeSpec := { name := "fnExactLessSmalls", fn := fun _ => fun
  | [d1, d2] => { results := [.lit (.bool false)], args := [d1, d2] }
  | _ => none }
def FnExactLessSmallsWrongFalsely : Prop := fnExactLessSmallsRow.holds Try.pinned (OpenSpec.ofChange fnExactLessSmallsWrong)

/-- 'laws.FnExactLessTexts': WHATEVER THE INPUT: true; the input reads as it did. -/
def fnExactLessTextsSpec : ChangeSpec := { name := "fnExactLessTexts", fn := fun _ => fun
  | [d1, d2] => { results := [.lit (.bool true)], args := [d1, d2] }
  | _ => none }
def fnExactLessTextsRow : OpenClaim := { program := "ytpfobfmmebhkfaa", sum := "10460fa23d80231b1ffb6c5569471a4edd7cba034d850f7fdcd01676634872b6", func := "loop.example/lib-comparemaps/laws.FnExactLessTexts", spec := "fnExactLessTexts", apart := false }
def FnExactLessTextsSaid : Prop := fnExactLessTextsRow.holds Try.pinned (OpenSpec.ofChange fnExactLessTextsSpec)

/-- ITS FALSE NEIGHBOUR: 'it returns false'. Refute it at one input. -/
def fnExactLessTextsWrong : ChangeSpec := { name := "fnExactLessTexts", fn := fun _ => fun
  | [d1, d2] => { results := [.lit (.bool false)], args := [d1, d2] }
  | _ => none }
def FnExactLessTextsWrongFalsely : Prop := fnExactLessTextsRow.holds Try.pinned (OpenSpec.ofChange fnExactLessTextsWrong)

/-- 'laws.FnExactLessUints': WHATEVER THE INPUT: true; the input reads as it did. -/
def fnExactLessUintsSpec : ChangeSpec := { name := "fnExactLessUints", fn := fun _ => fun
  | [d1, d2] => { results := [.lit (.bool true)], args := [d1, d2] }
  | _ => none }
def fnExactLessUintsRow : OpenClaim := { program := "ytpfobfmmebhkfaa", sum := "10460fa23d80231b1ffb6c5569471a4edd7cba034d850f7fdcd01676634872b6", func := "loop.example/lib-comparemaps/laws.FnExactLessUints", spec := "fnExactLessUints", apart := false }
def FnExactLessUintsSaid : Prop := fnExactLessUintsRow.holds Try.pinned (OpenSpec.ofChange fnExactLessUintsSpec)

/-- ITS FALSE NEIGHBOUR: 'it returns false'. Refute it at one input. -/
def fnExactLessUintsWrong : ChangeSpec := { name := "fnExactLessUints", fn := fun _ => fun
  | [d1, d2] => { results := [.lit (.bool false)], args := [d1, d2] }
  | _ => none }
def FnExactLessUintsWrongFalsely : Prop := fnExactLessUintsRow.holds Try.pinned (OpenSpec.ofChange fnExactLessUintsWrong)

/- THE SECOND FORM. 'bulk': how many values and letters a reading holds, each counted each time it is reached (what is shared counts as often as it is met; a slice's spare places count too). A statement '..UptoSaid' is the law's where the arguments, and the package variables that the reading takes, are together of bulk at most 1048576: NARROWER than '..Said'. Prove '..Said' where nothing that the law and all that it calls make is longer than what came in: it says more and counts as full. Else prove '..UptoSaid'. A law counts once. -/
mutual
def uptoBulk {H : Type} : DataW H → Nat
  | .lit (.string bytes) => bytes.length + 1
  | .lit _ => 1
  | .nil => 1
  | .ptr d => uptoBulk d + 1
  | .slice elems spare => uptoBulkAll elems + uptoBulkAll spare + 1
  | .agg parts => uptoBulkAll parts + 1
  | .iface _ d => uptoBulk d + 1
  | .map entries => uptoBulkEntries entries + 1
  | .held _ => 1
def uptoBulkAll {H : Type} : List (DataW H) → Nat
  | [] => 0
  | d :: r => uptoBulk d + uptoBulkAll r
def uptoBulkEntries {H : Type} : List (Lit × DataW H) → Nat
  | [] => 0
  | x :: r => uptoBulkEntry x + uptoBulkEntries r
def uptoBulkEntry {H : Type} : Lit × DataW H → Nat
  | (.string bytes, d) => bytes.length + uptoBulk d + 1
  | (_, d) => uptoBulk d + 1
 end
def uptoSmall : (H : Type) → List (DataW H) → Bool := fun _ ds => decide (uptoBulkAll ds ≤ 1048576)
def OpenSpec.upto (s : _root_.Go.ChangeSpec) : _root_.Go.OpenSpec := { _root_.Go.OpenSpec.ofChange s with cond := some uptoSmall }

/-- 'laws.FnExactLessFloats', WHERE WHAT IT READS IS OF BULK AT MOST 1048576: true; the input reads as it did. -/
def fnExactLessFloatsUptoRow : OpenClaim := { program := "ytpfobfmmebhkfaa", sum := "10460fa23d80231b1ffb6c5569471a4edd7cba034d850f7fdcd01676634872b6", func := "loop.example/lib-comparemaps/laws.FnExactLessFloats", spec := "fnExactLessFloats", apart := false, narrowed := true }
def FnExactLessFloatsUptoSaid : Prop := fnExactLessFloatsUptoRow.holds Try.pinned (OpenSpec.upto fnExactLessFloatsSpec)

/-- 'laws.FnExactLessInts', WHERE WHAT IT READS IS OF BULK AT MOST 1048576: true; the input reads as it did. -/
def fnExactLessIntsUptoRow : OpenClaim := { program := "ytpfobfmmebhkfaa", sum := "10460fa23d80231b1ffb6c5569471a4edd7cba034d850f7fdcd01676634872b6", func := "loop.example/lib-comparemaps/laws.FnExactLessInts", spec := "fnExactLessInts", apart := false, narrowed := true }
def FnExactLessIntsUptoSaid : Prop := fnExactLessIntsUptoRow.holds Try.pinned (OpenSpec.upto fnExactLessIntsSpec)

/-- 'laws.FnExactLessSmalls', WHERE WHAT IT READS IS OF BULK AT MOST 1048576: true; the input reads as it did. -/
def fnExactLessSmallsUptoRow : OpenClaim := { program := "ytpfobfmmebhkfaa", sum := "10460fa23d80231b1ffb6c5569471a4edd7cba034d850f7fdcd01676634872b6", func := "loop.example/lib-comparemaps/laws.FnExactLessSmalls", spec := "fnExactLessSmalls", apart := false, narrowed := true }
def FnExactLessSmallsUptoSaid : Prop := fnExactLessSmallsUptoRow.holds Try.pinned (OpenSpec.upto fnExactLessSmallsSpec)

/-- 'laws.FnExactLessTexts', WHERE WHAT IT READS IS OF BULK AT MOST 1048576: true; the input reads as it did. -/
def fnExactLessTextsUptoRow : OpenClaim := { program := "ytpfobfmmebhkfaa", sum := "10460fa23d80231b1ffb6c5569471a4edd7cba034d850f7fdcd01676634872b6", func := "loop.example/lib-comparemaps/laws.FnExactLessTexts", spec := "fnExactLessTexts", apart := false, narrowed := true }
def FnExactLessTextsUptoSaid : Prop := fnExactLessTextsUptoRow.holds Try.pinned (OpenSpec.upto fnExactLessTextsSpec)

/-- 'laws.FnExactLessUints', WHERE WHAT IT READS IS OF BULK AT MOST 1048576: true; the input reads as it did. -/
def fnExactLessUintsUptoRow : OpenClaim := { program := "ytpfobfmmebhkfaa", sum := "10460fa23d80231b1ffb6c5569471a4edd7cba034d850f7fdcd01676634872b6", func := "loop.example/lib-comparemaps/laws.FnExactLessUints", spec := "fnExactLessUints", apart := false, narrowed := true }
def FnExactLessUintsUptoSaid : Prop := fnExactLessUintsUptoRow.holds Try.pinned (OpenSpec.upto fnExactLessUintsSpec)

end Rows
end Go.Proofs.Ytpfobfmmebhkfaa
