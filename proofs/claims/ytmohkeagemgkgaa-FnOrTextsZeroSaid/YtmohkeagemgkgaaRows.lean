/-
  No cell of these rows narrows 'for every input' (looked for: loops, veiled, ifaces, maps, wideKeys, modest, calm, conditions, laid).
  DERIVED. THE GIVEN ROWS OF THIS SEAT. 4 by the template 'for every input the law returns true; each argument reads behind the call as it read before'; 0 by the template 'total and deterministic' (their statements: YtmohkeagemgkgaaTotals.lean).
  GIVEN WITH THE SEED: the statements are not yours to turn. If you find one false, say at which input.
  Laid BY PROGRAM, IN A SANDBOX (cutbox-rows.mjs): the forced cells as the released guide's own fill.sh prints them over the translation 372f47e8adaf6c56… (all of the seat's roots in one cut). By AI agents, Wed Nov 11 2026. No macro, syntax, notation, axiom, sorry.
-/
import Derived.Test.YtmohkeagemgkgaaChecked
import GoSem.Claim
import GoSem.ClaimJoined
import GoSem.ClaimMapViews
import Derived.JoinedTies
import Derived.KernelRfl
namespace Go.Proofs.Ytmohkeagemgkgaa
/- THE CELL 'sum', in the pinned program and in every row, IS THE sha256 OF THE DUMP (.gsa) THAT YtmohkeagemgkgaaProg.lean LOADS. Nothing in Lean hashes anything: it is a label: what it is worth is what the hold of that sum in a sandbox is worth. -/
noncomputable def Try.pinned : Pinned := { name := "ytmohkeagemgkgaa", sum := "372f47e8adaf6c567ac39ca5dd58284fc702a910463acea9530d2e9810023668", checked := Try.checked }
namespace Rows
def none {H : Type} : Left H := { results := [], args := [] }

/-- 'laws.FnExactOrTexts': WHATEVER THE INPUT: true; the input reads as it did. -/
def fnExactOrTextsSpec : ChangeSpec := { name := "fnExactOrTexts", fn := fun _ => fun
  | [d] => { results := [.lit (.bool true)], args := [d] }
  | _ => none }
def fnExactOrTextsRow : OpenClaim := { program := "ytmohkeagemgkgaa", sum := "372f47e8adaf6c567ac39ca5dd58284fc702a910463acea9530d2e9810023668", func := "loop.example/lib-comparemaps/laws.FnExactOrTexts", spec := "fnExactOrTexts", apart := false }
def FnExactOrTextsSaid : Prop := fnExactOrTextsRow.holds Try.pinned (OpenSpec.ofChange fnExactOrTextsSpec)

/-- ITS FALSE NEIGHBOUR: 'it returns false'. Refute it at one input. -/
def fnExactOrTextsWrong : ChangeSpec := { name := "fnExactOrTexts", fn := fun _ => fun
  | [d] => { results := [.lit (.bool false)], args := [d] }
  | _ => none }
def FnExactOrTextsWrongFalsely : Prop := fnExactOrTextsRow.holds Try.pinned (OpenSpec.ofChange fnExactOrTextsWrong)

/-- 'laws.FnOrTexts': WHATEVER THE INPUT: true; the input reads as it did. -/
def fnOrTextsSpec : ChangeSpec := { name := "fnOrTexts", fn := fun _ => fun
  | [d] => { results := [.lit (.bool true)], args := [d] }
  | _ => none }
def fnOrTextsRow : OpenClaim := { program := "ytmohkeagemgkgaa", sum := "372f47e8adaf6c567ac39ca5dd58284fc702a910463acea9530d2e9810023668", func := "loop.example/lib-comparemaps/laws.FnOrTexts", spec := "fnOrTexts", apart := false }
def FnOrTextsSaid : Prop := fnOrTextsRow.holds Try.pinned (OpenSpec.ofChange fnOrTextsSpec)

/-- ITS FALSE NEIGHBOUR: 'it returns false'. Refute it at one input. -/
def fnOrTextsWrong : ChangeSpec := { name := "fnOrTexts", fn := fun _ => fun
  | [d] => { results := [.lit (.bool false)], args := [d] }
  | _ => none }
def FnOrTextsWrongFalsely : Prop := fnOrTextsRow.holds Try.pinned (OpenSpec.ofChange fnOrTextsWrong)

/-- 'laws.FnOrTextsParts': WHATEVER THE INPUT: true; the input reads as it did. -/
def fnOrTextsPartsSpec : ChangeSpec := { name := "fnOrTextsParts", fn := fun _ => fun
  | [d] => { results := [.lit (.bool true)], args := [d] }
  | _ => none }
def fnOrTextsPartsRow : OpenClaim := { program := "ytmohkeagemgkgaa", sum := "372f47e8adaf6c567ac39ca5dd58284fc702a910463acea9530d2e9810023668", func := "loop.example/lib-comparemaps/laws.FnOrTextsParts", spec := "fnOrTextsParts", apart := false }
def FnOrTextsPartsSaid : Prop := fnOrTextsPartsRow.holds Try.pinned (OpenSpec.ofChange fnOrTextsPartsSpec)

/-- ITS FALSE NEIGHBOUR: 'it returns false'. Refute it at one input. -/
def fnOrTextsPartsWrong : ChangeSpec := { name := "fnOrTextsParts", fn := fun _ => fun
  | [d] => { results := [.lit (.bool false)], args := [d] }
  | _ => none }
def FnOrTextsPartsWrongFalsely : Prop := fnOrTextsPartsRow.holds Try.pinned (OpenSpec.ofChange fnOrTextsPartsWrong)

/-- 'laws.FnOrTextsZero': WHATEVER THE INPUT: true; the input reads as it did. -/
def fnOrTextsZeroSpec : ChangeSpec := { name := "fnOrTextsZero", fn := fun _ => fun
  | [d] => { results := [.lit (.bool true)], args := [d] }
  | _ => none }
def fnOrTextsZeroRow : OpenClaim := { program := "ytmohkeagemgkgaa", sum := "372f47e8adaf6c567ac39ca5dd58284fc702a910463acea9530d2e9810023668", func := "loop.example/lib-comparemaps/laws.FnOrTextsZero", spec := "fnOrTextsZero", apart := false }
def FnOrTextsZeroSaid : Prop := fnOrTextsZeroRow.holds Try.pinned (OpenSpec.ofChange fnOrTextsZeroSpec)

/-- ITS FALSE NEIGHBOUR: 'it returns false'. Refute it at one input. -/
def fnOrTextsZeroWrong : ChangeSpec := { name := "fnOrTextsZero", fn := fun _ => fun
  | [d] => { results := [.lit (.bool false)], args := [d] }
  | _ => none }
def FnOrTextsZeroWrongFalsely : Prop := fnOrTextsZeroRow.holds Try.pinned (OpenSpec.ofChange fnOrTextsZeroWrong)

/- THE SECOND FORM. 'bulk': how many values and letters a reading holds, each counted each time it is reached (what is shared counts as often as it is met; a slice's spare places count too). A statement '..UptoSaid' is the law's where the arguments, and the package variables that the reading takes, are together of bulk at most 1048576: NARROWER than '..Said'. Prove '..Said' where nothing that the law and all that it calls make is longer than what came in: it says more and counts as full. Else prove '..UptoSaid'. A law counts once. -/
mutual
def uptoBulk {H : Type} : DataW H → Nat
  | .lit (.string bytes) => bytes.length + 1
  | .lit _ => 1
  | .nil => 1
  | .ptr d => uptoBulk d + 1
  | .slice elems spare => uptoBulkAll elems + uptoBulkAll spare + 1
  | .agg parts => uptoBulkAll parts + 1
  | .iface _ d => uptoBulk d + 1
  | .map entries => uptoBulkEntries entries + 1
  | .held _ => 1
def uptoBulkAll {H : Type} : List (DataW H) → Nat
  | [] => 0
  | d :: r => uptoBulk d + uptoBulkAll r
def uptoBulkEntries {H : Type} : List (Lit × DataW H) → Nat
  | [] => 0
  | x :: r => uptoBulkEntry x + uptoBulkEntries r
def uptoBulkEntry {H : Type} : Lit × DataW H → Nat
  | (.string bytes, d) => bytes.length + uptoBulk d + 1
  | (_, d) => uptoBulk d + 1
 end
def uptoSmall : (H : Type) → List (DataW H) → Bool := fun _ ds => decide (uptoBulkAll ds ≤ 1048576)
def OpenSpec.upto (s : _root_.Go.ChangeSpec) : _root_.Go.OpenSpec := { _root_.Go.OpenSpec.ofChange s with cond := some uptoSmall }

/-- 'laws.FnExactOrTexts', WHERE WHAT IT READS IS OF BULK AT MOST 1048576: true; the input reads as it did. -/
def fnExactOrTextsUptoRow : OpenClaim := { program := "ytmohkeagemgkgaa", sum := "372f47e8adaf6c567ac39ca5dd58284fc702a910463acea9530d2e9810023668", func := "loop.example/lib-comparemaps/laws.FnExactOrTexts", spec := "fnExactOrTexts", apart := false, narrowed := true }
def FnExactOrTextsUptoSaid : Prop := fnExactOrTextsUptoRow.holds Try.pinned (OpenSpec.upto fnExactOrTextsSpec)

/-- 'laws.FnOrTexts', WHERE WHAT IT READS IS OF BULK AT MOST 1048576: true; the input reads as it did. -/
def fnOrTextsUptoRow : OpenClaim := { program := "ytmohkeagemgkgaa", sum := "372f47e8adaf6c567ac39ca5dd58284fc702a910463acea9530d2e9810023668", func := "loop.example/lib-comparemaps/laws.FnOrTexts", spec := "fnOrTexts", apart := false, narrowed := true }
def FnOrTextsUptoSaid : Prop := fnOrTextsUptoRow.holds Try.pinned (OpenSpec.upto fnOrTextsSpec)

/-- 'laws.FnOrTextsParts', WHERE WHAT IT READS IS OF BULK AT MOST 1048576: true; the input reads as it did. -/
def fnOrTextsPartsUptoRow : OpenClaim := { program := "ytmohkeagemgkgaa", sum := "372f47e8adaf6c567ac39ca5dd58284fc702a910463acea9530d2e9810023668", func := "loop.example/lib-comparemaps/laws.FnOrTextsParts", spec := "fnOrTextsParts", apart := false, narrowed := true }
def FnOrTextsPartsUptoSaid : Prop := fnOrTextsPartsUptoRow.holds Try.pinned (OpenSpec.upto fnOrTextsPartsSpec)

/-- 'laws.FnOrTextsZero', WHERE WHAT IT READS IS OF BULK AT MOST 1048576: true; the input reads as it did. -/
def fnOrTextsZeroUptoRow : OpenClaim := { program := "ytmohkeagemgkgaa", sum := "372f47e8adaf6c567ac39ca5dd58284fc702a910463acea9530d2e9810023668", func := "loop.example/lib-comparemaps/laws.FnOrTextsZero", spec := "fnOrTextsZero", apart := false, narrowed := true }
def FnOrTextsZeroUptoSaid : Prop := fnOrTextsZeroUptoRow.holds Try.pinned (OpenSpec.upto fnOrTextsZeroSpec)

end Rows
end Go.Proofs.Ytmohkeagemgkgaa
