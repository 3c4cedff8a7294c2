/-
  No cell of these rows narrows 'for every input' (looked for: loops, veiled, ifaces, maps, wideKeys, modest, calm, conditions, laid).
  DERIVED. THE GIVEN ROWS OF THIS SEAT. 7 by the template 'for every input the law returns true; each argument reads behind the call as it read before'; 0 by the template 'total and deterministic' (their statements: YtljgipokaocgeaaTotals.lean).
  GIVEN WITH THE SEED: the statements are not yours to turn. If you find one false, say at which input.
  Laid BY PROGRAM, IN A SANDBOX (cutbox-rows.mjs): the forced cells as the released guide's own fill.sh prints them over the translation 36f0feeda1a41e13… (all of the seat's roots in one cut). By AI agents, Wed Nov 11 2026. No macro, syntax, notation, axiom, sorry.
-/
import Derived.Test.YtljgipokaocgeaaChecked
import GoSem.Claim
import GoSem.ClaimJoined
import GoSem.ClaimMapViews
import Derived.JoinedTies
import Derived.KernelRfl
namespace Go.Proofs.Ytljgipokaocgeaa
/- THE CELL 'sum', in the pinned program and in every row, IS THE sha256 OF THE DUMP (.gsa) THAT YtljgipokaocgeaaProg.lean LOADS. Nothing in Lean hashes anything: it is a label: what it is worth is what the hold of that sum in a sandbox is worth. -/
noncomputable def Try.pinned : Pinned := { name := "ytljgipokaocgeaa", sum := "36f0feeda1a41e13bd783ef4907241f05f6188b1678eec18ad446fedc6becfed", checked := Try.checked }
namespace Rows
def none {H : Type} : Left H := { results := [], args := [] }

/-- 'laws.FnExactOrInts': WHATEVER THE INPUT: true; the input reads as it did. -/
def fnExactOrIntsSpec : ChangeSpec := { name := "fnExactOrInts", fn := fun _ => fun
  | [d] => { results := [.lit (.bool true)], args := [d] }
  | _ => none }
def fnExactOrIntsRow : OpenClaim := { program := "ytljgipokaocgeaa", sum := "36f0feeda1a41e13bd783ef4907241f05f6188b1678eec18ad446fedc6becfed", func := "loop.example/lib-comparemaps/laws.FnExactOrInts", spec := "fnExactOrInts", apart := false }
def FnExactOrIntsSaid : Prop := fnExactOrIntsRow.holds Try.pinned (OpenSpec.ofChange fnExactOrIntsSpec)

/-- ITS FALSE NEIGHBOUR: 'it returns false'. Refute it at one input. -/
def fnExactOrIntsWrong : ChangeSpec := { name := "fnExactOrInts", fn := fun _ => fun
  | [d] => { results := [.lit (.bool false)], args := [d] }
  | _ => none }
def FnExactOrIntsWrongFalsely : Prop := fnExactOrIntsRow.holds Try.pinned (OpenSpec.ofChange fnExactOrIntsWrong)

/-- 'laws.FnExactOrPairs': WHATEVER THE INPUT: true; the input reads as it did. -/
def fnExactOrPairsSpec : ChangeSpec := { name := "fnExactOrPairs", fn := fun _ => fun
  | [d] => { results := [.lit (.bool true)], args := [d] }
  | _ => none }
def fnExactOrPairsRow : OpenClaim := { program := "ytljgipokaocgeaa", sum := "36f0feeda1a41e13bd783ef4907241f05f6188b1678eec18ad446fedc6becfed", func := "loop.example/lib-comparemaps/laws.FnExactOrPairs", spec := "fnExactOrPairs", apart := false }
def FnExactOrPairsSaid : Prop := fnExactOrPairsRow.holds Try.pinned (OpenSpec.ofChange fnExactOrPairsSpec)

/-- ITS FALSE NEIGHBOUR: 'it returns false'. Refute it at one input. -/
def fnExactOrPairsWrong : ChangeSpec := { name := "fnExactOrPairs", fn := fun _ => fun
  | [d] => { results := [.lit (.bool false)], args := [d] }
  | _ => none }
def FnExactOrPairsWrongFalsely : Prop := fnExactOrPairsRow.holds Try.pinned (OpenSpec.ofChange fnExactOrPairsWrong)

/-- 'laws.FnOrInts': WHATEVER THE INPUT: true; the input reads as it did. -/
def fnOrIntsSpec : ChangeSpec := { name := "fnOrInts", fn := fun _ => fun
  | [d] => { results := [.lit (.bool true)], args := [d] }
  | _ => none }
def fnOrIntsRow : OpenClaim := { program := "ytljgipokaocgeaa", sum := "36f0feeda1a41e13bd783ef4907241f05f6188b1678eec18ad446fedc6becfed", func := "loop.example/lib-comparemaps/laws.FnOrInts", spec := "fnOrInts", apart := false }
def FnOrIntsSaid : Prop := fnOrIntsRow.holds Try.pinned (OpenSpec.ofChange fnOrIntsSpec)

/-- ITS FALSE NEIGHBOUR: 'it returns false'. Refute it at one input. -/
def fnOrIntsWrong : ChangeSpec := { name := "fnOrInts", fn := fun _ => fun
  | [d] => { results := [.lit (.bool false)], args := [d] }
  | _ => none }
def FnOrIntsWrongFalsely : Prop := fnOrIntsRow.holds Try.pinned (OpenSpec.ofChange fnOrIntsWrong)

/-- 'laws.FnOrIntsParts': WHATEVER THE INPUT: true; the input reads as it did. -/
def fnOrIntsPartsSpec : ChangeSpec := { name := "fnOrIntsParts", fn := fun _ => fun
  | [d] => { results := [.lit (.bool true)], args := [d] }
  | _ => none }
def fnOrIntsPartsRow : OpenClaim := { program := "ytljgipokaocgeaa", sum := "36f0feeda1a41e13bd783ef4907241f05f6188b1678eec18ad446fedc6becfed", func := "loop.example/lib-comparemaps/laws.FnOrIntsParts", spec := "fnOrIntsParts", apart := false }
def FnOrIntsPartsSaid : Prop := fnOrIntsPartsRow.holds Try.pinned (OpenSpec.ofChange fnOrIntsPartsSpec)

/-- ITS FALSE NEIGHBOUR: 'it returns false'. Refute it at one input. -/
def fnOrIntsPartsWrong : ChangeSpec := { name := "fnOrIntsParts", fn := fun _ => fun
  | [d] => { results := [.lit (.bool false)], args := [d] }
  | _ => none }
def FnOrIntsPartsWrongFalsely : Prop := fnOrIntsPartsRow.holds Try.pinned (OpenSpec.ofChange fnOrIntsPartsWrong)

/-- 'laws.FnOrIntsZero': WHATEVER THE INPUT: true; the input reads as it did. -/
def fnOrIntsZeroSpec : ChangeSpec := { name := "fnOrIntsZero", fn := fun _ => fun
  | [d] => { results := [.lit (.bool true)], args := [d] }
  | _ => none }
def fnOrIntsZeroRow : OpenClaim := { program := "ytljgipokaocgeaa", sum := "36f0feeda1a41e13bd783ef4907241f05f6188b1678eec18ad446fedc6becfed", func := "loop.example/lib-comparemaps/laws.FnOrIntsZero", spec := "fnOrIntsZero", apart := false }
def FnOrIntsZeroSaid : Prop := fnOrIntsZeroRow.holds Try.pinned (OpenSpec.ofChange fnOrIntsZeroSpec)

/-- ITS FALSE NEIGHBOUR: 'it returns false'. Refute it at one input. -/
def fnOrIntsZeroWrong : ChangeSpec := { name := "fnOrIntsZero", fn := fun _ => fun
  | [d] => { results := [.lit (.bool false)], args := [d] }
  | _ => none }
def FnOrIntsZeroWrongFalsely : Prop := fnOrIntsZeroRow.holds Try.pinned (OpenSpec.ofChange fnOrIntsZeroWrong)

/-- 'laws.FnOrPairs': WHATEVER THE INPUT: true; the input reads as it did. -/
def fnOrPairsSpec : ChangeSpec := { name := "fnOrPairs", fn := fun _ => fun
  | [d] => { results := [.lit (.bool true)], args := [d] }
  | _ => none }
def fnOrPairsRow : OpenClaim := { program := "ytljgipokaocgeaa", sum := "36f0feeda1a41e13bd783ef4907241f05f6188b1678eec18ad446fedc6becfed", func := "loop.example/lib-comparemaps/laws.FnOrPairs", spec := "fnOrPairs", apart := false }
def FnOrPairsSaid : Prop := fnOrPairsRow.holds Try.pinned (OpenSpec.ofChange fnOrPairsSpec)

/-- ITS FALSE NEIGHBOUR: 'it returns false'. Refute it at one input. -/
def fnOrPairsWrong : ChangeSpec := { name := "fnOrPairs", fn := fun _ => fun
  | [d] => { results := [.lit (.bool false)], args := [d] }
  | _ => none }
def FnOrPairsWrongFalsely : Prop := fnOrPairsRow.holds Try.pinned (OpenSpec.ofChange fnOrPairsWrong)

/-- 'laws.FnOrStays': WHATEVER THE INPUT: true; the input reads as it did. -/
def fnOrStaysSpec : ChangeSpec := { name := "fnOrStays", fn := fun _ => fun
  | [d] => { results := [.lit (.bool true)], args := [d] }
  | _ => none }
def fnOrStaysRow : OpenClaim := { program := "ytljgipokaocgeaa", sum := "36f0feeda1a41e13bd783ef4907241f05f6188b1678eec18ad446fedc6becfed", func := "loop.example/lib-comparemaps/laws.FnOrStays", spec := "fnOrStays", apart := false }
def FnOrStaysSaid : Prop := fnOrStaysRow.holds Try.pinned (OpenSpec.ofChange fnOrStaysSpec)

/-- ITS FALSE NEIGHBOUR: 'it returns false'. Refute it at one input. -/
def fnOrStaysWrong : ChangeSpec := { name := "fnOrStays", fn := fun _ => fun
  | [d] => { results := [.lit (.bool false)], args := [d] }
  | _ => none }
def FnOrStaysWrongFalsely : Prop := fnOrStaysRow.holds Try.pinned (OpenSpec.ofChange fnOrStaysWrong)

/- THE SECOND FORM. 'bulk': how many values and letters a reading holds, each counted each time it is reached (what is shared counts as often as it is met; a slice's spare places count too). A statement '..UptoSaid' is the law's where the arguments, and the package variables that the reading takes, are together of bulk at most 1048576: NARROWER than '..Said'. Prove '..Said' where nothing that the law and all that it calls make is longer than what came in: it says more and counts as full. Else prove '..UptoSaid'. A law counts once. -/
mutual
def uptoBulk {H : Type} : DataW H → Nat
  | .lit (.string bytes) => bytes.length + 1
  | .lit _ => 1
  | .nil => 1
  | .ptr d => uptoBulk d + 1
  | .slice elems spare => uptoBulkAll elems + uptoBulkAll spare + 1
  | .agg parts => uptoBulkAll parts + 1
  | .iface _ d => uptoBulk d + 1
  | .map entries => uptoBulkEntries entries + 1
  | .held _ => 1
def uptoBulkAll {H : Type} : List (DataW H) → Nat
  | [] => 0
  | d :: r => uptoBulk d + uptoBulkAll r
def uptoBulkEntries {H : Type} : List (Lit × DataW H) → Nat
  | [] => 0
  | x :: r => uptoBulkEntry x + uptoBulkEntries r
def uptoBulkEntry {H : Type} : Lit × DataW H → Nat
  | (.string bytes, d) => bytes.length + uptoBulk d + 1
  | (_, d) => uptoBulk d + 1
 end
def uptoSmall : (H : Type) → List (DataW H) → Bool := fun _ ds => decide (uptoBulkAll ds ≤ 1048576)
def OpenSpec.upto (s : _root_.Go.ChangeSpec) : _root_.Go.OpenSpec := { _root_.Go.OpenSpec.ofChange s with cond := some uptoSmall }

/-- 'laws.FnExactOrInts', WHERE WHAT IT READS IS OF BULK AT MOST 1048576: true; the input reads as it did. -/
def fnExactOrIntsUptoRow : OpenClaim := { program := "ytljgipokaocgeaa", sum := "36f0feeda1a41e13bd783ef4907241f05f6188b1678eec18ad446fedc6becfed", func := "loop.example/lib-comparemaps/laws.FnExactOrInts", spec := "fnExactOrInts", apart := false, narrowed := true }
def FnExactOrIntsUptoSaid : Prop := fnExactOrIntsUptoRow.holds Try.pinned (OpenSpec.upto fnExactOrIntsSpec)

/-- 'laws.FnExactOrPairs', WHERE WHAT IT READS IS OF BULK AT MOST 1048576: true; the input reads as it did. -/
def fnExactOrPairsUptoRow : OpenClaim := { program := "ytljgipokaocgeaa", sum := "36f0feeda1a41e13bd783ef4907241f05f6188b1678eec18ad446fedc6becfed", func := "loop.example/lib-comparemaps/laws.FnExactOrPairs", spec := "fnExactOrPairs", apart := false, narrowed := true }
def FnExactOrPairsUptoSaid : Prop := fnExactOrPairsUptoRow.holds Try.pinned (OpenSpec.upto fnExactOrPairsSpec)

/-- 'laws.FnOrInts', WHERE WHAT IT READS IS OF BULK AT MOST 1048576: true; the input reads as it did. -/
def fnOrIntsUptoRow : OpenClaim := { program := "ytljgipokaocgeaa", sum := "36f0feeda1a41e13bd783ef4907241f05f6188b1678eec18ad446fedc6becfed", func := "loop.example/lib-comparemaps/laws.FnOrInts", spec := "fnOrInts", apart := false, narrowed := true }
def FnOrIntsUptoSaid : Prop := fnOrIntsUptoRow.holds Try.pinned (OpenSpec.upto fnOrIntsSpec)

/-- 'laws.FnOrIntsParts', WHERE WHAT IT READS IS OF BULK AT MOST 1048576: true; the input reads as it did. -/
def fnOrIntsPartsUptoRow : OpenClaim := { program := "ytljgipokaocgeaa", sum := "36f0feeda1a41e13bd783ef4907241f05f6188b1678eec18ad446fedc6becfed", func := "loop.example/lib-comparemaps/laws.FnOrIntsParts", spec := "fnOrIntsParts", apart := false, narrowed := true }
def FnOrIntsPartsUptoSaid : Prop := fnOrIntsPartsUptoRow.holds Try.pinned (OpenSpec.upto fnOrIntsPartsSpec)

/-- 'laws.FnOrIntsZero', WHERE WHAT IT READS IS OF BULK AT MOST 1048576: true; the input reads as it did. -/
def fnOrIntsZeroUptoRow : OpenClaim := { program := "ytljgipokaocgeaa", sum := "36f0feeda1a41e13bd783ef4907241f05f6188b1678eec18ad446fedc6becfed", func := "loop.example/lib-comparemaps/laws.FnOrIntsZero", spec := "fnOrIntsZero", apart := false, narrowed := true }
def FnOrIntsZeroUptoSaid : Prop := fnOrIntsZeroUptoRow.holds Try.pinned (OpenSpec.upto fnOrIntsZeroSpec)

/-- 'laws.FnOrPairs', WHERE WHAT IT READS IS OF BULK AT MOST 1048576: true; the input reads as it did. -/
def fnOrPairsUptoRow : OpenClaim := { program := "ytljgipokaocgeaa", sum := "36f0feeda1a41e13bd783ef4907241f05f6188b1678eec18ad446fedc6becfed", func := "loop.example/lib-comparemaps/laws.FnOrPairs", spec := "fnOrPairs", apart := false, narrowed := true }
def FnOrPairsUptoSaid : Prop := fnOrPairsUptoRow.holds Try.pinned (OpenSpec.upto fnOrPairsSpec)

/-- 'laws.FnOrStays', WHERE WHAT IT READS IS OF BULK AT MOST 1048576: true; the input reads as it did. -/
def fnOrStaysUptoRow : OpenClaim := { program := "ytljgipokaocgeaa", sum := "36f0feeda1a41e13bd783ef4907241f05f6188b1678eec18ad446fedc6becfed", func := "loop.example/lib-comparemaps/laws.FnOrStays", spec := "fnOrStays", apart := false, narrowed := true }
def FnOrStaysUptoSaid : Prop := fnOrStaysUptoRow.holds Try.pinned (OpenSpec.upto fnOrStaysSpec)

end Rows
end Go.Proofs.Ytljgipokaocgeaa
