/-
  No cell of these rows narrows 'for every input' (looked for: loops, veiled, ifaces, maps, wideKeys, modest, calm, conditions, laid).
  DERIVED. THE GIVEN ROWS OF THIS SEAT. 5 by the template 'for every input the law returns true; each argument reads behind the call as it read before'; 0 by the template 'total and deterministic' (their statements: YtkakdhfiakmbiaaTotals.lean).
  GIVEN WITH THE SEED: the statements are not yours to turn. If you find one false, say at which input.
  Laid BY PROGRAM, IN A SANDBOX (cutbox-rows.mjs): the forced cells as the released guide's own fill.sh prints them over the translation 194f1f32ec60e2f3… (all of the seat's roots in one cut). By AI agents, Wed Nov 11 2026. No macro, syntax, notation, axiom, sorry.
-/
import Derived.Test.YtkakdhfiakmbiaaChecked
import GoSem.Claim
import GoSem.ClaimJoined
import GoSem.ClaimMapViews
import Derived.JoinedTies
import Derived.KernelRfl
namespace Go.Proofs.Ytkakdhfiakmbiaa
/- THE CELL 'sum', in the pinned program and in every row, IS THE sha256 OF THE DUMP (.gsa) THAT YtkakdhfiakmbiaaProg.lean LOADS. Nothing in Lean hashes anything: it is a label: what it is worth is what the hold of that sum in a sandbox is worth. -/
noncomputable def Try.pinned : Pinned := { name := "ytkakdhfiakmbiaa", sum := "194f1f32ec60e2f34dbbeb7d336dbd32d201d09e50b36799890e7eb730f23e6c", checked := Try.checked }
namespace Rows
def none {H : Type} : Left H := { results := [], args := [] }

/-- 'laws.FnExactOrFloats': WHATEVER THE INPUT: true; the input reads as it did. -/
def fnExactOrFloatsSpec : ChangeSpec := { name := "fnExactOrFloats", fn := fun _ => fun
  | [d] => { results := [.lit (.bool true)], args := [d] }
  | _ => none }
def fnExactOrFloatsRow : OpenClaim := { program := "ytkakdhfiakmbiaa", sum := "194f1f32ec60e2f34dbbeb7d336dbd32d201d09e50b36799890e7eb730f23e6c", func := "loop.example/lib-comparemaps/laws.FnExactOrFloats", spec := "fnExactOrFloats", inPlace := ["math.Float64bits"], apart := false }
def FnExactOrFloatsSaid : Prop := fnExactOrFloatsRow.holds Try.pinned (OpenSpec.ofChange fnExactOrFloatsSpec)

/-- ITS FALSE NEIGHBOUR: 'it returns false'. Refute it at one input. -/
def fnExactOrFloatsWrong : ChangeSpec := { name := "fnExactOrFloats", fn := fun _ => fun
  | [d] => { results := [.lit (.bool false)], args := [d] }
  | _ => none }
def FnExactOrFloatsWrongFalsely : Prop := fnExactOrFloatsRow.holds Try.pinned (OpenSpec.ofChange fnExactOrFloatsWrong)

/-- 'laws.FnOrFloats': WHATEVER THE INPUT: true; the input reads as it did. -/
def fnOrFloatsSpec : ChangeSpec := { name := "fnOrFloats", fn := fun _ => fun
  | [d] => { results := [.lit (.bool true)], args := [d] }
  | _ => none }
def fnOrFloatsRow : OpenClaim := { program := "ytkakdhfiakmbiaa", sum := "194f1f32ec60e2f34dbbeb7d336dbd32d201d09e50b36799890e7eb730f23e6c", func := "loop.example/lib-comparemaps/laws.FnOrFloats", spec := "fnOrFloats", inPlace := ["math.Float64bits", "math.Float64frombits"], apart := false }
def FnOrFloatsSaid : Prop := fnOrFloatsRow.holds Try.pinned (OpenSpec.ofChange fnOrFloatsSpec)

/-- ITS FALSE NEIGHBOUR: 'it returns false'. Refute it at one input. -/
def fnOrFloatsWrong : ChangeSpec := { name := "fnOrFloats", fn := fun _ => fun
  | [d] => { results := [.lit (.bool false)], args := [d] }
  | _ => none }
def FnOrFloatsWrongFalsely : Prop := fnOrFloatsRow.holds Try.pinned (OpenSpec.ofChange fnOrFloatsWrong)

/-- 'laws.FnOrFloatsNone': WHATEVER THE INPUT: true; the input reads as it did. -/
def fnOrFloatsNoneSpec : ChangeSpec := { name := "fnOrFloatsNone", fn := fun _ => fun
  | [d] => { results := [.lit (.bool true)], args := [d] }
  | _ => none }
def fnOrFloatsNoneRow : OpenClaim := { program := "ytkakdhfiakmbiaa", sum := "194f1f32ec60e2f34dbbeb7d336dbd32d201d09e50b36799890e7eb730f23e6c", func := "loop.example/lib-comparemaps/laws.FnOrFloatsNone", spec := "fnOrFloatsNone", inPlace := ["math.Float64bits", "math.Float64frombits"], apart := false }
def FnOrFloatsNoneSaid : Prop := fnOrFloatsNoneRow.holds Try.pinned (OpenSpec.ofChange fnOrFloatsNoneSpec)

/-- ITS FALSE NEIGHBOUR: 'it returns false'. Refute it at one input. -/
def fnOrFloatsNoneWrong : ChangeSpec := { name := "fnOrFloatsNone", fn := fun _ => fun
  | [d] => { results := [.lit (.bool false)], args := [d] }
  | _ => none }
def FnOrFloatsNoneWrongFalsely : Prop := fnOrFloatsNoneRow.holds Try.pinned (OpenSpec.ofChange fnOrFloatsNoneWrong)

/-- 'laws.FnOrFloatsParts': WHATEVER THE INPUT: true; the input reads as it did. -/
def fnOrFloatsPartsSpec : ChangeSpec := { name := "fnOrFloatsParts", fn := fun _ => fun
  | [d] => { results := [.lit (.bool true)], args := [d] }
  | _ => none }
def fnOrFloatsPartsRow : OpenClaim := { program := "ytkakdhfiakmbiaa", sum := "194f1f32ec60e2f34dbbeb7d336dbd32d201d09e50b36799890e7eb730f23e6c", func := "loop.example/lib-comparemaps/laws.FnOrFloatsParts", spec := "fnOrFloatsParts", inPlace := ["math.Float64bits", "math.Float64frombits"], apart := false }
def FnOrFloatsPartsSaid : Prop := fnOrFloatsPartsRow.holds Try.pinned (OpenSpec.ofChange fnOrFloatsPartsSpec)

/-- ITS FALSE NEIGHBOUR: 'it returns false'. Refute it at one input. -/
def fnOrFloatsPartsWrong : ChangeSpec := { name := "fnOrFloatsParts", fn := fun _ => fun
  | [d] => { results := [.lit (.bool false)], args := [d] }
  | _ => none }
def FnOrFloatsPartsWrongFalsely : Prop := fnOrFloatsPartsRow.holds Try.pinned (OpenSpec.ofChange fnOrFloatsPartsWrong)

/-- 'laws.FnOrFloatsZero': WHATEVER THE INPUT: true; the input reads as it did. -/
def fnOrFloatsZeroSpec : ChangeSpec := { name := "fnOrFloatsZero", fn := fun _ => fun
  | [d] => { results := [.lit (.bool true)], args := [d] }
  | _ => none }
def fnOrFloatsZeroRow : OpenClaim := { program := "ytkakdhfiakmbiaa", sum := "194f1f32ec60e2f34dbbeb7d336dbd32d201d09e50b36799890e7eb730f23e6c", func := "loop.example/lib-comparemaps/laws.FnOrFloatsZero", spec := "fnOrFloatsZero", inPlace := ["math.Float64bits", "math.Float64frombits"], apart := false }
def FnOrFloatsZeroSaid : Prop := fnOrFloatsZeroRow.holds Try.pinned (OpenSpec.ofChange fnOrFloatsZeroSpec)

/-- ITS FALSE NEIGHBOUR: 'it returns false'. Refute it at one input. -/
def fnOrFloatsZeroWrong : ChangeSpec := { name := "fnOrFloatsZero", fn := fun _ => fun
  | [d] => { results := [.lit (.bool false)], args := [d] }
  | _ => none }
def FnOrFloatsZeroWrongFalsely : Prop := fnOrFloatsZeroRow.holds Try.pinned (OpenSpec.ofChange fnOrFloatsZeroWrong)

/- THE SECOND FORM. 'bulk': how many values and letters a reading holds, each counted each time it is reached (what is shared counts as often as it is met; a slice's spare places count too). A statement '..UptoSaid' is the law's where the arguments, and the package variables that the reading takes, are together of bulk at most 1048576: NARROWER than '..Said'. Prove '..Said' where nothing that the law and all that it calls make is longer than what came in: it says more and counts as full. Else prove '..UptoSaid'. A law counts once. -/
mutual
def uptoBulk {H : Type} : DataW H → Nat
  | .lit (.string bytes) => bytes.length + 1
  | .lit _ => 1
  | .nil => 1
  | .ptr d => uptoBulk d + 1
  | .slice elems spare => uptoBulkAll elems + uptoBulkAll spare + 1
  | .agg parts => uptoBulkAll parts + 1
  | .iface _ d => uptoBulk d + 1
  | .map entries => uptoBulkEntries entries + 1
  | .held _ => 1
def uptoBulkAll {H : Type} : List (DataW H) → Nat
  | [] => 0
  | d :: r => uptoBulk d + uptoBulkAll r
def uptoBulkEntries {H : Type} : List (Lit × DataW H) → Nat
  | [] => 0
  | x :: r => uptoBulkEntry x + uptoBulkEntries r
def uptoBulkEntry {H : Type} : Lit × DataW H → Nat
  | (.string bytes, d) => bytes.length + uptoBulk d + 1
  | (_, d) => uptoBulk d + 1
 end
def uptoSmall : (H : Type) → List (DataW H) → Bool := fun _ ds => decide (uptoBulkAll ds ≤ 1048576)
def OpenSpec.upto (s : _root_.Go.ChangeSpec) : _root_.Go.OpenSpec := { _root_.Go.OpenSpec.ofChange s with cond := some uptoSmall }

/-- 'laws.FnExactOrFloats', WHERE WHAT IT READS IS OF BULK AT MOST 1048576: true; the input reads as it did. -/
def fnExactOrFloatsUptoRow : OpenClaim := { program := "ytkakdhfiakmbiaa", sum := "194f1f32ec60e2f34dbbeb7d336dbd32d201d09e50b36799890e7eb730f23e6c", func := "loop.example/lib-comparemaps/laws.FnExactOrFloats", spec := "fnExactOrFloats", inPlace := ["math.Float64bits"], apart := false, narrowed := true }
def FnExactOrFloatsUptoSaid : Prop := fnExactOrFloatsUptoRow.holds Try.pinned (OpenSpec.upto fnExactOrFloatsSpec)

/-- 'laws.FnOrFloats', WHERE WHAT IT READS IS OF BULK AT MOST 1048576: true; the input reads as it did. -/
def fnOrFloatsUptoRow : OpenClaim := { program := "ytkakdhfiakmbiaa", sum := "194f1f32ec60e2f34dbbeb7d336dbd32d201d09e50b36799890e7eb730f23e6c", func := "loop.example/lib-comparemaps/laws.FnOrFloats", spec := "fnOrFloats", inPlace := ["math.Float64bits", "math.Float64frombits"], apart := false, narrowed := true }
def FnOrFloatsUptoSaid : Prop := fnOrFloatsUptoRow.holds Try.pinned (OpenSpec.upto fnOrFloatsSpec)

/-- 'laws.FnOrFloatsNone', WHERE WHAT IT READS IS OF BULK AT MOST 1048576: true; the input reads as it did. -/
def fnOrFloatsNoneUptoRow : OpenClaim := { program := "ytkakdhfiakmbiaa", sum := "194f1f32ec60e2f34dbbeb7d336dbd32d201d09e50b36799890e7eb730f23e6c", func := "loop.example/lib-comparemaps/laws.FnOrFloatsNone", spec := "fnOrFloatsNone", inPlace := ["math.Float64bits", "math.Float64frombits"], apart := false, narrowed := true }
def FnOrFloatsNoneUptoSaid : Prop := fnOrFloatsNoneUptoRow.holds Try.pinned (OpenSpec.upto fnOrFloatsNoneSpec)

/-- 'laws.FnOrFloatsParts', WHERE WHAT IT READS IS OF BULK AT MOST 1048576: true; the input reads as it did. -/
def fnOrFloatsPartsUptoRow : OpenClaim := { program := "ytkakdhfiakmbiaa", sum := "194f1f32ec60e2f34dbbeb7d336dbd32d201d09e50b36799890e7eb730f23e6c", func := "loop.example/lib-comparemaps/laws.FnOrFloatsParts", spec := "fnOrFloatsParts", inPlace := ["math.Float64bits", "math.Float64frombits"], apart := false, narrowed := true }
def FnOrFloatsPartsUptoSaid : Prop := fnOrFloatsPartsUptoRow.holds Try.pinned (OpenSpec.upto fnOrFloatsPartsSpec)

/-- 'laws.FnOrFloatsZero', WHERE WHAT IT READS IS OF BULK AT MOST 1048576: true; the input reads as it did. -/
def fnOrFloatsZeroUptoRow : OpenClaim := { program := "ytkakdhfiakmbiaa", sum := "194f1f32ec60e2f34dbbeb7d336dbd32d201d09e50b36799890e7eb730f23e6c", func := "loop.example/lib-comparemaps/laws.FnOrFloatsZero", spec := "fnOrFloatsZero", inPlace := ["math.Float64bits", "math.Float64frombits"], apart := false, narrowed := true }
def FnOrFloatsZeroUptoSaid : Prop := fnOrFloatsZeroUptoRow.holds Try.pinned (OpenSpec.upto fnOrFloatsZeroSpec)

end Rows
end Go.Proofs.Ytkakdhfiakmbiaa
