/-
  cmp.Less is as the reference says, of any two values of each kind. No conditions.
-/
import Derived.Test.YtpfobfmmebhkfaaRows
import Derived.WalkKit
import Derived.ProofKit
import Derived.OpenShut
import Derived.WalkLawsBesides
namespace Go.Proofs.Ytpfobfmmebhkfaa.Dr
open Go.ChangeShapes Go.WideShapes Go.ChangeAt Go.RowKit

theorem less_ints (a0 a1 : Int) (w : World) : Calls Try.prog 4 #[.int .i64 a0, .int .i64 a1] w fun e w' => e = .returned (.bool true) ∧ Grown w w' := by
  by_cases h : a0 < a1
  all_goals
    go_enter Try.func4, Try.ntmps4
    go_wp2
    go_ret
    exact ⟨rfl, Grown.refl _⟩

theorem less_uints (a0 a1 : Int) (w : World) : Calls Try.prog 7 #[.int .u64 a0, .int .u64 a1] w fun e w' => e = .returned (.bool true) ∧ Grown w w' := by
  by_cases h : a0 < a1
  all_goals
    go_enter Try.func7, Try.ntmps7
    go_wp2
    go_ret
    exact ⟨rfl, Grown.refl _⟩

theorem ne_of {k : FloatKind} {a b : Nat} {c : Bool} (h : (k.format.order a b == some .eq) = c) : (k.format.order a b != some .eq) = !c := by
  rw [← h]; rfl

set_option maxHeartbeats 1000000 in
theorem less_floats (a0 a1 : Nat) (w : World) : Calls Try.prog 3 #[.float .f64 a0, .float .f64 a1] w fun e w' => e = .returned (.bool true) ∧ Grown w w' := by
  cases hx : (FloatKind.f64.format.order a0 a0 == some .eq) <;> cases hy : (FloatKind.f64.format.order a1 a1 == some .eq) <;> cases hl : (FloatKind.f64.format.order a0 a1 == some .lt)
  all_goals
    have hx' := ne_of hx
    have hy' := ne_of hy
    simp only [Bool.not_true, Bool.not_false] at hx' hy'
    go_enter Try.func3, Try.ntmps3
    go_wp2
    go_ret
    exact ⟨rfl, Grown.refl _⟩
end Go.Proofs.Ytpfobfmmebhkfaa.Dr
