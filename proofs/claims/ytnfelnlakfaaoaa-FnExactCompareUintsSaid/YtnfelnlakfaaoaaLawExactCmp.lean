/-
  The comparison of any two values of the kind is that of the reference. No conditions.
-/
import Derived.Test.YtnfelnlakfaaoaaCmpInt
namespace Go.Proofs.Ytnfelnlakfaaoaa.Dr
open Go.ChangeShapes Go.WideShapes Go.ChangeAt Go.RowKit

theorem law_exact_compare {x y : Value} (hx : IsV x) (hy : IsV y) (w : World) : Calls Try.prog 7 #[x, y] w fun e w' => e = .returned (.bool true) ∧ Grown w w' := by
  go_enter Try.func7, Try.ntmps7
  go_wp2_with (first | (go_at_call 13; refine (cmp_any (by assumption) (by assumption) _).mono ?_; rintro e w' ⟨rfl, rfl⟩) | (go_at_call 14; refine (scmp_any (by assumption) (by assumption) _).mono ?_; rintro e w' ⟨rfl, rfl⟩))
  go_ret
  exact ⟨rfl, Grown.refl _⟩
end Go.Proofs.Ytnfelnlakfaaoaa.Dr
