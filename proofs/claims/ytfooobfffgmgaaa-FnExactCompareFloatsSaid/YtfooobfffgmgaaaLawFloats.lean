/-
  The comparison is that of the reference for all floating-point numbers of 64 bits. No conditions.
-/
import Derived.Test.YtfooobfffgmgaaaCmpFloat
namespace Go.Proofs.Ytfooobfffgmgaaa.Dr
open Go.ChangeShapes Go.WideShapes Go.ChangeAt Go.RowKit
theorem law_exact_compare {x y : Value} (hx : IsV x) (hy : IsV y) (w : World) : Calls Try.prog 4 #[x, y] w fun e w' => e = .returned (.bool true) ∧ Grown w w' := by
  go_enter Try.func4, Try.ntmps4
  go_wp2_with (first | (go_at_call 14; refine (cmp_any (by assumption) (by assumption) _).mono ?_; rintro e w' ⟨rfl, rfl⟩) | (go_at_call 15; refine (scmp_any (by assumption) (by assumption) _).mono ?_; rintro e w' ⟨rfl, nq, rfl⟩))
  go_ret
  exact ⟨rfl, ⟨(Grown.refl w).1, (Grown.refl w).2.1, (Grown.refl w).2.2⟩⟩
end Go.Proofs.Ytfooobfffgmgaaa.Dr
