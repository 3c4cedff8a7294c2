/-
  Three drawn values: DrawFloats returns three values of its kind, and turns nothing that was there. Conditions: at most 1048576 bytes.
-/
import Derived.Test.YtfooobfffgmgaaaFloat
namespace Go.Proofs.Ytfooobfffgmgaaa.Dr
open Go.ChangeShapes Go.WideShapes Go.ChangeAt Go.RowKit

def Drawn3 (w : World) (e : Ending) (w' : World) : Prop :=
  ∃ x y z : Value, IsV x ∧ IsV y ∧ IsV z ∧ e = .returned (.tuple #[x, y, z]) ∧ Below w.heap.size w w'

set_option maxHeartbeats 1000000 in
theorem draw_any (w : World) (A : Option Addr) (len cap : Nat) (hb : Bytes w A len) (hl : len ≤ 1048576) :
    Calls Try.prog 11 #[.slice A len cap] w (Drawn3 w) := by
  go_enter Try.func11, Try.ntmps11
  go_wp2_with fail
  refine (one_any (St.mk0 w A len cap hb hl) (by omega)).mono ?_
  rintro e w1 ⟨x, q1, hx, rfl, hg1, S1, hq1⟩
  go_wp2_with fail
  refine (one_any S1 (by omega)).mono ?_
  rintro e w2 ⟨y, q2, hy, rfl, hg2, S2, hq2⟩
  go_wp2_with fail
  refine (one_any S2 (by omega)).mono ?_
  rintro e w3 ⟨z, q3, hz, rfl, hg3, S3, hq3⟩
  go_wp2_with fail
  refine (alike_any S3 (by omega)).mono ?_
  rintro e w4 ⟨b1, rfl, hg4, S4⟩
  cases b1
  all_goals
    go_wp2_with fail
    refine (alike_any S4 (by omega)).mono ?_
    rintro e w5 ⟨b2, rfl, hg5, S5⟩
    cases b2
    all_goals
      go_wp2
      go_ret3
      exact ⟨_, _, _, by assumption, by assumption, by assumption, rfl, S5.below⟩
end Go.Proofs.Ytfooobfffgmgaaa.Dr
