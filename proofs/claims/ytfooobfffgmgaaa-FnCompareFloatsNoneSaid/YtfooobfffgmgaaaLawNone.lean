/-
  A NaN is less than each of the floating-point numbers that is none, and for the others the comparison is that of the language. No conditions.
-/
import Derived.Test.YtfooobfffgmgaaaLaws2
namespace Go.Proofs.Ytfooobfffgmgaaa.Dr
open Go.ChangeShapes Go.WideShapes Go.ChangeAt Go.RowKit

set_option maxHeartbeats 2000000 in
theorem law_none (w : World) (A : Option Addr) (len cap : Nat) (hb : Bytes w A len) : Calls Try.prog 9 #[.slice A len cap] w (Held w) := by
  by_cases hl : 1048576 < len
  · go_enter Try.func9, Try.ntmps9
    go_wp2
    go_ret
    exact ⟨rfl, Below.refl _ _⟩
  · go_enter Try.func9, Try.ntmps9
    go_wp2_with fail
    refine (draw_any w A len cap hb (by omega)).mono ?_
    rintro e w1 ⟨_, _, z, ⟨x, rfl, hx⟩, ⟨y, rfl, hy⟩, hz, rfl, hbel⟩
    have ix : IsV (.float .f64 x) := ⟨x, rfl, hx⟩
    have iy : IsV (.float .f64 y) := ⟨y, rfl, hy⟩
    clear hx hy
    rcases ways x y with ⟨⟨a1, a2, b1, b2, l, e1, e2, g, c, b⟩, _, _⟩ | ⟨⟨a1, a2, b1, b2, l, e1, e2, g, c, b⟩, _, _⟩ | ⟨⟨a1, a2, b1, b2, l, e1, e2, g, c, b⟩, _, _⟩ | ⟨⟨a1, a2, b1, b2, l, e1, e2, g, c, b⟩, _, _⟩ | ⟨⟨a1, a2, b1, b2, l, e1, e2, g, c, b⟩, _, _⟩ | ⟨⟨a1, a2, b1, b2, l, e1, e2, g, c, b⟩, _, _⟩
    all_goals
      simp only [Bool.not_true, Bool.not_false] at a2 b2 e2
      simp at b
      go_wp2_with (first | (go_at_call 14; refine (cmp_any (by assumption) (by assumption) _).mono ?_; rintro e w' ⟨rfl, rfl⟩) | (go_at_call 12; refine (less_any (by assumption) (by assumption) _).mono ?_; rintro e w' ⟨rfl, rfl⟩))
      go_ret
      exact ⟨rfl, hbel⟩
end Go.Proofs.Ytfooobfffgmgaaa.Dr
