/-
  Floating-point numbers of 32 bits are compared as those of 64 bits with their values; the comparison is that of the reference for all of them. No conditions.
-/
import Derived.Test.YtlgobccbhiinlaaLaws2
namespace Go.Proofs.Ytlgobccbhiinlaa.Dr
open Go.ChangeShapes Go.WideShapes Go.ChangeAt Go.RowKit

set_option maxHeartbeats 1000000 in
theorem fcmp_any (x y : Nat) (w : World) : Calls Try.prog 17 #[.float .f64 x, .float .f64 y] w (Cmp (Fl.cmp FloatKind.f64.format x y) w) := by
  rcases Fl.stand FloatKind.f64.format x y with ⟨⟨a1, a2, b1, b2, l, e1, e2, g, c⟩, _, _⟩ | ⟨⟨a1, a2, b1, b2, l, e1, e2, g, c⟩, _, _⟩ | ⟨⟨a1, a2, b1, b2, l, e1, e2, g, c⟩, _, _⟩ | ⟨⟨a1, a2, b1, b2, l, e1, e2, g, c⟩, _, _⟩ | ⟨⟨a1, a2, b1, b2, l, e1, e2, g, c⟩, _, _⟩ | ⟨⟨a1, a2, b1, b2, l, e1, e2, g, c⟩, _, _⟩
  all_goals
    rw [c]
    clear c e1 e2 a2 b2
    go_enter Try.func17, Try.ntmps17
    go_wp2
    go_ret
    exact ⟨rfl, rfl⟩

/-- What a number of 32 bits becomes: its value, or some NaN. -/
def Wide (x r : Nat) : Prop := (Fl.nan Ieee.single x = true ∧ Fl.nan Ieee.double r = true) ∨ (Fl.nan Ieee.single x = false ∧ r = Fl.wide x)
theorem cmp_wide {x y r t : Nat} (hx : Wide x r) (hy : Wide y t) : Fl.cmp FloatKind.f64.format r t = cmpV (.float .f32 x) (.float .f32 y) := by
  show Fl.cmp Ieee.double r t = Fl.cmp Ieee.single x y
  rcases hx with ⟨a, b⟩ | ⟨a, rfl⟩ <;> rcases hy with ⟨c, d⟩ | ⟨c, rfl⟩
  · simp [Fl.cmp, a, b, c, d]
  · simp [Fl.cmp, a, b, c, Fl.wide_nan y c]
  · simp [Fl.cmp, a, c, d, Fl.wide_nan x a]
  · simp [Fl.cmp, a, c, Fl.wide_nan x a, Fl.wide_nan y c, Fl.wide_order x y a c]

set_option maxHeartbeats 2000000 in
theorem law_floats (w : World) (A : Option Addr) (len cap : Nat) (hb : Bytes w A len) : Calls Try.prog 11 #[.slice A len cap] w (Held w) := by
  obtain ⟨i1, i2, h12⟩ := one_two
  by_cases hl : 1048576 < len
  · go_enter Try.func11, Try.ntmps11
    go_wp2
    go_ret
    exact ⟨rfl, Below.refl _ _⟩
  · go_enter Try.func11, Try.ntmps11
    go_wp2_with fail
    refine (cmp_any i1 i2 _).mono ?_
    rintro e w' ⟨rfl, rfl⟩
    go_wp2_with fail
    refine (draw_any w A len cap hb (by omega)).mono ?_
    rintro e w1 ⟨_, _, z, ⟨x, rfl, hx⟩, ⟨y, rfl, hy⟩, hz, rfl, hbel⟩
    have ix : IsV (.float .f32 x) := ⟨x, rfl, hx⟩
    have iy : IsV (.float .f32 y) := ⟨y, rfl, hy⟩
    clear hx hy
    cases hx : Fl.nan Ieee.single x <;> cases hy : Fl.nan Ieee.single y
    all_goals
      first | (obtain ⟨cx1, _⟩ := conv_no hx) | (obtain ⟨cx1, _⟩ := conv_nan hx)
      first | (obtain ⟨cy1, _⟩ := conv_no hy) | (obtain ⟨cy1, _⟩ := conv_nan hy)
      have HX := Lib.hid hx
      have HY := Lib.hid hy
      clear hx hy
      go_wp2_with fail
      refine (cmp_any ix iy _).mono ?_
      rintro e w' ⟨rfl, rfl⟩
      go_wp2_with fail
      refine (fcmp_any _ _ _).mono ?_
      rintro e w' ⟨rfl, rfl⟩
      rw [cmp_wide (x := x) (y := y) (by first | exact .inr ⟨HX.out, rfl⟩ | exact .inl ⟨HX.out, Fl.nanC_nan _ _⟩) (by first | exact .inr ⟨HY.out, rfl⟩ | exact .inl ⟨HY.out, Fl.nanC_nan _ _⟩)]
      go_wp2
      go_ret
      first | exact ⟨rfl, hbel⟩ | exact ⟨rfl, hbel.drew⟩ | exact ⟨rfl, hbel.drew.drew⟩ | exact ⟨rfl, below_drewN hbel _⟩

theorem law_exact_compare {x y : Value} (hx : IsV x) (hy : IsV y) (w : World) : Calls Try.prog 7 #[x, y] w fun e w' => e = .returned (.bool true) ∧ Grown w w' := by
  go_enter Try.func7, Try.ntmps7
  go_wp2_with (first | (go_at_call 12; refine (cmp_any (by assumption) (by assumption) _).mono ?_; rintro e w' ⟨rfl, rfl⟩) | (go_at_call 16; refine (scmp_any (by assumption) (by assumption) _).mono ?_; rintro e w' ⟨rfl, nq, rfl⟩))
  go_ret
  exact ⟨rfl, ⟨(Grown.refl w).1, (Grown.refl w).2.1, (Grown.refl w).2.2⟩⟩
end Go.Proofs.Ytlgobccbhiinlaa.Dr
