/-
  Two laws on whole numbers: -1 minus a number turns the comparison round; whole numbers of at least 0 are compared as those without a sign. No conditions.
-/
import Derived.Test.YtodioogiinghcaaLaws
namespace Go.Proofs.Ytodioogiinghcaa.Dr
open Go.ChangeShapes Go.WideShapes Go.ChangeAt Go.RowKit

set_option maxHeartbeats 1000000 in
theorem law_below (w : World) (A : Option Addr) (len cap : Nat) (hb : Bytes w A len) : Calls Try.prog 5 #[.slice A len cap] w (Held w) := by
  obtain ⟨i1, i2, h12⟩ := one_two
  by_cases hl : 1048576 < len
  · go_enter Try.func5, Try.ntmps5
    go_wp2
    go_ret
    exact ⟨rfl, Below.refl _ _⟩
  · go_enter Try.func5, Try.ntmps5
    go_wp2_with fail
    refine (cmp_any i1 i2 _).mono ?_
    rintro e w' ⟨rfl, rfl⟩
    go_wp2_with fail
    refine (draw_any w A len cap hb (by omega)).mono ?_
    rintro e w1 ⟨_, _, z, ⟨x, rfl, hx⟩, ⟨y, rfl, hy⟩, hz, rfl, hbel⟩
    have bx := bounds_i64 hx
    have b_y := bounds_i64 hy
    obtain ⟨bx1, bx2⟩ := bx
    obtain ⟨by1, by2⟩ := b_y
    have e12 : cmpV (.int .i64 (-1 - x)) (.int .i64 (-1 - y)) = cmpV (.int .i64 y) (.int .i64 x) := by
      rcases Int.lt_trichotomy x y with h | h | h
      · rw [cmp_gt h, cmp_gt (by omega)]
      · subst h; rw [cmp_eq, cmp_eq]
      · rw [cmp_lt h, cmp_lt (by omega)]
    go_wp2_with fail
    refine (cmp_any ⟨_, rfl, WalkArith.wf_i64 (by omega)⟩ ⟨_, rfl, WalkArith.wf_i64 (by omega)⟩ _).mono ?_
    rintro e w' ⟨rfl, rfl⟩
    go_wp2_with fail
    refine (cmp_any ⟨_, rfl, hy⟩ ⟨_, rfl, hx⟩ _).mono ?_
    rintro e w' ⟨rfl, rfl⟩
    go_wp2
    go_ret
    exact ⟨rfl, hbel⟩

set_option maxHeartbeats 1000000 in
theorem ucmp_any (x y : Int) (w : World) : Calls Try.prog 17 #[.int .u64 x, .int .u64 y] w (Cmp (cmpV (.int .u64 x) (.int .u64 y)) w) := by
  rcases Int.lt_trichotomy x y with h | h | h
  · rw [cmp_lt h]
    go_enter Try.func17, Try.ntmps17
    go_wp2
    go_ret
    exact ⟨rfl, rfl⟩
  · subst h
    rw [cmp_eq]
    go_enter Try.func17, Try.ntmps17
    go_wp2
    go_ret
    exact ⟨rfl, rfl⟩
  · rw [cmp_gt h]
    have h' : ¬ x < y := by omega
    go_enter Try.func17, Try.ntmps17
    go_wp2
    go_ret
    exact ⟨rfl, rfl⟩

set_option maxHeartbeats 1000000 in
theorem law_uints (w : World) (A : Option Addr) (len cap : Nat) (hb : Bytes w A len) : Calls Try.prog 9 #[.slice A len cap] w (Held w) := by
  obtain ⟨i1, i2, h12⟩ := one_two
  by_cases hl : 1048576 < len
  · go_enter Try.func9, Try.ntmps9
    go_wp2
    go_ret
    exact ⟨rfl, Below.refl _ _⟩
  · go_enter Try.func9, Try.ntmps9
    go_wp2_with fail
    refine (cmp_any i1 i2 _).mono ?_
    rintro e w' ⟨rfl, rfl⟩
    go_wp2_with fail
    refine (draw_any w A len cap hb (by omega)).mono ?_
    rintro e w1 ⟨_, _, z, ⟨x, rfl, hx⟩, ⟨y, rfl, hy⟩, hz, rfl, hbel⟩
    have bx := bounds_i64 hx
    have b_y := bounds_i64 hy
    obtain ⟨bx1, bx2⟩ := bx
    obtain ⟨by1, by2⟩ := b_y
    by_cases hx0 : x < 0
    · go_wp2_with fail
      go_ret
      exact ⟨rfl, hbel⟩
    · by_cases hy0 : y < 0
      · go_wp2_with fail
        go_ret
        exact ⟨rfl, hbel⟩
      · have e12 : cmpV (.int .u64 x) (.int .u64 y) = cmpV (.int .i64 x) (.int .i64 y) := by
          rcases Int.lt_trichotomy x y with h | h | h
          · rw [cmp_lt h, cmp_lt h]
          · subst h; rw [cmp_eq, cmp_eq]
          · rw [cmp_gt h, cmp_gt h]
        go_wp2_with fail
        refine (cmp_any ⟨_, rfl, hx⟩ ⟨_, rfl, hy⟩ _).mono ?_
        rintro e w' ⟨rfl, rfl⟩
        go_wp2_with fail
        refine (ucmp_any _ _ _).mono ?_
        rintro e w' ⟨rfl, rfl⟩
        go_wp2
        go_ret
        exact ⟨rfl, hbel⟩
end Go.Proofs.Ytodioogiinghcaa.Dr
