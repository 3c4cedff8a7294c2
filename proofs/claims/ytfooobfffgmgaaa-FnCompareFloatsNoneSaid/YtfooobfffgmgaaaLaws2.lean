/-
  The laws on drawn values of one kind: each returns true, and turns nothing that was there. No conditions: whatever the bytes are.
-/
import Derived.Test.YtfooobfffgmgaaaDraw3
namespace Go.Proofs.Ytfooobfffgmgaaa.Dr
open Go.ChangeShapes Go.WideShapes Go.ChangeAt Go.RowKit

/-- The law holds: true is returned, and nothing that was there has turned. -/
def Held (w : World) (e : Ending) (w' : World) : Prop := e = .returned (.bool true) ∧ Below w.heap.size w w'

theorem below_drewN {B : Nat} {a w : World} (h : Below B a w) (n : Nat) : Below B a (w.drewN n) := ⟨h.os, h.tape, h.output, h.size, h.block⟩
theorem less_true {v u : Value} (h : cmpV v u = -1) : lessV v u = true := by unfold lessV; rw [h]; rfl
theorem less_false {v u : Value} (h : cmpV v u ≠ -1) : lessV v u = false := by unfold lessV; simp [h]

set_option maxHeartbeats 1000000 in
theorem law_less (w : World) (A : Option Addr) (len cap : Nat) (hb : Bytes w A len) : Calls Try.prog 3 #[.slice A len cap] w (Held w) := by
  by_cases hl : 1048576 < len
  · go_enter Try.func3, Try.ntmps3
    go_wp2
    go_ret
    exact ⟨rfl, Below.refl _ _⟩
  · go_enter Try.func3, Try.ntmps3
    go_wp2_with fail
    refine (draw_any w A len cap hb (by omega)).mono ?_
    rintro e w1 ⟨x, y, z, hx, hy, hz, rfl, hbel⟩
    go_wp2_with (first | (go_at_call 12; refine (less_any (by assumption) (by assumption) _).mono ?_; rintro e w' ⟨rfl, rfl⟩) | (go_at_call 13; refine (sless_any (by assumption) (by assumption) _).mono ?_; rintro e w' ⟨rfl, nq, rfl⟩))
    go_ret
    exact ⟨rfl, below_drewN hbel _⟩

set_option maxHeartbeats 1000000 in
theorem law_compare (w : World) (A : Option Addr) (len cap : Nat) (hb : Bytes w A len) : Calls Try.prog 5 #[.slice A len cap] w (Held w) := by
  by_cases hl : 1048576 < len
  · go_enter Try.func5, Try.ntmps5
    go_wp2
    go_ret
    exact ⟨rfl, Below.refl _ _⟩
  · go_enter Try.func5, Try.ntmps5
    go_wp2_with fail
    refine (draw_any w A len cap hb (by omega)).mono ?_
    rintro e w1 ⟨x, y, z, hx, hy, hz, rfl, hbel⟩
    go_wp2_with (first | (go_at_call 14; refine (cmp_any (by assumption) (by assumption) _).mono ?_; rintro e w' ⟨rfl, rfl⟩) | (go_at_call 15; refine (scmp_any (by assumption) (by assumption) _).mono ?_; rintro e w' ⟨rfl, nq, rfl⟩))
    go_ret
    exact ⟨rfl, below_drewN hbel _⟩

set_option maxHeartbeats 1000000 in
theorem law_self (w : World) (A : Option Addr) (len cap : Nat) (hb : Bytes w A len) : Calls Try.prog 10 #[.slice A len cap] w (Held w) := by
  obtain ⟨i1, i2, h12⟩ := one_two
  by_cases hl : 1048576 < len
  · go_enter Try.func10, Try.ntmps10
    go_wp2
    go_ret
    exact ⟨rfl, Below.refl _ _⟩
  · go_enter Try.func10, Try.ntmps10
    go_wp2_with fail
    refine (cmp_any i1 i2 _).mono ?_
    rintro e w' ⟨rfl, rfl⟩
    go_wp2_with fail
    refine (draw_any w A len cap hb (by omega)).mono ?_
    rintro e w1 ⟨x, y, z, hx, hy, hz, rfl, hbel⟩
    have hxx := cmp_self hx
    have hlx : lessV x x = false := less_false (by rw [hxx]; omega)
    go_wp2_with (first | (go_at_call 14; refine (cmp_any (by assumption) (by assumption) _).mono ?_; rintro e w' ⟨rfl, rfl⟩) | (go_at_call 12; refine (less_any (by assumption) (by assumption) _).mono ?_; rintro e w' ⟨rfl, rfl⟩))
    go_ret
    exact ⟨rfl, hbel⟩

set_option maxHeartbeats 1000000 in
theorem law_turned (w : World) (A : Option Addr) (len cap : Nat) (hb : Bytes w A len) : Calls Try.prog 7 #[.slice A len cap] w (Held w) := by
  obtain ⟨i1, i2, h12⟩ := one_two
  by_cases hl : 1048576 < len
  · go_enter Try.func7, Try.ntmps7
    go_wp2
    go_ret
    exact ⟨rfl, Below.refl _ _⟩
  · go_enter Try.func7, Try.ntmps7
    go_wp2_with fail
    refine (cmp_any i1 i2 _).mono ?_
    rintro e w' ⟨rfl, rfl⟩
    go_wp2_with fail
    refine (draw_any w A len cap hb (by omega)).mono ?_
    rintro e w1 ⟨x, y, z, hx, hy, hz, rfl, hbel⟩
    have hyx := cmp_turn hx hy
    rcases cmp_vals x y with hxy | hxy | hxy
    all_goals
      rw [hxy] at hyx
      try simp at hyx
      go_wp2_with (go_at_call 14; refine (cmp_any (by assumption) (by assumption) _).mono ?_; rintro e w' ⟨rfl, rfl⟩)
      go_ret
      exact ⟨rfl, hbel⟩

set_option maxHeartbeats 2000000 in
theorem law_chain (w : World) (A : Option Addr) (len cap : Nat) (hb : Bytes w A len) : Calls Try.prog 6 #[.slice A len cap] w (Held w) := by
  obtain ⟨i1, i2, h12⟩ := one_two
  by_cases hl : 1048576 < len
  · go_enter Try.func6, Try.ntmps6
    go_wp2
    go_ret
    exact ⟨rfl, Below.refl _ _⟩
  · go_enter Try.func6, Try.ntmps6
    go_wp2_with fail
    refine (cmp_any i1 i2 _).mono ?_
    rintro e w' ⟨rfl, rfl⟩
    go_wp2_with fail
    refine (draw_any w A len cap hb (by omega)).mono ?_
    rintro e w1 ⟨x, y, z, hx, hy, hz, rfl, hbel⟩
    have hc := cmp_chain hx hy hz
    rcases cmp_vals x y with hxy | hxy | hxy <;> rcases cmp_vals y z with hyz | hyz | hyz
    all_goals
      rw [hxy, hyz] at hc
      try simp at hc
      go_wp2_with (go_at_call 14; refine (cmp_any (by assumption) (by assumption) _).mono ?_; rintro e w' ⟨rfl, rfl⟩)
      go_ret
      exact ⟨rfl, hbel⟩

set_option maxHeartbeats 2000000 in
theorem law_cmpless (w : World) (A : Option Addr) (len cap : Nat) (hb : Bytes w A len) : Calls Try.prog 8 #[.slice A len cap] w (Held w) := by
  obtain ⟨i1, i2, h12⟩ := one_two
  by_cases hl : 1048576 < len
  · go_enter Try.func8, Try.ntmps8
    go_wp2
    go_ret
    exact ⟨rfl, Below.refl _ _⟩
  · go_enter Try.func8, Try.ntmps8
    go_wp2_with fail
    refine (cmp_any i1 i2 _).mono ?_
    rintro e w' ⟨rfl, rfl⟩
    go_wp2_with fail
    refine (draw_any w A len cap hb (by omega)).mono ?_
    rintro e w1 ⟨x, y, z, hx, hy, hz, rfl, hbel⟩
    have hyx := cmp_turn hx hy
    have l1 : lessV x y = (cmpV x y == -1) := rfl
    have l2 : lessV y x = (cmpV y x == -1) := rfl
    rcases cmp_vals x y with hxy | hxy | hxy
    all_goals
      rw [hxy] at hyx
      rw [hxy] at l1
      rw [hyx] at l2
      simp at l1 l2
      clear hyx
      go_wp2_with (first | (go_at_call 14; refine (cmp_any (by assumption) (by assumption) _).mono ?_; rintro e w' ⟨rfl, rfl⟩) | (go_at_call 12; refine (less_any (by assumption) (by assumption) _).mono ?_; rintro e w' ⟨rfl, rfl⟩))
      go_ret
      exact ⟨rfl, hbel⟩
end Go.Proofs.Ytfooobfffgmgaaa.Dr
