/-
  How two whole numbers are compared: cmp.Compare and cmp.Less through the thin package, and the reference's two functions, compute one plain function. No conditions.
-/
import Derived.Test.YtnfelnlakfaaoaaOneUint
namespace Go.Proofs.Ytnfelnlakfaaoaa.Dr
open Go.ChangeShapes Go.WideShapes Go.ChangeAt Go.RowKit

/-- -1, 0 or 1, as the numbers stand to each other. -/
def cmpV (v u : Value) : Int :=
  match v, u with
  | .int _ x, .int _ y => if x < y then -1 else if y < x then 1 else 0
  | _, _ => 0
def lessV (v u : Value) : Bool := cmpV v u == -1

theorem cmp_lt {k : IntKind} {x y : Int} (h : x < y) : cmpV (.int k x) (.int k y) = -1 := by simp [cmpV, h]
theorem cmp_gt {k : IntKind} {x y : Int} (h : y < x) : cmpV (.int k x) (.int k y) = 1 := by simp [cmpV, h]; omega
theorem cmp_eq {k : IntKind} {x : Int} : cmpV (.int k x) (.int k x) = 0 := by simp [cmpV]

theorem cmp_vals (v u : Value) : cmpV v u = -1 ∨ cmpV v u = 0 ∨ cmpV v u = 1 := by
  unfold cmpV
  split
  · split
    · exact .inl rfl
    · split
      · exact .inr (.inr rfl)
      · exact .inr (.inl rfl)
  · exact .inr (.inl rfl)
theorem cmp_self {v : Value} (hv : IsV v) : cmpV v v = 0 := by
  obtain ⟨x, rfl, _⟩ := hv
  exact cmp_eq
theorem cmp_turn {v u : Value} (hv : IsV v) (hu : IsV u) : cmpV u v = -cmpV v u := by
  obtain ⟨x, rfl, _⟩ := hv
  obtain ⟨y, rfl, _⟩ := hu
  rcases Int.lt_trichotomy x y with h | h | h
  · rw [cmp_lt h, cmp_gt h]; rfl
  · subst h; rw [cmp_eq]; rfl
  · rw [cmp_lt h, cmp_gt h]
theorem cmp_chain {v u t : Value} (hv : IsV v) (hu : IsV u) (ht : IsV t) (h1 : cmpV v u ≤ 0) (h2 : cmpV u t ≤ 0) : cmpV v t = min (cmpV v u) (cmpV u t) := by
  obtain ⟨x, rfl, _⟩ := hv
  obtain ⟨y, rfl, _⟩ := hu
  obtain ⟨z, rfl, _⟩ := ht
  rcases Int.lt_trichotomy x y with h | h | h
  · rcases Int.lt_trichotomy y z with k | k | k
    · rw [cmp_lt h, cmp_lt k, cmp_lt (show x < z by omega)]; rfl
    · subst k; rw [cmp_lt h, cmp_eq]; rfl
    · rw [cmp_gt k] at h2; omega
  · subst h
    rcases Int.lt_trichotomy x z with k | k | k
    · rw [cmp_lt k, cmp_eq]; rfl
    · subst k; rw [cmp_eq]; rfl
    · rw [cmp_gt k] at h2; omega
  · rw [cmp_gt h] at h1; omega

theorem one_two : IsV (.int .u64 1) ∧ IsV (.int .u64 2) ∧ cmpV (.int .u64 1) (.int .u64 2) = -1 := ⟨⟨1, rfl, by decide⟩, ⟨2, rfl, by decide⟩, by decide⟩

/-- The answer of a comparison: the value, and a world that is as it was. -/
def Cmp (c : Int) (w : World) (e : Ending) (w' : World) : Prop := e = .returned (.int .i64 c) ∧ w = w'
def Lss (b : Bool) (w : World) (e : Ending) (w' : World) : Prop := e = .returned (.bool b) ∧ w = w'

set_option maxHeartbeats 1000000 in
theorem cmp_any {v u : Value} (hv : IsV v) (hu : IsV u) (w : World) : Calls Try.prog 13 #[v, u] w (Cmp (cmpV v u) w) := by
  obtain ⟨x, rfl, _⟩ := hv
  obtain ⟨y, rfl, _⟩ := hu
  rcases Int.lt_trichotomy x y with h | h | h
  · rw [cmp_lt h]
    go_enter Try.func13, Try.ntmps13
    go_wp2
    go_ret
    exact ⟨rfl, rfl⟩
  · subst h
    rw [cmp_eq]
    go_enter Try.func13, Try.ntmps13
    go_wp2
    go_ret
    exact ⟨rfl, rfl⟩
  · rw [cmp_gt h]
    have h' : ¬ x < y := by omega
    go_enter Try.func13, Try.ntmps13
    go_wp2
    go_ret
    exact ⟨rfl, rfl⟩

theorem less_of {k : IntKind} (x y : Int) : lessV (.int k x) (.int k y) = decide (x < y) := by
  unfold lessV
  rcases Int.lt_trichotomy x y with h | h | h
  · rw [cmp_lt h, decide_eq_true h]; rfl
  · subst h; rw [cmp_eq]; simp
  · rw [cmp_gt h, decide_eq_false (by omega)]; rfl

set_option maxHeartbeats 1000000 in
theorem less_any {v u : Value} (hv : IsV v) (hu : IsV u) (w : World) : Calls Try.prog 11 #[v, u] w (Lss (lessV v u) w) := by
  obtain ⟨x, rfl, _⟩ := hv
  obtain ⟨y, rfl, _⟩ := hu
  rw [less_of]
  by_cases h : x < y
  · rw [decide_eq_true h]
    go_enter Try.func11, Try.ntmps11
    go_wp2
    go_ret
    exact ⟨rfl, rfl⟩
  · rw [decide_eq_false h]
    go_enter Try.func11, Try.ntmps11
    go_wp2
    go_ret
    exact ⟨rfl, rfl⟩

set_option maxHeartbeats 1000000 in
theorem sless_any {v u : Value} (hv : IsV v) (hu : IsV u) (w : World) : Calls Try.prog 12 #[v, u] w (Lss (lessV v u) w) := by
  obtain ⟨x, rfl, _⟩ := hv
  obtain ⟨y, rfl, _⟩ := hu
  rw [less_of]
  go_enter Try.func12, Try.ntmps12
  go_wp2
  go_ret
  exact ⟨rfl, rfl⟩

theorem less_facts {v u : Value} : lessV v u = (cmpV v u == -1) := rfl

set_option maxHeartbeats 1000000 in
theorem scmp_any {v u : Value} (hv : IsV v) (hu : IsV u) (w : World) : Calls Try.prog 14 #[v, u] w (Cmp (cmpV v u) w) := by
  have ht := cmp_turn hv hu
  rcases cmp_vals v u with h | h | h
  all_goals
    have h1 : lessV v u = (cmpV v u == -1) := rfl
    have h2 : lessV u v = (cmpV u v == -1) := rfl
    rw [ht, h] at h2
    rw [h] at h1
    simp at h1 h2
    rw [h]
    clear ht h
    go_enter Try.func14, Try.ntmps14
    go_wp2_with (go_at_call 12; refine (sless_any (by assumption) (by assumption) _).mono ?_; rintro e w' ⟨rfl, rfl⟩)
    go_ret
    exact ⟨rfl, rfl⟩
end Go.Proofs.Ytnfelnlakfaaoaa.Dr
