/-
  The reference's Same, of a number and itself, is true. No conditions.
-/
import Derived.Test.YtkakdhfiakmbiaaOr
import Derived.Test.YtkakdhfiakmbiaaFloatPlain
import Derived.Laws.Externs
namespace Go.Proofs.Ytkakdhfiakmbiaa.Dr
open Go.ChangeShapes Go.WideShapes Go.ChangeAt Go.RowKit

theorem run_bits64 (b : Nat) (w : World) : (callFunc 20 #[.float .f64 b]).run Try.prog w = .ok (.value (.int .u64 (b : Int))) w := by
  rw [run_callFunc_extern (e := Extern.MathFloatBits.float64bits) Try.func20 (by kernel_rfl) (by kernel_rfl) (by kernel_rfl) (by kernel_rfl)]
  rfl

/-- A cell that reads as a floating-point number of 64 bits. -/
theorem trod_flt {H : Type} {enc : TypeId × Value → H} {P : Program} {w : World} {base : Nat} {spare : Nat → Bool} {held : Bool} {fuel : Nat} {t : TypeId} {v : Value} {x : DataW H × List MemPlace} (ht : P.underlying t = some (.float .f64))
    (h : DataW.trod enc P w base spare held fuel t [v] = some x) : ∃ y : Nat, v = Value.float .f64 y ∧ (fun x : Nat => ((Lit.float .f64 x).wf = true)) y := by
  cases fuel with
  | zero => simp [DataW.trod] at h
  | succ n =>
    unfold DataW.trod at h
    rw [ht] at h
    split at h <;> simp_all

def sgnB (x : Nat) : Bool := decide (wrap64 (x : Int) < 0)
theorem signbit_any (x : Nat) (w : World) : Calls Try.prog 15 #[.float .f64 x] w (Gives (.bool (sgnB x)) w) := by
  have h2 := run_bits64
  go_enter Try.func15, Try.ntmps15
  go_wp2
  go_ret
  exact ⟨rfl, rfl⟩

theorem nan_facts (x : Nat) : ((FloatKind.f64.format.order x x != some .eq) = true ∧ Fl.nan Ieee.double x = true) ∨ ((FloatKind.f64.format.order x x != some .eq) = false ∧ (FloatKind.f64.format.order x x == some .eq) = true ∧ Fl.nan Ieee.double x = false) := by
  cases h : Fl.nan Ieee.double x
  · have e : FloatKind.f64.format.order x x = some .eq := Fl.order_self h
    rw [e]
    exact .inr ⟨rfl, rfl, rfl⟩
  · have e : FloatKind.f64.format.order x x = none := Fl.order_nan1 x h
    rw [e]
    exact .inl ⟨rfl, rfl⟩

set_option maxHeartbeats 1000000 in
theorem same_self (x : Nat) (w : World) : Calls Try.prog 8 #[.float .f64 x, .float .f64 x] w (Gives (.bool true) w) := by
  rcases nan_facts x with ⟨h, _⟩ | ⟨h, h', _⟩
  all_goals
    go_enter Try.func8, Try.ntmps8
    go_wp2_with (first | (go_at_call 15; refine (signbit_any _ _).mono ?_; rintro e w' ⟨rfl, rfl⟩) | go_in)
    go_ret
    exact ⟨rfl, rfl⟩
end Go.Proofs.Ytkakdhfiakmbiaa.Dr
