/-
  The drawn value of this seat is a whole number of 64 bits without a sign.
-/
import Derived.Test.YtnfelnlakfaaoaaInt
namespace Go.Proofs.Ytnfelnlakfaaoaa.Dr
open Go.ChangeShapes Go.WideShapes Go.ChangeAt Go.RowKit

/-- A value of the kind. -/
def IsV (v : Value) : Prop := ∃ x : Int, v = .int .u64 x ∧ (Lit.int .u64 x).wf = true
def One (w0 w : World) (g : Nat) (A : Option Addr) (len cap p : Nat) (e : Ending) (w' : World) : Prop :=
  ∃ (v : Value) (q : Nat), IsV v ∧ e = .returned v ∧ w.grownBy w' (some g) ∧ St w0 w' g A len cap q ∧ q ≤ p + 10
theorem one_any {w0 w : World} {g : Nat} {A : Option Addr} {len cap p : Nat} (S : St w0 w g A len cap p) (hp : p ≤ 1048000) :
    Calls Try.prog 15 #[.pointer (some ⟨g, 0, none⟩)] w (One w0 w g A len cap p) := by
  go_enter Try.func15, Try.ntmps15
  go_wp2_with fail
  refine (anInt_any S hp).mono ?_
  rintro e w1 ⟨x, q, hx, rfl, hg, hS, hq⟩
  go_wp2
  go_ret
  exact ⟨_, q, ⟨_, rfl, wf_wrap _ _⟩, rfl, hg, hS, hq⟩
end Go.Proofs.Ytnfelnlakfaaoaa.Dr
