/-
  The drawn value of this seat is a whole number of 64 bits with a sign.
-/
import Derived.Test.YtodioogiinghcaaInt
namespace Go.Proofs.Ytodioogiinghcaa.Dr
open Go.ChangeShapes Go.WideShapes Go.ChangeAt Go.RowKit

/-- A value of the kind. -/
def IsV (v : Value) : Prop := ∃ x : Int, v = .int .i64 x ∧ (Lit.int .i64 x).wf = true
def One (w0 w : World) (g : Nat) (A : Option Addr) (len cap p : Nat) (e : Ending) (w' : World) : Prop :=
  ∃ (v : Value) (q : Nat), IsV v ∧ e = .returned v ∧ w.grownBy w' (some g) ∧ St w0 w' g A len cap q ∧ q ≤ p + 10
theorem one_any {w0 w : World} {g : Nat} {A : Option Addr} {len cap p : Nat} (S : St w0 w g A len cap p) (hp : p ≤ 1048000) :
    Calls Try.prog 18 #[.pointer (some ⟨g, 0, none⟩)] w (One w0 w g A len cap p) :=
  (anInt_any S hp).mono fun _ _ ⟨x, q, hx, he, hg, hS, hq⟩ => ⟨_, q, ⟨x, rfl, hx⟩, he, hg, hS, hq⟩
end Go.Proofs.Ytodioogiinghcaa.Dr
