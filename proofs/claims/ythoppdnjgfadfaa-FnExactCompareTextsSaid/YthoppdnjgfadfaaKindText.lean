/-
  The drawn value of this seat is a text of at most 1048576 bytes; how two of them are compared, and the plain laws of that.
-/
import Derived.Test.YthoppdnjgfadfaaText
import Derived.Test.YthoppdnjgfadfaaCmpText
namespace Go.Proofs.Ythoppdnjgfadfaa.Dr
open Go.ChangeShapes Go.WideShapes Go.ChangeAt Go.RowKit

/-- A value of the kind. -/
def IsV (v : Value) : Prop := ∃ a : ByteArray, v = .string a ∧ a.size ≤ 1048576
def One (w0 w : World) (g : Nat) (A : Option Addr) (len cap p : Nat) (e : Ending) (w' : World) : Prop :=
  ∃ (v : Value) (q : Nat), IsV v ∧ e = .returned v ∧ w.grownBy w' (some g) ∧ St w0 w' g A len cap q ∧ q ≤ p + 10
theorem one_any {w0 w : World} {g : Nat} {A : Option Addr} {len cap p : Nat} (S : St w0 w g A len cap p) (hp : p ≤ 1048000) :
    Calls Try.prog 16 #[.pointer (some ⟨g, 0, none⟩)] w (One w0 w g A len cap p) :=
  (aText_any S hp).mono fun _ _ ⟨x, q, hx, he, hg, hS, hq⟩ => ⟨_, q, ⟨x, rfl, hx⟩, he, hg, hS, hq⟩

def cmpV (v u : Value) : Int :=
  match v, u with
  | .string a, .string b => Tx.cmp a.toList b.toList
  | _, _ => 0
def lessV (v u : Value) : Bool := cmpV v u == -1

theorem cmp_vals (v u : Value) : cmpV v u = -1 ∨ cmpV v u = 0 ∨ cmpV v u = 1 := by
  unfold cmpV
  split
  · exact Tx.cmp_vals _ _
  · exact .inr (.inl rfl)
theorem cmp_self {v : Value} (hv : IsV v) : cmpV v v = 0 := by
  obtain ⟨a, rfl, _⟩ := hv
  exact Tx.cmp_eq _
theorem cmp_turn {v u : Value} (hv : IsV v) (hu : IsV u) : cmpV u v = -cmpV v u := by
  obtain ⟨a, rfl, _⟩ := hv
  obtain ⟨b, rfl, _⟩ := hu
  exact Tx.cmp_turn _ _
theorem cmp_chain {v u t : Value} (hv : IsV v) (hu : IsV u) (ht : IsV t) (h1 : cmpV v u ≤ 0) (h2 : cmpV u t ≤ 0) : cmpV v t = min (cmpV v u) (cmpV u t) := by
  obtain ⟨a, rfl, _⟩ := hv
  obtain ⟨b, rfl, _⟩ := hu
  obtain ⟨c, rfl, _⟩ := ht
  exact Tx.cmp_chain _ _ _ h1 h2
theorem one_two : IsV (.string ⟨#[97]⟩) ∧ IsV (.string ⟨#[98]⟩) ∧ cmpV (.string ⟨#[97]⟩) (.string ⟨#[98]⟩) = -1 :=
  ⟨⟨_, rfl, by decide⟩, ⟨_, rfl, by decide⟩, by
    show Tx.cmp (ByteArray.mk [(97 : UInt8)].toArray).toList (ByteArray.mk [(98 : UInt8)].toArray).toList = -1
    rw [ByteArray.toList_mk, ByteArray.toList_mk]
    decide⟩

theorem cmp_any {v u : Value} (hv : IsV v) (hu : IsV u) (w : World) : Calls Try.prog 14 #[v, u] w (Cmp (cmpV v u) w) := by
  obtain ⟨a, rfl, _⟩ := hv
  obtain ⟨b, rfl, _⟩ := hu
  exact cmp_str a b w
theorem less_any {v u : Value} (hv : IsV v) (hu : IsV u) (w : World) : Calls Try.prog 12 #[v, u] w (Lss (lessV v u) w) := by
  obtain ⟨a, rfl, _⟩ := hv
  obtain ⟨b, rfl, _⟩ := hu
  have e : lessV (.string a) (.string b) = Op.bytesLess a.toList b.toList := (Tx.less_cmp _ _).symm
  rw [e]
  exact less_str a b w
theorem sless_any {v u : Value} (hv : IsV v) (hu : IsV u) (w : World) : Calls Try.prog 13 #[v, u] w (SLss (lessV v u) w) := by
  obtain ⟨a, rfl, ha⟩ := hv
  obtain ⟨b, rfl, hb⟩ := hu
  have e : lessV (.string a) (.string b) = Op.bytesLess a.toList b.toList := (Tx.less_cmp _ _).symm
  rw [e]
  exact sless_str a b (by unfold maxLen; omega) (by unfold maxLen; omega) w
theorem scmp_any {v u : Value} (hv : IsV v) (hu : IsV u) (w : World) : Calls Try.prog 15 #[v, u] w (SCmp (cmpV v u) w) := by
  obtain ⟨a, rfl, ha⟩ := hv
  obtain ⟨b, rfl, hb⟩ := hu
  exact scmp_str a b (by unfold maxLen; omega) (by unfold maxLen; omega) w
theorem law_exact_compare (a b : ByteArray) (ha : a.size ≤ maxLen) (hb : b.size ≤ maxLen) (w : World) :
    Calls Try.prog 7 #[.string a, .string b] w fun e w' => e = .returned (.bool true) ∧ Grown w w' := by
  go_enter Try.func7, Try.ntmps7
  go_wp2_with fail
  refine (cmp_str a b _).mono ?_
  rintro e w' ⟨rfl, rfl⟩
  go_wp2_with fail
  refine (scmp_str a b ha hb _).mono ?_
  rintro e w' ⟨rfl, nq, rfl⟩
  go_wp2
  go_ret
  exact ⟨rfl, ⟨(Grown.refl w).1, (Grown.refl w).2.1, (Grown.refl w).2.2⟩⟩
end Go.Proofs.Ythoppdnjgfadfaa.Dr
