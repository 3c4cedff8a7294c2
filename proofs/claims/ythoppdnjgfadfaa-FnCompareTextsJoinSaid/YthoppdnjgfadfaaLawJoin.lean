/-
  A beginning that two texts have both means nothing, and a text comes ahead of each longer one that begins with it. No conditions.
-/
import Derived.Test.YthoppdnjgfadfaaLaws2
namespace Go.Proofs.Ythoppdnjgfadfaa.Dr
open Go.ChangeShapes Go.WideShapes Go.ChangeAt Go.RowKit

theorem toList_join (a b : ByteArray) : (a ++ b).toList = a.toList ++ b.toList := by
  rw [ByteArray.toList_eq, ByteArray.toList_eq, ByteArray.toList_eq]
  simp
theorem cmp_join (a b c : ByteArray) : Tx.cmp (a ++ b).toList (a ++ c).toList = Tx.cmp b.toList c.toList := by
  rw [toList_join, toList_join, Tx.cmp_append]
theorem less_join (a b : ByteArray) : Op.bytesLess a.toList (a ++ b).toList = !b.toList.isEmpty := by
  rw [toList_join]
  have h := Tx.less_append a.toList [] b.toList
  rw [List.append_nil] at h
  rw [h]
  cases b.toList <;> rfl

set_option maxHeartbeats 1000000 in
theorem law_join (w : World) (A : Option Addr) (len cap : Nat) (hb : Bytes w A len) : Calls Try.prog 8 #[.slice A len cap] w (Held w) := by
  by_cases hl : 1048576 < len
  · go_enter Try.func8, Try.ntmps8
    go_wp2
    go_ret
    exact ⟨rfl, Below.refl _ _⟩
  · go_enter Try.func8, Try.ntmps8
    go_wp2_with fail
    refine (draw_any w A len cap hb (by omega)).mono ?_
    rintro e w1 ⟨_, _, _, ⟨a, rfl, ha⟩, ⟨b, rfl, h_b⟩, ⟨c, rfl, hc⟩, rfl, hbel⟩
    have s1 : a.size + b.size ≤ 9223372036854775807 := by omega
    have s2 : a.size + c.size ≤ 9223372036854775807 := by omega
    have e1 := Lib.hid (cmp_join a b c)
    have e2 := Lib.hid (less_join a b)
    go_wp2_with fail
    refine (cmp_str _ _ _).mono ?_
    rintro e w' ⟨rfl, rfl⟩
    rw [e1.out]
    go_wp2_with fail
    refine (cmp_str _ _ _).mono ?_
    rintro e w' ⟨rfl, rfl⟩
    go_wp2_with fail
    refine (less_str _ _ _).mono ?_
    rintro e w' ⟨rfl, rfl⟩
    rw [e2.out]
    cases hbe : b.toList.isEmpty
    all_goals
      go_wp2
      go_ret
      exact ⟨rfl, hbel⟩
end Go.Proofs.Ythoppdnjgfadfaa.Dr
