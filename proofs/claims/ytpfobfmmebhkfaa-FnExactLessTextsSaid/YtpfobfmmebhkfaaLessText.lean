/-
  cmp.Less of any two texts is as the reference says. No conditions.
-/
import Derived.Test.YtpfobfmmebhkfaaRows
import Derived.WalkKit
import Derived.ProofKit
import Derived.OpenShut
import Derived.WalkLawsBesides
import Derived.WalkSpells
import Derived.Below
import Derived.Laws.OwnMore
import Derived.Laws.Rows
import Derived.Deep.Draws
import Derived.Deep.QuietTactic
import Derived.BigQuiet
import Derived.Lib.Hide
import Derived.IntWalk
import Derived.Laws.BitsAllLaws
import Derived.Laws.BitsLemmas
import Derived.LoopTactic
import Derived.Test.YtpfobfmmebhkfaaTextPlain
namespace Go.Proofs.Ytpfobfmmebhkfaa.Dr
open Go.ChangeShapes Go.WideShapes Go.ChangeAt Go.RowKit

def Lss (b : Bool) (w : World) (e : Ending) (w' : World) : Prop := e = .returned (.bool b) ∧ w = w'
/-- As above, but some answers may have been drawn. -/
def SLss (b : Bool) (w : World) (e : Ending) (w' : World) : Prop := e = .returned (.bool b) ∧ ∃ n, w' = w.drewN n

def BelowRel (a b : ByteArray) (w : World) (i : Value) (wr : World) : Prop :=
  ∃ k n : Nat, k ≤ a.size ∧ k ≤ b.size ∧ i = .int .i64 (k : Int) ∧ wr = w.drewN n ∧ Op.bytesLess (a.toList.drop k) (b.toList.drop k) = Op.bytesLess a.toList b.toList

theorem at_byte (a : ByteArray) (k : Nat) (h : k < a.size) : a.toList[k]? = some a[k] := by
  rw [ByteArray.toList_eq, Array.getElem?_toList]
  exact Array.getElem?_eq_getElem h
theorem len_bytes (a : ByteArray) : a.toList.length = a.size := by rw [ByteArray.toList_eq]; rfl

theorem step_eq (a b : ByteArray) (k : Nat) (h1 : k < a.size) (h2 : k < b.size) (h : a[k] = b[k]) :
    Op.bytesLess (a.toList.drop (k + 1)) (b.toList.drop (k + 1)) = Op.bytesLess (a.toList.drop k) (b.toList.drop k) := by
  rw [Tx.less_at a.toList b.toList k (by rw [len_bytes]; exact h1) (by rw [len_bytes]; exact h2) _ _ (at_byte a k h1) (at_byte b k h2), h]
  simp
theorem step_ne (a b : ByteArray) (k : Nat) (h1 : k < a.size) (h2 : k < b.size) (h : a[k] ≠ b[k]) :
    Op.bytesLess (a.toList.drop k) (b.toList.drop k) = decide (a[k].toNat < b[k].toNat) := by
  rw [Tx.less_at a.toList b.toList k (by rw [len_bytes]; exact h1) (by rw [len_bytes]; exact h2) _ _ (at_byte a k h1) (at_byte b k h2), beq_eq_false_iff_ne.2 h]
  simp [UInt8.lt_iff_toNat_lt]
theorem ret_bool {a b : Bool} (h : a = b) : Ending.returned (.bool a) = .returned (.bool b) := by rw [h]

set_option maxHeartbeats 1000000 in
theorem below_any (a b : ByteArray) (ha : a.size ≤ maxLen) (hb : b.size ≤ maxLen) (w : World) :
    Calls Try.prog 23 #[.string a, .string b] w (SLss (Op.bytesLess a.toList b.toList) w) := by
  unfold maxLen at ha hb
  go_enter Try.func23, Try.ntmps23
  go_wp2
  go_loopw [5] (fun i wr => BelowRel a b w i wr) (fun i _ => a.size - (intOf i).toNat)
  case atStart => exact ⟨0, 0, by omega, by omega, rfl, rfl, rfl⟩
  case round =>
    obtain ⟨k, n, hka, hkb, rfl, rfl, hrel⟩ := hrel
    have H := Lib.hid hrel
    clear hrel
    by_cases h1 : k < a.size
    · by_cases h2 : k < b.size
      · by_cases hab : a[k] = b[k]
        · have hs := Lib.hid (step_eq a b k h1 h2 hab)
          have hne : ((a[k].toNat : Int) != (b[k].toNat : Int)) = false := by rw [hab]; simp
          clear hab
          go_wp2
          go_quiet (fail)
          go_wp2
          go_roundw
          case rel => exact ⟨k + 1, n + nq, by omega, by omega, by go_num, rfl, hs.out.trans H.out⟩
          case measure => simp [intOf]; omega
        · have hs := Lib.hid (step_ne a b k h1 h2 hab)
          have hne : ((a[k].toNat : Int) != (b[k].toNat : Int)) = true := by
            rw [bne_iff_ne]
            intro e
            exact hab (UInt8.toNat_inj.1 (by omega))
          clear hab
          go_wp2
          go_quiet (fail)
          go_wp2
          rename_i nq1
          go_quiet (fail)
          go_wp2
          go_ret
          exact ⟨ret_bool (hs.out.symm.trans H.out), _, by rw [World.drewN_drewN, World.drewN_drewN]⟩
      · have hs := Lib.hid (Tx.less_end a.toList b.toList k (by rw [len_bytes]; exact hka) (by rw [len_bytes]; exact hkb) (by rw [len_bytes, len_bytes]; omega))
        go_wp2
        go_ret
        exact ⟨ret_bool (by rw [← H.out, hs.out, len_bytes, len_bytes]), n, rfl⟩
    · have hs := Lib.hid (Tx.less_end a.toList b.toList k (by rw [len_bytes]; exact hka) (by rw [len_bytes]; exact hkb) (by rw [len_bytes, len_bytes]; omega))
      go_wp2
      go_ret
      exact ⟨ret_bool (by rw [← H.out, hs.out, len_bytes, len_bytes]), n, rfl⟩

set_option maxHeartbeats 1000000 in
theorem less_str (a b : ByteArray) (w : World) : Calls Try.prog 14 #[.string a, .string b] w (Lss (Op.bytesLess a.toList b.toList) w) := by
  cases h : Op.bytesLess a.toList b.toList
  all_goals
    go_enter Try.func14, Try.ntmps14
    go_wp2
    go_ret
    exact ⟨rfl, rfl⟩

theorem sless_str (a b : ByteArray) (ha : a.size ≤ maxLen) (hb : b.size ≤ maxLen) (w : World) : Calls Try.prog 15 #[.string a, .string b] w (SLss (Op.bytesLess a.toList b.toList) w) := by
  go_enter Try.func15, Try.ntmps15
  go_wp2_with (go_at_call 23; refine (below_any a b ha hb _).mono ?_; rintro e w' ⟨rfl, nq, rfl⟩)
  go_ret
  exact ⟨rfl, nq, rfl⟩


theorem less_texts (a b : ByteArray) (ha : a.size ≤ maxLen) (hb : b.size ≤ maxLen) (w : World) : Calls Try.prog 6 #[.string a, .string b] w fun e w' => e = .returned (.bool true) ∧ Grown w w' := by
  go_enter Try.func6, Try.ntmps6
  go_wp2_with fail
  refine (less_str a b _).mono ?_
  rintro e w' ⟨rfl, rfl⟩
  go_wp2_with fail
  refine (sless_str a b ha hb _).mono ?_
  rintro e w' ⟨rfl, nq, rfl⟩
  go_wp2
  go_ret
  exact ⟨rfl, ⟨(Grown.refl w).1, (Grown.refl w).2.1, (Grown.refl w).2.2⟩⟩
end Go.Proofs.Ytpfobfmmebhkfaa.Dr
