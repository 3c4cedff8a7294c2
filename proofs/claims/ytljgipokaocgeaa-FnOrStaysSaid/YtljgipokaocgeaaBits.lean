/-
  The reader's method bits returns a number of 64 bits, and stands eight places further. Conditions: the place is at most 1048576.
-/
import Derived.Test.YtljgipokaocgeaaBase
import Derived.LoopTactic
namespace Go.Proofs.Ytljgipokaocgeaa.Dr
open Go.ChangeShapes Go.WideShapes Go.ChangeAt Go.RowKit

def Bits (w0 w : World) (g : Nat) (A : Option Addr) (len cap p : Nat) (e : Ending) (w' : World) : Prop :=
  ∃ x : Int, (Lit.int .u64 x).wf = true ∧ e = .returned (.int .u64 x) ∧ w.grownBy w' (some g) ∧ St w0 w' g A len cap (p + 8)

def BitsRel (w0 w : World) (g : Nat) (A : Option Addr) (len cap p : Nat) (n i : Value) (wr : World) : Prop :=
  ∃ (k : Nat) (x : Int), k ≤ 8 ∧ i = .int .i64 (k : Int) ∧ n = .int .u64 x ∧ (Lit.int .u64 x).wf = true ∧ w.grownBy wr (some g) ∧ St w0 wr g A len cap (p + k)

set_option maxHeartbeats 1000000 in
theorem bits_any {w0 w : World} {g : Nat} {A : Option Addr} {len cap p : Nat} (S : St w0 w g A len cap p) (hp : p ≤ 1048576) :
    Calls Try.prog 22 #[.pointer (some ⟨g, 0, none⟩)] w (Bits w0 w g A len cap p) := by
  go_enter Try.func22, Try.ntmps22
  go_wp2
  go_loopw [3, 4] (fun n i wr => BitsRel w0 w g A len cap p n i wr) (fun _ i _ => 8 - (intOf i).toNat)
  case atStart => exact ⟨0, 0, by omega, rfl, rfl, by decide, World.grownBy.refl _ _, S⟩
  case round =>
    obtain ⟨k, x, hk, rfl, rfl, hx, hg, S1⟩ := hrel
    by_cases hlt : k < 8
    · go_wp2_with (go_at_call 20; refine (pick_any 256 S1 (by omega) (by omega)).mono ?_; rintro e w' ⟨m, hm, rfl, hg', S2⟩)
      go_roundw
      case rel => exact ⟨k + 1, _, by omega, by go_num, rfl, wf_wrap _ _, grown_trans hg hg', S2⟩
      case measure => simp [intOf]; omega
    · obtain rfl : k = 8 := by omega
      go_wp2
      go_ret
      exact ⟨x, hx, rfl, hg, S1⟩
end Go.Proofs.Ytljgipokaocgeaa.Dr
