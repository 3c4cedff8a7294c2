/-
  The drawn whole numbers: anInt returns a whole number of 64 bits, and leaves all but the reader as it was. Conditions: the place is at most 1048000.
-/
import Derived.Test.YtljgipokaocgeaaBits
namespace Go.Proofs.Ytljgipokaocgeaa.Dr
open Go.ChangeShapes Go.WideShapes Go.ChangeAt Go.RowKit

def isInt : Value → Bool
  | .int .i64 x => (Lit.int .i64 x).wf
  | _ => false
theorem at_ints (cs : Array Value) (h : cs.all isInt = true) (j : Nat) (hj : j < cs.size) : ∃ x : Int, cs[j]? = some (.int .i64 x) ∧ (Lit.int .i64 x).wf = true := by
  rw [Array.all_eq_true] at h
  have hv := h j hj
  rw [Array.getElem?_eq_getElem hj]
  generalize cs[j] = v at hv
  unfold isInt at hv
  split at hv
  · exact ⟨_, rfl, hv⟩
  · cases hv

theorem blk_int {w : World} {g : Nat} {t : TypeId} {cs : Array Value} (hb : Blk w g t cs) (h : cs.all isInt = true) (j : Nat) (hj : j < cs.size) :
    ∃ x : Int, w.cell? ⟨g, j, none⟩ = some (.int .i64 x) ∧ (Lit.int .i64 x).wf = true := by
  obtain ⟨x, hx, hw⟩ := at_ints cs h j hj
  exact ⟨x, (hb.cell j).trans hx, hw⟩

def AnInt (w0 w : World) (g : Nat) (A : Option Addr) (len cap p : Nat) (e : Ending) (w' : World) : Prop :=
  ∃ (x : Int) (q : Nat), (Lit.int .i64 x).wf = true ∧ e = .returned (.int .i64 x) ∧ w.grownBy w' (some g) ∧ St w0 w' g A len cap q ∧ q ≤ p + 10

set_option maxHeartbeats 1000000 in
theorem anInt_any {w0 w : World} {g : Nat} {A : Option Addr} {len cap p : Nat} (S : St w0 w g A len cap p) (hp : p ≤ 1048000) :
    Calls Try.prog 21 #[.pointer (some ⟨g, 0, none⟩)] w (AnInt w0 w g A len cap p) := by
  go_enter Try.func21, Try.ntmps21
  go_wp2_with fail
  refine (pick_any 4 S (by omega) (by omega)).mono ?_
  rintro e w1 ⟨m, hm, rfl, hg1, S1⟩
  rcases (by omega : m = 0 ∨ m = 1 ∨ m = 2 ∨ m = 3) with rfl | rfl | rfl | rfl
  · go_wp2_with fail
    refine (pick_any 12 (S1.alloc _) (by omega) (by omega)).mono ?_
    rintro e w2 ⟨j, hj, rfl, hg2, S2⟩
    have hL : w1.heap.size ≠ g := fun e => by have := S1.blk.lt; omega
    have hb := (Blk.new w1 _ _).grown hg2 (fun e => by injection e with e; exact hL e)
    obtain ⟨x, hc, hw⟩ := blk_int hb (by kernel_rfl) j (by simp; omega)
    clear hb
    go_wp2
    go_ret
    exact ⟨x, p + 1 + 1, hw, rfl, grown_trans (grown_trans hg1 (World.grownBy_alloc _ _ _)) hg2, S2, by omega⟩
  · go_wp2_with fail
    refine (bits_any S1 (by omega)).mono ?_
    rintro e w2 ⟨x, hx, rfl, hg2, S2⟩
    go_wp2
    go_ret
    exact ⟨wrap64 x, p + 1 + 8, wrap64_wf _, rfl, grown_trans hg1 hg2, S2, by omega⟩
  all_goals
    go_wp2_with fail
    refine (pick_any 9 S1 (by omega) (by omega)).mono ?_
    rintro e w2 ⟨j, hj, rfl, hg2, S2⟩
    go_wp2
    go_ret
    exact ⟨(j : Int) - 4, p + 1 + 1, WalkArith.wf_i64 (by omega), rfl, grown_trans hg1 hg2, S2, by omega⟩
end Go.Proofs.Ytljgipokaocgeaa.Dr
