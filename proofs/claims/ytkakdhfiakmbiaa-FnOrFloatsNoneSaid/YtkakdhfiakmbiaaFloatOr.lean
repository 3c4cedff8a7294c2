/-
  The drawn floating-point numbers of 64 bits: aFloat returns one, and leaves all but the reader as it was. Conditions: the place is at most 1048000.
-/
import Derived.Test.YtkakdhfiakmbiaaBits
import Derived.Test.YtkakdhfiakmbiaaSame
import Derived.Laws.FloatArith
namespace Go.Proofs.Ytkakdhfiakmbiaa.Dr
open Go.ChangeShapes Go.WideShapes Go.ChangeAt Go.RowKit

/-- A value of the kind. -/
def IsV (v : Value) : Prop := ∃ b : Nat, v = .float .f64 b ∧ (Lit.float .f64 b).wf = true
/-- -0, both infinities and a NaN of 64 bits. -/
def negz : Nat := 9223372036854775808
def pinf : Nat := 9218868437227405312
def ninf : Nat := 18442240474082181120
def qnan : Nat := 9221120237041090561
theorem run_frombits64 (n : Int) (w : World) : (callFunc 19 #[.int .u64 n]).run Try.prog w = .ok (.value (.float .f64 n.toNat)) w := by
  rw [run_callFunc_extern (e := Extern.MathFloatBits.float64frombits) Try.func19 (by kernel_rfl) (by kernel_rfl) (by kernel_rfl) (by kernel_rfl)]
  rfl

theorem copysign_any (w : World) : Calls Try.prog 13 #[.float .f64 0, .float .f64 13830554455654793216] w (Gives (.float .f64 negz) w) := by
  have h1 := run_frombits64
  have h2 := run_bits64
  go_enter Try.func13, Try.ntmps13
  go_wp2
  go_ret
  exact ⟨by kernel_rfl, rfl⟩
theorem nan_any (w : World) : Calls Try.prog 12 #[] w (Gives (.float .f64 qnan) w) := by
  have h1 := run_frombits64
  go_enter Try.func12, Try.ntmps12
  go_wp2
  go_ret
  exact ⟨by kernel_rfl, rfl⟩
theorem inf_pos (w : World) : Calls Try.prog 21 #[.int .i64 1] w (Gives (.float .f64 pinf) w) := by
  have h1 := run_frombits64
  go_enter Try.func21, Try.ntmps21
  go_wp2
  go_ret
  exact ⟨by kernel_rfl, rfl⟩
theorem inf_neg (w : World) : Calls Try.prog 21 #[.int .i64 (-1)] w (Gives (.float .f64 ninf) w) := by
  have h1 := run_frombits64
  go_enter Try.func21, Try.ntmps21
  go_wp2
  go_ret
  exact ⟨by kernel_rfl, rfl⟩

theorem blk_flt {w : World} {g : Nat} {t : TypeId} {cs : Array Value} (hb : Blk w g t cs) (h : ∀ v ∈ cs.toList, IsV v) (j : Nat) (hj : j < cs.size) :
    ∃ b : Nat, w.cell? ⟨g, j, none⟩ = some (.float .f64 b) ∧ (Lit.float .f64 b).wf = true := by
  have hv := h cs[j] (by simp)
  have hc := hb.cell j
  rw [Array.getElem?_eq_getElem hj] at hc
  obtain ⟨b, e, hw⟩ := hv
  exact ⟨b, by rw [hc, e], hw⟩

theorem half (j : Nat) (hj : j < 9) : ∃ r : Nat, (Lit.float .f64 r).wf = true ∧ ∀ w : World, (binOp .quo 24 (.float .f64 (floatOfInt .f64 ((j : Int) - 4))) (.float .f64 4611686018427387904)).run Try.prog w = .ok (.float .f64 r) w := by
  have h : ∀ j : Fin 9, (floatBits .quo .f64 (floatOfInt .f64 ((j.val : Int) - 4)) 4611686018427387904).isSome = true := by decide +kernel
  obtain ⟨r, hr⟩ := Option.isSome_iff_exists.1 (h ⟨j, hj⟩)
  exact ⟨r, floatBits_wf hr, fun w => run_float_arith w .quo 24 .f64 _ _ r hr⟩

theorem frombits_wf {x : Int} (h : (Lit.int .u64 x).wf = true) : (Lit.float .f64 x.toNat).wf = true := by
  have hb := bounds_u64 h
  exact wf_of_lt .f64 _ (by show _ < 18446744073709551616; omega)

def One (w0 w : World) (g : Nat) (A : Option Addr) (len cap p : Nat) (e : Ending) (w' : World) : Prop :=
  ∃ (v : Value) (q : Nat), IsV v ∧ e = .returned v ∧ w.grownBy w' (some g) ∧ St w0 w' g A len cap q ∧ q ≤ p + 10

set_option maxHeartbeats 2000000 in
theorem one_any {w0 w : World} {g : Nat} {A : Option Addr} {len cap p : Nat} (S : St w0 w g A len cap p) (hp : p ≤ 1048000) :
    Calls Try.prog 18 #[.pointer (some ⟨g, 0, none⟩)] w (One w0 w g A len cap p) := by
  have c5 := run_frombits64
  go_enter Try.func18, Try.ntmps18
  go_wp2_with fail
  refine (pick_any 4 S (by omega) (by omega)).mono ?_
  rintro e w1 ⟨m, hm, rfl, hg1, S1⟩
  rcases (by omega : m = 0 ∨ m = 1 ∨ m = 2 ∨ m = 3) with rfl | rfl | rfl | rfl
  rotate_left 2
  · go_wp2_with fail
    refine (bits_any S1 (by omega)).mono ?_
    rintro e w2 ⟨x, hx, rfl, hg2, S2⟩
    go_wp2
    go_ret
    exact ⟨_, p + 1 + 8, ⟨x.toNat, rfl, frombits_wf hx⟩, rfl, grown_trans hg1 hg2, S2, by omega⟩
  · go_wp2_with fail
    refine (pick_any 9 S1 (by omega) (by omega)).mono ?_
    rintro e w2 ⟨j, hj, rfl, hg2, S2⟩
    obtain ⟨r, hr, hq⟩ := half j (by omega)
    go_wp2
    go_ret
    exact ⟨_, p + 1 + 1, ⟨r, rfl, hr⟩, rfl, grown_trans hg1 hg2, S2, by omega⟩
  all_goals
    go_wp2_with fail
    refine (copysign_any _).mono ?_
    rintro e w' ⟨rfl, rfl⟩
    go_wp2_with fail
    refine (nan_any _).mono ?_
    rintro e w' ⟨rfl, rfl⟩
    go_wp2_with fail
    refine (inf_pos _).mono ?_
    rintro e w' ⟨rfl, rfl⟩
    go_wp2_with fail
    refine (inf_neg _).mono ?_
    rintro e w' ⟨rfl, rfl⟩
    go_wp2_with fail
    refine (pick_any 14 (S1.alloc _) (by omega) (by omega)).mono ?_
    rintro e w2 ⟨j, hj, rfl, hg2, S2⟩
    have hL : w1.heap.size ≠ g := fun e => by have := S1.blk.lt; omega
    have hb := (Blk.new w1 _ _).grown hg2 (fun e => by injection e with e; exact hL e)
    obtain ⟨x, hc, hw⟩ := blk_flt hb (by
      intro v hv
      simp only [List.mem_cons, List.not_mem_nil, or_false] at hv
      rcases hv with rfl | rfl | rfl | rfl | rfl | rfl | rfl | rfl | rfl | rfl | rfl | rfl | rfl | rfl
      all_goals exact ⟨_, rfl, by decide⟩) j (by simp; omega)
    clear hb
    go_wp2
    go_ret
    exact ⟨_, p + 1 + 1, ⟨x, rfl, hw⟩, rfl, grown_trans (grown_trans hg1 (World.grownBy_alloc _ _ _)) hg2, S2, by omega⟩

def AFloat (w0 w : World) (g : Nat) (A : Option Addr) (len cap p : Nat) (e : Ending) (w' : World) : Prop :=
  ∃ (x : Nat) (q : Nat), (Lit.float .f64 x).wf = true ∧ e = .returned (.float .f64 x) ∧ w.grownBy w' (some g) ∧ St w0 w' g A len cap q ∧ q ≤ p + 10
theorem aFloat_any {w0 w : World} {g : Nat} {A : Option Addr} {len cap p : Nat} (S : St w0 w g A len cap p) (hp : p ≤ 1048000) :
    Calls Try.prog 18 #[.pointer (some ⟨g, 0, none⟩)] w (AFloat w0 w g A len cap p) :=
  (one_any S hp).mono fun _ _ ⟨_, q, ⟨x, hv, hx⟩, he, hg, hS, hq⟩ => ⟨x, q, hx, by rw [he, hv], hg, hS, hq⟩
end Go.Proofs.Ytkakdhfiakmbiaa.Dr
