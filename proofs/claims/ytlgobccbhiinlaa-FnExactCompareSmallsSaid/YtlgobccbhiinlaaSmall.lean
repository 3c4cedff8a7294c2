/-
  The drawn floating-point numbers of 32 bits: aSmall returns one, and leaves all but the reader as it was. Conditions: the place is at most 1048000.
-/
import Derived.Test.YtlgobccbhiinlaaBits
import Derived.Test.YtlgobccbhiinlaaCmpSmall
import Derived.Laws.Externs
import Derived.Laws.FloatArith
namespace Go.Proofs.Ytlgobccbhiinlaa.Dr
open Go.ChangeShapes Go.WideShapes Go.ChangeAt Go.RowKit

/-- -0, both infinities and a NaN of 64 bits. -/
def nz : Nat := 9223372036854775808
def pinf : Nat := 9218868437227405312
def ninf : Nat := 18442240474082181120
def qnan : Nat := 9221120237041090561
/-- -0 and both infinities of 32 bits. -/
def nzS : Nat := 2147483648
def pinfS : Nat := 2139095040
def ninfS : Nat := 4286578688

theorem run_frombits64 (n : Int) (w : World) : (callFunc 32 #[.int .u64 n]).run Try.prog w = .ok (.value (.float .f64 n.toNat)) w := by
  rw [run_callFunc_extern (e := Extern.MathFloatBits.float64frombits) Try.func32 (by kernel_rfl) (by kernel_rfl) (by kernel_rfl) (by kernel_rfl)]
  rfl
theorem run_bits64 (b : Nat) (w : World) : (callFunc 33 #[.float .f64 b]).run Try.prog w = .ok (.value (.int .u64 (b : Int))) w := by
  rw [run_callFunc_extern (e := Extern.MathFloatBits.float64bits) Try.func33 (by kernel_rfl) (by kernel_rfl) (by kernel_rfl) (by kernel_rfl)]
  rfl
theorem run_frombits32 (n : Int) (w : World) : (callFunc 29 #[.int .u32 n]).run Try.prog w = .ok (.value (.float .f32 n.toNat)) w := by
  rw [run_callFunc_extern (e := Extern.MathFloatBits.float32frombits) Try.func29 (by kernel_rfl) (by kernel_rfl) (by kernel_rfl) (by kernel_rfl)]
  rfl

def Gives (v : Value) (w : World) (e : Ending) (w' : World) : Prop := e = .returned v ∧ w = w'

theorem copysign_any (w : World) : Calls Try.prog 26 #[.float .f64 0, .float .f64 13830554455654793216] w (Gives (.float .f64 nz) w) := by
  have h1 := run_frombits64
  have h2 := run_bits64
  go_enter Try.func26, Try.ntmps26
  go_wp2
  go_ret
  exact ⟨by kernel_rfl, rfl⟩
theorem nan_any (w : World) : Calls Try.prog 27 #[] w (Gives (.float .f64 qnan) w) := by
  have h1 := run_frombits64
  go_enter Try.func27, Try.ntmps27
  go_wp2
  go_ret
  exact ⟨by kernel_rfl, rfl⟩
theorem inf_pos (w : World) : Calls Try.prog 28 #[.int .i64 1] w (Gives (.float .f64 pinf) w) := by
  have h1 := run_frombits64
  go_enter Try.func28, Try.ntmps28
  go_wp2
  go_ret
  exact ⟨by kernel_rfl, rfl⟩
theorem inf_neg (w : World) : Calls Try.prog 28 #[.int .i64 (-1)] w (Gives (.float .f64 ninf) w) := by
  have h1 := run_frombits64
  go_enter Try.func28, Try.ntmps28
  go_wp2
  go_ret
  exact ⟨by kernel_rfl, rfl⟩

/-- What the walk is told of the conversions to 32 bits. -/
theorem conv_nz (w : World) : (convert 30 24 (.float .f64 nz)).run Try.prog w = .ok (.float .f32 nzS) w := by kernel_rfl
theorem conv_pinf (w : World) : (convert 30 24 (.float .f64 pinf)).run Try.prog w = .ok (.float .f32 pinfS) w := by kernel_rfl
theorem conv_ninf (w : World) : (convert 30 24 (.float .f64 ninf)).run Try.prog w = .ok (.float .f32 ninfS) w := by kernel_rfl
/-- The bits that the model draws for a NaN of 32 bits. -/
def nanD (w : World) : Nat := (Question.nanConv .f32 qnan).cut (w.tape w.drawn (.nanConv .f32 qnan))
theorem conv_qnan (w : World) : (convert 30 24 (.float .f64 qnan)).run Try.prog w = .ok (.float .f32 (nanD w)) w.drew := by kernel_rfl
theorem nanD_wf (w : World) : (Lit.float .f32 (nanD w)).wf = true := by
  have h : nanD w < 2 ^ 32 := by
    unfold nanD Question.cut
    generalize w.tape w.drawn (.nanConv .f32 qnan) = t
    have h1 : t % 2 < 2 := Nat.mod_lt _ (by decide)
    have h2 : (t / 2) % (2 ^ 23 - 1) < 8388607 := Nat.mod_lt _ (by decide)
    show (t % 2) * 2 ^ 31 + 0x7f800000 + 1 + (t / 2) % (2 ^ 23 - 1) < 2 ^ 32
    omega
  exact wf_of_lt .f32 _ h

theorem blk_flt {w : World} {g : Nat} {t : TypeId} {cs : Array Value} (hb : Blk w g t cs) (h : ∀ v ∈ cs.toList, IsV v) (j : Nat) (hj : j < cs.size) :
    ∃ b : Nat, w.cell? ⟨g, j, none⟩ = some (.float .f32 b) ∧ (Lit.float .f32 b).wf = true := by
  have hv := h cs[j] (by simp)
  have hc := hb.cell j
  rw [Array.getElem?_eq_getElem hj] at hc
  obtain ⟨b, e, hw⟩ := hv
  exact ⟨b, by rw [hc, e], hw⟩

theorem half (j : Nat) (hj : j < 9) : ∃ r : Nat, (Lit.float .f32 r).wf = true ∧ ∀ w : World, (binOp .quo 24 (.float .f32 (floatOfInt .f32 ((j : Int) - 4))) (.float .f32 1073741824)).run Try.prog w = .ok (.float .f32 r) w := by
  have h : ∀ j : Fin 9, (floatBits .quo .f32 (floatOfInt .f32 ((j.val : Int) - 4)) 1073741824).isSome = true := by decide +kernel
  obtain ⟨r, hr⟩ := Option.isSome_iff_exists.1 (h ⟨j, hj⟩)
  exact ⟨r, floatBits_wf hr, fun w => run_float_arith w .quo 24 .f32 _ _ r hr⟩

def One (w0 w : World) (g : Nat) (A : Option Addr) (len cap p : Nat) (e : Ending) (w' : World) : Prop :=
  ∃ (v : Value) (q : Nat), IsV v ∧ e = .returned v ∧ w.grownBy w' (some g) ∧ St w0 w' g A len cap q ∧ q ≤ p + 10

theorem grown_drew {a b : World} {row : Option Nat} (h : a.grownBy b row) : a.grownBy b.drew row := ⟨h.os, h.tape, h.output, h.size, h.block⟩

theorem Blk.drew {w : World} {g : Nat} {t : TypeId} {cs : Array Value} (h : Blk w g t cs) : Blk w.drew g t cs := h
theorem St.drew {w0 w : World} {g : Nat} {A : Option Addr} {len cap p : Nat} (S : St w0 w g A len cap p) : St w0 w.drew g A len cap p :=
  ⟨S.below.drew, S.base, S.blk, S.bytes, S.len⟩

set_option maxHeartbeats 2000000 in
theorem one_any {w0 w : World} {g : Nat} {A : Option Addr} {len cap p : Nat} (S : St w0 w g A len cap p) (hp : p ≤ 1048000) :
    Calls Try.prog 19 #[.pointer (some ⟨g, 0, none⟩)] w (One w0 w g A len cap p) := by
  have c1 := conv_nz
  have c2 := conv_pinf
  have c3 := conv_ninf
  have c4 := conv_qnan
  have c5 := run_frombits32
  go_enter Try.func19, Try.ntmps19
  go_wp2_with fail
  refine (pick_any 4 S (by omega) (by omega)).mono ?_
  rintro e w1 ⟨m, hm, rfl, hg1, S1⟩
  rcases (by omega : m = 0 ∨ m = 1 ∨ m = 2 ∨ m = 3) with rfl | rfl | rfl | rfl
  rotate_left 2
  · go_wp2_with fail
    refine (bits_any S1 (by omega)).mono ?_
    rintro e w2 ⟨x, hx, rfl, hg2, S2⟩
    go_wp2
    go_ret
    exact ⟨_, p + 1 + 8, ⟨(x % 4294967296).toNat, rfl, wf_of_lt .f32 _ (by show _ < 4294967296; omega)⟩, rfl, grown_trans hg1 hg2, S2, by omega⟩
  · go_wp2_with fail
    refine (pick_any 9 S1 (by omega) (by omega)).mono ?_
    rintro e w2 ⟨j, hj, rfl, hg2, S2⟩
    obtain ⟨r, hr, hq⟩ := half j (by omega)
    go_wp2
    go_ret
    exact ⟨_, p + 1 + 1, ⟨r, rfl, hr⟩, rfl, grown_trans hg1 hg2, S2, by omega⟩
  all_goals
    go_wp2_with fail
    refine (copysign_any _).mono ?_
    rintro e w' ⟨rfl, rfl⟩
    go_wp2_with fail
    refine (nan_any _).mono ?_
    rintro e w' ⟨rfl, rfl⟩
    go_wp2_with fail
    refine (inf_pos _).mono ?_
    rintro e w' ⟨rfl, rfl⟩
    go_wp2_with fail
    refine (inf_neg _).mono ?_
    rintro e w' ⟨rfl, rfl⟩
    go_wp2_with fail
    refine (pick_any 12 (St.drew (S1.alloc _)) (by omega) (by omega)).mono ?_
    rintro e w2 ⟨j, hj, rfl, hg2, S2⟩
    have hL : w1.heap.size ≠ g := fun e => by have := S1.blk.lt; omega
    have hb := (Blk.drew (Blk.new w1 _ _)).grown hg2 (fun e => by injection e with e; exact hL e)
    obtain ⟨x, hc, hw⟩ := blk_flt hb (by
      intro v hv
      simp only [List.mem_cons, List.not_mem_nil, or_false] at hv
      rcases hv with rfl | rfl | rfl | rfl | rfl | rfl | rfl | rfl | rfl | rfl | rfl | rfl
      all_goals first | exact ⟨_, rfl, nanD_wf _⟩ | exact ⟨_, rfl, by decide⟩) j (by simp; omega)
    clear hb
    go_wp2
    go_ret
    exact ⟨_, p + 1 + 1, ⟨x, rfl, hw⟩, rfl, grown_trans (grown_trans hg1 (grown_drew (World.grownBy_alloc _ _ _))) hg2, S2, by omega⟩
end Go.Proofs.Ytlgobccbhiinlaa.Dr
