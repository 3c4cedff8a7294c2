/-
  A NaN is not zero, and -0 is zero. No conditions.
-/
import Derived.Test.YtkakdhfiakmbiaaOrLaws
namespace Go.Proofs.Ytkakdhfiakmbiaa.Dr
open Go.ChangeShapes Go.WideShapes Go.ChangeAt Go.RowKit

theorem or_nan : orX [0, qnan] = qnan := by decide +kernel
theorem or_negz (xs : List Nat) : orX (negz :: xs) = orX xs := by
  rw [or_cons, show nz negz = false by decide +kernel]
  rfl
theorem nan_ne : (FloatKind.f64.format.order qnan qnan != some .eq) = true := by decide +kernel

set_option maxHeartbeats 1000000 in
theorem law_none (w : World) (A : Option Addr) (len cap : Nat) (hb : Bytes w A len) : Calls Try.prog 5 #[.slice A len cap] w (Held w) := by
  obtain ⟨i0, hi0, hz0, hz1, hz2⟩ := info_parts elemInfo
  have Hi := Lib.hid hi0
  have Hz0 := Lib.hid hz0
  have Hz1 := Lib.hid hz1
  have Hz2 := Lib.hid hz2
  clear hi0 hz0 hz1 hz2
  by_cases hl : 1048576 < len
  · go_enter Try.func5, Try.ntmps5
    go_wp2
    go_ret
    exact ⟨rfl, Below.refl _ _⟩
  · go_enter Try.func5, Try.ntmps5
    go_wp2_with fail
    refine (two_any w A len cap hb (by omega)).mono ?_
    rintro e w1 ⟨A0, n0, c0, xs, A1, n1, c1, ys, rfl, hT⟩
    have hl0 := hT.l0
    have hB1 := hT.below
    go_wp2_with fail
    have own_a := World.ownsRow_lit (base := w.heap.size) (e := 24) (size := 1) w1 #[Value.float .f64 0] 1 hB1.size (by unfold maxLen; omega) rfl
    have hBa := below_new w1 (.cells #[Value.float .f64 0] 24)
    generalize w1.alloc (.cells #[Value.float .f64 0] 24) = wa at own_a hBa ⊢
    refine (nan_any _).mono ?_
    rintro e w' ⟨rfl, rfl⟩
    go_wp2_with (first
      | (at_builtin
         refine wpList_app _ rfl (.tmp 15) (.tmp 17) 22 rfl w.heap.size 24 i0 (Value.float .f64 0) 1 8 Try.underlying22 Hi.out Hz0.out Hz1.out Hz2.out rfl (by omega) (.slice (some ⟨w1.heap.size, 0, none⟩) 1 1) 1 [Value.float .f64 0] rfl (own_a.alloc _)
           (some ⟨wa.heap.size, 0, none⟩) 1 1 [Value.float .f64 qnan] rfl (fun h => by cases h) (src_new wa #[Value.float .f64 qnan] _ 1 rfl) (by simp [Value.oneCell']) (by unfold maxLen; omega) (by omega) (by have := hB1.size; have := hBa.size; simp; omega) ?_
         intro v2 w2 hown2 hg2 hat2
         have hB2 : Below w1.heap.size w1 w2 := below_app (below_step hBa (below_new wa _)) hg2 (fun k hk => by simp [Value.ownBlock] at hk; omega)
         clear hg2 hat2))
    obtain ⟨A3, c3, hv3, hs3, _⟩ := Src.of_own hown2
    have HS3 := Lib.hid (show Src w2 A3 (1 + 1) 1 ([0, qnan].map (Value.float .f64)) from hs3)
    clear hs3 hown2
    rw [hv3]
    clear hv3
    refine (or_any A3 (1 + 1) c3 [0, qnan] _ HS3.out (by omega)).mono ?_
    rintro e w' ⟨rfl, rfl⟩
    rw [or_nan]
    go_wp2_with fail
    refine (copysign_any _).mono ?_
    rintro e w' ⟨rfl, rfl⟩
    have HT0 := Lib.hid (own_below hT.own0 hB2)
    go_wp2_with (first
      | (at_builtin
         refine wpList_app _ rfl (.tmp 21) (.tmp 22) 22 rfl w.heap.size 24 i0 (Value.float .f64 0) 1 8 Try.underlying22 Hi.out Hz0.out Hz1.out Hz2.out rfl (by omega) (.slice (some ⟨w2.heap.size, 0, none⟩) 1 1) 1 [Value.float .f64 negz] rfl
           (World.ownsRow_lit w2 #[Value.float .f64 negz] 1 (by have := hB1.size; have := hB2.size; omega) (by unfold maxLen; omega) rfl)
           A0 n0 c0 (xs.map (Value.float .f64)) rfl hT.nil0 (src_own (HT0.out.alloc _)) (by intro u hu; obtain ⟨y, _, rfl⟩ := List.mem_map.1 hu; rfl) (by unfold maxLen; omega) (by omega) (by have := hB1.size; have := hB2.size; simp; omega) ?_
         intro v3 w3 hown3 hg3 hat3
         have hB3 : Below w2.heap.size w2 w3 := below_app (below_new w2 _) hg3 (fun k hk => by simp [Value.ownBlock] at hk; omega)
         clear hg3 hat3))
    obtain ⟨A4, c4, hv4, hs4, _⟩ := Src.of_own hown3
    have HS4 := Lib.hid (show Src w3 A4 (1 + n0) 1 ((negz :: xs).map (Value.float .f64)) by simpa using hs4)
    clear hs4 hown3
    rw [hv4]
    clear hv4
    refine (or_any A4 (1 + n0) c4 (negz :: xs) _ HS4.out (by omega)).mono ?_
    rintro e w' ⟨rfl, rfl⟩
    rw [or_negz]
    have hq := nan_ne
    go_wp2_with fail
    refine (or_any A0 n0 c0 xs _ (src_own (own_below HT0.out hB3)) (by omega)).mono ?_
    rintro e w' ⟨rfl, rfl⟩
    go_wp2_with fail
    refine (same_self _ _).mono ?_
    rintro e w' ⟨rfl, rfl⟩
    go_wp2
    go_ret
    exact ⟨rfl, below_step (below_step hB1 hB2) hB3⟩
end Go.Proofs.Ytkakdhfiakmbiaa.Dr
