/-
  cmp.Or of pairs through the thin package, and the reference's own (second part). No conditions.
-/
import Derived.Test.YtljgipokaocgeaaPair
namespace Go.Proofs.Ytljgipokaocgeaa.Dr
open Go.ChangeShapes Go.WideShapes Go.ChangeAt Go.RowKit

theorem SrcP.below {w w' : World} {B : Nat} {A : Option Addr} {m : Nat} {xs : List (Int × Int)} (h : SrcP w B A m xs) (hb : Below B w w') (B' : Nat) (hB : B ≤ B') : SrcP w' B' A m xs := by
  refine ⟨h.1, fun hm => ?_⟩
  obtain ⟨b, off, e, hlt, hc⟩ := h.2 hm
  refine ⟨b, off, e, by omega, fun j p hp => ?_⟩
  obtain ⟨h1, h2⟩ := hc j p hp
  exact ⟨(hb.cell (p := ⟨b, off + j * 2, none⟩) hlt).trans h1, (hb.cell (p := ⟨b, off + j * 2 + 1, none⟩) hlt).trans h2⟩

theorem drewN_below {B : Nat} {a w : World} (h : Below B a w) (n : Nat) : Below B a (w.drewN n) := ⟨h.os, h.tape, h.output, h.size, h.block⟩

set_option maxHeartbeats 1000000 in
theorem orp_any (A : Option Addr) (n cap : Nat) (xs : List (Int × Int)) (w : World) (hs : SrcP w w.heap.size A n xs) (hn : n ≤ 9223372036854775807) :
    Calls Try.prog 12 #[.slice A n cap] w (GivesP (orP xs) w) := by
  have HS := Lib.hid (hs.below (below_new w (.cells #[.int .i64 0, .int .i64 0] 27)) (w.alloc (.cells #[.int .i64 0, .int .i64 0] 27)).heap.size (by simp))
  have hb := Blk.new w 27 #[.int .i64 0, .int .i64 0]
  have hB := below_new w (.cells #[.int .i64 0, .int .i64 0] 27)
  clear hs
  have hb_lt := hb.lt
  go_enter Try.func12, Try.ntmps12
  go_wp2_with fail
  refine (orp_lib A n cap xs _ HS.out hn).mono ?_
  rintro e w1 ⟨rfl, hB1⟩
  have hb1 : Blk w1 w.heap.size 27 #[.int .i64 0, .int .i64 0] := (hB1.block w.heap.size hb_lt).trans hb
  have hBw := below_step hB hB1
  have r0 : _ = some (Value.int .i64 0) := hb1.cell 0
  have r1 : _ = some (Value.int .i64 0) := hb1.cell 1
  have f0 := hb1.frozen 0
  have f1 := hb1.frozen 1
  clear hb hB HS hB1 hb_lt
  go_wp2
  have hbF := (hb1.set 0 (.int .i64 (orP xs).1)).set 1 (.int .i64 (orP xs).2)
  have qa : _ = some (Value.int .i64 (orP xs).1) := hbF.cell 0
  have qb : _ = some (Value.int .i64 (orP xs).2) := hbF.cell 1
  refine bodyPost_ret (v := .agg #[.int .i64 (orP xs).1, .int .i64 (orP xs).2]) (by simp [results, Try.results12, go_sem, qa, qb]) rfl ⟨rfl, ?_⟩
  exact ((hBw.setCell (p := ⟨w.heap.size, 0, none⟩) (Nat.le_refl _) _).setCell (p := ⟨w.heap.size, 1, none⟩) (Nat.le_refl _) _)

set_option maxHeartbeats 1000000 in
theorem sorp_any (A : Option Addr) (n cap : Nat) (xs : List (Int × Int)) (w : World) (hs : SrcP w w.heap.size A n xs) (hn : n ≤ 9223372036854775807) :
    Calls Try.prog 13 #[.slice A n cap] w (GivesP (orP xs) w) := by
  have HS := Lib.hid hs
  clear hs
  go_enter Try.func13, Try.ntmps13
  go_wp2
  go_loopw [4] (fun i wr => PRel xs n w i wr) (fun i _ => n - (intOf i).toNat)
  case atStart => exact ⟨0, by omega, rfl, rfl, below_two w, blk_two0 w, blk_two1 w⟩
  case round =>
    obtain ⟨k, hk, rfl, hor, hB, hb0, hb1⟩ := hrel
    have HO := Lib.hid hor
    clear hor
    have z0 : _ = some (Value.int .i64 0) := hb1.cell 0
    have z1 : _ = some (Value.int .i64 0) := hb1.cell 1
    have r0 : _ = some (Value.int .i64 0) := hb0.cell 0
    have r1 : _ = some (Value.int .i64 0) := hb0.cell 1
    have f0 := hb0.frozen 0
    have f1 := hb0.frozen 1
    have hz0 := hb0.lt
    have hz1 := hb1.lt
    by_cases hlt : k < n
    · obtain ⟨b, off, rfl, hbB, hc⟩ := HS.out.2 (by omega)
      have hxk : xs[k]? = some (xs[k]'(by rw [HS.out.1]; exact hlt)) := List.getElem?_eq_getElem _
      generalize xs[k]'(by rw [HS.out.1]; exact hlt) = x at hxk
      obtain ⟨x1, x2⟩ := x
      obtain ⟨g1, g2⟩ := hc k _ hxk
      have hst := Lib.hid (orP_at hxk)
      clear hc hxk
      have q1 := (hB.cell (p := ⟨b, off + k * 2, none⟩) hbB).trans g1
      have q2 := (hB.cell (p := ⟨b, off + k * 2 + 1, none⟩) hbB).trans g2
      clear g1 g2
      simp at q1 q2
      have hk0 : (0 : Int) ≤ (k : Int) := by omega
      have hk1 : (k : Int) < (n : Int) := by omega
      by_cases h1 : x1 = 0
      · by_cases h2 : x2 = 0
        · subst h1 h2
          have HR := Lib.hid (show orP (xs.drop (k + 1)) = orP xs from (hst.out.symm.trans HO.out))
          clear hst
          go_wp2
          go_quiet (fail)
          go_wp2
          exact ⟨⟨k + 1, by omega, by go_num, HR.out, drewN_below hB _, hb0.drewN _, hb1.drewN _⟩, by simp [intOf]; omega⟩
        · subst h1
          have HR := Lib.hid (show orP xs = (0, x2) by rw [← HO.out, hst.out, nz_right h2]; rfl)
          clear hst
          have e2 : (x2 == 0) = false := by simp [h2]
          clear h2
          go_wp2
          go_quiet (fail)
          go_wp2
          have hbF := ((hb0.drewN nq).set 0 (.int .i64 0)).set 1 (.int .i64 x2)
          have qa : _ = some (Value.int .i64 0) := hbF.cell 0
          have qb : _ = some (Value.int .i64 x2) := hbF.cell 1
          refine bodyPost_ret (v := .agg #[.int .i64 0, .int .i64 x2]) (by simp [results, Try.results13, go_sem, qa, qb]) rfl ⟨by rw [HR.out], ?_⟩
          exact (((drewN_below hB nq).setCell (p := ⟨w.heap.size, 0, none⟩) (Nat.le_refl _) _).setCell (p := ⟨w.heap.size, 1, none⟩) (Nat.le_refl _) _)
      · have HR := Lib.hid (show orP xs = (x1, x2) by rw [← HO.out, hst.out, nz_left h1]; rfl)
        clear hst
        have e1 : (x1 == 0) = false := by simp [h1]
        clear h1
        go_wp2
        go_quiet (fail)
        go_wp2
        have hbF := ((hb0.drewN nq).set 0 (.int .i64 x1)).set 1 (.int .i64 x2)
        have qa : _ = some (Value.int .i64 x1) := hbF.cell 0
        have qb : _ = some (Value.int .i64 x2) := hbF.cell 1
        refine bodyPost_ret (v := .agg #[.int .i64 x1, .int .i64 x2]) (by simp [results, Try.results13, go_sem, qa, qb]) rfl ⟨by rw [HR.out], ?_⟩
        exact (((drewN_below hB nq).setCell (p := ⟨w.heap.size, 0, none⟩) (Nat.le_refl _) _).setCell (p := ⟨w.heap.size, 1, none⟩) (Nat.le_refl _) _)
    · have HR := Lib.hid (show orP xs = (0, 0) by rw [← HO.out, List.drop_of_length_le (by rw [HS.out.1]; omega)]; rfl)
      go_wp2
      have hbF := (hb0.set 0 (.int .i64 0)).set 1 (.int .i64 0)
      have qa : _ = some (Value.int .i64 0) := hbF.cell 0
      have qb : _ = some (Value.int .i64 0) := hbF.cell 1
      refine bodyPost_ret (v := .agg #[.int .i64 0, .int .i64 0]) (by simp [results, Try.results13, go_sem, qa, qb]) rfl ⟨by rw [HR.out], ?_⟩
      exact ((hB.setCell (p := ⟨w.heap.size, 0, none⟩) (Nat.le_refl _) _).setCell (p := ⟨w.heap.size, 1, none⟩) (Nat.le_refl _) _)
end Go.Proofs.Ytljgipokaocgeaa.Dr
