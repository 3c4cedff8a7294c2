/-
  cmp.Or of pairs through the thin package, and the reference's own, return the first pair that is not zero, of whatever slice. No conditions.
-/
import Derived.Test.YtljgipokaocgeaaOrLaws
import Derived.Laws.StructEq
namespace Go.Proofs.Ytljgipokaocgeaa.Dr
open Go.ChangeShapes Go.WideShapes Go.ChangeAt Go.RowKit

/-- A pair's two cells. -/
def cells2 (p : Int × Int) : List Value := [Value.int .i64 p.1, Value.int .i64 p.2]
def V2 (p : Int × Int) : Value := .agg #[.int .i64 p.1, .int .i64 p.2]
def nzP (p : Int × Int) : Bool := !(p.1 == 0 && p.2 == 0)
def orP (xs : List (Int × Int)) : Int × Int := (xs.find? nzP).getD (0, 0)
theorem orP_cons (x : Int × Int) (xs : List (Int × Int)) : orP (x :: xs) = if nzP x then x else orP xs := by
  unfold orP
  rw [List.find?_cons]
  cases nzP x <;> rfl
theorem orP_at {xs : List (Int × Int)} {k : Nat} {x : Int × Int} (h : xs[k]? = some x) : orP (xs.drop k) = if nzP x then x else orP (xs.drop (k + 1)) := by
  obtain ⟨hk, e⟩ := List.getElem?_eq_some_iff.1 h
  rw [List.drop_eq_getElem_cons hk, e, orP_cons]

/-- The slice reads as the pairs xs, below block B. -/
def SrcP (w : World) (B : Nat) (A : Option Addr) (m : Nat) (xs : List (Int × Int)) : Prop :=
  xs.length = m ∧ (0 < m → ∃ b off, A = some ⟨b, off, none⟩ ∧ b < B ∧ ∀ j p, xs[j]? = some p → w.cell? ⟨b, off + j * 2, none⟩ = some (.int .i64 p.1) ∧ w.cell? ⟨b, off + j * 2 + 1, none⟩ = some (.int .i64 p.2))

def GivesP (p : Int × Int) (w : World) (e : Ending) (w' : World) : Prop := e = .returned (.agg #[.int .i64 p.1, .int .i64 p.2]) ∧ Below w.heap.size w w'

def PRel (xs : List (Int × Int)) (n : Nat) (w : World) (i : Value) (wr : World) : Prop :=
  ∃ k : Nat, k ≤ n ∧ i = .int .i64 (k : Int) ∧ orP (xs.drop k) = orP xs ∧ Below w.heap.size w wr ∧ Blk wr w.heap.size 27 #[.int .i64 0, .int .i64 0] ∧ Blk wr (w.heap.size + 1) 27 #[.int .i64 0, .int .i64 0]

theorem nz_left {x y : Int} (h : x ≠ 0) : nzP (x, y) = true := by simp [nzP, h]
theorem nz_right {x y : Int} (h : y ≠ 0) : nzP (x, y) = true := by simp [nzP, h]
theorem size_one (w : World) (o : Obj) : (w.alloc o).heap.size = w.heap.size + 1 := by simp
theorem below_two (w : World) : Below w.heap.size w ((w.alloc (.cells #[.int .i64 0, .int .i64 0] 27)).alloc (.cells #[.int .i64 0, .int .i64 0] 27)) :=
  ((Below.refl _ _).alloc (Nat.le_refl _) _).alloc (by simp) _
theorem blk_two0 (w : World) : Blk ((w.alloc (.cells #[.int .i64 0, .int .i64 0] 27)).alloc (.cells #[.int .i64 0, .int .i64 0] 27)) w.heap.size 27 #[.int .i64 0, .int .i64 0] := (Blk.new w _ _).alloc _
theorem blk_two1 (w : World) : Blk ((w.alloc (.cells #[.int .i64 0, .int .i64 0] 27)).alloc (.cells #[.int .i64 0, .int .i64 0] 27)) (w.heap.size + 1) 27 #[.int .i64 0, .int .i64 0] := by
  have h := Blk.new (w.alloc (.cells #[.int .i64 0, .int .i64 0] 27)) 27 #[.int .i64 0, .int .i64 0]
  rwa [size_one] at h

set_option maxHeartbeats 1000000 in
theorem orp_lib (A : Option Addr) (n cap : Nat) (xs : List (Int × Int)) (w : World) (hs : SrcP w w.heap.size A n xs) (hn : n ≤ 9223372036854775807) :
    Calls Try.prog 19 #[.slice A n cap] w (GivesP (orP xs) w) := by
  have HS := Lib.hid hs
  clear hs
  go_enter Try.func19, Try.ntmps19
  go_wp2
  go_loopw [8] (fun i wr => PRel xs n w i wr) (fun i _ => n - (intOf i).toNat)
  case atStart => exact ⟨0, by omega, rfl, rfl, below_two w, blk_two0 w, blk_two1 w⟩
  case round =>
    obtain ⟨k, hk, rfl, hor, hB, hb0, hb1⟩ := hrel
    have HO := Lib.hid hor
    clear hor
    have z0 := hb1.cell 0
    have z1 := hb1.cell 1
    have r0 := hb0.cell 0
    have r1 := hb0.cell 1
    have f0 := hb0.frozen 0
    have f1 := hb0.frozen 1
    have hz0 := hb0.lt
    have hz1 := hb1.lt
    simp at z0 z1 r0 r1
    by_cases hlt : k < n
    · obtain ⟨b, off, rfl, hbB, hc⟩ := HS.out.2 (by omega)
      have hxk : xs[k]? = some (xs[k]'(by rw [HS.out.1]; exact hlt)) := List.getElem?_eq_getElem _
      generalize xs[k]'(by rw [HS.out.1]; exact hlt) = x at hxk
      obtain ⟨x1, x2⟩ := x
      obtain ⟨g1, g2⟩ := hc k _ hxk
      have hst := Lib.hid (orP_at hxk)
      clear hc hxk
      have q1 := (hB.cell (p := ⟨b, off + k * 2, none⟩) hbB).trans g1
      have q2 := (hB.cell (p := ⟨b, off + k * 2 + 1, none⟩) hbB).trans g2
      clear g1 g2
      simp at q1 q2
      by_cases h1 : x1 = 0
      · by_cases h2 : x2 = 0
        · subst h1 h2
          have HR := Lib.hid (show orP (xs.drop (k + 1)) = orP xs from (hst.out.symm.trans HO.out))
          clear hst
          go_wp2
          exact ⟨⟨k + 1, by omega, by go_num, HR.out, hB.alloc hB.size _, hb0.alloc _, hb1.alloc _⟩, by simp [intOf]; omega⟩
        · subst h1
          have HR := Lib.hid (show orP xs = (0, x2) by rw [← HO.out, hst.out, nz_right h2]; rfl)
          clear hst
          have e2 : (x2 == 0) = false := by simp [h2]
          clear h2
          go_wp2
          have hbF := ((hb0.set 0 (.int .i64 0)).set 1 (.int .i64 x2)).alloc (.cells #[.int .i64 0, .int .i64 x2] 27)
          have qa : _ = some (Value.int .i64 0) := hbF.cell 0
          have qb : _ = some (Value.int .i64 x2) := hbF.cell 1
          refine bodyPost_ret (v := .agg #[.int .i64 0, .int .i64 x2]) (by simp [results, Try.results19, go_sem, qa, qb]) rfl ⟨by rw [HR.out], ?_⟩
          exact ((hB.setCell (p := ⟨w.heap.size, 0, none⟩) (Nat.le_refl _) _).setCell (p := ⟨w.heap.size, 1, none⟩) (Nat.le_refl _) _).alloc (by simp [World.setCell]; exact hB.size) _
      · have HR := Lib.hid (show orP xs = (x1, x2) by rw [← HO.out, hst.out, nz_left h1]; rfl)
        clear hst
        have e1 : (x1 == 0) = false := by simp [h1]
        clear h1
        go_wp2
        have hbF := ((hb0.set 0 (.int .i64 x1)).set 1 (.int .i64 x2)).alloc (.cells #[.int .i64 x1, .int .i64 x2] 27)
        have qa : _ = some (Value.int .i64 x1) := hbF.cell 0
        have qb : _ = some (Value.int .i64 x2) := hbF.cell 1
        refine bodyPost_ret (v := .agg #[.int .i64 x1, .int .i64 x2]) (by simp [results, Try.results19, go_sem, qa, qb]) rfl ⟨by rw [HR.out], ?_⟩
        exact ((hB.setCell (p := ⟨w.heap.size, 0, none⟩) (Nat.le_refl _) _).setCell (p := ⟨w.heap.size, 1, none⟩) (Nat.le_refl _) _).alloc (by simp [World.setCell]; exact hB.size) _
    · have HR := Lib.hid (show orP xs = (0, 0) by rw [← HO.out, List.drop_of_length_le (by rw [HS.out.1]; omega)]; rfl)
      go_wp2
      have hbF := (hb0.set 0 (.int .i64 0)).set 1 (.int .i64 0)
      have qa : _ = some (Value.int .i64 0) := hbF.cell 0
      have qb : _ = some (Value.int .i64 0) := hbF.cell 1
      refine bodyPost_ret (v := .agg #[.int .i64 0, .int .i64 0]) (by simp [results, Try.results19, go_sem, qa, qb]) rfl ⟨by rw [HR.out], ?_⟩
      exact ((hB.setCell (p := ⟨w.heap.size, 0, none⟩) (Nat.le_refl _) _).setCell (p := ⟨w.heap.size, 1, none⟩) (Nat.le_refl _) _)
end Go.Proofs.Ytljgipokaocgeaa.Dr
