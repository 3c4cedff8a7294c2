/-
  A drawn list of pairs: DrawOrPairs returns a slice of the call's own, and turns nothing that was there; HasPair tells whether a pair is in a list. Conditions: at most 1048576 bytes.
-/
import Derived.Test.YtljgipokaocgeaaPair2
namespace Go.Proofs.Ytljgipokaocgeaa.Dr
open Go.ChangeShapes Go.WideShapes Go.ChangeAt Go.RowKit

theorem pairInfo : (Try.prog.info? 27).map (fun i => (i.zero, i.size, i.bytes)) = some (some (.agg #[.int .i64 0, .int .i64 0]), 2, 16) := by kernel_rfl

def flat (xs : List (Int × Int)) : List Value := xs.flatMap cells2
theorem flat_length (xs : List (Int × Int)) : (flat xs).length = xs.length * 2 := by
  unfold flat
  induction xs with
  | nil => rfl
  | cons x xs ih => rw [List.flatMap_cons, List.length_append, ih]; simp [cells2]; omega
theorem flat_snoc (xs : List (Int × Int)) (p : Int × Int) : flat (xs ++ [p]) = flat xs ++ cells2 p := by simp [flat]
theorem flat_at (xs : List (Int × Int)) : ∀ (j : Nat) (p : Int × Int), xs[j]? = some p → (flat xs)[j * 2]? = some (.int .i64 p.1) ∧ (flat xs)[j * 2 + 1]? = some (.int .i64 p.2) := by
  induction xs with
  | nil => intro j p h; simp at h
  | cons x xs ih =>
    intro j p h
    cases j with
    | zero =>
      simp at h
      subst h
      exact ⟨rfl, rfl⟩
    | succ j =>
      have hx : flat (x :: xs) = .int .i64 x.1 :: .int .i64 x.2 :: flat xs := rfl
      rw [hx, show (j + 1) * 2 = j * 2 + 1 + 1 from by omega, List.getElem?_cons_succ, List.getElem?_cons_succ, show j * 2 + 1 + 1 + 1 = j * 2 + 1 + 1 + 1 from rfl, List.getElem?_cons_succ, List.getElem?_cons_succ]
      exact ih j p (by simpa using h)

theorem srcp_own {w : World} {base n : Nat} {v : Value} {xs : List (Int × Int)} (h : w.ownsRow base 27 2 v n (flat xs)) : ∃ A c, v = .slice A n c ∧ SrcP w w.heap.size A n xs ∧ (A = none → c = 0) := by
  have hl : xs.length = n := by have := h.1; rw [flat_length] at this; omega
  have hcells := fun (g : Nat) (hg : v.ownBlock = some g) => h.cells hg
  have hlt := h.lt
  rcases h.2 with ⟨rfl, rfl⟩ | ⟨g, cap, cur, rfl, _, _, _⟩
  · exact ⟨none, 0, rfl, ⟨hl, fun h => by omega⟩, fun _ => rfl⟩
  · refine ⟨_, cap, rfl, ⟨hl, fun _ => ⟨g, 0, rfl, (hlt g rfl).2, fun j p hp => ?_⟩⟩, fun h => by cases h⟩
    obtain ⟨h1, h2⟩ := flat_at xs j p hp
    have add : ∀ i, (⟨g, 0, none⟩ : Addr).add i = ⟨g, 0 + i, none⟩ := fun i => by unfold Addr.add; split <;> simp_all
    have c1 := hcells g rfl _ _ h1
    have c2 := hcells g rfl _ _ h2
    rw [add] at c1 c2
    exact ⟨c1, by rw [Nat.add_assoc]; exact c2⟩

/-- The drawn pairs. -/
structure PairsSt (w w' : World) (A : Option Addr) (n c : Nat) (xs : List (Int × Int)) : Prop where
  below : Below w.heap.size w w'
  own : w'.ownsRow (w.heap.size + 1) 27 2 (.slice A n c) n (flat xs)
  len : n ≤ 5

def DrawnPairs (w : World) (e : Ending) (w' : World) : Prop := ∃ (A : Option Addr) (n c : Nat) (xs : List (Int × Int)), e = .returned (.slice A n c) ∧ PairsSt w w' A n c xs

def DPRel (w : World) (A : Option Addr) (len cap : Nat) (v i : Value) (wr : World) : Prop :=
  ∃ (n q : Nat) (xs : List (Int × Int)), n ≤ 5 ∧ i = .int .i64 (n : Int) ∧ xs.length + n ≤ 5 ∧ q + 2 * n ≤ 20 ∧ St w wr w.heap.size A len cap q ∧ wr.ownsRow (w.heap.size + 1) 27 2 v xs.length (flat xs)

set_option maxHeartbeats 2000000 in
theorem drawPairs_any (w : World) (A : Option Addr) (len cap : Nat) (hb : Bytes w A len) (hl : len ≤ 1048576) : Calls Try.prog 15 #[.slice A len cap] w (DrawnPairs w) := by
  obtain ⟨i0, hi0, hz0, hz1, hz2⟩ := info_parts pairInfo
  have Hi := Lib.hid hi0
  have Hz0 := Lib.hid hz0
  have Hz1 := Lib.hid hz1
  have Hz2 := Lib.hid hz2
  clear hi0 hz0 hz1 hz2
  have S0 := (St.mk0 w A len cap hb hl).alloc (.cells #[] 27)
  have own0 := World.ownsRow_lit (base := w.heap.size + 1) (e := 27) (size := 2) (w.alloc (.cells #[.slice A len cap, .int .i64 0] 41)) #[] 0 (by rw [size_one]; omega) (by unfold maxLen; omega) rfl
  rw [size_one] at own0
  go_enter Try.func15, Try.ntmps15
  go_wp2_with fail
  refine (pick_any 6 S0 (by omega) (by omega)).mono ?_
  rintro e w1 ⟨n0, hn0, rfl, hg1, S1⟩
  have own1 := own0.kept hg1 (.inr (by simp [Value.ownBlock]))
  clear own0 S0 hg1
  go_wp2_with fail
  go_loopw [4, 5] (fun v i wr => DPRel w A len cap v i wr) (fun _ i _ => (intOf i).toNat)
  case atStart => exact ⟨n0, 0 + 1, [], by omega, rfl, by simp; omega, by omega, S1, own1⟩
  case round =>
    clear own1 S1
    obtain ⟨n, q, xs, hn, rfl, hsum, hq, S2, own2⟩ := hrel
    rcases Nat.eq_zero_or_pos n with h0 | h0
    · subst h0
      obtain ⟨A3, c3, rfl, hs3, _⟩ := srcp_own own2
      go_wp2
      go_ret
      exact ⟨A3, _, c3, xs, rfl, S2.below, own2, by omega⟩
    · have hneR : ∀ v n us, ∀ W : World, W.ownsRow (w.heap.size + 1) 27 2 v n us → v.ownBlock = none ∨ v.ownBlock ≠ some w.heap.size := fun v n us W ho => by
        cases hv : v.ownBlock with
        | none => exact .inl rfl
        | some b => exact .inr (fun e => by injection e with e; have := (ho.lt b hv).1; omega)
      have HN := Lib.hid hneR
      clear hneR
      go_wp2_with fail
      refine (pick_any 2 S2 (by omega) (by omega)).mono ?_
      rintro e w3 ⟨a, ha, rfl, hg3, S3⟩
      have own3 := own2.kept hg3 (HN.out _ _ _ _ own2)
      clear own2 hg3
      go_wp2_with fail
      refine (pick_any 2 S3 (by omega) (by omega)).mono ?_
      rintro e w4 ⟨b, hb', rfl, hg4, S4⟩
      have own4 := own3.kept hg4 (HN.out _ _ _ _ own3)
      have hsz := S4.blk.lt
      clear own3 hg4
      go_wp2_with (first
        | (at_builtin
           refine wpList_append_lies _ rfl _ _ 25 rfl (w.heap.size + 1) 27 i0 (.agg #[.int .i64 0, .int .i64 0]) 2 16 Try.underlying25 Hi.out Hz0.out Hz1.out Hz2.out rfl (by omega) u4 xs.length (flat xs) rfl (own4.alloc _)
             ⟨w4.heap.size, 0, none⟩ 1 1 [.int .i64 (a : Int), .int .i64 (b : Int)] rfl rfl (World.news_of_block (cs := #[.int .i64 (a : Int), .int .i64 (b : Int)]) (heap_alloc_new w4 _)) (by simp [Value.oneCell']) (by omega) (by unfold maxLen; omega) (by omega) (by simp; omega) _ rfl ?_
           intro gg c w5 own5 hg5 hat5 hlt5))
      have hr : ∀ k, u4.ownBlock = some k → w.heap.size + 1 ≤ k := fun k hk => (own4.lt k hk).1
      have SA := S4.alloc (.cells #[.int .i64 (a : Int), .int .i64 (b : Int)] 27)
      have S5 : St w w5 w.heap.size A len cap (q + 1 + 1) :=
        ⟨SA.below.grown hg5 SA.below.size (fun k hk => by have := hr k hk; omega), Nat.le_refl _, SA.blk.grown hg5 (fun e => by have := hr _ e.symm; omega), SA.bytes, SA.len⟩
      refine ⟨⟨n - 1, q + 1 + 1, xs ++ [((a : Int), (b : Int))], by omega, by go_num, by simp; omega, by omega, S5, ?_⟩, by simp [intOf]; omega⟩
      rw [flat_snoc, List.length_append]
      exact own5
end Go.Proofs.Ytljgipokaocgeaa.Dr
