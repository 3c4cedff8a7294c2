/-
  The laws on the first value that is not zero of drawn lists: each returns true, and turns nothing that was there. No conditions.
-/
import Derived.Test.YtljgipokaocgeaaOrTwo

namespace Go.Proofs.Ytljgipokaocgeaa.Dr
open Go.ChangeShapes Go.WideShapes Go.ChangeAt Go.RowKit

/-- The law holds: true is returned, and nothing that was there has turned. -/
def Held (w : World) (e : Ending) (w' : World) : Prop := e = .returned (.bool true) ∧ Below w.heap.size w w'

set_option maxHeartbeats 1000000 in
theorem law_or (w : World) (A : Option Addr) (len cap : Nat) (hb : Bytes w A len) : Calls Try.prog 5 #[.slice A len cap] w (Held w) := by
  by_cases hl : 1048576 < len
  · go_enter Try.func5, Try.ntmps5
    go_wp2
    go_ret
    exact ⟨rfl, Below.refl _ _⟩
  · go_enter Try.func5, Try.ntmps5
    go_wp2_with fail
    refine (two_any w A len cap hb (by omega)).mono ?_
    rintro e w1 ⟨A0, n0, c0, xs, A1, n1, c1, ys, rfl, hT⟩
    have hl0 := hT.l0
    go_wp2_with fail
    refine (or_any A0 n0 c0 xs _ (src_own hT.own0) (by omega)).mono ?_
    rintro e w' ⟨rfl, rfl⟩
    go_wp2_with fail
    refine (sor_any A0 n0 c0 xs _ (src_own hT.own0) (by omega)).mono ?_
    rintro e w' ⟨rfl, rfl⟩
    
    go_wp2
    go_ret
    exact ⟨rfl, hT.below⟩

theorem first_three : orX [0, 3] = 3 := by decide

set_option maxHeartbeats 1000000 in
theorem law_parts (w : World) (A : Option Addr) (len cap : Nat) (hb : Bytes w A len) : Calls Try.prog 6 #[.slice A len cap] w (Held w) := by
  obtain ⟨i0, hi0, hz0, hz1, hz2⟩ := info_parts elemInfo
  have Hi := Lib.hid hi0
  have Hz0 := Lib.hid hz0
  have Hz1 := Lib.hid hz1
  have Hz2 := Lib.hid hz2
  clear hi0 hz0 hz1 hz2
  by_cases hl : 1048576 < len
  · go_enter Try.func6, Try.ntmps6
    go_wp2
    go_ret
    exact ⟨rfl, Below.refl _ _⟩
  · go_enter Try.func6, Try.ntmps6
    go_wp2_with fail
    refine (or_any _ 2 2 [0, 3] _ (src_new w _ _ 2 rfl) (by omega)).mono ?_
    rintro e w' ⟨rfl, rfl⟩
    rw [first_three]
    
    go_wp2_with fail
    refine (two_any _ A len cap (hb.alloc _) (by omega)).mono ?_
    rintro e w1 ⟨A0, n0, c0, xs, A1, n1, c1, ys, rfl, hT⟩
    have hl0 := hT.l0
    have hl1 := hT.l1
    have hB1 := below_step (below_new w _) hT.below
    go_wp2_with (first
      | (at_builtin
         refine wpList_app _ rfl (.tmp 17) (.tmp 18) 22 rfl w.heap.size 3 i0 (Value.int .i64 0) 1 8 Try.underlying22 Hi.out Hz0.out Hz1.out Hz2.out rfl (by omega) (.slice (some ⟨w1.heap.size, 0, none⟩) 0 0) 0 [] rfl (World.ownsRow_lit w1 #[] 0 hB1.size (by unfold maxLen; omega) rfl)
           A0 n0 c0 (xs.map (Value.int .i64)) rfl hT.nil0 (src_own (hT.own0.alloc _)) (by intro u hu; obtain ⟨y, _, rfl⟩ := List.mem_map.1 hu; rfl) (by unfold maxLen; omega) (by omega) (by have := hB1.size; simp; omega) ?_
         intro v2 w2 hown2 hg2 hat2
         have hB2 : Below w1.heap.size w1 w2 := below_app (below_new w1 _) hg2 (fun k hk => by simp [Value.ownBlock] at hk; omega)
         have hv2 : ∀ k, v2.ownBlock = some k → w1.heap.size ≤ k := fun k hk => by rcases hat2 with e | e <;> rw [e] at hk <;> simp [Value.ownBlock] at hk <;> omega
         clear hg2 hat2)
      | (at_builtin
         refine wpList_app _ rfl (.tmp 19) (.tmp 20) 22 rfl w.heap.size 3 i0 (Value.int .i64 0) 1 8 Try.underlying22 Hi.out Hz0.out Hz1.out Hz2.out rfl (by omega) v2 (0 + n0) ([] ++ xs.map (Value.int .i64)) rfl hown2
           A1 n1 c1 (ys.map (Value.int .i64)) rfl hT.nil1 (src_own (own_below hT.own1 hB2)) (by intro u hu; obtain ⟨y, _, rfl⟩ := List.mem_map.1 hu; rfl) (by unfold maxLen; omega) (by omega) (by have := hB1.size; have := hB2.size; omega) ?_
         intro v3 w3 hown3 hg3 hat3
         have hB3 : Below w1.heap.size w1 w3 := below_app hB2 hg3 hv2
         clear hg3 hat3 hown2 hB2 hv2))
    obtain ⟨A3, c3, hv3, hs3, _⟩ := Src.of_own hown3
    have HS3 := Lib.hid (show Src w3 A3 (0 + n0 + n1) 1 ((xs ++ ys).map (Value.int .i64)) by simpa using hs3)
    clear hs3 hown3
    rw [hv3]
    clear hv3
    refine (or_any A3 (0 + n0 + n1) c3 (xs ++ ys) _ HS3.out (by omega)).mono ?_
    rintro e w' ⟨rfl, rfl⟩
    go_wp2_with fail
    refine (or_any A0 n0 c0 xs _ (src_own (own_below hT.own0 hB3)) (by omega)).mono ?_
    rintro e w' ⟨rfl, rfl⟩
    go_wp2_with fail
    refine (or_any A1 n1 c1 ys _ (src_own (own_below hT.own1 hB3)) (by omega)).mono ?_
    rintro e w' ⟨rfl, rfl⟩
    go_wp2_with fail
    refine (or_any _ 2 2 [orX xs, orX ys] _ (src_new w3 _ _ 2 rfl) (by omega)).mono ?_
    rintro e w' ⟨rfl, rfl⟩
    rw [or_parts]
    
    go_wp2
    go_ret
    exact ⟨rfl, below_step (below_step hB1 hB3) (below_new w3 _)⟩

set_option maxHeartbeats 1000000 in
theorem law_zero (w : World) (A : Option Addr) (len cap : Nat) (hb : Bytes w A len) : Calls Try.prog 7 #[.slice A len cap] w (Held w) := by
  obtain ⟨i0, hi0, hz0, hz1, hz2⟩ := info_parts elemInfo
  have Hi := Lib.hid hi0
  have Hz0 := Lib.hid hz0
  have Hz1 := Lib.hid hz1
  have Hz2 := Lib.hid hz2
  clear hi0 hz0 hz1 hz2
  by_cases hl : 1048576 < len
  · go_enter Try.func7, Try.ntmps7
    go_wp2
    go_ret
    exact ⟨rfl, Below.refl _ _⟩
  · go_enter Try.func7, Try.ntmps7
    go_wp2_with fail
    refine (or_any _ 2 2 [0, 3] _ (src_new w _ _ 2 rfl) (by omega)).mono ?_
    rintro e w' ⟨rfl, rfl⟩
    rw [first_three]
    
    go_wp2_with fail
    refine (two_any _ A len cap (hb.alloc _) (by omega)).mono ?_
    rintro e w1 ⟨A0, n0, c0, xs, A1, n1, c1, ys, rfl, hT⟩
    have hl0 := hT.l0
    have hB1 := below_step (below_new w _) hT.below
    go_wp2_with fail
    refine (or_any none 0 0 [] _ (src_none _) (by omega)).mono ?_
    rintro e w' ⟨rfl, rfl⟩
    rw [or_zero]
    
    go_wp2_with fail
    refine (or_any _ 2 2 [0, 0] _ (src_new w1 _ _ 2 rfl) (by omega)).mono ?_
    rintro e w' ⟨rfl, rfl⟩
    rw [or_zero_cons, or_zero_cons, or_zero]
    
    generalize hw1' : w1.alloc _ = w1'
    have hB1' : Below w1.heap.size w1 w1' := by rw [← hw1']; exact below_new w1 _
    have HT0 := Lib.hid (own_below hT.own0 hB1')
    clear hw1'
    go_wp2_with (first
      | (at_builtin
         refine wpList_app _ rfl (.tmp 24) (.tmp 25) 22 rfl w.heap.size 3 i0 (Value.int .i64 0) 1 8 Try.underlying22 Hi.out Hz0.out Hz1.out Hz2.out rfl (by omega) (.slice (some ⟨w1'.heap.size, 0, none⟩) 1 1) 1 [Value.int .i64 0] rfl
           (World.ownsRow_lit w1' #[Value.int .i64 0] 1 (by have := hB1.size; have := hB1'.size; omega) (by unfold maxLen; omega) rfl)
           A0 n0 c0 (xs.map (Value.int .i64)) rfl hT.nil0 (src_own (HT0.out.alloc _)) (by intro u hu; obtain ⟨y, _, rfl⟩ := List.mem_map.1 hu; rfl) (by unfold maxLen; omega) (by omega) (by have := hB1.size; have := hB1'.size; simp; omega) ?_
         intro v2 w2 hown2 hg2 hat2
         have hB2 : Below w1'.heap.size w1' w2 := below_app (below_new w1' _) hg2 (fun k hk => by simp [Value.ownBlock] at hk; omega)
         clear hg2 hat2))
    obtain ⟨A3, c3, hv3, hs3, _⟩ := Src.of_own hown2
    have HS3 := Lib.hid (show Src w2 A3 (1 + n0) 1 ((0 :: xs).map (Value.int .i64)) by simpa using hs3)
    clear hs3 hown2
    rw [hv3]
    clear hv3
    refine (or_any A3 (1 + n0) c3 (0 :: xs) _ HS3.out (by omega)).mono ?_
    rintro e w' ⟨rfl, rfl⟩
    rw [or_zero_cons]
    go_wp2_with fail
    refine (or_any A0 n0 c0 xs _ (src_own (own_below HT0.out hB2)) (by omega)).mono ?_
    rintro e w' ⟨rfl, rfl⟩
    
    go_wp2
    go_ret
    exact ⟨rfl, below_step (below_step hB1 hB1') hB2⟩
end Go.Proofs.Ytljgipokaocgeaa.Dr
