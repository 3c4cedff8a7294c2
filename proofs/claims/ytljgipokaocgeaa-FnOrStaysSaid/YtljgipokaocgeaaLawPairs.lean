/-
  The first pair that is not zero is that of the reference, and is one of the pairs, or zero. No conditions.
-/
import Derived.Test.YtljgipokaocgeaaHasPair
import Derived.Deep.RegionHeld3
import Derived.Deep.RegionWith
namespace Go.Proofs.Ytljgipokaocgeaa.Dr
open Go.ChangeShapes Go.WideShapes Go.ChangeAt Go.RowKit

def GivesQ (p1 p2 : Int) (w : World) (e : Ending) (w' : World) : Prop := e = .returned (.agg #[.int .i64 p1, .int .i64 p2]) ∧ Below w.heap.size w w'
theorem orp_p (A : Option Addr) (n cap : Nat) (xs : List (Int × Int)) (p1 p2 : Int) (hp : orP xs = (p1, p2)) (w : World) (hs : SrcP w w.heap.size A n xs) (hn : n ≤ 9223372036854775807) :
    Calls Try.prog 12 #[.slice A n cap] w (GivesQ p1 p2 w) := by
  have h := orp_any A n cap xs w hs hn
  rw [hp] at h
  exact h
theorem sorp_p (A : Option Addr) (n cap : Nat) (xs : List (Int × Int)) (p1 p2 : Int) (hp : orP xs = (p1, p2)) (w : World) (hs : SrcP w w.heap.size A n xs) (hn : n ≤ 9223372036854775807) :
    Calls Try.prog 13 #[.slice A n cap] w (GivesQ p1 p2 w) := by
  have h := sorp_any A n cap xs w hs hn
  rw [hp] at h
  exact h
theorem has_p (A : Option Addr) (n cap : Nat) (xs : List (Int × Int)) (p1 p2 : Int) (hp : hasP xs (p1, p2) = true) (w : World) (hs : SrcP w w.heap.size A n xs) (hn : n ≤ 9223372036854775807) :
    Calls Try.prog 16 #[.slice A n cap, .agg #[.int .i64 p1, .int .i64 p2]] w (GivesB true w) := by
  have h := hasPair_any A n cap xs p1 p2 w hs hn
  rw [hp] at h
  exact h
theorem src_later {w w' : World} {A : Option Addr} {n : Nat} {xs : List (Int × Int)} (h : SrcP w w.heap.size A n xs) (hb : Below w.heap.size w w') : SrcP w' w'.heap.size A n xs := h.below hb _ hb.size

set_option maxHeartbeats 2000000 in
theorem law_pairs (w : World) (A : Option Addr) (len cap : Nat) (hb : Bytes w A len) : Calls Try.prog 8 #[.slice A len cap] w (Held w) := by
  by_cases hl : 1048576 < len
  · go_enter Try.func8, Try.ntmps8
    go_wp2
    go_ret
    exact ⟨rfl, Below.refl _ _⟩
  · go_enter Try.func8, Try.ntmps8
    go_wp2_with fail
    refine (drawPairs_any w A len cap hb (by omega)).mono ?_
    rintro e w1 ⟨A0, n0, c0, xs, rfl, hT⟩
    have hl0 := hT.len
    obtain ⟨A0', c0', e0, hs0, _⟩ := srcp_own hT.own
    simp at e0
    obtain ⟨rfl, rfl⟩ := e0
    have HS := Lib.hid hs0
    have hB1 := hT.below
    clear hT hs0
    obtain ⟨⟨p1, p2⟩, hp⟩ : ∃ p, orP xs = p := ⟨_, rfl⟩
    have HP := Lib.hid hp
    have HI := Lib.hid (orP_in xs)
    clear hp
    go_wp2_with fail
    refine (orp_p A0 n0 c0 xs p1 p2 HP.out _ HS.out (by omega)).mono ?_
    rintro e w2 ⟨rfl, hB2⟩
    go_wp2_with fail
    have hb3 := Blk.new w2 27 #[.int .i64 p1, .int .i64 p2]
    have hB3 := below_step hB2 (below_new w2 (.cells #[.int .i64 p1, .int .i64 p2] 27))
    generalize w2.alloc (.cells #[.int .i64 p1, .int .i64 p2] 27) = w3 at hb3 hB3 ⊢
    have hlt3 := hb3.lt
    have q0 : _ = some (Value.int .i64 p1) := hb3.cell 0
    have q1 : _ = some (Value.int .i64 p2) := hb3.cell 1
    by_cases h1 : p1 = 0
    · by_cases h2 : p2 = 0
      · subst h1 h2
        first
          | (go_region_with (first
              | (go_at_call 13
                 refine (sorp_p A0 n0 c0 xs 0 0 HP.out _ (src_later HS.out (hB3.drew)) (by omega)).mono ?_
                 rintro e w4 ⟨rfl, hB4⟩
                 have hB14 := below_step hB3.drew hB4
                 have hb4' : Blk w4 w2.heap.size 27 #[.int .i64 0, .int .i64 0] := (hB4.block w2.heap.size hlt3).trans hb3
                 have k0 : _ = some (Value.int .i64 0) := hb4'.cell 0
                 have k1 : _ = some (Value.int .i64 0) := hb4'.cell 1)))
          | fail
        all_goals
          go_wp2
          go_ret
          exact ⟨rfl, below_step hB1 hB14⟩
      · subst h1
        have HH := Lib.hid (show hasP xs (0, p2) = true by
          have h := HI.out
          rw [HP.out] at h
          rcases h with e | e
          · injection e with e1 e2; exact absurd e2 h2
          · exact e)
        have e2 : (p2 == 0) = false := by simp [h2]
        clear h2
        go_region_held3 (fun W => W.cell? ⟨w2.heap.size, 0, none⟩ = some (.int .i64 0) ∧ W.cell? ⟨w2.heap.size, 1, none⟩ = some (.int .i64 p2))
          (first | go_keep | exact ⟨k0, k1⟩ | exact ⟨m0, m1⟩)
          (first
            | (go_at_call 13
               refine (sorp_p A0 n0 c0 xs 0 p2 HP.out _ (src_later HS.out (hB3.drew)) (by omega)).mono ?_
               rintro e w4 ⟨rfl, hB4⟩
               have hB14 := below_step hB3.drew hB4
               have hb4' : Blk w4 w2.heap.size 27 #[.int .i64 0, .int .i64 p2] := (hB4.block w2.heap.size hlt3).trans hb3
               have hlt4 := hb4'.lt
               have k0 : _ = some (Value.int .i64 0) := hb4'.cell 0
               have k1 : _ = some (Value.int .i64 p2) := hb4'.cell 1)
            | (go_at_call 16
               refine (has_p A0 n0 c0 xs 0 p2 HH.out _ (src_later HS.out hB14) (by omega)).mono ?_
               rintro e w5 ⟨rfl, hB5⟩
               have hB15 := below_step hB14 hB5
               have hb5' : Blk w5 w2.heap.size 27 #[.int .i64 0, .int .i64 p2] := (hB5.block w2.heap.size hlt4).trans hb4'
               have m0 : _ = some (Value.int .i64 0) := hb5'.cell 0
               have m1 : _ = some (Value.int .i64 p2) := hb5'.cell 1))
        go_wp2
        go_ret
        exact ⟨rfl, below_step hB1 hB15⟩
    · have HH := Lib.hid (show hasP xs (p1, p2) = true by
        have h := HI.out
        rw [HP.out] at h
        rcases h with e | e
        · injection e with e1 e2; exact absurd e1 h1
        · exact e)
      have e1 : (p1 == 0) = false := by simp [h1]
      clear h1
      go_region_held3 (fun W => W.cell? ⟨w2.heap.size, 0, none⟩ = some (.int .i64 p1) ∧ W.cell? ⟨w2.heap.size, 1, none⟩ = some (.int .i64 p2))
        (first | go_keep | exact ⟨k0, k1⟩ | exact ⟨m0, m1⟩)
        (first
          | (go_at_call 13
             refine (sorp_p A0 n0 c0 xs p1 p2 HP.out _ (src_later HS.out (hB3.drew)) (by omega)).mono ?_
             rintro e w4 ⟨rfl, hB4⟩
             have hB14 := below_step hB3.drew hB4
             have hb4' : Blk w4 w2.heap.size 27 #[.int .i64 p1, .int .i64 p2] := (hB4.block w2.heap.size hlt3).trans hb3
             have hlt4 := hb4'.lt
             have k0 : _ = some (Value.int .i64 p1) := hb4'.cell 0
             have k1 : _ = some (Value.int .i64 p2) := hb4'.cell 1)
          | (go_at_call 16
             refine (has_p A0 n0 c0 xs p1 p2 HH.out _ (src_later HS.out hB14) (by omega)).mono ?_
             rintro e w5 ⟨rfl, hB5⟩
             have hB15 := below_step hB14 hB5
             have hb5' : Blk w5 w2.heap.size 27 #[.int .i64 p1, .int .i64 p2] := (hB5.block w2.heap.size hlt4).trans hb4'
             have m0 : _ = some (Value.int .i64 p1) := hb5'.cell 0
             have m1 : _ = some (Value.int .i64 p2) := hb5'.cell 1))
      go_wp2
      go_ret
      exact ⟨rfl, below_step hB1 hB15⟩
end Go.Proofs.Ytljgipokaocgeaa.Dr
