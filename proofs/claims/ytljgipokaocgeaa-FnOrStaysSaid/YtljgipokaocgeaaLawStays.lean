/-
  The list of which the first value that is not zero is asked stays as it is; and of 0 and 3 it is 3. No conditions.
-/
import Derived.Test.YtljgipokaocgeaaLawPairs
namespace Go.Proofs.Ytljgipokaocgeaa.Dr
open Go.ChangeShapes Go.WideShapes Go.ChangeAt Go.RowKit

theorem Bytes.later {w w' : World} {A : Option Addr} {len : Nat} (h : Bytes w A len) (hb : Below w.heap.size w w') : Bytes w' A len := by
  intro hp
  obtain ⟨b, off, e, hlt, hc⟩ := h hp
  refine ⟨b, off, e, Nat.lt_of_lt_of_le hlt hb.size, fun i hi => ?_⟩
  obtain ⟨z, h0, h1, h2⟩ := hc i hi
  exact ⟨z, h0, h1, (hb.cell (p := ⟨b, off + i, none⟩) hlt).trans h2⟩

theorem flat_one (ps : List (Int × Int)) : ∀ u ∈ flat ps, u.oneCell' = true := by
  intro u hu
  obtain ⟨p, _, hp⟩ := List.mem_flatMap.1 hu
  simp only [cells2, List.mem_cons, List.not_mem_nil, or_false] at hp
  rcases hp with rfl | rfl <;> rfl

theorem Src.later {w w' : World} {A : Option Addr} {m size : Nat} {us : List Value} (h : Src w A m size us) (hb : Below w.heap.size w w') : Src w' A m size us := by
  refine ⟨h.1, fun hm => ?_⟩
  obtain ⟨ad, e, hc⟩ := h.2 hm
  exact ⟨ad, e, fun j u hu => (hb.cell (World.block_lt_of_cell? w _ (hc j u hu))).trans (hc j u hu)⟩
theorem samePairs_b (A A' : Option Addr) (n cap cap' : Nat) (xs : List (Int × Int)) (w : World) (hs : SrcP w w.heap.size A n xs) (hs' : SrcP w w.heap.size A' n xs) (hn : n ≤ 9223372036854775807) :
    Calls Try.prog 17 #[.slice A n cap, .slice A' n cap'] w (GivesB true w) :=
  (samePairs_any A A' n cap cap' xs _ w hs hs' hn).mono fun _ _ ⟨he, q, hq⟩ => ⟨he, by rw [hq]; exact drewN_below (Below.refl _ _) q⟩

def TRel (n : Nat) (w : World) (i : Value) (wr : World) : Prop := ∃ k q : Nat, k ≤ n ∧ i = .int .i64 (k : Int) ∧ wr = w.drewN q

set_option maxHeartbeats 2000000 in
theorem law_stays (w : World) (A : Option Addr) (len cap : Nat) (hb : Bytes w A len) : Calls Try.prog 9 #[.slice A len cap] w (Held w) := by
  obtain ⟨i0, hi0, hz0, hz1, hz2⟩ := info_parts elemInfo
  obtain ⟨j0, hj0, hy0, hy1, hy2⟩ := info_parts pairInfo
  have Hi := Lib.hid hi0
  have Hz0 := Lib.hid hz0
  have Hz1 := Lib.hid hz1
  have Hz2 := Lib.hid hz2
  have Hj := Lib.hid hj0
  have Hy0 := Lib.hid hy0
  have Hy1 := Lib.hid hy1
  have Hy2 := Lib.hid hy2
  clear hi0 hz0 hz1 hz2 hj0 hy0 hy1 hy2
  by_cases hl : 1048576 < len
  · go_enter Try.func9, Try.ntmps9
    go_wp2
    go_ret
    exact ⟨rfl, Below.refl _ _⟩
  · go_enter Try.func9, Try.ntmps9
    go_wp2_with fail
    refine (or_any _ 2 2 [0, 3] _ (src_new w _ _ 2 rfl) (by omega)).mono ?_
    rintro e w' ⟨rfl, rfl⟩
    rw [first_three]
    go_wp2_with fail
    refine (two_any _ A len cap (hb.alloc _) (by omega)).mono ?_
    rintro e w1 ⟨A0, n0, c0, xs, A1, n1, c1, ys, rfl, hT⟩
    have hl0 := hT.l0
    have hB1 := below_step (below_new w _) hT.below
    have HT0 := Lib.hid hT.own0
    have hnil0 := hT.nil0
    clear hT
    go_wp2_with (first
      | (at_builtin
         refine wpList_app _ rfl (.tmp 22) (.tmp 23) 22 rfl w.heap.size 3 i0 (Value.int .i64 0) 1 8 Try.underlying22 Hi.out Hz0.out Hz1.out Hz2.out rfl (by omega) (.slice (some ⟨w1.heap.size, 0, none⟩) 0 0) 0 [] rfl (World.ownsRow_lit w1 #[] 0 hB1.size (by unfold maxLen; omega) rfl)
           A0 n0 c0 (xs.map (Value.int .i64)) rfl hnil0 (src_own (HT0.out.alloc _)) (by intro u hu; obtain ⟨y, _, rfl⟩ := List.mem_map.1 hu; rfl) (by unfold maxLen; omega) (by omega) (by have := hB1.size; simp; omega) ?_
         intro v2 w2 hown2 hg2 hat2
         have hB2 : Below w1.heap.size w1 w2 := below_app (below_new w1 _) hg2 (fun k hk => by simp [Value.ownBlock] at hk; omega)
         clear hg2 hat2))
    have hown2' : w2.ownsRow w.heap.size 3 1 v2 n0 (xs.map (Value.int .i64)) := by simpa using hown2
    obtain ⟨A2, c2, hv2, hs2, _⟩ := Src.of_own hown2'
    have HO2 := Lib.hid (show w2.ownsRow w.heap.size 3 1 (.slice A2 n0 c2) n0 (xs.map (Value.int .i64)) by rw [← hv2]; exact hown2')
    clear hs2 hown2 hown2'
    rw [hv2]
    clear hv2
    have hBw2 := below_step hB1 hB2
    refine (drawPairs_any _ A len cap (hb.later hBw2) (by omega)).mono ?_
    rintro e w3 ⟨P0, m0, d0, ps, rfl, hP⟩
    have hm0 := hP.len
    have hB3 := hP.below
    have hnilP := nil_own hP.own
    have HP0 := Lib.hid hP.own
    clear hP
    have hBw3 := below_step hBw2 hB3
    go_wp2_with (first
      | (at_builtin
         refine wpList_app _ rfl (.tmp 27) (.tmp 28) 25 rfl w.heap.size 27 j0 (.agg #[.int .i64 0, .int .i64 0]) 2 16 Try.underlying25 Hj.out Hy0.out Hy1.out Hy2.out rfl (by omega) (.slice (some ⟨w3.heap.size, 0, none⟩) 0 0) 0 [] rfl (World.ownsRow_lit w3 #[] 0 hBw3.size (by unfold maxLen; omega) rfl)
           P0 m0 d0 (flat ps) rfl hnilP (src_own (HP0.out.alloc _)) (flat_one ps) (by unfold maxLen; omega) (by omega) (by have := hBw3.size; simp; omega) ?_
         intro v4 w4 hown4 hg4 hat4
         have hB4 : Below w3.heap.size w3 w4 := below_app (below_new w3 _) hg4 (fun k hk => by simp [Value.ownBlock] at hk; omega)
         clear hg4 hat4))
    obtain ⟨A4, d4, hv4, hs4, _⟩ := srcp_own (n := m0) (xs := ps) (by simpa using hown4)
    have HS4 := Lib.hid hs4
    clear hs4 hown4
    rw [hv4]
    clear hv4
    have hB34 := below_step hB3 hB4
    have HA := Lib.hid (own_below HO2.out hB34)
    refine (or_any A2 n0 c2 xs _ (src_own HA.out) (by omega)).mono ?_
    rintro e w' ⟨rfl, rfl⟩
    obtain ⟨⟨p1, p2⟩, hp⟩ : ∃ p, orP ps = p := ⟨_, rfl⟩
    have HP := Lib.hid hp
    clear hp
    obtain ⟨P0', d0', e0, hs0, _⟩ := srcp_own HP0.out
    simp at e0
    obtain ⟨rfl, rfl⟩ := e0
    have HSP := Lib.hid (src_later hs0 hB4)
    clear hs0
    go_wp2_with fail
    refine (orp_p P0 m0 d0 ps p1 p2 HP.out _ HSP.out (by omega)).mono ?_
    rintro e w5 ⟨rfl, hB5⟩
    go_wp2_with fail
    have hb6 := Blk.new w5 27 #[.int .i64 p1, .int .i64 p2]
    have hB56 := below_new w5 (.cells #[.int .i64 p1, .int .i64 p2] 27)
    generalize w5.alloc (.cells #[.int .i64 p1, .int .i64 p2] 27) = w6 at hb6 hB56 ⊢
    have hB46 := below_step hB5 hB56
    have HA6 := Lib.hid (src_own (own_below HA.out hB46))
    have HB6 := Lib.hid (src_own (own_below HT0.out (below_step (below_step hB2 hB34) hB46)))
    have HP6 := Lib.hid (src_later HSP.out hB46)
    have HQ6 := Lib.hid (src_later HS4.out hB46)
    have hBw6 := below_step (below_step hBw3 hB4) hB46
    have hlt6 := hb6.lt
    have q0 : _ = some (Value.int .i64 p1) := hb6.cell 0
    have q1 : _ = some (Value.int .i64 p2) := hb6.cell 1
    clear HA HT0 HSP HS4 HO2 HP0 hB1 hB2 hB3 hB4 hB5 hB34 hB46 hB56 hBw2 hBw3
    go_loopw [10] (fun i wr => TRel n0 w6 i wr) (fun i _ => n0 - (intOf i).toNat)
    case atStart => exact ⟨0, 0, by omega, rfl, rfl⟩
    case round =>
      obtain ⟨k, q, hk, rfl, rfl⟩ := hrel
      by_cases hlt : k < n0
      · obtain ⟨b, off, rfl, hc⟩ := HA6.out.at hlt
        obtain ⟨b', off', rfl, hc'⟩ := HB6.out.at hlt
        have hlen : k < xs.length := by have := HA6.out.1; simp at this; omega
        have hxk : (xs.map (Value.int .i64))[k]? = some (Value.int .i64 xs[k]) := by rw [List.getElem?_map, List.getElem?_eq_getElem hlen]; rfl
        generalize xs[k] = x at hxk
        have g1 := hc _ hxk
        have g2 := hc' _ hxk
        clear hc hc' hxk hlen
        have hk0 : (0 : Int) ≤ (k : Int) := by omega
        have hk1 : (k : Int) < (n0 : Int) := by omega
        go_wp2
        go_quiet (fail)
        go_wp2
        exact ⟨⟨k + 1, q + nq, by omega, by go_num, rfl⟩, by simp [intOf]; omega⟩
      · go_wp2_with fail
        have hB67 := drewN_below (Below.refl w6.heap.size w6) q
        have hb7 := hb6.drewN q
        generalize w6.drewN q = w7 at hB67 hb7 ⊢
        have hlt7 := hb7.lt
        have hB7 := hB67.drew
        have q0 : _ = some (Value.int .i64 p1) := hb7.cell 0
        have q1 : _ = some (Value.int .i64 p2) := hb7.cell 1
        go_region_held3 (fun W => W.cell? ⟨w5.heap.size, 0, none⟩ = some (.int .i64 p1) ∧ W.cell? ⟨w5.heap.size, 1, none⟩ = some (.int .i64 p2))
          (first | go_keep | exact ⟨k0, k1⟩ | exact ⟨m0', m1'⟩)
          (first
            | (go_at_call 17
               refine (samePairs_b P0 A4 m0 d0 d4 ps _ (src_later HP6.out hB7) (src_later HQ6.out hB7) (by omega)).mono ?_
               rintro e w8 ⟨rfl, hB8⟩
               have hB68 := below_step hB7 hB8
               have hb8 : Blk w8 w5.heap.size 27 #[.int .i64 p1, .int .i64 p2] := (hB8.block w5.heap.size hlt7).trans hb7
               have hlt8 := hb8.lt
               have k0 : _ = some (Value.int .i64 p1) := hb8.cell 0
               have k1 : _ = some (Value.int .i64 p2) := hb8.cell 1)
            | (go_at_call 10
               refine (or_any A0 n0 c0 xs _ (HB6.out.later hB68) (by omega)).mono ?_
               rintro e w' ⟨rfl, rfl⟩)
            | (go_at_call 12
               refine (orp_p A4 m0 d4 ps p1 p2 HP.out _ (src_later HQ6.out hB68) (by omega)).mono ?_
               rintro e w9 ⟨rfl, hB9⟩
               have hB69 := below_step hB68 hB9
               have hb9 : Blk w9 w5.heap.size 27 #[.int .i64 p1, .int .i64 p2] := (hB9.block w5.heap.size hlt8).trans hb8
               have m0' : _ = some (Value.int .i64 p1) := hb9.cell 0
               have m1' : _ = some (Value.int .i64 p2) := hb9.cell 1))
        go_wp2
        go_ret
        exact ⟨rfl, below_step hBw6 hB69⟩
end Go.Proofs.Ytljgipokaocgeaa.Dr
