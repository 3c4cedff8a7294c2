/-
  Two drawn lists: DrawOrInts returns two slices of the call's own, and turns nothing that was there. Conditions: at most 1048576 bytes.
-/
import Derived.Test.YtljgipokaocgeaaOwn
import Derived.Deep.RegionLaw
namespace Go.Proofs.Ytljgipokaocgeaa.Dr
open Go.ChangeShapes Go.WideShapes Go.ChangeAt Go.RowKit

theorem elemInfo : (Try.prog.info? 3).map (fun i => (i.zero, i.size, i.bytes)) = some (some (Value.int .i64 0), 1, 8) := by kernel_rfl

def DrawnOr (w : World) (A : Option Addr) (len cap : Nat) (e : Ending) (w' : World) : Prop :=
  ∃ (f : Nat → Value) (L : Nat → List Int) (q : Nat), e = .returned (.tuple #[f 0, f 1]) ∧ OrSt w w' A len cap q f L ∧ (L 0).length + (L 1).length ≤ 10

def ORel (w : World) (A : Option Addr) (len cap : Nat) (i : Value) (wr : World) : Prop :=
  ∃ (k q : Nat) (f : Nat → Value) (L : Nat → List Int), k ≤ 2 ∧ i = .int .i64 (k : Int) ∧ OrSt w wr A len cap q f L ∧ q ≤ 100 * k ∧ (L 0).length + (L 1).length ≤ 5 * k

def IRel (w : World) (A : Option Addr) (len cap k : Nat) (i : Value) (wr : World) : Prop :=
  ∃ (n q : Nat) (f : Nat → Value) (L : Nat → List Int), n ≤ 5 ∧ i = .int .i64 (n : Int) ∧ OrSt w wr A len cap q f L ∧ q + 12 * n ≤ 100 * k + 70 ∧ (L 0).length + (L 1).length + n ≤ 5 * k + 5

set_option maxHeartbeats 2000000 in
theorem drawOr_any (w : World) (A : Option Addr) (len cap : Nat) (hb : Bytes w A len) (hl : len ≤ 1048576) :
    Calls Try.prog 14 #[.slice A len cap] w (DrawnOr w A len cap) := by
  obtain ⟨i0, hi0, hz0, hz1, hz2⟩ := info_parts elemInfo
  have Hi := Lib.hid hi0
  have Hz0 := Lib.hid hz0
  have Hz1 := Lib.hid hz1
  have Hz2 := Lib.hid hz2
  clear hi0 hz0 hz1 hz2
  go_enter Try.func14, Try.ntmps14
  go_wp2
  go_loopw [6] (fun i wr => ORel w A len cap i wr) (fun i _ => 2 - (intOf i).toNat)
  case atStart => exact ⟨0, 0, _, _, by omega, rfl, OrSt.start w A len cap hb hl, by omega, by simp⟩
  case round =>
    obtain ⟨k, q, f, L, hk, rfl, hO, hq, hsum⟩ := hrel
    by_cases hlt : k < 2
    · go_wp2_with fail
      refine (pick_any 6 hO.st (by omega) (by omega)).mono ?_
      rintro e w1 ⟨n0, hn0, rfl, hg1, S1⟩
      have hO1 := hO.read hg1 S1
      clear hO
      go_wp2_with fail
      go_loopw [7] (fun i wr => IRel w A len cap k i wr) (fun i _ => (intOf i).toNat)
      case atStart => exact ⟨n0, q + 1, f, L, by omega, rfl, hO1, by omega, by omega⟩
      case round =>
        clear hO1 S1 hg1 hq hsum
        obtain ⟨n, q, f, L, hn, rfl, hO, hq, hsum⟩ := hrel
        have hle := le_sum L hlt
        rcases Nat.eq_zero_or_pos n with h0 | h0
        · subst h0
          go_wp2
          go_roundw
          case rel => exact ⟨k + 1, q, f, L, by omega, by go_num, hO, by omega, by omega⟩
          case measure => simp [intOf]; omega
        · go_wp2_with fail
          refine (pick_any 2 hO.st (by omega) (by omega)).mono ?_
          rintro e w2 ⟨m, hm, rfl, hg2, S2⟩
          have hO2 := hO.read hg2 S2
          clear hO hg2
          rcases (by omega : m = 0 ∨ m = 1) with rfl | rfl
          · have hc2 := hO2.cell hlt
            go_wp2_with (first
              | (at_builtin
                 refine wpList_append_lies _ rfl _ _ 22 rfl (w.heap.size + 2) 3 i0 (Value.int .i64 0) 1 8 Try.underlying22 Hi.out Hz0.out Hz1.out Hz2.out rfl (by omega) (f k) (L k).length ((L k).map (Value.int .i64)) rfl ((hO2.alloc _).own hlt)
                   ⟨w2.heap.size, 0, none⟩ 1 1 [Value.int .i64 0] rfl rfl (cell_one_new _ _ _) (by simp [Value.oneCell']) (by omega) (by unfold maxLen; omega) (by omega) (hO2.alloc _).size _ rfl ?_
                 intro gg c w3 hown3 hg3 hat3 hlt3
                 obtain ⟨hc3, hf3⟩ := (hO2.alloc _).slot hlt hg3
                 have hO3 := (hO2.alloc _).app hlt 0 (by decide) hown3 hg3 hat3
                 clear hown3 hg3 hat3))
            have hus := upd_sum L hlt 0
            exact ⟨⟨n - 1, q + 1, _, _, by omega, by go_num, hO3, by omega, by omega⟩, by simp [intOf]; omega⟩
          · have hc2 := hO2.cell hlt
            have hk0 : (0 : Int) ≤ (k : Int) := by omega
            have hk1 : (k : Int) < 2 := by omega
            go_wp2_with fail
            go_region_law (first
              | (refine step_append_lies _ (by rfl) _ _ _ (by rfl) (w.heap.size + 2) 3 i0 (Value.int .i64 0) 1 8 Try.underlying22 Hi.out Hz0.out Hz1.out Hz2.out rfl (by omega) (f k) (L k).length ((L k).map (Value.int .i64)) (by rfl) ((hO3.alloc _).own hlt)
                   ⟨w3.heap.size, 0, none⟩ 1 1 [Value.int .i64 x] (by rfl) (by rfl) (cell_one_new _ _ _) (by simp [Value.oneCell']) (by omega) (by unfold maxLen; omega) (by omega) (hO3.alloc _).size _ rfl ?_
                 intro gg c w4 hown4 hg4 hat4 hlt4
                 obtain ⟨hc4, hf4⟩ := (hO3.alloc _).slot hlt hg4
                 have hO4 := (hO3.alloc _).app hlt x hx hown4 hg4 hat4)
              | (go_simp
                 go_at_call 21
                 refine (anInt_any hO2.drew.st (by omega)).mono ?_
                 rintro e w3 ⟨x, q3, hx, rfl, hg3, S3, hq3⟩
                 have hO3 := hO2.drew.read hg3 S3
                 have hc3 := hO3.cell hlt
                 have hc3a := fun o => (hO3.alloc o).cell hlt))
            all_goals
              go_wp2
              have hus := upd_sum L hlt x
              exact ⟨⟨n - 1, q3, _, _, by omega, by go_num, hO4, by omega, by omega⟩, by simp [intOf]; omega⟩
    · obtain rfl : k = 2 := by omega
      have hc0 := hO.cell (k := 0) (by omega)
      have hc1 := hO.cell (k := 1) (by omega)
      go_wp2
      go_quiet (fail)
      go_wp2
      go_ret2
      exact ⟨f, L, q, rfl, hO.drewN _, by omega⟩
end Go.Proofs.Ytljgipokaocgeaa.Dr
