/-
  The reader of the drawn numbers: what its method pick returns (a number from 0 to n-1), and what it leaves in memory. Conditions: the bytes are at most 1048576, the place is at most 2097152.
-/
import Derived.Test.YtljgipokaocgeaaRows
import Derived.WalkKit
import Derived.ProofKit
import Derived.OpenShut
import Derived.WalkLawsBesides
import Derived.WalkSpells
import Derived.Below
import Derived.Laws.OwnMore
import Derived.Laws.Rows
import Derived.Deep.Draws
import Derived.Deep.QuietTactic
import Derived.BigQuiet
import Derived.Lib.Hide
import Derived.IntWalk
import Derived.Laws.BitsAllLaws
import Derived.Laws.BitsLemmas
namespace Go.Proofs.Ytljgipokaocgeaa.Dr
open Go.ChangeShapes Go.WideShapes Go.ChangeAt Go.RowKit

/-- Block g holds just these cells. -/
def Blk (w : World) (g : Nat) (t : TypeId) (cs : Array Value) : Prop := w.heap[g]? = some (.cells cs t (0, 0))

section
variable {w w' : World} {g : Nat} {t : TypeId} {cs : Array Value}
theorem Blk.cell (h : Blk w g t cs) (i : Nat) : w.cell? ⟨g, i, none⟩ = cs[i]? := cell_of_row w g i cs t (0, 0) h
theorem Blk.frozen (h : Blk w g t cs) (i : Nat) : w.frozen? ⟨g, i, none⟩ = false := by
  unfold Blk at h
  simp [World.frozen?, h]
theorem Blk.lt (h : Blk w g t cs) : g < w.heap.size := by
  unfold Blk at h
  exact (Array.getElem?_eq_some_iff.1 h).1
theorem Blk.set (h : Blk w g t cs) (i : Nat) (u : Value) : Blk (w.setCell ⟨g, i, none⟩ u) g t (cs.setIfInBounds i u) := by
  unfold Blk at h ⊢
  simp [World.setCell, Array.getElem?_modify, h]
theorem Blk.drewN (h : Blk w g t cs) (n : Nat) : Blk (w.drewN n) g t cs := h
theorem Blk.new (w : World) (t : TypeId) (cs : Array Value) : Blk (w.alloc (.cells cs t)) w.heap.size t cs := heap_alloc_new w _
theorem Blk.alloc (h : Blk w g t cs) (o : Obj) : Blk (w.alloc o) g t cs := (Below.heap_alloc w o g h.lt).trans h
theorem Blk.grown {row : Option Nat} (h : Blk w g t cs) (hb : w.grownBy w' row) (hg : some g ≠ row) : Blk w' g t cs := (hb.block g h.lt hg).trans h
end

theorem grown_trans {a b c : World} {g : Nat} (h : a.grownBy b (some g)) (k : b.grownBy c (some g)) : a.grownBy c (some g) :=
  ⟨k.os.trans h.os, k.tape.trans h.tape, k.output.trans h.output, Nat.le_trans h.size k.size, fun i hi hne => (k.block i (Nat.lt_of_lt_of_le hi h.size) hne).trans (h.block i hi hne)⟩
theorem grown_drewN {a b : World} {row : Option Nat} (h : a.grownBy b row) (n : Nat) : a.grownBy (b.drewN n) row := ⟨h.os, h.tape, h.output, h.size, h.block⟩

/-- What is known of the bytes: at each index below len a byte. -/
def Bytes (w : World) (A : Option Addr) (len : Nat) : Prop :=
  0 < len → ∃ b off, A = some ⟨b, off, none⟩ ∧ b < w.heap.size ∧ ∀ i, i < len → ∃ z : Int, 0 ≤ z ∧ z ≤ 255 ∧ w.cell? ⟨b, off + i, none⟩ = some (.int .u8 z)

/-- What the row's own step tells of a slice of bytes that came in. -/
theorem bytes_of {w : World} {a : Option Addr} {len cap : Nat} {zs : List Int}
    (h : (a = none ∧ len = 0 ∧ cap = 0 ∧ zs = []) ∨ ∃ x, a = some x ∧ len ≤ cap ∧ cap ≤ maxLen ∧ zs.length = cap ∧ (∀ i, i < zs.length → w.cell? (x.add i) = some (.int .u8 (zs.getD i 0))) ∧ ∀ n ∈ zs, (Lit.int .u8 n).wf = true) :
    Bytes w a len := by
  intro hpos
  rcases h with ⟨_, h0, _⟩ | ⟨x, rfl, hl, _, hz, hc, hw⟩
  · omega
  · obtain ⟨b, off, spot⟩ := x
    have h0 := hc 0 (by omega)
    have hspot : spot = none := by simpa [Addr.add] using World.cell?_spot h0
    subst hspot
    have add : ∀ i, (⟨b, off, none⟩ : Addr).add i = ⟨b, off + i, none⟩ := fun i => by unfold Addr.add; split <;> simp_all
    refine ⟨b, off, rfl, World.block_lt_of_cell? w _ h0, fun i hi => ?_⟩
    have hi' : i < zs.length := by omega
    have hci := hc i hi'
    rw [add] at hci
    have hm : zs.getD i 0 ∈ zs := by rw [List.getD_eq_getElem?_getD, List.getElem?_eq_getElem hi']; simp
    have hb := hw _ hm
    exact ⟨_, (bounds_u8 hb).1, (bounds_u8 hb).2, hci⟩

/-- The reader lies in block g: it has the bytes, and stands at p; below the size that the heap had at w0 nothing has turned. -/
structure St (w0 w : World) (g : Nat) (A : Option Addr) (len cap p : Nat) : Prop where
  below : Below w0.heap.size w0 w
  base : w0.heap.size ≤ g
  blk : Blk w g 41 #[.slice A len cap, .int .i64 (p : Int)]
  bytes : Bytes w0 A len
  len : len ≤ 1048576

section
variable {w0 w w' : World} {g : Nat} {A : Option Addr} {len cap p : Nat}
theorem St.alloc (S : St w0 w g A len cap p) (o : Obj) : St w0 (w.alloc o) g A len cap p :=
  ⟨S.below.alloc S.below.size o, S.base, S.blk.alloc o, S.bytes, S.len⟩
theorem St.other {row : Nat} (S : St w0 w g A len cap p) (h : w.grownBy w' (some row)) (hb : w0.heap.size ≤ row) (hne : g ≠ row) : St w0 w' g A len cap p :=
  ⟨S.below.grown h S.below.size (fun k hk => by injection hk with hk; omega), S.base, S.blk.grown h (fun e => by injection e with e; exact hne e), S.bytes, S.len⟩
theorem St.drewN (S : St w0 w g A len cap p) (n : Nat) : St w0 (w.drewN n) g A len cap p :=
  ⟨⟨S.below.os, S.below.tape, S.below.output, S.below.size, S.below.block⟩, S.base, S.blk, S.bytes, S.len⟩
theorem St.mk0 (w : World) (A : Option Addr) (len cap : Nat) (hb : Bytes w A len) (hl : len ≤ 1048576) : St w (w.alloc (.cells #[.slice A len cap, .int .i64 0] 41)) w.heap.size A len cap 0 :=
  ⟨(Below.refl _ _).alloc (Nat.le_refl _) _, Nat.le_refl _, Blk.new _ _ _, hb, hl⟩
end

def Picked (w0 w : World) (g : Nat) (A : Option Addr) (len cap p : Nat) (n : Int) (e : Ending) (w' : World) : Prop :=
  ∃ m : Nat, (m : Int) < n ∧ e = .returned (.int .i64 (m : Int)) ∧ w.grownBy w' (some g) ∧ St w0 w' g A len cap (p + 1)

theorem picked_mk {w0 w : World} {g : Nat} {A : Option Addr} {len cap p : Nat} {n m : Int} {e : Ending} {w' : World} (S : St w0 w g A len cap p) (k : Nat)
    (hw : w' = (w.setCell ⟨g, 1, none⟩ (.int .i64 ((p : Int) + 1))).drewN k) (h0 : 0 ≤ m) (h1 : m < n) (he : e = .returned (.int .i64 m)) : Picked w0 w g A len cap p n e w' := by
  subst hw
  obtain ⟨m, rfl⟩ := Int.eq_ofNat_of_zero_le h0
  have hb := ((S.below.setCell (p := ⟨g, 1, none⟩) S.base (.int .i64 ((p : Int) + 1))))
  have hk := (S.blk.set 1 (.int .i64 ((p : Int) + 1))).drewN k
  refine ⟨m, h1, he, ⟨rfl, rfl, rfl, by simp [World.setCell], fun i hi hne => ?_⟩, ⟨⟨hb.os, hb.tape, hb.output, hb.size, hb.block⟩, S.base, hk, S.bytes, S.len⟩⟩
  exact Below.heap_setCell w ⟨g, 1, none⟩ _ i (fun e => hne (by rw [e]))

theorem xor_nonneg (x y : Int) (hx : 0 ≤ x) (hy : 0 ≤ y) (hx1 : x < 9223372036854775808) (hy1 : y < 9223372036854775808) : 0 ≤ bits .xor .i64 x y := by
  obtain ⟨a, rfl⟩ := Int.eq_ofNat_of_zero_le hx
  obtain ⟨b, rfl⟩ := Int.eq_ofNat_of_zero_le hy
  have ea : (BitVec.ofInt 64 (a : Int)).toNat = a := by rw [BitVec.ofInt_natCast, BitVec.toNat_ofNat]; exact Nat.mod_eq_of_lt (by omega)
  have eb : (BitVec.ofInt 64 (b : Int)).toNat = b := by rw [BitVec.ofInt_natCast, BitVec.toNat_ofNat]; exact Nat.mod_eq_of_lt (by omega)
  have hlt : a ^^^ b < 2 ^ 63 := Nat.xor_lt_two_pow (by omega) (by omega)
  have e : bits .xor .i64 (a : Int) (b : Int) = ((a ^^^ b : Nat) : Int) := by
    show IntKind.i64.wrap ((BitVec.ofInt 64 (a : Int) ^^^ BitVec.ofInt 64 (b : Int)).toNat : Int) = _
    rw [BitVec.toNat_xor, ea, eb, IntKind.wrap_i64]
    omega
  rw [e]
  omega

theorem tmod_range (x n : Int) (hx : 0 ≤ x) (hn : 1 ≤ n) : 0 ≤ x.tmod n ∧ x.tmod n < n := by
  rw [Int.tmod_eq_emod_of_nonneg hx]
  exact ⟨Int.emod_nonneg _ (by omega), Int.emod_lt_of_pos _ (by omega)⟩

set_option maxHeartbeats 1000000 in
theorem pick_zero (A : Option Addr) (cap g p : Nat) (n : Int) (w : World) (hB : Blk w g 41 #[.slice A 0 cap, .int .i64 (p : Int)])
    (hp : p ≤ 2097152) (hn : 1 ≤ n) (R : Ending → World → Prop)
    (hR : R (.returned (.int .i64 0)) (w.setCell ⟨g, 1, none⟩ (.int .i64 ((p : Int) + 1)))) :
    Calls Try.prog 20 #[.pointer (some ⟨g, 0, none⟩), .int .i64 n] w R := by
  have h0 := hB.cell 0
  have h1 := hB.cell 1
  have f1 := hB.frozen 1
  simp at h0 h1
  go_enter Try.func20, Try.ntmps20
  go_wp2
  exact hR

set_option maxHeartbeats 1000000 in
theorem pick_near (b off len cap g p : Nat) (n z : Int) (w : World) (hB : Blk w g 41 #[.slice (some ⟨b, off, none⟩) len cap, .int .i64 (p : Int)])
    (hl : len ≤ 1048576) (hp : p < len) (hn : 1 ≤ n) (hz0 : 0 ≤ z) (hz1 : z ≤ 255) (hne : b ≠ g) (hc : w.cell? ⟨b, off + p, none⟩ = some (.int .u8 z)) (R : Ending → World → Prop)
    (hR : R (.returned (.int .i64 (z % n))) (w.setCell ⟨g, 1, none⟩ (.int .i64 ((p : Int) + 1)))) :
    Calls Try.prog 20 #[.pointer (some ⟨g, 0, none⟩), .int .i64 n] w R := by
  have h0 := hB.cell 0
  have h1 := hB.cell 1
  have f1 := hB.frozen 1
  simp at h0 h1
  have hlen0 : ((len : Int) == 0) = false := by simp; omega
  go_enter Try.func20, Try.ntmps20
  go_wp2
  exact hR

set_option maxHeartbeats 2000000 in
set_option maxRecDepth 100000 in
theorem pick_far (b off len cap g p : Nat) (n z y : Int) (w : World) (hB : Blk w g 41 #[.slice (some ⟨b, off, none⟩) len cap, .int .i64 (p : Int)])
    (hl : len ≤ 1048576) (hl0 : 0 < len) (hp : len ≤ p) (hp2 : p ≤ 2097152) (hn : 1 ≤ n) (hz0 : 0 ≤ z) (hz1 : z ≤ 255) (hy0 : 0 ≤ y) (hy1 : y ≤ 255) (hne : b ≠ g)
    (hc : w.cell? ⟨b, off + p % len, none⟩ = some (.int .u8 z)) (hd : w.cell? ⟨b, off + (p * 7 + 3) % len, none⟩ = some (.int .u8 y)) (R : Ending → World → Prop)
    (hR : Hid (∀ (m : Int) (k : Nat), 0 ≤ m → m < n → R (.returned (.int .i64 m)) ((w.setCell ⟨g, 1, none⟩ (.int .i64 ((p : Int) + 1))).drewN k))) :
    Calls Try.prog 20 #[.pointer (some ⟨g, 0, none⟩), .int .i64 n] w R := by
  have h0 := hB.cell 0
  have h1 := hB.cell 1
  have f1 := hB.frozen 1
  simp at h0 h1
  have hlen0 : ((len : Int) == 0) = false := by simp; omega
  have hm1 : p % len < len := Nat.mod_lt _ hl0
  have hm2 : (p * 7 + 3) % len < len := Nat.mod_lt _ hl0
  go_enter Try.func20, Try.ntmps20
  go_wp2
  have hi0 : (0 : Int) ≤ ((p : Int) * 7 + 3) % (len : Int) := Int.emod_nonneg _ (by omega)
  have hi1 : ((p : Int) * 7 + 3) % (len : Int) < (len : Int) := Int.emod_lt_of_pos _ (by omega)
  have hq0 : (0 : Int) ≤ (p : Int) / (len : Int) := Int.ediv_nonneg (by omega) (by omega)
  have hq1 : (p : Int) / (len : Int) ≤ 2097152 := by
    have := Int.ediv_le_self (len : Int) (show (0 : Int) ≤ (p : Int) by omega)
    omega
  go_quiet (fail)
  clear hi0 hi1
  go_wp2
  have hx := xor_nonneg (z * 131 + y * 1117 + (p : Int) * 29 + (p : Int) / (len : Int) * 53) ((z * 131 + y * 1117 + (p : Int) * 29 + (p : Int) / (len : Int) * 53) / 64) (by omega) (by omega) (by omega) (by omega)
  exact hR.out _ _ (tmod_range _ n hx hn).1 (tmod_range _ n hx hn).2

theorem pick_any {w0 w : World} {g : Nat} {A : Option Addr} {len cap p : Nat} (n : Int) (S : St w0 w g A len cap p) (hp : p ≤ 2097152) (hn : 1 ≤ n) :
    Calls Try.prog 20 #[.pointer (some ⟨g, 0, none⟩), .int .i64 n] w (Picked w0 w g A len cap p n) := by
  rcases Nat.eq_zero_or_pos len with h | h
  · subst h
    exact pick_zero A cap g p n w S.blk hp hn _ (picked_mk S 0 rfl (by omega) (by omega) rfl)
  · obtain ⟨b, off, rfl, hb, hz⟩ := S.bytes h
    have hl := S.len
    have hbase := S.base
    have cell : ∀ i, i < len → ∃ z : Int, 0 ≤ z ∧ z ≤ 255 ∧ w.cell? ⟨b, off + i, none⟩ = some (.int .u8 z) := fun i hi => by
      obtain ⟨z, h0, h1, h2⟩ := hz i hi
      exact ⟨z, h0, h1, (S.below.cell (p := ⟨b, off + i, none⟩) hb).trans h2⟩
    by_cases hpl : p < len
    · obtain ⟨z, h0, h1, h2⟩ := cell p hpl
      exact pick_near b off len cap g p n z w S.blk hl hpl hn h0 h1 (by omega) h2 _ (picked_mk S 0 rfl (Int.emod_nonneg _ (by omega)) (Int.emod_lt_of_pos _ (by omega)) rfl)
    · obtain ⟨z, h0, h1, h2⟩ := cell (p % len) (Nat.mod_lt _ h)
      obtain ⟨y, g0, g1, g2⟩ := cell ((p * 7 + 3) % len) (Nat.mod_lt _ h)
      exact pick_far b off len cap g p n z y w S.blk hl h (by omega) hp hn h0 h1 g0 g1 (by omega) h2 g2 _ (Lib.hid fun m k hm0 hm1 => picked_mk S k rfl hm0 hm1 rfl)

end Go.Proofs.Ytljgipokaocgeaa.Dr
