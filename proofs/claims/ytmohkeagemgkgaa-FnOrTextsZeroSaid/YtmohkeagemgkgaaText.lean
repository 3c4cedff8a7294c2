/-
  The drawn texts: aText returns a text of at most 1048576 bytes, and leaves all but the reader as it was. Conditions: the place is at most 1048000.
-/
import Derived.Test.YtmohkeagemgkgaaBase
import Derived.LoopTactic
import Derived.Laws.IdiomStrings
import Derived.Laws.Concat
namespace Go.Proofs.Ytmohkeagemgkgaa.Dr
open Go.ChangeShapes Go.WideShapes Go.ChangeAt Go.RowKit

/-- The bytes made a text. -/
theorem conv_bytes {w0 w : World} {g : Nat} {A : Option Addr} {len cap p : Nat} (S : St w0 w g A len cap p) :
    ∃ s : ByteArray, s.size ≤ 1048576 ∧ (convert 25 9 (.slice A len cap)).run Try.prog w = .ok (.string s) w := by
  have hl := S.len
  rcases Nat.eq_zero_or_pos len with h | h
  · subst h
    cases A with
    | none =>
      refine ⟨ByteArray.empty, by decide, ?_⟩
      rw [run_convert_bytes_string w 25 9 5 none 0 cap Try.underlying25 Try.underlying5 Try.underlying9]
      rfl
    | some a => exact ⟨⟨([] : List UInt8).toArray⟩, by decide, run_convert_bytes_back w 25 9 5 a cap [] Try.underlying25 Try.underlying5 Try.underlying9 (fun j hj => by simp at hj)⟩
  · obtain ⟨b, off, rfl, hb, hz⟩ := S.bytes h
    have cell : ∀ i, i < len → ∃ z : Int, 0 ≤ z ∧ z ≤ 255 ∧ w.cell? ⟨b, off + i, none⟩ = some (.int .u8 z) := fun i hi => by
      obtain ⟨z, h0, h1, h2⟩ := hz i hi
      exact ⟨z, h0, h1, (S.below.cell (p := ⟨b, off + i, none⟩) hb).trans h2⟩
    obtain ⟨f, hf⟩ : ∃ f : Nat → Int, ∀ i, i < len → 0 ≤ f i ∧ f i ≤ 255 ∧ w.cell? ⟨b, off + i, none⟩ = some (.int .u8 (f i)) :=
      ⟨fun i => if hi : i < len then Classical.choose (cell i hi) else 0, fun i hi => by
        have hs := Classical.choose_spec (cell i hi)
        simp only [hi, dite_true]
        exact hs⟩
    have add : ∀ i, (⟨b, off, none⟩ : Addr).add i = ⟨b, off + i, none⟩ := fun i => by unfold Addr.add; split <;> simp_all
    have hlen : ((List.range len).map (fun i => UInt8.ofNat (f i).toNat)).length = len := by simp
    have hrun := run_convert_bytes_back (P := Try.prog) w 25 9 5 ⟨b, off, none⟩ cap ((List.range len).map (fun i => UInt8.ofNat (f i).toNat)) Try.underlying25 Try.underlying5 Try.underlying9 (fun j hj => by
      rw [hlen] at hj
      obtain ⟨h0, h1, h2⟩ := hf j hj
      rw [add, h2]
      simp only [List.getElem_map, List.getElem_range]
      have e : ((UInt8.ofNat (f j).toNat).toNat : Int) = f j := by
        rw [UInt8.toNat_ofNat']
        rw [Nat.mod_eq_of_lt (by omega)]
        omega
      rw [e])
    rw [hlen] at hrun
    exact ⟨_, by show ((List.range len).map (fun i => UInt8.ofNat (f i).toNat)).toArray.size ≤ 1048576; simp; exact hl, hrun⟩

def isStr : Value → Bool
  | .string s => s.size ≤ 2
  | _ => false
theorem blk_str {w : World} {g : Nat} {t : TypeId} {cs : Array Value} (hb : Blk w g t cs) (h : cs.all isStr = true) (j : Nat) (hj : j < cs.size) :
    ∃ s : ByteArray, w.cell? ⟨g, j, none⟩ = some (.string s) ∧ s.size ≤ 2 := by
  rw [Array.all_eq_true] at h
  have hv := h j hj
  have hc := hb.cell j
  rw [Array.getElem?_eq_getElem hj] at hc
  generalize cs[j] = v at hv hc
  unfold isStr at hv
  split at hv
  · exact ⟨_, hc, of_decide_eq_true hv⟩
  · cases hv

def AText (w0 w : World) (g : Nat) (A : Option Addr) (len cap p : Nat) (e : Ending) (w' : World) : Prop :=
  ∃ (s : ByteArray) (q : Nat), s.size ≤ 1048576 ∧ e = .returned (.string s) ∧ w.grownBy w' (some g) ∧ St w0 w' g A len cap q ∧ q ≤ p + 10

/-- The row of the short texts. -/
def StrRow (w : World) (L : Nat) : Prop := ∃ cs : Array Value, Blk w L 9 cs ∧ cs.all isStr = true ∧ cs.size = 9
theorem StrRow.kept {w w' : World} {L g : Nat} (h : StrRow w L) (hg : w.grownBy w' (some g)) (hne : L ≠ g) : StrRow w' L := by
  obtain ⟨cs, hb, ha, hs⟩ := h
  exact ⟨cs, hb.grown hg (fun e => by injection e with e; exact hne e), ha, hs⟩
theorem StrRow.at {w : World} {L : Nat} (h : StrRow w L) (j : Nat) (hj : j < 9) : ∃ s : ByteArray, w.cell? ⟨L, j, none⟩ = some (.string s) ∧ s.size ≤ 2 := by
  obtain ⟨cs, hb, ha, hs⟩ := h
  exact blk_str hb ha j (by omega)

def TextRel (w0 w : World) (g : Nat) (A : Option Addr) (len cap p : Nat) (sv n : Value) (wr : World) : Prop :=
  ∃ (j q : Nat) (s : ByteArray), j ≤ 3 ∧ n = .int .i64 (j : Int) ∧ sv = .string s ∧ s.size + 2 * j ≤ 6 ∧ w.grownBy wr (some g) ∧ StrRow wr w.heap.size ∧ St w0 wr g A len cap q ∧ q + j ≤ p + 4

set_option maxHeartbeats 1000000 in
theorem aText_any {w0 w : World} {g : Nat} {A : Option Addr} {len cap p : Nat} (S : St w0 w g A len cap p) (hp : p ≤ 1048000) :
    Calls Try.prog 12 #[.pointer (some ⟨g, 0, none⟩)] w (AText w0 w g A len cap p) := by
  have hL : w.heap.size ≠ g := fun e => by have := S.blk.lt; omega
  go_enter Try.func12, Try.ntmps12
  go_wp2_with fail
  refine (pick_any 4 (S.alloc _) (by omega) (by omega)).mono ?_
  rintro e w1 ⟨m, hm, rfl, hg1, S1⟩
  have hb1 : StrRow w1 w.heap.size := ⟨_, (Blk.new w _ _).grown hg1 (fun e => by injection e with e; exact hL e), by kernel_rfl, rfl⟩
  have hg1' := grown_trans (World.grownBy_alloc w _ (some g)) hg1
  clear hg1
  go_wp2_with fail
  go_loopw [3, 5] (fun sv n wr => TextRel w0 w g A len cap p sv n wr) (fun _ n _ => (intOf n).toNat)
  case atStart => exact ⟨m, p + 1, ByteArray.empty, by omega, rfl, rfl, by simp; omega, hg1', hb1, S1, by omega⟩
  case round =>
    clear hb1 S1 hg1'
    obtain ⟨j, q, s, hj, rfl, rfl, hs, hg, hrow, S2, hq⟩ := hrel
    rcases Nat.eq_zero_or_pos j with h0 | h0
    · subst h0
      go_wp2_with fail
      refine (pick_any 12 S2 (by omega) (by omega)).mono ?_
      rintro e w2 ⟨c, hc, rfl, hg2, S3⟩
      rcases Nat.eq_zero_or_pos c with hc0 | hc0
      · subst hc0
        obtain ⟨t, ht, hconv⟩ := conv_bytes S3
        have h0c := S3.blk.cell 0
        simp at h0c
        go_wp2
        go_ret
        exact ⟨t, q + 1, ht, rfl, grown_trans hg hg2, S3, by omega⟩
      · have hce : ((c : Int) == 0) = false := by simp; omega
        go_wp2
        go_ret
        exact ⟨s, q + 1, by omega, rfl, grown_trans hg hg2, S3, by omega⟩
    · go_wp2_with fail
      refine (pick_any 9 S2 (by omega) (by omega)).mono ?_
      rintro e w2 ⟨c, hc, rfl, hg2, S3⟩
      have hrow2 := hrow.kept hg2 hL
      obtain ⟨t, hcell, ht⟩ := hrow2.at c (by omega)
      have hsum : s.size + t.size ≤ 9223372036854775807 := by omega
      go_wp2
      go_roundw
      case rel => exact ⟨j - 1, q + 1, s ++ t, by omega, by go_num, rfl, by simp [ByteArray.size_append]; omega, grown_trans hg hg2, hrow2, S3, by omega⟩
      case measure => simp [intOf]; omega
end Go.Proofs.Ytmohkeagemgkgaa.Dr
