/-
  HasPair tells whether a pair is in a list; samePairs whether two lists of pairs are equal. No conditions.
-/
import Derived.Test.YtljgipokaocgeaaDrawPairs
namespace Go.Proofs.Ytljgipokaocgeaa.Dr
open Go.ChangeShapes Go.WideShapes Go.ChangeAt Go.RowKit

def eqP (x p : Int × Int) : Bool := x.1 == p.1 && x.2 == p.2
def hasP (xs : List (Int × Int)) (p : Int × Int) : Bool := xs.any fun x => eqP x p
theorem hasP_at {xs : List (Int × Int)} {k : Nat} {x : Int × Int} (p : Int × Int) (h : xs[k]? = some x) : hasP (xs.drop k) p = (eqP x p || hasP (xs.drop (k + 1)) p) := by
  obtain ⟨hk, e⟩ := List.getElem?_eq_some_iff.1 h
  rw [List.drop_eq_getElem_cons hk, e]
  rfl

def GivesB (b : Bool) (w : World) (e : Ending) (w' : World) : Prop := e = .returned (.bool b) ∧ Below w.heap.size w w'

def HRel (xs : List (Int × Int)) (p : Int × Int) (n : Nat) (w : World) (i : Value) (wr : World) : Prop :=
  ∃ k : Nat, k ≤ n ∧ i = .int .i64 (k : Int) ∧ hasP (xs.drop k) p = hasP xs p ∧ Below w.heap.size w wr ∧ Blk wr w.heap.size 27 #[.int .i64 p.1, .int .i64 p.2]

set_option maxHeartbeats 1000000 in
theorem hasPair_any (A : Option Addr) (n cap : Nat) (xs : List (Int × Int)) (p1 p2 : Int) (w : World) (hs : SrcP w w.heap.size A n xs) (hn : n ≤ 9223372036854775807) :
    Calls Try.prog 16 #[.slice A n cap, .agg #[.int .i64 p1, .int .i64 p2]] w (GivesB (hasP xs (p1, p2)) w) := by
  have HS := Lib.hid hs
  clear hs
  go_enter Try.func16, Try.ntmps16
  go_wp2
  go_loopw [5] (fun i wr => HRel xs (p1, p2) n w i wr) (fun i _ => n - (intOf i).toNat)
  case atStart => exact ⟨0, by omega, rfl, rfl, below_new w _, Blk.new w _ _⟩
  case round =>
    obtain ⟨k, hk, rfl, hor, hB, hb0⟩ := hrel
    have HO := Lib.hid hor
    clear hor
    have r0 : _ = some (Value.int .i64 p1) := hb0.cell 0
    have r1 : _ = some (Value.int .i64 p2) := hb0.cell 1
    by_cases hlt : k < n
    · obtain ⟨b, off, rfl, hbB, hc⟩ := HS.out.2 (by omega)
      have hxk : xs[k]? = some (xs[k]'(by rw [HS.out.1]; exact hlt)) := List.getElem?_eq_getElem _
      generalize xs[k]'(by rw [HS.out.1]; exact hlt) = x at hxk
      obtain ⟨x1, x2⟩ := x
      obtain ⟨g1, g2⟩ := hc k _ hxk
      have hst := Lib.hid (hasP_at (p1, p2) hxk)
      clear hc hxk
      have q1 := (hB.cell (p := ⟨b, off + k * 2, none⟩) hbB).trans g1
      have q2 := (hB.cell (p := ⟨b, off + k * 2 + 1, none⟩) hbB).trans g2
      clear g1 g2
      simp at q1 q2
      have hk0 : (0 : Int) ≤ (k : Int) := by omega
      have hk1 : (k : Int) < (n : Int) := by omega
      by_cases h1 : x1 = p1
      · by_cases h2 : x2 = p2
        · subst h1 h2
          have HR := Lib.hid (show hasP xs (x1, x2) = true by rw [← HO.out, hst.out]; simp [eqP])
          clear hst
          go_wp2
          go_quiet (fail)
          go_wp2
          go_ret
          exact ⟨by rw [HR.out]; rfl, drewN_below hB _⟩
        · subst h1
          have HR := Lib.hid (show hasP (xs.drop (k + 1)) (x1, p2) = hasP xs (x1, p2) by rw [← HO.out, hst.out]; simp [eqP, h2])
          clear hst
          have e2 : (x2 == p2) = false := by simp [h2]
          clear h2
          go_wp2
          go_quiet (fail)
          go_wp2
          exact ⟨⟨k + 1, by omega, by go_num, HR.out, drewN_below hB _, hb0.drewN _⟩, by simp [intOf]; omega⟩
      · have HR := Lib.hid (show hasP (xs.drop (k + 1)) (p1, p2) = hasP xs (p1, p2) by rw [← HO.out, hst.out]; simp [eqP, h1])
        clear hst
        have e1 : (x1 == p1) = false := by simp [h1]
        clear h1
        go_wp2
        go_quiet (fail)
        go_wp2
        exact ⟨⟨k + 1, by omega, by go_num, HR.out, drewN_below hB _, hb0.drewN _⟩, by simp [intOf]; omega⟩
    · have HR := Lib.hid (show hasP xs (p1, p2) = false by rw [← HO.out, List.drop_of_length_le (by rw [HS.out.1]; omega)]; rfl)
      go_wp2
      go_ret
      exact ⟨by rw [HR.out]; rfl, hB⟩

/-- The first pair that is not zero is one of the pairs, or zero. -/
theorem orP_in (xs : List (Int × Int)) : orP xs = (0, 0) ∨ hasP xs (orP xs) = true := by
  induction xs with
  | nil => exact .inl rfl
  | cons x xs ih =>
    rw [orP_cons]
    cases h : nzP x
    · rcases ih with e | e
      · exact .inl (by simpa using e)
      · refine .inr ?_
        show (eqP x _ || hasP xs _) = true
        simp [e]
    · refine .inr ?_
      show (eqP x _ || hasP xs _) = true
      simp [eqP]

def SRel (n : Nat) (w : World) (i : Value) (wr : World) : Prop := ∃ k q : Nat, k ≤ n ∧ i = .int .i64 (k : Int) ∧ wr = w.drewN q

set_option maxHeartbeats 1000000 in
theorem samePairs_any (A A' : Option Addr) (n cap cap' : Nat) (xs : List (Int × Int)) (B : Nat) (w : World) (hs : SrcP w B A n xs) (hs' : SrcP w B A' n xs) (hn : n ≤ 9223372036854775807) :
    Calls Try.prog 17 #[.slice A n cap, .slice A' n cap'] w fun e w' => e = .returned (.bool true) ∧ ∃ q, w' = w.drewN q := by
  have HS := Lib.hid hs
  have HS' := Lib.hid hs'
  clear hs hs'
  go_enter Try.func17, Try.ntmps17
  go_wp2
  go_loopw [5] (fun i wr => SRel n w i wr) (fun i _ => n - (intOf i).toNat)
  case atStart => exact ⟨0, 0, by omega, rfl, rfl⟩
  case round =>
    obtain ⟨k, q, hk, rfl, rfl⟩ := hrel
    by_cases hlt : k < n
    · obtain ⟨b, off, rfl, hbB, hc⟩ := HS.out.2 (by omega)
      obtain ⟨b', off', rfl, hbB', hc'⟩ := HS'.out.2 (by omega)
      have hxk : xs[k]? = some (xs[k]'(by rw [HS.out.1]; exact hlt)) := List.getElem?_eq_getElem _
      generalize xs[k]'(by rw [HS.out.1]; exact hlt) = x at hxk
      obtain ⟨x1, x2⟩ := x
      obtain ⟨g1, g2⟩ := hc k _ hxk
      obtain ⟨g3, g4⟩ := hc' k _ hxk
      clear hc hxk hc'
      simp at g1 g2 g3 g4
      have hk0 : (0 : Int) ≤ (k : Int) := by omega
      have hk1 : (k : Int) < (n : Int) := by omega
      go_wp2
      go_quiet (fail)
      go_wp2
      exact ⟨⟨k + 1, q + nq, by omega, by go_num, rfl⟩, by simp [intOf]; omega⟩
    · go_wp2
      go_ret
      exact ⟨rfl, q, rfl⟩
end Go.Proofs.Ytljgipokaocgeaa.Dr
