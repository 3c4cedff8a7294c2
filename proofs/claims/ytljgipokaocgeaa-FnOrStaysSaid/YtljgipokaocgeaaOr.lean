/-
  cmp.Or through the thin package, and the reference's own, return the first value that is not zero, of whatever slice. No conditions.
-/
import Derived.Test.YtljgipokaocgeaaInt
import Derived.LoopTactic
import Derived.Deep.AppendLies
import Derived.Maps.AppendAt
namespace Go.Proofs.Ytljgipokaocgeaa.Dr
open Go.ChangeShapes Go.WideShapes Go.ChangeAt Go.RowKit

/-- The cells in which a slice's elements lie. -/
def Src (w : World) (A : Option Addr) (m size : Nat) (us : List Value) : Prop :=
  us.length = m * size ∧ (0 < m → ∃ ad, A = some ad ∧ ∀ j u, us[j]? = some u → w.cell? (ad.add j) = some u)

theorem Src.at {w : World} {A : Option Addr} {m : Nat} {us : List Value} (h : Src w A m 1 us) {k : Nat} (hk : k < m) :
    ∃ b off, A = some ⟨b, off, none⟩ ∧ ∀ u, us[k]? = some u → w.cell? ⟨b, off + k, none⟩ = some u := by
  obtain ⟨hl, hc⟩ := h
  obtain ⟨ad, e, hcell⟩ := hc (by omega)
  obtain ⟨b, off, spot⟩ := ad
  have h0 := hcell 0 us[0] (List.getElem?_eq_getElem (by omega))
  have hspot : spot = none := by simpa [Addr.add] using World.cell?_spot h0
  subst hspot
  refine ⟨b, off, e, fun u hu => ?_⟩
  have := hcell k u hu
  have add : (⟨b, off, none⟩ : Addr).add k = ⟨b, off + k, none⟩ := by unfold Addr.add; split <;> simp_all
  rwa [add] at this

/-- The first value that is not zero. -/
def nz (x : Int) : Bool := x != 0
def orX (xs : List Int) : Int := (xs.find? nz).getD 0
theorem or_cons (x : Int) (xs : List Int) : orX (x :: xs) = if nz x then x else orX xs := by
  unfold orX
  rw [List.find?_cons]
  cases nz x <;> rfl
theorem or_at {xs : List Int} {k : Nat} {x : Int} (h : xs[k]? = some x) : orX (xs.drop k) = if nz x then x else orX (xs.drop (k + 1)) := by
  obtain ⟨hk, e⟩ := List.getElem?_eq_some_iff.1 h
  rw [List.drop_eq_getElem_cons hk, e, or_cons]

def Gives (v : Value) (w : World) (e : Ending) (w' : World) : Prop := e = .returned v ∧ w = w'

def OrRel (xs : List Int) (n : Nat) (i : Value) : Prop := ∃ k : Nat, k ≤ n ∧ i = .int .i64 (k : Int) ∧ orX (xs.drop k) = orX xs

set_option maxHeartbeats 1000000 in
theorem or_lib (A : Option Addr) (n cap : Nat) (xs : List Int) (w : World) (hs : Src w A n 1 (xs.map (Value.int .i64))) (hn : n ≤ 9223372036854775807) :
    Calls Try.prog 18 #[.slice A n cap] w (Gives (Value.int .i64 (orX xs)) w) := by
  have HS := Lib.hid hs
  have hlen : xs.length = n := by have := hs.1; simpa using this
  have HL := Lib.hid hlen
  clear hs hlen
  go_enter Try.func18, Try.ntmps18
  go_wp2
  go_loop [8] (fun i => OrRel xs n i) (fun i => n - (intOf i).toNat)
  case atStart => exact ⟨0, by omega, rfl, rfl⟩
  case round =>
    obtain ⟨k, hk, rfl, hor⟩ := hrel
    have HO := Lib.hid hor
    clear hor
    by_cases hlt : k < n
    · obtain ⟨b, off, rfl, hc⟩ := HS.out.at hlt
      have hxk : xs[k]? = some (xs[k]'(by rw [HL.out]; exact hlt)) := List.getElem?_eq_getElem _
      generalize xs[k]'(by rw [HL.out]; exact hlt) = x at hxk
      have hcell := hc (Value.int .i64 x) (by rw [List.getElem?_map, hxk]; rfl)
      have hst := Lib.hid (or_at hxk)
      clear hc hxk
      cases hnz : nz x
      · have HR := Lib.hid (show orX (xs.drop (k + 1)) = orX xs by have := hst.out; rw [hnz] at this; exact this.symm.trans HO.out)
        clear hst
        have hz : (x != 0) = false := hnz
        go_wp2
        go_round
        case rel => exact ⟨k + 1, by omega, by go_num, HR.out⟩
        case measure => simp [intOf]; omega
      · have HR := Lib.hid (show x = orX xs by have := hst.out; rw [hnz] at this; exact this.symm.trans HO.out)
        clear hst
        have hz : (x != 0) = true := hnz
        go_wp2
        go_ret
        exact ⟨by rw [← HR.out]; rfl, rfl⟩
    · have HR := Lib.hid (show 0 = orX xs by rw [← HO.out, List.drop_of_length_le (by rw [HL.out]; omega)]; rfl)
      go_wp2
      go_ret
      exact ⟨by rw [← HR.out]; rfl, rfl⟩

theorem or_any (A : Option Addr) (n cap : Nat) (xs : List Int) (w : World) (hs : Src w A n 1 (xs.map (Value.int .i64))) (hn : n ≤ 9223372036854775807) :
    Calls Try.prog 10 #[.slice A n cap] w (Gives (Value.int .i64 (orX xs)) w) := by
  go_enter Try.func10, Try.ntmps10
  go_wp2_with (go_at_call 18; refine (or_lib A n cap xs _ hs hn).mono ?_; rintro e w' ⟨rfl, rfl⟩)
  go_ret
  exact ⟨rfl, rfl⟩

set_option maxHeartbeats 1000000 in
theorem sor_any (A : Option Addr) (n cap : Nat) (xs : List Int) (w : World) (hs : Src w A n 1 (xs.map (Value.int .i64))) (hn : n ≤ 9223372036854775807) :
    Calls Try.prog 11 #[.slice A n cap] w (Gives (Value.int .i64 (orX xs)) w) := by
  have HS := Lib.hid hs
  have hlen : xs.length = n := by have := hs.1; simpa using this
  have HL := Lib.hid hlen
  clear hs hlen
  go_enter Try.func11, Try.ntmps11
  go_wp2
  go_loop [4] (fun i => OrRel xs n i) (fun i => n - (intOf i).toNat)
  case atStart => exact ⟨0, by omega, rfl, rfl⟩
  case round =>
    obtain ⟨k, hk, rfl, hor⟩ := hrel
    have HO := Lib.hid hor
    clear hor
    by_cases hlt : k < n
    · obtain ⟨b, off, rfl, hc⟩ := HS.out.at hlt
      have hxk : xs[k]? = some (xs[k]'(by rw [HL.out]; exact hlt)) := List.getElem?_eq_getElem _
      generalize xs[k]'(by rw [HL.out]; exact hlt) = x at hxk
      have hcell := hc (Value.int .i64 x) (by rw [List.getElem?_map, hxk]; rfl)
      have hst := Lib.hid (or_at hxk)
      clear hc hxk
      cases hnz : nz x
      · have HR := Lib.hid (show orX (xs.drop (k + 1)) = orX xs by have := hst.out; rw [hnz] at this; exact this.symm.trans HO.out)
        clear hst
        have hz : (x != 0) = false := hnz
        go_wp2
        go_round
        case rel => exact ⟨k + 1, by omega, by go_num, HR.out⟩
        case measure => simp [intOf]; omega
      · have HR := Lib.hid (show x = orX xs by have := hst.out; rw [hnz] at this; exact this.symm.trans HO.out)
        clear hst
        have hz : (x != 0) = true := hnz
        go_wp2
        go_ret
        exact ⟨by rw [← HR.out]; rfl, rfl⟩
    · have HR := Lib.hid (show 0 = orX xs by rw [← HO.out, List.drop_of_length_le (by rw [HL.out]; omega)]; rfl)
      go_wp2
      go_ret
      exact ⟨by rw [← HR.out]; rfl, rfl⟩
end Go.Proofs.Ytljgipokaocgeaa.Dr
