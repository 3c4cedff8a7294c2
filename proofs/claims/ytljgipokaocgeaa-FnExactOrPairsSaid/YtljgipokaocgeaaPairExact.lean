/-
  cmp.Or of any slice of pairs is as the reference says. No conditions.
-/
import Derived.Test.YtljgipokaocgeaaPair2
import Derived.Deep.Slices
import Derived.ChangeSame
namespace Go.Proofs.Ytljgipokaocgeaa.Dr
open Go.ChangeShapes Go.WideShapes Go.ChangeAt Go.RowKit Go.Deep

/-- What the walk is told of the slice that came in. -/
def IsArg (w : World) (a : Option Addr) (len cap : Nat) : Prop := (∃ xs : List (Int × Int), SrcP w w.heap.size a len xs) ∧ len ≤ cap ∧ cap ≤ 9223372036854775807

theorem cells_int : Try.prog.cellsOf 3 = 1 := by kernel_rfl
theorem cells_pair : Try.prog.cellsOf 27 = 2 := by kernel_rfl

theorem pair_of {H : Type} {enc : TypeId × Value → H} {w : World} {base : Nat} {spare : Nat → Bool} {held : Bool} {fuel : Nat} {cs : List Value} {x : DataW H × List MemPlace}
    (hf : DataW.trod enc Try.prog w base spare held fuel 27 cs = some x) : ∃ p : Int × Int, cs = [Value.int .i64 p.1, Value.int .i64 p.2] := by
  obtain ⟨y0, y1, n, _, hl, h0, h1⟩ := trod_struct2 Try.underlying27 hf
  rw [cells_pair] at hl
  match cs, hl with
  | [c0, c1], _ =>
    simp only [cells_int] at h0 h1
    obtain ⟨a, ha, _⟩ := DataW.trod_int Try.underlying3 h0
    obtain ⟨b, hb, _⟩ := DataW.trod_int Try.underlying3 h1
    simp at ha hb
    exact ⟨(a, b), by rw [ha, hb]⟩

theorem arg_of {H : Type} {enc : TypeId × Value → H} {w : World} {spare : Nat → Bool} {held : Bool} {fuel : Nat} {cs : List Value} {x : DataW H × List MemPlace} {a : Option Addr} {len cap : Nat}
    (hf : DataW.trod enc Try.prog w 0 spare held fuel 25 cs = some x) (hcs : cs = [.slice a len cap]) : IsArg w a len cap := by
  rcases open_slice Try.underlying25 hf with ⟨h, _⟩ | ⟨ad, l, c, m, n, D, Pl, h, _, hl, hm, hmm, _, hi⟩
  · rw [hcs] at h
    simp at h
    obtain ⟨rfl, rfl, rfl⟩ := h
    exact ⟨⟨[], rfl, fun h => by omega⟩, by omega, by omega⟩
  · rw [hcs] at h
    simp at h
    obtain ⟨rfl, rfl, rfl⟩ := h
    have hle : len ≤ m := by rw [hmm]; split <;> omega
    rw [cells_pair] at hi
    have each : ∀ i, i < len → ∃ p : Int × Int, w.cell? ((ad.add (i * 2)).add 0) = some (.int .i64 p.1) ∧ w.cell? ((ad.add (i * 2)).add 1) = some (.int .i64 p.2) := fun i hi' => by
      obtain ⟨cs', hc, ht⟩ := hi i (by omega)
      obtain ⟨p, rfl⟩ := pair_of ht
      obtain ⟨_, _, hat⟩ := World.cells?_some hc
      exact ⟨p, hat 0 (by omega), hat 1 (by omega)⟩
    obtain ⟨f, hfx⟩ : ∃ f : Nat → Int × Int, ∀ i, i < len → w.cell? ((ad.add (i * 2)).add 0) = some (.int .i64 (f i).1) ∧ w.cell? ((ad.add (i * 2)).add 1) = some (.int .i64 (f i).2) :=
      ⟨fun i => if h : i < len then Classical.choose (each i h) else (0, 0), fun i h => by
        have hs := Classical.choose_spec (each i h)
        simp only [h, dite_true]
        exact hs⟩
    refine ⟨⟨(List.range len).map f, by simp, fun hpos => ?_⟩, hl, by unfold maxLen at hm; omega⟩
    obtain ⟨b, off, spot⟩ := ad
    have h0 := (hfx 0 hpos).1
    have hspot : spot = none := by simpa [Addr.add] using World.cell?_spot h0
    subst hspot
    have add : ∀ i, (⟨b, off, none⟩ : Addr).add i = ⟨b, off + i, none⟩ := fun i => by unfold Addr.add; split <;> simp_all
    have add2 : ∀ i j, ((⟨b, off, none⟩ : Addr).add i).add j = ⟨b, off + i + j, none⟩ := fun i j => by rw [add]; unfold Addr.add; split <;> simp_all
    refine ⟨b, off, rfl, ?_, fun j p hp => ?_⟩
    · rw [add2] at h0; exact World.block_lt_of_cell? w _ h0
    · have hj : j < len := by
        have := (List.getElem?_eq_some_iff.1 hp).1
        simpa using this
      obtain ⟨c1, c2⟩ := hfx j hj
      rw [add2] at c1 c2
      simp [hj] at hp
      subst hp
      exact ⟨c1, c2⟩

set_option maxHeartbeats 1000000 in
theorem law_exact_orp (w : World) (a : Option Addr) (len cap : Nat) (h : IsArg w a len cap) : Calls Try.prog 4 #[.slice a len cap] w fun e w' => e = .returned (.bool true) ∧ Below w.heap.size w w' := by
  obtain ⟨⟨xs, hs⟩, hl, hc⟩ := h
  have hn : len ≤ 9223372036854775807 := by omega
  have HS := Lib.hid hs
  clear hs
  go_enter Try.func4, Try.ntmps4
  go_wp2_with fail
  refine (orp_any a len cap xs _ HS.out hn).mono ?_
  rintro e w1 ⟨rfl, hB1⟩
  go_wp2_with fail
  refine (sorp_any a len cap xs _ (HS.out.below hB1 _ hB1.size) hn).mono ?_
  rintro e w2 ⟨rfl, hB2⟩
  go_wp2
  go_ret
  exact ⟨rfl, below_step hB1 hB2⟩
end Go.Proofs.Ytljgipokaocgeaa.Dr
