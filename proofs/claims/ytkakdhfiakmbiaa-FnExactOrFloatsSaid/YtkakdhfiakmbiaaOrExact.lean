/-
  cmp.Or of any slice is as the reference says. No conditions.
-/
import Derived.Test.YtkakdhfiakmbiaaSame
import Derived.Deep.Slices
namespace Go.Proofs.Ytkakdhfiakmbiaa.Dr
open Go.ChangeShapes Go.WideShapes Go.ChangeAt Go.RowKit Go.Deep

/-- What the walk is told of the slice that came in. -/
def IsArg (w : World) (a : Option Addr) (len cap : Nat) : Prop := (∃ xs : List Nat, Src w a len 1 (xs.map (Value.float .f64)) ∧ ∀ x ∈ xs, ((Lit.float .f64 x).wf = true)) ∧ len ≤ cap ∧ cap ≤ 9223372036854775807

theorem arg_of {H : Type} {enc : TypeId × Value → H} {w : World} {spare : Nat → Bool} {held : Bool} {fuel : Nat} {cs : List Value} {x : DataW H × List MemPlace} {a : Option Addr} {len cap : Nat}
    (hf : DataW.trod enc Try.prog w 0 spare held fuel 22 cs = some x) (hcs : cs = [.slice a len cap]) : IsArg w a len cap := by
  rcases open_slice1 Try.underlying22 (by kernel_rfl) hf with ⟨h, _⟩ | ⟨ad, l, c, m, n, F, D, Pl, h, _, hl, hm, hmm, _, hi⟩
  · rw [hcs] at h
    simp at h
    obtain ⟨rfl, rfl, rfl⟩ := h
    exact ⟨⟨[], ⟨by simp, fun h => by omega⟩, by simp⟩, by omega, by omega⟩
  · rw [hcs] at h
    simp at h
    obtain ⟨rfl, rfl, rfl⟩ := h
    have hle : len ≤ m := by rw [hmm]; split <;> omega
    have each : ∀ i, i < len → ∃ y : Nat, F i = Value.float .f64 y ∧ (fun x : Nat => ((Lit.float .f64 x).wf = true)) y := fun i hi' => by
      obtain ⟨_, ht⟩ := hi i (by omega)
      exact trod_flt Try.underlying24 ht
    obtain ⟨f, hfx⟩ : ∃ f : Nat → Nat, ∀ i, i < len → F i = Value.float .f64 (f i) ∧ (fun x : Nat => ((Lit.float .f64 x).wf = true)) (f i) :=
      ⟨fun i => if h : i < len then Classical.choose (each i h) else 0, fun i h => by
        have hs := Classical.choose_spec (each i h)
        simp only [h, dite_true]
        exact hs⟩
    refine ⟨⟨(List.range len).map f, ⟨by simp, fun _ => ⟨ad, rfl, fun j u hu => ?_⟩⟩, ?_⟩, hl, by unfold maxLen at hm; omega⟩
    · have hj : j < len := by
        have := (List.getElem?_eq_some_iff.1 hu).1
        simpa using this
      rw [(hi j (by omega)).1, (hfx j hj).1]
      simp [hj] at hu
      rw [hu]
    · intro y hy
      simp only [List.mem_map, List.mem_range] at hy
      obtain ⟨i, hi', rfl⟩ := hy
      exact (hfx i hi').2

theorem law_exact_or (w : World) (a : Option Addr) (len cap : Nat) (h : IsArg w a len cap) : Calls Try.prog 3 #[.slice a len cap] w fun e w' => e = .returned (.bool true) ∧ Below w.heap.size w w' := by
  obtain ⟨⟨xs, hs, hok⟩, hl, hc⟩ := h
  have hn : len ≤ 9223372036854775807 := by omega
  have HS := Lib.hid hs
  have HK := Lib.hid hok
  clear hs hok
  go_enter Try.func3, Try.ntmps3
  go_wp2_with (first | (go_at_call 9; refine (or_any a len cap xs _ HS.out hn).mono ?_; rintro e w' ⟨rfl, rfl⟩) | (go_at_call 10; refine (sor_any a len cap xs _ HS.out hn).mono ?_; rintro e w' ⟨rfl, rfl⟩) | (go_at_call 8; refine (same_self _ _).mono ?_; rintro e w' ⟨rfl, rfl⟩))
  go_ret
  exact ⟨rfl, Below.refl _ _⟩
end Go.Proofs.Ytkakdhfiakmbiaa.Dr
