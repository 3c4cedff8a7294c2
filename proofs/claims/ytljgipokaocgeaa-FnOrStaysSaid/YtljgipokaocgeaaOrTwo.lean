/-
  What the laws are told of the two drawn lists, and the plain laws of the first value that is not zero.
-/
import Derived.Test.YtljgipokaocgeaaDrawOr
namespace Go.Proofs.Ytljgipokaocgeaa.Dr
open Go.ChangeShapes Go.WideShapes Go.ChangeAt Go.RowKit

/-- Two slices of the call's own behind 'w', which read as xs and ys. -/
structure Two (w w' : World) (A0 : Option Addr) (n0 c0 : Nat) (xs : List Int) (A1 : Option Addr) (n1 c1 : Nat) (ys : List Int) : Prop where
  below : Below w.heap.size w w'
  own0 : w'.ownsRow (w.heap.size + 2) 3 1 (.slice A0 n0 c0) n0 (xs.map (Value.int .i64))
  own1 : w'.ownsRow (w.heap.size + 2) 3 1 (.slice A1 n1 c1) n1 (ys.map (Value.int .i64))
  nil0 : A0 = none → c0 = 0
  nil1 : A1 = none → c1 = 0
  l0 : n0 ≤ 10
  l1 : n1 ≤ 10
  base : w.heap.size + 2 ≤ w'.heap.size
  ok0 : ∀ x ∈ xs, ((Lit.int .i64 x).wf = true)
  ok1 : ∀ x ∈ ys, ((Lit.int .i64 x).wf = true)

def DrawnTwo (w : World) (e : Ending) (w' : World) : Prop :=
  ∃ (A0 : Option Addr) (n0 c0 : Nat) (xs : List Int) (A1 : Option Addr) (n1 c1 : Nat) (ys : List Int), e = .returned (.tuple #[.slice A0 n0 c0, .slice A1 n1 c1]) ∧ Two w w' A0 n0 c0 xs A1 n1 c1 ys

theorem nil_own {w : World} {base : Nat} {e : TypeId} {size n c : Nat} {A : Option Addr} {us : List Value} (h : w.ownsRow base e size (.slice A n c) n us) : A = none → c = 0 := by
  rintro rfl
  rcases h.2 with ⟨h, _⟩ | ⟨g, cap, cur, h, _⟩
  · simp at h; exact h.2
  · simp at h

theorem two_any (w : World) (A : Option Addr) (len cap : Nat) (hb : Bytes w A len) (hl : len ≤ 1048576) : Calls Try.prog 14 #[.slice A len cap] w (DrawnTwo w) := by
  refine (drawOr_any w A len cap hb hl).mono fun e w' ⟨f, L, q, he, hO, hlen⟩ => ?_
  have o0 := hO.own0
  have o1 := hO.own1
  obtain ⟨A0, c0, e0, _, _⟩ := Src.of_own o0
  obtain ⟨A1, c1, e1, _, _⟩ := Src.of_own o1
  rw [e0] at o0
  rw [e1] at o1
  exact ⟨A0, _, c0, L 0, A1, _, c1, L 1, by rw [he, e0, e1], hO.st.below, o0, o1, nil_own o0, nil_own o1, by omega, by omega, hO.size, hO.ok0, hO.ok1⟩

theorem own_below {w w' : World} {base : Nat} {e : TypeId} {size n : Nat} {v : Value} {us : List Value} (h : w.ownsRow base e size v n us) (hb : Below w.heap.size w w') : w'.ownsRow base e size v n us := by
  refine ⟨h.1, ?_⟩
  rcases h.2 with hn | ⟨g, cap, cur, rfl, hbg, hg, rest⟩
  · exact .inl hn
  · exact .inr ⟨g, cap, cur, rfl, hbg, (hb.block g (Array.getElem?_eq_some_iff.1 hg).1).trans hg, rest⟩
theorem src_own {w : World} {base : Nat} {e : TypeId} {size n c : Nat} {A : Option Addr} {us : List Value} (h : w.ownsRow base e size (.slice A n c) n us) : Src w A n size us := by
  obtain ⟨A', c', e', hs, _⟩ := Src.of_own h
  simp at e'
  obtain ⟨rfl, rfl⟩ := e'
  exact hs
theorem src_new (w : World) (cs : Array Value) (t : TypeId) (n : Nat) (hn : cs.size = n) : Src (w.alloc (.cells cs t)) (some ⟨w.heap.size, 0, none⟩) n 1 cs.toList := by
  refine ⟨by simp [hn], fun _ => ⟨_, rfl, World.news_of_block (heap_alloc_new w _)⟩⟩
theorem src_none (w : World) : Src w none 0 1 [] := ⟨by simp, fun h => by omega⟩
theorem Bytes.alloc {w : World} {A : Option Addr} {len : Nat} (h : Bytes w A len) (o : Obj) : Bytes (w.alloc o) A len := by
  intro hp
  obtain ⟨b, off, e, hb, hc⟩ := h hp
  refine ⟨b, off, e, by simp; omega, fun i hi => ?_⟩
  obtain ⟨z, h0, h1, h2⟩ := hc i hi
  exact ⟨z, h0, h1, by rw [World.cell?_alloc_lt w o ⟨b, off + i, none⟩ hb]; exact h2⟩
theorem below_step {a b c : World} (h : Below a.heap.size a b) (k : Below b.heap.size b c) : Below a.heap.size a c := h.trans (k.mono h.size)
theorem below_new (w : World) (o : Obj) : Below w.heap.size w (w.alloc o) := (Below.refl _ _).alloc (Nat.le_refl _) o
theorem below_app {w w1 w2 : World} {row : Option Nat} (h : Below w.heap.size w w1) (hg : w1.grownBy w2 row) (hr : ∀ k, row = some k → w.heap.size ≤ k) : Below w.heap.size w w2 := h.grown hg h.size hr

/-! The plain laws. -/
theorem or_zero : orX [] = 0 := rfl
theorem nz_zero : nz 0 = false := by decide
theorem or_zero_cons (xs : List Int) : orX (0 :: xs) = orX xs := by rw [or_cons, nz_zero]; rfl
theorem or_val (xs : List Int) : nz (orX xs) = true ∨ orX xs = 0 := by
  induction xs with
  | nil => exact .inr rfl
  | cons x xs ih =>
    rw [or_cons]
    cases h : nz x
    · simpa using ih
    · exact .inl (by simpa using h)
theorem or_append (xs ys : List Int) : orX (xs ++ ys) = if nz (orX xs) then orX xs else orX ys := by
  induction xs with
  | nil => rw [List.nil_append, or_zero, nz_zero]; rfl
  | cons x xs ih =>
    rw [List.cons_append, or_cons, or_cons]
    cases h : nz x
    · simpa using ih
    · simp [h]
theorem or_parts (xs ys : List Int) : orX [orX xs, orX ys] = orX (xs ++ ys) := by
  rw [or_append, or_cons, or_cons, or_zero]
  rcases or_val ys with h | h
  · rw [h]; rfl
  · rw [h, nz_zero]; rfl
end Go.Proofs.Ytljgipokaocgeaa.Dr
