/-
  How two floating-point numbers of 64 bits are compared: cmp.Compare and cmp.Less through the thin package, and the reference's two functions, compute one plain function. No conditions.
-/
import Derived.Test.YtfooobfffgmgaaaBase
import Derived.Test.YtfooobfffgmgaaaFloatPlain
namespace Go.Proofs.Ytfooobfffgmgaaa.Dr
open Go.ChangeShapes Go.WideShapes Go.ChangeAt Go.RowKit

/-- A value of the kind. -/
def IsV (v : Value) : Prop := ∃ b : Nat, v = .float .f64 b ∧ (Lit.float .f64 b).wf = true

def cmpV (v u : Value) : Int :=
  match v, u with
  | .float _ a, .float _ b => Fl.cmp FloatKind.f64.format a b
  | _, _ => 0
def lessV (v u : Value) : Bool := cmpV v u == -1

def Cmp (c : Int) (w : World) (e : Ending) (w' : World) : Prop := e = .returned (.int .i64 c) ∧ w = w'
def Lss (b : Bool) (w : World) (e : Ending) (w' : World) : Prop := e = .returned (.bool b) ∧ w = w'
/-- As above, but some answers may have been drawn. -/
def SCmp (c : Int) (w : World) (e : Ending) (w' : World) : Prop := e = .returned (.int .i64 c) ∧ ∃ n, w' = w.drewN n
def SLss (b : Bool) (w : World) (e : Ending) (w' : World) : Prop := e = .returned (.bool b) ∧ ∃ n, w' = w.drewN n

theorem cmp_vals (v u : Value) : cmpV v u = -1 ∨ cmpV v u = 0 ∨ cmpV v u = 1 := by
  unfold cmpV
  split
  · exact Fl.cmp_vals _ _ _
  · exact .inr (.inl rfl)
theorem cmp_self {v : Value} (hv : IsV v) : cmpV v v = 0 := by
  obtain ⟨a, rfl, _⟩ := hv
  exact Fl.cmp_self _ _
theorem cmp_turn {v u : Value} (hv : IsV v) (hu : IsV u) : cmpV u v = -cmpV v u := by
  obtain ⟨a, rfl, _⟩ := hv
  obtain ⟨b, rfl, _⟩ := hu
  exact Fl.cmp_turn _ _ _
theorem cmp_chain {v u t : Value} (hv : IsV v) (hu : IsV u) (ht : IsV t) (h1 : cmpV v u ≤ 0) (h2 : cmpV u t ≤ 0) : cmpV v t = min (cmpV v u) (cmpV u t) := by
  obtain ⟨a, rfl, _⟩ := hv
  obtain ⟨b, rfl, _⟩ := hu
  obtain ⟨c, rfl, _⟩ := ht
  exact Fl.cmp_chain _ _ _ _ h1 h2
theorem one_two : IsV (.float .f64 4607182418800017408) ∧ IsV (.float .f64 4611686018427387904) ∧ cmpV (.float .f64 4607182418800017408) (.float .f64 4611686018427387904) = -1 :=
  ⟨⟨_, rfl, by decide⟩, ⟨_, rfl, by decide⟩, by decide +kernel⟩

/-- The tests of the code, and the answers, in the six ways that two numbers may stand to each other. -/
structure FWay (x y : Nat) (nx ny l e g : Bool) (c : Int) : Prop where
  nx1 : (FloatKind.f64.format.order x x != some .eq) = nx
  nx2 : (FloatKind.f64.format.order x x == some .eq) = !nx
  ny1 : (FloatKind.f64.format.order y y != some .eq) = ny
  ny2 : (FloatKind.f64.format.order y y == some .eq) = !ny
  l : (FloatKind.f64.format.order x y == some .lt) = l
  e1 : (FloatKind.f64.format.order x y == some .eq) = e
  e2 : (FloatKind.f64.format.order x y != some .eq) = !e
  g : (FloatKind.f64.format.order x y == some .gt) = g
  fc : cmpV (.float .f64 x) (.float .f64 y) = c
  fb : lessV (.float .f64 x) (.float .f64 y) = (c == -1)

theorem way_of {x y : Nat} {nx ny l e g : Bool} {c : Int} (h : Fl.Stand FloatKind.f64.format x y nx ny l e g c) : FWay x y nx ny l e g c :=
  ⟨h.nx1, h.nx2, h.ny1, h.ny2, h.l, h.e1, h.e2, h.g, h.c, by unfold lessV; rw [show cmpV (.float .f64 x) (.float .f64 y) = c from h.c]⟩

theorem ways (x y : Nat) :
    (FWay x y true true false false false 0 ∧ Fl.nan Ieee.double x = true ∧ Fl.nan Ieee.double y = true) ∨ (FWay x y true false false false false (-1) ∧ Fl.nan Ieee.double x = true ∧ Fl.nan Ieee.double y = false) ∨ (FWay x y false true false false false 1 ∧ Fl.nan Ieee.double x = false ∧ Fl.nan Ieee.double y = true) ∨
    (FWay x y false false true false false (-1) ∧ Fl.nan Ieee.double x = false ∧ Fl.nan Ieee.double y = false) ∨ (FWay x y false false false true false 0 ∧ Fl.nan Ieee.double x = false ∧ Fl.nan Ieee.double y = false) ∨ (FWay x y false false false false true 1 ∧ Fl.nan Ieee.double x = false ∧ Fl.nan Ieee.double y = false) := by
  rcases Fl.stand FloatKind.f64.format x y with ⟨h, a⟩ | ⟨h, a⟩ | ⟨h, a⟩ | ⟨h, a⟩ | ⟨h, a⟩ | ⟨h, a⟩
  · exact .inl ⟨way_of h, a⟩
  · exact .inr (.inl ⟨way_of h, a⟩)
  · exact .inr (.inr (.inl ⟨way_of h, a⟩))
  · exact .inr (.inr (.inr (.inl ⟨way_of h, a⟩)))
  · exact .inr (.inr (.inr (.inr (.inl ⟨way_of h, a⟩))))
  · exact .inr (.inr (.inr (.inr (.inr ⟨way_of h, a⟩))))

set_option maxHeartbeats 1000000 in
theorem cmp_any {v u : Value} (hv : IsV v) (hu : IsV u) (w : World) : Calls Try.prog 14 #[v, u] w (Cmp (cmpV v u) w) := by
  obtain ⟨x, rfl, _⟩ := hv
  obtain ⟨y, rfl, _⟩ := hu
  rcases ways x y with ⟨⟨a1, a2, b1, b2, l, e1, e2, g, c, b⟩, _, _⟩ | ⟨⟨a1, a2, b1, b2, l, e1, e2, g, c, b⟩, _, _⟩ | ⟨⟨a1, a2, b1, b2, l, e1, e2, g, c, b⟩, _, _⟩ | ⟨⟨a1, a2, b1, b2, l, e1, e2, g, c, b⟩, _, _⟩ | ⟨⟨a1, a2, b1, b2, l, e1, e2, g, c, b⟩, _, _⟩ | ⟨⟨a1, a2, b1, b2, l, e1, e2, g, c, b⟩, _, _⟩
  all_goals
    rw [c]
    clear c b e1 e2 a2 b2
    go_enter Try.func14, Try.ntmps14
    go_wp2
    go_ret
    exact ⟨rfl, rfl⟩

set_option maxHeartbeats 1000000 in
theorem less_any {v u : Value} (hv : IsV v) (hu : IsV u) (w : World) : Calls Try.prog 12 #[v, u] w (Lss (lessV v u) w) := by
  obtain ⟨x, rfl, _⟩ := hv
  obtain ⟨y, rfl, _⟩ := hu
  rcases ways x y with ⟨⟨a1, a2, b1, b2, l, e1, e2, g, c, b⟩, _, _⟩ | ⟨⟨a1, a2, b1, b2, l, e1, e2, g, c, b⟩, _, _⟩ | ⟨⟨a1, a2, b1, b2, l, e1, e2, g, c, b⟩, _, _⟩ | ⟨⟨a1, a2, b1, b2, l, e1, e2, g, c, b⟩, _, _⟩ | ⟨⟨a1, a2, b1, b2, l, e1, e2, g, c, b⟩, _, _⟩ | ⟨⟨a1, a2, b1, b2, l, e1, e2, g, c, b⟩, _, _⟩
  all_goals
    rw [b]
    clear c b e1 e2 a2 b2
    go_enter Try.func12, Try.ntmps12
    go_wp2
    go_ret
    exact ⟨rfl, rfl⟩

set_option maxHeartbeats 1000000 in
theorem sless_any {v u : Value} (hv : IsV v) (hu : IsV u) (w : World) : Calls Try.prog 13 #[v, u] w (SLss (lessV v u) w) := by
  obtain ⟨x, rfl, _⟩ := hv
  obtain ⟨y, rfl, _⟩ := hu
  rcases ways x y with ⟨⟨a1, a2, b1, b2, l, e1, e2, g, c, b⟩, _, _⟩ | ⟨⟨a1, a2, b1, b2, l, e1, e2, g, c, b⟩, _, _⟩ | ⟨⟨a1, a2, b1, b2, l, e1, e2, g, c, b⟩, _, _⟩ | ⟨⟨a1, a2, b1, b2, l, e1, e2, g, c, b⟩, _, _⟩ | ⟨⟨a1, a2, b1, b2, l, e1, e2, g, c, b⟩, _, _⟩ | ⟨⟨a1, a2, b1, b2, l, e1, e2, g, c, b⟩, _, _⟩
  all_goals
    rw [b]
    clear c b e1 e2 a2 b2
    go_enter Try.func13, Try.ntmps13
    go_wp2
    go_ret
    exact ⟨rfl, 0, rfl⟩

set_option maxHeartbeats 1000000 in
theorem scmp_any {v u : Value} (hv : IsV v) (hu : IsV u) (w : World) : Calls Try.prog 15 #[v, u] w (SCmp (cmpV v u) w) := by
  have ht := cmp_turn hv hu
  rcases cmp_vals v u with h | h | h
  all_goals
    have h1 : lessV v u = (cmpV v u == -1) := rfl
    have h2 : lessV u v = (cmpV u v == -1) := rfl
    rw [ht, h] at h2
    rw [h] at h1
    simp at h1 h2
    rw [h]
    clear ht h
    go_enter Try.func15, Try.ntmps15
    go_wp2_with (go_at_call 13; refine (sless_any (by assumption) (by assumption) _).mono ?_; rintro e w' ⟨rfl, nq, rfl⟩)
    go_ret
    exact ⟨rfl, _, rfl⟩
end Go.Proofs.Ytfooobfffgmgaaa.Dr
