/-
  How two floating-point numbers of 32 bits are compared: cmp.Compare and cmp.Less through the thin package, and the reference's two functions, compute one plain function. No conditions.
-/
import Derived.Test.YtlgobccbhiinlaaBase
import Derived.Test.YtlgobccbhiinlaaFloatConv
namespace Go.Proofs.Ytlgobccbhiinlaa.Dr
open Go.ChangeShapes Go.WideShapes Go.ChangeAt Go.RowKit

/-- A value of the kind. -/
def IsV (v : Value) : Prop := ∃ b : Nat, v = .float .f32 b ∧ (Lit.float .f32 b).wf = true

def cmpV (v u : Value) : Int :=
  match v, u with
  | .float _ a, .float _ b => Fl.cmp FloatKind.f32.format a b
  | _, _ => 0
def lessV (v u : Value) : Bool := cmpV v u == -1

def Cmp (c : Int) (w : World) (e : Ending) (w' : World) : Prop := e = .returned (.int .i64 c) ∧ w = w'
def Lss (b : Bool) (w : World) (e : Ending) (w' : World) : Prop := e = .returned (.bool b) ∧ w = w'
/-- As above, but some answers may have been drawn. -/
def SCmp (c : Int) (w : World) (e : Ending) (w' : World) : Prop := e = .returned (.int .i64 c) ∧ ∃ n, w' = w.drewN n
def SLss (b : Bool) (w : World) (e : Ending) (w' : World) : Prop := e = .returned (.bool b) ∧ ∃ n, w' = w.drewN n

theorem cmp_vals (v u : Value) : cmpV v u = -1 ∨ cmpV v u = 0 ∨ cmpV v u = 1 := by
  unfold cmpV
  split
  · exact Fl.cmp_vals _ _ _
  · exact .inr (.inl rfl)
theorem cmp_self {v : Value} (hv : IsV v) : cmpV v v = 0 := by
  obtain ⟨a, rfl, _⟩ := hv
  exact Fl.cmp_self _ _
theorem cmp_turn {v u : Value} (hv : IsV v) (hu : IsV u) : cmpV u v = -cmpV v u := by
  obtain ⟨a, rfl, _⟩ := hv
  obtain ⟨b, rfl, _⟩ := hu
  exact Fl.cmp_turn _ _ _
theorem cmp_chain {v u t : Value} (hv : IsV v) (hu : IsV u) (ht : IsV t) (h1 : cmpV v u ≤ 0) (h2 : cmpV u t ≤ 0) : cmpV v t = min (cmpV v u) (cmpV u t) := by
  obtain ⟨a, rfl, _⟩ := hv
  obtain ⟨b, rfl, _⟩ := hu
  obtain ⟨c, rfl, _⟩ := ht
  exact Fl.cmp_chain _ _ _ _ h1 h2
theorem one_two : IsV (.float .f32 1065353216) ∧ IsV (.float .f32 1073741824) ∧ cmpV (.float .f32 1065353216) (.float .f32 1073741824) = -1 :=
  ⟨⟨_, rfl, by decide⟩, ⟨_, rfl, by decide⟩, by decide +kernel⟩

/-- The tests of the code, and the answers, in the six ways that two numbers may stand to each other. -/
structure FWay (x y : Nat) (nx ny l e g : Bool) (c : Int) : Prop where
  nx1 : (FloatKind.f32.format.order x x != some .eq) = nx
  nx2 : (FloatKind.f32.format.order x x == some .eq) = !nx
  ny1 : (FloatKind.f32.format.order y y != some .eq) = ny
  ny2 : (FloatKind.f32.format.order y y == some .eq) = !ny
  l : (FloatKind.f32.format.order x y == some .lt) = l
  e1 : (FloatKind.f32.format.order x y == some .eq) = e
  e2 : (FloatKind.f32.format.order x y != some .eq) = !e
  g : (FloatKind.f32.format.order x y == some .gt) = g
  fc : cmpV (.float .f32 x) (.float .f32 y) = c
  fb : lessV (.float .f32 x) (.float .f32 y) = (c == -1)

theorem way_of {x y : Nat} {nx ny l e g : Bool} {c : Int} (h : Fl.Stand FloatKind.f32.format x y nx ny l e g c) : FWay x y nx ny l e g c :=
  ⟨h.nx1, h.nx2, h.ny1, h.ny2, h.l, h.e1, h.e2, h.g, h.c, by unfold lessV; rw [show cmpV (.float .f32 x) (.float .f32 y) = c from h.c]⟩

theorem ways (x y : Nat) :
    (FWay x y true true false false false 0 ∧ Fl.nan Ieee.single x = true ∧ Fl.nan Ieee.single y = true) ∨ (FWay x y true false false false false (-1) ∧ Fl.nan Ieee.single x = true ∧ Fl.nan Ieee.single y = false) ∨ (FWay x y false true false false false 1 ∧ Fl.nan Ieee.single x = false ∧ Fl.nan Ieee.single y = true) ∨
    (FWay x y false false true false false (-1) ∧ Fl.nan Ieee.single x = false ∧ Fl.nan Ieee.single y = false) ∨ (FWay x y false false false true false 0 ∧ Fl.nan Ieee.single x = false ∧ Fl.nan Ieee.single y = false) ∨ (FWay x y false false false false true 1 ∧ Fl.nan Ieee.single x = false ∧ Fl.nan Ieee.single y = false) := by
  rcases Fl.stand FloatKind.f32.format x y with ⟨h, a⟩ | ⟨h, a⟩ | ⟨h, a⟩ | ⟨h, a⟩ | ⟨h, a⟩ | ⟨h, a⟩
  · exact .inl ⟨way_of h, a⟩
  · exact .inr (.inl ⟨way_of h, a⟩)
  · exact .inr (.inr (.inl ⟨way_of h, a⟩))
  · exact .inr (.inr (.inr (.inl ⟨way_of h, a⟩)))
  · exact .inr (.inr (.inr (.inr (.inl ⟨way_of h, a⟩))))
  · exact .inr (.inr (.inr (.inr (.inr ⟨way_of h, a⟩))))

set_option maxHeartbeats 1000000 in
theorem cmp_any {v u : Value} (hv : IsV v) (hu : IsV u) (w : World) : Calls Try.prog 12 #[v, u] w (Cmp (cmpV v u) w) := by
  obtain ⟨x, rfl, _⟩ := hv
  obtain ⟨y, rfl, _⟩ := hu
  rcases ways x y with ⟨⟨a1, a2, b1, b2, l, e1, e2, g, c, b⟩, _, _⟩ | ⟨⟨a1, a2, b1, b2, l, e1, e2, g, c, b⟩, _, _⟩ | ⟨⟨a1, a2, b1, b2, l, e1, e2, g, c, b⟩, _, _⟩ | ⟨⟨a1, a2, b1, b2, l, e1, e2, g, c, b⟩, _, _⟩ | ⟨⟨a1, a2, b1, b2, l, e1, e2, g, c, b⟩, _, _⟩ | ⟨⟨a1, a2, b1, b2, l, e1, e2, g, c, b⟩, _, _⟩
  all_goals
    rw [c]
    clear c b e1 e2 a2 b2
    go_enter Try.func12, Try.ntmps12
    go_wp2
    go_ret
    exact ⟨rfl, rfl⟩

set_option maxHeartbeats 1000000 in
theorem less_any {v u : Value} (hv : IsV v) (hu : IsV u) (w : World) : Calls Try.prog 14 #[v, u] w (Lss (lessV v u) w) := by
  obtain ⟨x, rfl, _⟩ := hv
  obtain ⟨y, rfl, _⟩ := hu
  rcases ways x y with ⟨⟨a1, a2, b1, b2, l, e1, e2, g, c, b⟩, _, _⟩ | ⟨⟨a1, a2, b1, b2, l, e1, e2, g, c, b⟩, _, _⟩ | ⟨⟨a1, a2, b1, b2, l, e1, e2, g, c, b⟩, _, _⟩ | ⟨⟨a1, a2, b1, b2, l, e1, e2, g, c, b⟩, _, _⟩ | ⟨⟨a1, a2, b1, b2, l, e1, e2, g, c, b⟩, _, _⟩ | ⟨⟨a1, a2, b1, b2, l, e1, e2, g, c, b⟩, _, _⟩
  all_goals
    rw [b]
    clear c b e1 e2 a2 b2
    go_enter Try.func14, Try.ntmps14
    go_wp2
    go_ret
    exact ⟨rfl, rfl⟩

/-- What the walk is told of a conversion to 64 bits. -/
theorem conv_no {x : Nat} (hx : Fl.nan Ieee.single x = false) : (∀ w : World, (convert 24 30 (.float .f32 x)).run Try.prog w = .ok (.float .f64 (Fl.wide x)) w) ∧
    (FloatKind.f64.format.order (Fl.wide x) (Fl.wide x) != some .eq) = false :=
  ⟨fun w => Fl.run_wide 24 30 (by kernel_rfl) Try.underlying30 x hx w, by rw [Fl.order_self (f := FloatKind.f64.format) (Fl.wide_nan x hx)]; rfl⟩
theorem conv_nan {x : Nat} (hx : Fl.nan Ieee.single x = true) : (∀ w : World, (convert 24 30 (.float .f32 x)).run Try.prog w = .ok (.float .f64 (Fl.nanC w x)) w.drew) ∧
    ∀ w : World, (FloatKind.f64.format.order (Fl.nanC w x) (Fl.nanC w x) != some .eq) = true :=
  ⟨fun w => Fl.run_wide_nan 24 30 (by kernel_rfl) Try.underlying30 x hx w, fun w => by rw [Fl.order_nan1 (f := FloatKind.f64.format) _ (Fl.nanC_nan w x)]; rfl⟩

set_option maxHeartbeats 1000000 in
theorem sless_any {v u : Value} (hv : IsV v) (hu : IsV u) (w : World) : Calls Try.prog 15 #[v, u] w (SLss (lessV v u) w) := by
  obtain ⟨x, rfl, _⟩ := hv
  obtain ⟨y, rfl, _⟩ := hu
  rcases ways x y with ⟨⟨a1, a2, b1, b2, l, e1, e2, g, c, b⟩, hx, hy⟩ | ⟨⟨a1, a2, b1, b2, l, e1, e2, g, c, b⟩, hx, hy⟩ | ⟨⟨a1, a2, b1, b2, l, e1, e2, g, c, b⟩, hx, hy⟩ | ⟨⟨a1, a2, b1, b2, l, e1, e2, g, c, b⟩, hx, hy⟩ | ⟨⟨a1, a2, b1, b2, l, e1, e2, g, c, b⟩, hx, hy⟩ | ⟨⟨a1, a2, b1, b2, l, e1, e2, g, c, b⟩, hx, hy⟩
  all_goals
    rw [b]
    clear c b e1 e2 a1 a2 b1 b2 g
    first | (obtain ⟨cx1, cx2⟩ := conv_no hx) | (obtain ⟨cx1, cx2⟩ := conv_nan hx)
    first | (obtain ⟨cy1, cy2⟩ := conv_no hy) | (obtain ⟨cy1, cy2⟩ := conv_nan hy)
    clear hx hy
    go_enter Try.func15, Try.ntmps15
    go_wp2
    go_ret
    first | exact ⟨rfl, 0, rfl⟩ | exact ⟨rfl, 1, rfl⟩ | exact ⟨rfl, 2, rfl⟩

set_option maxHeartbeats 1000000 in
theorem scmp_any {v u : Value} (hv : IsV v) (hu : IsV u) (w : World) : Calls Try.prog 16 #[v, u] w (SCmp (cmpV v u) w) := by
  have ht := cmp_turn hv hu
  rcases cmp_vals v u with h | h | h
  all_goals
    have h1 : lessV v u = (cmpV v u == -1) := rfl
    have h2 : lessV u v = (cmpV u v == -1) := rfl
    rw [ht, h] at h2
    rw [h] at h1
    simp at h1 h2
    rw [h]
    clear ht h
    go_enter Try.func16, Try.ntmps16
    go_wp2_with (go_at_call 15; refine (sless_any (by assumption) (by assumption) _).mono ?_; rintro e w' ⟨rfl, nq, rfl⟩)
    go_ret
    exact ⟨rfl, _, rfl⟩
end Go.Proofs.Ytlgobccbhiinlaa.Dr
