/-
  cmp.Less of any two floating-point numbers of 32 bits is as the reference says. No conditions.
-/
import Derived.Test.YtpfobfmmebhkfaaRows
import Derived.WalkKit
import Derived.ProofKit
import Derived.OpenShut
import Derived.WalkLawsBesides
import Derived.WalkSpells
import Derived.Below
import Derived.Laws.OwnMore
import Derived.Laws.Rows
import Derived.Deep.Draws
import Derived.Deep.QuietTactic
import Derived.BigQuiet
import Derived.Lib.Hide
import Derived.IntWalk
import Derived.Laws.BitsAllLaws
import Derived.Laws.BitsLemmas
import Derived.Test.YtpfobfmmebhkfaaFloatConv
namespace Go.Proofs.Ytpfobfmmebhkfaa.Dr
open Go.ChangeShapes Go.WideShapes Go.ChangeAt Go.RowKit

/-- A value of the kind. -/
def IsV (v : Value) : Prop := ∃ b : Nat, v = .float .f32 b ∧ (Lit.float .f32 b).wf = true

def cmpV (v u : Value) : Int :=
  match v, u with
  | .float _ a, .float _ b => Fl.cmp FloatKind.f32.format a b
  | _, _ => 0
def lessV (v u : Value) : Bool := cmpV v u == -1

def Lss (b : Bool) (w : World) (e : Ending) (w' : World) : Prop := e = .returned (.bool b) ∧ w = w'
/-- As above, but some answers may have been drawn. -/
def SLss (b : Bool) (w : World) (e : Ending) (w' : World) : Prop := e = .returned (.bool b) ∧ ∃ n, w' = w.drewN n

/-- The tests of the code, and the answers, in the six ways that two numbers may stand to each other. -/
structure FWay (x y : Nat) (nx ny l e g : Bool) (c : Int) : Prop where
  nx1 : (FloatKind.f32.format.order x x != some .eq) = nx
  nx2 : (FloatKind.f32.format.order x x == some .eq) = !nx
  ny1 : (FloatKind.f32.format.order y y != some .eq) = ny
  ny2 : (FloatKind.f32.format.order y y == some .eq) = !ny
  l : (FloatKind.f32.format.order x y == some .lt) = l
  e1 : (FloatKind.f32.format.order x y == some .eq) = e
  e2 : (FloatKind.f32.format.order x y != some .eq) = !e
  g : (FloatKind.f32.format.order x y == some .gt) = g
  fc : cmpV (.float .f32 x) (.float .f32 y) = c
  fb : lessV (.float .f32 x) (.float .f32 y) = (c == -1)

theorem way_of {x y : Nat} {nx ny l e g : Bool} {c : Int} (h : Fl.Stand FloatKind.f32.format x y nx ny l e g c) : FWay x y nx ny l e g c :=
  ⟨h.nx1, h.nx2, h.ny1, h.ny2, h.l, h.e1, h.e2, h.g, h.c, by unfold lessV; rw [show cmpV (.float .f32 x) (.float .f32 y) = c from h.c]⟩

theorem ways (x y : Nat) :
    (FWay x y true true false false false 0 ∧ Fl.nan Ieee.single x = true ∧ Fl.nan Ieee.single y = true) ∨ (FWay x y true false false false false (-1) ∧ Fl.nan Ieee.single x = true ∧ Fl.nan Ieee.single y = false) ∨ (FWay x y false true false false false 1 ∧ Fl.nan Ieee.single x = false ∧ Fl.nan Ieee.single y = true) ∨
    (FWay x y false false true false false (-1) ∧ Fl.nan Ieee.single x = false ∧ Fl.nan Ieee.single y = false) ∨ (FWay x y false false false true false 0 ∧ Fl.nan Ieee.single x = false ∧ Fl.nan Ieee.single y = false) ∨ (FWay x y false false false false true 1 ∧ Fl.nan Ieee.single x = false ∧ Fl.nan Ieee.single y = false) := by
  rcases Fl.stand FloatKind.f32.format x y with ⟨h, a⟩ | ⟨h, a⟩ | ⟨h, a⟩ | ⟨h, a⟩ | ⟨h, a⟩ | ⟨h, a⟩
  · exact .inl ⟨way_of h, a⟩
  · exact .inr (.inl ⟨way_of h, a⟩)
  · exact .inr (.inr (.inl ⟨way_of h, a⟩))
  · exact .inr (.inr (.inr (.inl ⟨way_of h, a⟩)))
  · exact .inr (.inr (.inr (.inr (.inl ⟨way_of h, a⟩))))
  · exact .inr (.inr (.inr (.inr (.inr ⟨way_of h, a⟩))))

set_option maxHeartbeats 1000000 in
theorem less_any {v u : Value} (hv : IsV v) (hu : IsV u) (w : World) : Calls Try.prog 12 #[v, u] w (Lss (lessV v u) w) := by
  obtain ⟨x, rfl, _⟩ := hv
  obtain ⟨y, rfl, _⟩ := hu
  rcases ways x y with ⟨⟨a1, a2, b1, b2, l, e1, e2, g, c, b⟩, _, _⟩ | ⟨⟨a1, a2, b1, b2, l, e1, e2, g, c, b⟩, _, _⟩ | ⟨⟨a1, a2, b1, b2, l, e1, e2, g, c, b⟩, _, _⟩ | ⟨⟨a1, a2, b1, b2, l, e1, e2, g, c, b⟩, _, _⟩ | ⟨⟨a1, a2, b1, b2, l, e1, e2, g, c, b⟩, _, _⟩ | ⟨⟨a1, a2, b1, b2, l, e1, e2, g, c, b⟩, _, _⟩
  all_goals
    rw [b]
    clear c b e1 e2 a2 b2
    go_enter Try.func12, Try.ntmps12
    go_wp2
    go_ret
    exact ⟨rfl, rfl⟩

/-- What the walk is told of a conversion to 64 bits. -/
theorem conv_no {x : Nat} (hx : Fl.nan Ieee.single x = false) : (∀ w : World, (convert 25 22 (.float .f32 x)).run Try.prog w = .ok (.float .f64 (Fl.wide x)) w) ∧
    (FloatKind.f64.format.order (Fl.wide x) (Fl.wide x) != some .eq) = false :=
  ⟨fun w => Fl.run_wide 25 22 (by kernel_rfl) Try.underlying22 x hx w, by rw [Fl.order_self (f := FloatKind.f64.format) (Fl.wide_nan x hx)]; rfl⟩
theorem conv_nan {x : Nat} (hx : Fl.nan Ieee.single x = true) : (∀ w : World, (convert 25 22 (.float .f32 x)).run Try.prog w = .ok (.float .f64 (Fl.nanC w x)) w.drew) ∧
    ∀ w : World, (FloatKind.f64.format.order (Fl.nanC w x) (Fl.nanC w x) != some .eq) = true :=
  ⟨fun w => Fl.run_wide_nan 25 22 (by kernel_rfl) Try.underlying22 x hx w, fun w => by rw [Fl.order_nan1 (f := FloatKind.f64.format) _ (Fl.nanC_nan w x)]; rfl⟩

set_option maxHeartbeats 1000000 in
theorem sless_any {v u : Value} (hv : IsV v) (hu : IsV u) (w : World) : Calls Try.prog 13 #[v, u] w (SLss (lessV v u) w) := by
  obtain ⟨x, rfl, _⟩ := hv
  obtain ⟨y, rfl, _⟩ := hu
  rcases ways x y with ⟨⟨a1, a2, b1, b2, l, e1, e2, g, c, b⟩, hx, hy⟩ | ⟨⟨a1, a2, b1, b2, l, e1, e2, g, c, b⟩, hx, hy⟩ | ⟨⟨a1, a2, b1, b2, l, e1, e2, g, c, b⟩, hx, hy⟩ | ⟨⟨a1, a2, b1, b2, l, e1, e2, g, c, b⟩, hx, hy⟩ | ⟨⟨a1, a2, b1, b2, l, e1, e2, g, c, b⟩, hx, hy⟩ | ⟨⟨a1, a2, b1, b2, l, e1, e2, g, c, b⟩, hx, hy⟩
  all_goals
    rw [b]
    clear c b e1 e2 a1 a2 b1 b2 g
    first | (obtain ⟨cx1, cx2⟩ := conv_no hx) | (obtain ⟨cx1, cx2⟩ := conv_nan hx)
    first | (obtain ⟨cy1, cy2⟩ := conv_no hy) | (obtain ⟨cy1, cy2⟩ := conv_nan hy)
    clear hx hy
    go_enter Try.func13, Try.ntmps13
    go_wp2
    go_ret
    first | exact ⟨rfl, 0, rfl⟩ | exact ⟨rfl, 1, rfl⟩ | exact ⟨rfl, 2, rfl⟩

theorem less_smalls {x y : Value} (hx : IsV x) (hy : IsV y) (w : World) : Calls Try.prog 5 #[x, y] w fun e w' => e = .returned (.bool true) ∧ Grown w w' := by
  go_enter Try.func5, Try.ntmps5
  go_wp2_with (first | (go_at_call 12; refine (less_any (by assumption) (by assumption) _).mono ?_; rintro e w' ⟨rfl, rfl⟩) | (go_at_call 13; refine (sless_any (by assumption) (by assumption) _).mono ?_; rintro e w' ⟨rfl, nq, rfl⟩))
  go_ret
  exact ⟨rfl, ⟨(Grown.refl w).1, (Grown.refl w).2.1, (Grown.refl w).2.2⟩⟩
end Go.Proofs.Ytpfobfmmebhkfaa.Dr
