/-
  Plain facts on how floating-point numbers stand to each other: any three of them stand as three integers, a NaN below all others; a number of 32 bits and its value in 64 bits stand to others alike. No program in sight, no conditions.
-/
import Ieee.Arith
namespace Go.Proofs.Ytkakdhfiakmbiaa.Fl
open Ieee

theorem signed_add (s : Bool) (m a d : Nat) : signed s m (a + d) = signed s m a * 2 ^ d := by
  have h : m <<< (a + d) = (m <<< a) * 2 ^ d := by
    rw [Nat.shiftLeft_eq, Nat.shiftLeft_eq, Nat.pow_add, Nat.mul_assoc]
  unfold signed
  rw [h]
  cases s
  · simp [Int.natCast_mul, Int.natCast_pow]
  · simp [Int.natCast_mul, Int.natCast_pow, Int.neg_mul]

theorem compare_mul (a b : Int) (d : Nat) : compare (a * 2 ^ d) (b * 2 ^ d) = compare a b := by
  have hp : (0 : Int) < 2 ^ d := Int.pow_pos (by decide)
  rcases Int.lt_trichotomy a b with h | h | h
  · have h2 := Int.mul_lt_mul_of_pos_right h hp
    rw [Int.compare_eq_lt.2 h, Int.compare_eq_lt.2 h2]
  · subst h; simp
  · have h2 := Int.mul_lt_mul_of_pos_right h hp
    rw [Int.compare_eq_gt.2 h, Int.compare_eq_gt.2 h2]

/-- The key of a datum at a base place, infinities at a bound. -/
def key (b : Int) (M : Nat) : Datum → Int
  | .number s m i => signed s m (i - b).toNat
  | .infinity s => if s then -(M : Int) else M
  | .nan .. => 0

def ok (b : Int) (M : Nat) : Datum → Prop
  | .number s m i => b ≤ i ∧ (signed s m (i - b).toNat).natAbs < M
  | .infinity _ => 0 < M
  | .nan .. => False

theorem order_key (b : Int) (M : Nat) (d e : Datum) (hd : ok b M d) (he : ok b M e) : d.order e = some (compare (key b M d) (key b M e)) := by
  cases d with
  | nan => exact hd.elim
  | infinity s =>
    cases e with
    | nan => exact he.elim
    | infinity t =>
      have hM : 0 < M := hd
      cases s <;> cases t <;> simp [Datum.order, key]
      · rw [Int.compare_eq_gt.2 (by omega)]; decide
      · rw [Int.compare_eq_lt.2 (by omega)]; decide
    | number t n j =>
      obtain ⟨_, h2⟩ := he
      cases s <;> simp only [Datum.order, key]
      · rw [Int.compare_eq_gt.2 (by simp; omega)]; rfl
      · rw [Int.compare_eq_lt.2 (by simp; omega)]; rfl
  | number s m i =>
    cases e with
    | nan => exact he.elim
    | infinity t =>
      obtain ⟨_, h2⟩ := hd
      cases t <;> simp only [Datum.order, key]
      · rw [Int.compare_eq_lt.2 (by simp; omega)]; rfl
      · rw [Int.compare_eq_gt.2 (by simp; omega)]; rfl
    | number t n j =>
      obtain ⟨h1, _⟩ := hd
      obtain ⟨h3, _⟩ := he
      simp only [Datum.order, key]
      have e1 : (i - b).toNat = (i - min i j).toNat + (min i j - b).toNat := by omega
      have e2 : (j - b).toNat = (j - min i j).toNat + (min i j - b).toNat := by omega
      rw [e1, e2, signed_add, signed_add, compare_mul]

def place : Datum → Int
  | .number _ _ i => i
  | _ => 0

theorem ok3 (x y z : Datum) (hx : x.isNaN = false) (hy : y.isNaN = false) (hz : z.isNaN = false) : ∃ b : Int, ∃ M : Nat, ok b M x ∧ ok b M y ∧ ok b M z := by
  let b := min (place x) (min (place y) (place z))
  let k := fun d : Datum => (key b 1 d).natAbs
  refine ⟨b, k x + k y + k z + 1, ?_, ?_, ?_⟩
  · cases x with
    | nan => simp [Datum.isNaN] at hx
    | infinity => simp [ok]
    | number s m i => exact ⟨by simp only [b, place]; omega, by simp only [k, key]; omega⟩
  · cases y with
    | nan => simp [Datum.isNaN] at hy
    | infinity => simp [ok]
    | number s m i => exact ⟨by simp only [b, place]; omega, by simp only [k, key]; omega⟩
  · cases z with
    | nan => simp [Datum.isNaN] at hz
    | infinity => simp [ok]
    | number s m i => exact ⟨by simp only [b, place]; omega, by simp only [k, key]; omega⟩

/-- Three data that are no NaN stand to each other as three integers. -/
theorem keys3 (x y z : Datum) (hx : x.isNaN = false) (hy : y.isNaN = false) (hz : z.isNaN = false) :
    ∃ g : Datum → Int, ∀ d e, (d = x ∨ d = y ∨ d = z) → (e = x ∨ e = y ∨ e = z) → d.order e = some (compare (g d) (g e)) := by
  obtain ⟨b, M, h1, h2, h3⟩ := ok3 x y z hx hy hz
  refine ⟨key b M, fun d e hd he => order_key b M d e ?_ ?_⟩
  · rcases hd with rfl | rfl | rfl <;> assumption
  · rcases he with rfl | rfl | rfl <;> assumption

theorem order_nan_left (d e : Datum) (h : d.isNaN = true) : d.order e = none := by
  cases d <;> simp [Datum.isNaN] at h
  cases e <;> rfl
theorem order_nan_right (d e : Datum) (h : e.isNaN = true) : d.order e = none := by
  cases e <;> simp [Datum.isNaN] at h
  cases d <;> rfl

/-- Is a word a NaN? -/
def nan (f : Format) (x : Nat) : Bool := (f.read x).isNaN

/-- -1, 0 or 1; a NaN is below all others. -/
def cmp (f : Format) (x y : Nat) : Int :=
  if nan f x then (if nan f y then 0 else -1) else if nan f y then 1 else
  match f.order x y with
  | some .lt => -1
  | some .gt => 1
  | _ => 0

def sgn (a b : Int) : Int := if a < b then -1 else if b < a then 1 else 0

theorem cmp_sgn {f : Format} {x y : Nat} {a b : Int} (hx : nan f x = false) (hy : nan f y = false) (h : f.order x y = some (compare a b)) : cmp f x y = sgn a b := by
  unfold cmp sgn
  rw [hx, hy, h]
  rcases Int.lt_trichotomy a b with k | k | k
  · rw [Int.compare_eq_lt.2 k]; simp [k]
  · subst k; simp
  · rw [Int.compare_eq_gt.2 k]; simp [k]; omega

theorem keysW (f : Format) (x y z : Nat) (hx : nan f x = false) (hy : nan f y = false) (hz : nan f z = false) :
    ∃ a b c : Int, f.order x x = some (compare a a) ∧ f.order x y = some (compare a b) ∧ f.order y x = some (compare b a) ∧ f.order y z = some (compare b c) ∧ f.order x z = some (compare a c) := by
  obtain ⟨g, hg⟩ := keys3 (f.read x) (f.read y) (f.read z) hx hy hz
  exact ⟨g (f.read x), g (f.read y), g (f.read z), hg _ _ (.inl rfl) (.inl rfl), hg _ _ (.inl rfl) (.inr (.inl rfl)), hg _ _ (.inr (.inl rfl)) (.inl rfl), hg _ _ (.inr (.inl rfl)) (.inr (.inr rfl)), hg _ _ (.inl rfl) (.inr (.inr rfl))⟩

theorem cmp_vals (f : Format) (x y : Nat) : cmp f x y = -1 ∨ cmp f x y = 0 ∨ cmp f x y = 1 := by
  unfold cmp
  repeat' split
  all_goals simp

theorem cmp_self (f : Format) (x : Nat) : cmp f x x = 0 := by
  cases hx : nan f x
  · obtain ⟨a, _, _, h, _⟩ := keysW f x x x hx hx hx
    rw [cmp_sgn hx hx h]; simp [sgn]
  · simp [cmp, hx]

theorem cmp_turn (f : Format) (x y : Nat) : cmp f y x = -cmp f x y := by
  cases hx : nan f x <;> cases hy : nan f y
  · obtain ⟨a, b, _, _, h, k, _⟩ := keysW f x y y hx hy hy
    rw [cmp_sgn hx hy h, cmp_sgn hy hx k]
    unfold sgn
    rcases Int.lt_trichotomy a b with l | l | l
    · rw [if_neg (by omega), if_pos l, if_pos l]; rfl
    · subst l; simp
    · rw [if_pos l, if_neg (by omega), if_pos l]
  all_goals simp [cmp, hx, hy]

theorem cmp_chain (f : Format) (x y z : Nat) (h1 : cmp f x y ≤ 0) (h2 : cmp f y z ≤ 0) : cmp f x z = min (cmp f x y) (cmp f y z) := by
  cases hx : nan f x
  · cases hy : nan f y
    · cases hz : nan f z
      · obtain ⟨a, b, c, _, h, _, k, l⟩ := keysW f x y z hx hy hz
        rw [cmp_sgn hx hy h] at h1 ⊢
        rw [cmp_sgn hy hz k] at h2 ⊢
        rw [cmp_sgn hx hz l]
        unfold sgn at *
        rcases Int.lt_trichotomy a b with p | p | p
        · rcases Int.lt_trichotomy b c with q | q | q
          · rw [if_pos p, if_pos q, if_pos (by omega)]; rfl
          · subst q; rw [if_pos p]; simp; rfl
          · rw [if_neg (by omega), if_pos q] at h2; omega
        · subst p
          rcases Int.lt_trichotomy a c with q | q | q
          · rw [if_pos q]; simp; rfl
          · subst q; simp
          · rw [if_neg (by omega), if_pos q] at h2; omega
        · rw [if_neg (by omega), if_pos p] at h1; omega
      · simp [cmp, hy, hz] at h2
    · simp [cmp, hx, hy] at h1
  · cases hy : nan f y
    · cases hz : nan f z
      · obtain ⟨a, b, c, _, h, _⟩ := keysW f y z z hy hz hz
        have e1 : cmp f x y = -1 := by simp [cmp, hx, hy]
        have e2 : cmp f x z = -1 := by simp [cmp, hx, hz]
        rw [e1, e2]
        rcases cmp_vals f y z with e | e | e <;> rw [e] <;> rfl
      · simp [cmp, hy, hz] at h2
    · cases hz : nan f z
      · simp [cmp, hx, hy, hz]; rfl
      · simp [cmp, hx, hy, hz]

/-- What the tests of the code come to, in the six ways that two words may stand to each other. -/
structure Stand (f : Format) (x y : Nat) (nx ny l e g : Bool) (c : Int) : Prop where
  nx1 : (f.order x x != some .eq) = nx
  nx2 : (f.order x x == some .eq) = !nx
  ny1 : (f.order y y != some .eq) = ny
  ny2 : (f.order y y == some .eq) = !ny
  l : (f.order x y == some .lt) = l
  e1 : (f.order x y == some .eq) = e
  e2 : (f.order x y != some .eq) = !e
  g : (f.order x y == some .gt) = g
  c : cmp f x y = c

theorem order_self {f : Format} {x : Nat} (hx : nan f x = false) : f.order x x = some .eq := by
  obtain ⟨a, _, _, h, _⟩ := keysW f x x x hx hx hx
  rw [h]; simp

theorem order_nan1 {f : Format} {x : Nat} (y : Nat) (hx : nan f x = true) : f.order x y = none := order_nan_left _ _ hx
theorem order_nan2 {f : Format} {y : Nat} (x : Nat) (hy : nan f y = true) : f.order x y = none := order_nan_right _ _ hy

theorem stand (f : Format) (x y : Nat) :
    (Stand f x y true true false false false 0 ∧ nan f x = true ∧ nan f y = true) ∨ (Stand f x y true false false false false (-1) ∧ nan f x = true ∧ nan f y = false) ∨ (Stand f x y false true false false false 1 ∧ nan f x = false ∧ nan f y = true) ∨
    (Stand f x y false false true false false (-1) ∧ nan f x = false ∧ nan f y = false) ∨ (Stand f x y false false false true false 0 ∧ nan f x = false ∧ nan f y = false) ∨ (Stand f x y false false false false true 1 ∧ nan f x = false ∧ nan f y = false) := by
  cases hx : nan f x <;> cases hy : nan f y
  · have ex := order_self hx
    have ey := order_self hy
    obtain ⟨a, b, _, _, h, _⟩ := keysW f x y y hx hy hy
    have hc := cmp_sgn hx hy h
    rcases Int.lt_trichotomy a b with l | l | l
    · rw [Int.compare_eq_lt.2 l] at h
      refine .inr (.inr (.inr (.inl ⟨⟨?_, ?_, ?_, ?_, ?_, ?_, ?_, ?_, ?_⟩, rfl, rfl⟩)))
      all_goals first | (rw [ex]; rfl) | (rw [ey]; rfl) | (rw [h]; rfl) | (rw [hc]; unfold sgn; rw [if_pos l])
    · subst l
      have h' : f.order x y = some .eq := by rw [h]; simp
      refine .inr (.inr (.inr (.inr (.inl ⟨⟨?_, ?_, ?_, ?_, ?_, ?_, ?_, ?_, ?_⟩, rfl, rfl⟩))))
      all_goals first | (rw [ex]; rfl) | (rw [ey]; rfl) | (rw [h']; rfl) | (rw [hc]; simp [sgn])
    · rw [Int.compare_eq_gt.2 l] at h
      refine .inr (.inr (.inr (.inr (.inr ⟨⟨?_, ?_, ?_, ?_, ?_, ?_, ?_, ?_, ?_⟩, rfl, rfl⟩))))
      all_goals first | (rw [ex]; rfl) | (rw [ey]; rfl) | (rw [h]; rfl) | (rw [hc]; unfold sgn; rw [if_neg (by omega), if_pos l])
  · have ex := order_self hx
    have ey := order_nan1 y hy
    have h := order_nan2 x hy
    refine .inr (.inr (.inl ⟨⟨?_, ?_, ?_, ?_, ?_, ?_, ?_, ?_, ?_⟩, rfl, rfl⟩))
    all_goals first | (rw [ex]; rfl) | (rw [ey]; rfl) | (rw [h]; rfl) | simp [cmp, hx, hy]
  · have ex := order_nan1 x hx
    have ey := order_self hy
    have h := order_nan1 y hx
    refine .inr (.inl ⟨⟨?_, ?_, ?_, ?_, ?_, ?_, ?_, ?_, ?_⟩, rfl, rfl⟩)
    all_goals first | (rw [ex]; rfl) | (rw [ey]; rfl) | (rw [h]; rfl) | simp [cmp, hx, hy]
  · have ex := order_nan1 x hx
    have ey := order_nan1 y hy
    have h := order_nan1 y hx
    refine .inl ⟨⟨?_, ?_, ?_, ?_, ?_, ?_, ?_, ?_, ?_⟩, rfl, rfl⟩
    all_goals first | (rw [ex]; rfl) | (rw [ey]; rfl) | (rw [h]; rfl) | simp [cmp, hx, hy]
end Go.Proofs.Ytkakdhfiakmbiaa.Fl
