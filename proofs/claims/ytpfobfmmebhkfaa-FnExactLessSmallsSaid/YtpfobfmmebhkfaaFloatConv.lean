/-
  The value of a floating-point number of 32 bits in 64 bits: it stands to others as the number itself; a NaN becomes a NaN. No program in sight.
-/
import Derived.Test.YtpfobfmmebhkfaaFloatPlain
import Derived.Laws.FloatArith
import Derived.Laws.NewFold
namespace Go.Proofs.Ytpfobfmmebhkfaa.Fl
open Ieee

theorem cut_zero (neg : Bool) (n : Nat) : Toward.even.cut neg n 0 = n := by
  simp [Toward.cut, Nat.mod_one]

theorem kept_bounds (m : Nat) (hm : m ≠ 0) (hl : m.log2 ≤ 52) : 4503599627370496 ≤ m <<< (52 - m.log2) ∧ m <<< (52 - m.log2) < 9007199254740992 := by
  have l1 := Nat.log2_self_le hm
  have l2 : m < 2 ^ (m.log2 + 1) := Nat.lt_log2_self
  rw [Nat.shiftLeft_eq]
  have e1 : 2 ^ m.log2 * 2 ^ (52 - m.log2) = 4503599627370496 := by
    rw [← Nat.pow_add, show m.log2 + (52 - m.log2) = 52 from by omega]
  have e2 : 2 ^ (m.log2 + 1) * 2 ^ (52 - m.log2) = 9007199254740992 := by
    rw [← Nat.pow_add, show m.log2 + 1 + (52 - m.log2) = 53 from by omega]
  have p : 0 < 2 ^ (52 - m.log2) := Nat.two_pow_pos _
  constructor
  · rw [← e1]; exact Nat.mul_le_mul_right _ l1
  · rw [← e2]; exact Nat.mul_lt_mul_of_pos_right l2 p

theorem read_rung (neg : Bool) (E K : Nat) (h1 : 4503599627370496 ≤ K) (h2 : K < 9007199254740992) (hE : E < 2000) :
    double.read (double.word neg (E * 4503599627370496 + K)) = .number neg K (-1074 + (E : Int)) := by
  have hs : double.signWeight = 9223372036854775808 := by decide
  have hb : double.binade = 4503599627370496 := by decide
  have hi : double.infRung = 9218868437227405312 := by decide
  have hl : double.leastPlace = -1074 := by decide
  unfold Format.read Format.word
  simp only [hs, hb, hi, hl]
  have hr : (if neg = true then 9223372036854775808 + (E * 4503599627370496 + K) else E * 4503599627370496 + K) % 9223372036854775808 = E * 4503599627370496 + K := by
    cases neg <;> simp <;> omega
  have hn : ((if neg = true then 9223372036854775808 + (E * 4503599627370496 + K) else E * 4503599627370496 + K) / 9223372036854775808 % 2 == 1) = neg := by
    cases neg
    · have : (E * 4503599627370496 + K) / 9223372036854775808 = 0 := by omega
      simp [this]
    · have : (9223372036854775808 + (E * 4503599627370496 + K)) / 9223372036854775808 = 1 := by omega
      simp [this]
  rw [hr, hn, if_neg (by omega), if_pos (by omega)]
  have e1 : (E * 4503599627370496 + K) % 4503599627370496 = K - 4503599627370496 := by omega
  have e2 : (E * 4503599627370496 + K) / 4503599627370496 = E + 1 := by omega
  rw [e1, e2, show 4503599627370496 + (K - 4503599627370496) = K from by omega, Nat.add_sub_cancel]

theorem write_eq (neg : Bool) (m : Nat) (i : Int) (hm : m ≠ 0) (hl : m.log2 < 24) (h1 : -149 ≤ i) (h2 : i ≤ 104) :
    double.write (.number neg m i) = double.word neg ((i + m.log2 + 1022).toNat * 4503599627370496 + m <<< (52 - m.log2)) := by
  obtain ⟨k1, k2⟩ := kept_bounds m hm (by omega)
  have hb : double.binade = 4503599627370496 := by decide
  have hi : double.infRung = 9218868437227405312 := by decide
  have hp : double.leastPlace = -1074 := by decide
  have hf : (double.fractionBits : Int) = 52 := by decide
  show double.nearest neg m i = _
  unfold Format.nearest
  rw [if_neg hm]
  simp only [hb, hi, hp, hf]
  have e0 : max (i + (m.log2 : Int) - 52) (-1074) = i + (m.log2 : Int) - 52 := by omega
  rw [e0]
  have e1 : (i - (i + (m.log2 : Int) - 52)).toNat = 52 - m.log2 := by omega
  have e2 : (i + (m.log2 : Int) - 52 - i).toNat = 0 := by omega
  have e3 : (i + (m.log2 : Int) - 52 - -1074).toNat = (i + m.log2 + 1022).toNat := by omega
  rw [e1, e2, e3, cut_zero, Nat.min_eq_left (by omega)]

theorem read_write (neg : Bool) (m : Nat) (i : Int) (hm : m ≠ 0) (hl : m.log2 < 24) (h1 : -149 ≤ i) (h2 : i ≤ 104) :
    double.read (double.write (.number neg m i)) = .number neg (m <<< (52 - m.log2)) (i + m.log2 - 52) := by
  obtain ⟨k1, k2⟩ := kept_bounds m hm (by omega)
  rw [write_eq neg m i hm hl h1 h2, read_rung neg _ _ k1 k2 (by omega), show (-1074 + (((i + (m.log2 : Int) + 1022).toNat : Nat) : Int)) = i + (m.log2 : Int) - 52 from by omega]

/-- One value, written in two ways. -/
def Same (d e : Datum) : Prop := (∃ s, d = .infinity s ∧ e = .infinity s) ∨ ∃ (s : Bool) (m k : Nat) (i : Int), d = .number s m i ∧ e = .number s (m <<< k) (i - k)
theorem Same.inf (s : Bool) : Same (.infinity s) (.infinity s) := .inl ⟨s, rfl, rfl⟩
theorem Same.num (s : Bool) (m k : Nat) (i : Int) : Same (.number s m i) (.number s (m <<< k) (i - k)) := .inr ⟨s, m, k, i, rfl, rfl⟩

theorem signed_shift (s : Bool) (m k a : Nat) : signed s (m <<< k) a = signed s m (k + a) := by
  unfold signed
  rw [Nat.shiftLeft_add]

theorem Same.key {b : Int} {M : Nat} {d e : Datum} (h : Same d e) (he : ok b M e) : ok b M d ∧ key b M d = key b M e := by
  rcases h with ⟨s, rfl, rfl⟩ | ⟨s, m, k, i, rfl, rfl⟩
  · exact ⟨he, rfl⟩
  · obtain ⟨h1, h2⟩ := he
    have e : signed s (m <<< k) (i - k - b).toNat = signed s m (i - b).toNat := by
      rw [signed_shift]
      congr 1
      omega
    rw [e] at h2
    exact ⟨⟨by omega, h2⟩, e.symm⟩

theorem Same.noNaN {d e : Datum} (h : Same d e) : d.isNaN = false ∧ e.isNaN = false := by
  rcases h with ⟨s, rfl, rfl⟩ | ⟨s, m, k, i, rfl, rfl⟩ <;> exact ⟨rfl, rfl⟩

theorem Same.order {d e d' e' : Datum} (h : Same d d') (k : Same e e') : d.order e = d'.order e' := by
  obtain ⟨b, M, h1, h2, _⟩ := ok3 d' e' e' h.noNaN.2 k.noNaN.2 k.noNaN.2
  obtain ⟨g1, e1⟩ := h.key h1
  obtain ⟨g2, e2⟩ := k.key h2
  rw [order_key b M d e g1 g2, order_key b M d' e' h1 h2, e1, e2]

/-- What a word of 32 bits stands for. -/
theorem read_single (x : Nat) : (single.read x).isNaN = true ∨ (∃ s, single.read x = .infinity s) ∨ ∃ s m i, single.read x = .number s m i ∧ m < 16777216 ∧ -149 ≤ i ∧ i ≤ 104 := by
  have hs : single.signWeight = 2147483648 := by decide
  have hb : single.binade = 8388608 := by decide
  have hi : single.infRung = 2139095040 := by decide
  have hl : single.leastPlace = -149 := by decide
  unfold Format.read
  simp only [hs, hb, hi, hl]
  by_cases h1 : x % 2147483648 < 8388608
  · rw [if_pos h1]
    exact .inr (.inr ⟨_, _, _, rfl, by omega, by omega, by omega⟩)
  · rw [if_neg h1]
    by_cases h2 : x % 2147483648 < 2139095040
    · rw [if_pos h2]
      exact .inr (.inr ⟨_, _, _, rfl, by omega, by omega, by omega⟩)
    · rw [if_neg h2]
      by_cases h3 : x % 2147483648 = 2139095040
      · rw [if_pos h3]; exact .inr (.inl ⟨_, rfl⟩)
      · rw [if_neg h3]; exact .inl rfl

theorem read_zero (s : Bool) : double.read (double.word s 0) = .number s 0 (-1074) := by cases s <;> decide
theorem read_inf (s : Bool) : double.read (double.write (.infinity s)) = .infinity s := by cases s <;> decide

/-- The value in 64 bits. -/
def wide (x : Nat) : Nat := double.write (single.read x)

theorem wide_same (x : Nat) (hx : nan single x = false) : Same (single.read x) (double.read (wide x)) := by
  unfold wide
  unfold nan at hx
  rcases read_single x with h | ⟨s, h⟩ | ⟨s, m, i, h, hm, h1, h2⟩
  · rw [h] at hx; cases hx
  · rw [h, read_inf]; exact Same.inf s
  · rw [h]
    by_cases hz : m = 0
    · subst hz
      have e : double.write (.number s 0 i) = double.word s 0 := rfl
      rw [e, read_zero]
      have := Same.num s 0 (i + 1074).toNat i
      rw [Nat.zero_shiftLeft, show i - ((i + 1074).toNat : Int) = -1074 from by omega] at this
      exact this
    · have hlog : m.log2 < 24 := (Nat.log2_lt hz).2 hm
      rw [read_write s m i hz hlog h1 h2]
      have := Same.num s m (52 - m.log2) i
      rw [show i - ((52 - m.log2 : Nat) : Int) = i + (m.log2 : Int) - 52 from by omega] at this
      exact this

theorem wide_nan (x : Nat) (hx : nan single x = false) : nan double (wide x) = false := (wide_same x hx).noNaN.2
theorem wide_order (x y : Nat) (hx : nan single x = false) (hy : nan single y = false) : double.order (wide x) (wide y) = single.order x y := ((wide_same x hx).order (wide_same y hy)).symm

/-- A NaN's bits as the model draws them are a NaN's. -/
theorem drawn_nan (t : Nat) : nan double ((t % 2) * 2 ^ 63 + 0x7ff0000000000000 + 1 + (t / 2) % (2 ^ 52 - 1)) = true := by
  have hs : double.signWeight = 9223372036854775808 := by decide
  have hb : double.binade = 4503599627370496 := by decide
  have hi : double.infRung = 9218868437227405312 := by decide
  unfold nan Format.read
  simp only [hs, hb, hi]
  have hlt : (t / 2) % (2 ^ 52 - 1) < 4503599627370495 := Nat.mod_lt _ (by decide)
  generalize (t / 2) % (2 ^ 52 - 1) = r at hlt
  have h2 : t % 2 < 2 := Nat.mod_lt _ (by decide)
  generalize t % 2 = s at h2
  have e : (s * 2 ^ 63 + 0x7ff0000000000000 + 1 + r) % 9223372036854775808 = 9218868437227405312 + 1 + r := by omega
  rw [e, if_neg (by omega), if_neg (by omega), if_neg (by omega)]
  rfl

open Go in
/-- The conversion from 32 to 64 bits, of a number that is no NaN. -/
theorem run_wide {P : Program} (src dst : TypeId) (hs : (P.underlying src).isSome = true) (hd : P.underlying dst = some (.float .f64)) (x : Nat) (hx : nan single x = false) (w : World) :
    (convert src dst (.float .f32 x)).run P w = .ok (.float .f64 (wide x)) w := by
  refine run_convert_float_float w src dst .f32 .f64 x (wide x) hs hd ?_
  unfold floatToFloatBits
  rw [if_neg (by decide)]
  have hsame := wide_same x hx
  unfold wide at hsame ⊢
  show (match single.read x with | .nan _ _ => none | .infinity s => some (double.write (.infinity s)) | .number s m e => if (double.read (double.write (.number s m e))).isInfinity then none else some (double.write (.number s m e))) = some (double.write (single.read x))
  rcases read_single x with h | ⟨s, h⟩ | ⟨s, m, i, h, _, _, _⟩
  · unfold nan at hx; rw [h] at hx; cases hx
  · rw [h]
  · rw [h] at hsame ⊢
    show (if (double.read (double.write (.number s m i))).isInfinity then none else some (double.write (.number s m i))) = some (double.write (.number s m i))
    generalize double.write (.number s m i) = r at hsame ⊢
    have hf : (double.read r).isInfinity = false := by
      generalize double.read r = d at hsame
      rcases hsame with ⟨_, hc, _⟩ | ⟨_, _, _, _, _, rfl⟩
      · cases hc
      · rfl
    rw [hf]
    rfl

open Go in
/-- The bits that the model draws for a NaN. -/
def nanC (w : World) (x : Nat) : Nat := (Question.nanConv .f64 x).cut (w.tape w.drawn (.nanConv .f64 x))
open Go in
theorem nanC_nan (w : World) (x : Nat) : nan double (nanC w x) = true := drawn_nan _

open Go in
/-- The conversion from 32 to 64 bits, of a NaN. -/
theorem run_wide_nan {P : Program} (src dst : TypeId) (hs : (P.underlying src).isSome = true) (hd : P.underlying dst = some (.float .f64)) (x : Nat) (hx : nan single x = true) (w : World) :
    (convert src dst (.float .f32 x)).run P w = .ok (.float .f64 (nanC w x)) w.drew := by
  obtain ⟨u, hs'⟩ := Option.isSome_iff_exists.1 hs
  obtain ⟨s, f, hr⟩ : ∃ s f, single.read x = .nan s f := by
    unfold nan at hx
    generalize single.read x = d at hx
    cases d with
    | nan s f => exact ⟨s, f, rfl⟩
    | number => cases hx
    | infinity => cases hx
  have hr' : FloatKind.f32.decode x = .nan s f := hr
  cases u <;> simp [convert, run_underlying hs', run_underlying hd, Conv.floatToFloat, hr', Question.forced, nanC]
end Go.Proofs.Ytpfobfmmebhkfaa.Fl
