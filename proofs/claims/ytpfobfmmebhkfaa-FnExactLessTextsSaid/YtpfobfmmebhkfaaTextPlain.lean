/-
  Plain facts on the order of texts, byte by byte: it is a strict total order; a beginning that two texts share means nothing. No program in sight, no conditions.
-/
import Derived.Laws.Strings
namespace Go.Proofs.Ytpfobfmmebhkfaa.Tx
open Go

theorem lt_irrefl (a : UInt8) : decide (a < a) = false := by simp
theorem less_self (x : List UInt8) : Op.bytesLess x x = false := by
  induction x with
  | nil => rfl
  | cons a x ih => simp [Op.bytesLess, ih]

theorem less_asymm (x : List UInt8) : ∀ y, Op.bytesLess x y = true → Op.bytesLess y x = false := by
  induction x with
  | nil => intro y h; cases y <;> rfl
  | cons a x ih =>
    intro y h
    cases y with
    | nil => simp [Op.bytesLess] at h
    | cons b y =>
      simp only [Op.bytesLess, Bool.or_eq_true, Bool.and_eq_true, decide_eq_true_eq, beq_iff_eq] at h
      simp only [Op.bytesLess, Bool.or_eq_false_iff, Bool.and_eq_false_iff, decide_eq_false_iff_not]
      rcases h with h | ⟨rfl, h⟩
      · rw [UInt8.lt_iff_toNat_lt] at h
        refine ⟨by rw [UInt8.lt_iff_toNat_lt]; omega, .inl ?_⟩
        simp only [beq_eq_false_iff_ne]
        rintro rfl
        omega
      · exact ⟨by simp, .inr (ih y h)⟩

theorem less_tri (x : List UInt8) : ∀ y, Op.bytesLess x y = false → Op.bytesLess y x = false → x = y := by
  induction x with
  | nil =>
    intro y h _
    cases y with
    | nil => rfl
    | cons b y => simp [Op.bytesLess] at h
  | cons a x ih =>
    intro y h k
    cases y with
    | nil => simp [Op.bytesLess] at k
    | cons b y =>
      simp only [Op.bytesLess, Bool.or_eq_false_iff, Bool.and_eq_false_iff, decide_eq_false_iff_not, UInt8.lt_iff_toNat_lt, beq_eq_false_iff_ne] at h k
      obtain ⟨h1, h2⟩ := h
      obtain ⟨k1, k2⟩ := k
      have e : a = b := UInt8.toNat_inj.1 (by omega)
      subst e
      rw [ih y (h2.resolve_left (by simp)) (k2.resolve_left (by simp))]

theorem less_trans (x : List UInt8) : ∀ y z, Op.bytesLess x y = true → Op.bytesLess y z = true → Op.bytesLess x z = true := by
  induction x with
  | nil =>
    intro y z _ k
    cases z with
    | nil => cases y <;> simp [Op.bytesLess] at k
    | cons c z => rfl
  | cons a x ih =>
    intro y z h k
    cases y with
    | nil => simp [Op.bytesLess] at h
    | cons b y =>
      cases z with
      | nil => simp [Op.bytesLess] at k
      | cons c z =>
        simp only [Op.bytesLess, Bool.or_eq_true, Bool.and_eq_true, decide_eq_true_eq, UInt8.lt_iff_toNat_lt, beq_iff_eq] at h k ⊢
        rcases h with h | ⟨rfl, h⟩
        · rcases k with k | ⟨rfl, _⟩
          · exact .inl (by omega)
          · exact .inl h
        · rcases k with k | ⟨rfl, k⟩
          · exact .inl k
          · exact .inr ⟨rfl, ih y z h k⟩

theorem less_append (p x y : List UInt8) : Op.bytesLess (p ++ x) (p ++ y) = Op.bytesLess x y := by
  induction p with
  | nil => rfl
  | cons a p ih => simp [Op.bytesLess, ih]

/-- -1, 0 or 1. -/
def cmp (x y : List UInt8) : Int := if Op.bytesLess x y then -1 else if Op.bytesLess y x then 1 else 0

theorem cmp_lt {x y : List UInt8} (h : Op.bytesLess x y = true) : cmp x y = -1 := by simp [cmp, h]
theorem cmp_gt {x y : List UInt8} (h : Op.bytesLess y x = true) : cmp x y = 1 := by simp [cmp, h, less_asymm y x h]
theorem cmp_eq (x : List UInt8) : cmp x x = 0 := by simp [cmp, less_self]
theorem tri (x y : List UInt8) : Op.bytesLess x y = true ∨ x = y ∨ Op.bytesLess y x = true := by
  cases h : Op.bytesLess x y
  · cases k : Op.bytesLess y x
    · exact .inr (.inl (less_tri x y h k))
    · exact .inr (.inr rfl)
  · exact .inl rfl
theorem cmp_vals (x y : List UInt8) : cmp x y = -1 ∨ cmp x y = 0 ∨ cmp x y = 1 := by
  rcases tri x y with h | rfl | h
  · exact .inl (cmp_lt h)
  · exact .inr (.inl (cmp_eq _))
  · exact .inr (.inr (cmp_gt h))
theorem cmp_turn (x y : List UInt8) : cmp y x = -cmp x y := by
  rcases tri x y with h | rfl | h
  · rw [cmp_lt h, cmp_gt h]; rfl
  · rw [cmp_eq]; rfl
  · rw [cmp_lt h, cmp_gt h]
theorem cmp_chain (x y z : List UInt8) (h1 : cmp x y ≤ 0) (h2 : cmp y z ≤ 0) : cmp x z = min (cmp x y) (cmp y z) := by
  rcases tri x y with h | rfl | h
  · rcases tri y z with k | rfl | k
    · rw [cmp_lt h, cmp_lt k, cmp_lt (less_trans _ _ _ h k)]; rfl
    · rw [cmp_lt h, cmp_eq]; rfl
    · rw [cmp_gt k] at h2; omega
  · rcases tri x z with k | rfl | k
    · rw [cmp_lt k, cmp_eq]; rfl
    · rw [cmp_eq]; rfl
    · rw [cmp_gt k] at h2; omega
  · rw [cmp_gt h] at h1; omega
theorem cmp_append (p x y : List UInt8) : cmp (p ++ x) (p ++ y) = cmp x y := by simp [cmp, less_append]
theorem less_cmp (x y : List UInt8) : Op.bytesLess x y = (cmp x y == -1) := by
  rcases tri x y with h | rfl | h
  · rw [cmp_lt h, h]; rfl
  · rw [cmp_eq, less_self]; rfl
  · rw [cmp_gt h, less_asymm _ _ h]; rfl
/-- What '>' on texts is written as. -/
theorem gtr_cmp (x y : List UInt8) : (!(Op.bytesLess x y || x == y)) = (cmp x y == 1) := by
  rcases tri x y with h | rfl | h
  · rw [cmp_lt h, h]; rfl
  · rw [cmp_eq]; simp
  · have hne : (x == y) = false := by
      rw [beq_eq_false_iff_ne]; rintro rfl; rw [less_self] at h; cases h
    rw [cmp_gt h, less_asymm _ _ h, hne]; rfl

/-- One step of the reference's loop. -/
theorem less_at (x y : List UInt8) (k : Nat) (hx : k < x.length) (hy : k < y.length) (a b : UInt8) (ha : x[k]? = some a) (hb : y[k]? = some b) :
    Op.bytesLess (x.drop k) (y.drop k) = (decide (a < b) || (a == b && Op.bytesLess (x.drop (k + 1)) (y.drop (k + 1)))) := by
  rw [List.drop_eq_getElem_cons hx, List.drop_eq_getElem_cons hy]
  rw [List.getElem?_eq_getElem hx] at ha
  rw [List.getElem?_eq_getElem hy] at hb
  injection ha with ha
  injection hb with hb
  rw [ha, hb]
  rfl
/-- Its end: one of the two is used up. -/
theorem less_end (x y : List UInt8) (k : Nat) (hx : k ≤ x.length) (hy : k ≤ y.length) (h : ¬ (k < x.length ∧ k < y.length)) :
    Op.bytesLess (x.drop k) (y.drop k) = decide (x.length < y.length) := by
  by_cases h1 : k < x.length
  · have h2 : y.length = k := by omega
    rw [show y.drop k = [] from List.drop_of_length_le (by omega)]
    rw [decide_eq_false (by omega)]
    cases x.drop k <;> rfl
  · have h2 : x.length = k := by omega
    rw [show x.drop k = [] from List.drop_of_length_le (by omega)]
    by_cases h3 : k < y.length
    · rw [List.drop_eq_getElem_cons h3, decide_eq_true (by omega)]; rfl
    · rw [show y.drop k = [] from List.drop_of_length_le (by omega), decide_eq_false (by omega)]; rfl
end Go.Proofs.Ytpfobfmmebhkfaa.Tx
