/- Floats of 64 bits as rational numbers: what a word stands for, how two stand to each other. No program is in sight. -/
import Derived.Laws.FloatArith
namespace Go.Proofs.Ytciblaabghiefaa.Fl
open Ieee

/-! ### powers of two over the rationals -/
def p2 (e : Int) : Rat := (2 : Rat) ^ e
theorem two_ne : (2 : Rat) ≠ 0 := by decide
theorem p2_pos (e : Int) : 0 < p2 e := Rat.zpow_pos (by decide)
theorem p2_add (a b : Int) : p2 (a + b) = p2 a * p2 b := Rat.zpow_add two_ne a b
theorem p2_zero : p2 0 = 1 := Rat.zpow_zero 2
theorem p2_nat (n : Nat) : p2 (n : Int) = ((2 ^ n : Nat) : Rat) := by
  unfold p2
  rw [Rat.zpow_natCast, Rat.natCast_pow]
  rfl
theorem p2_one : p2 1 = 2 := by rw [show (1 : Int) = ((1 : Nat) : Int) from rfl, p2_nat]; rfl
theorem p2_succ (e : Int) : p2 (e + 1) = 2 * p2 e := by rw [p2_add, p2_one]; grind
theorem p2_inv (e : Int) : p2 e * p2 (-e) = 1 := by rw [← p2_add, Int.add_right_neg, p2_zero]
theorem p2_le {a b : Int} (h : a ≤ b) : p2 a ≤ p2 b := by
  obtain ⟨n, rfl⟩ : ∃ n : Nat, b = a + n := ⟨(b - a).toNat, by omega⟩
  rw [p2_add, p2_nat]
  have h1 : (1 : Rat) ≤ ((2 ^ n : Nat) : Rat) := by
    have := Nat.one_le_two_pow (n := n)
    have h := Rat.natCast_le_natCast.2 this
    simpa using h
  have h2 := Rat.mul_le_mul_of_nonneg_left (c := p2 a) h1 (Rat.le_of_lt (p2_pos a))
  simpa using h2
theorem p2_lt {a b : Int} (h : a < b) : p2 a < p2 b := by
  have h1 : p2 (a + 1) ≤ p2 b := p2_le (by omega)
  have h2 := p2_pos a
  rw [p2_succ] at h1
  grind

/-! ### the number of a sign, a magnitude and a place -/
def sg (s : Bool) : Rat := if s then -1 else 1
def num (s : Bool) (m : Nat) (e : Int) : Rat := sg s * (m : Rat) * p2 e

theorem sg_mul (s t : Bool) : sg (s ^^ t) = sg s * sg t := by cases s <;> cases t <;> simp [sg] <;> grind
theorem sg_not (s : Bool) : sg (!s) = - sg s := by cases s <;> simp [sg] <;> grind

theorem signed_num (s : Bool) (m u : Nat) : ((signed s m u : Int) : Rat) = sg s * (m : Rat) * ((2 ^ u : Nat) : Rat) := by
  unfold signed sg
  cases s <;> simp [Nat.shiftLeft_eq, Rat.intCast_natCast] <;> grind

theorem num_signed {s : Bool} {m : Nat} {i base : Int} (h : base ≤ i) : num s m i = ((signed s m (i - base).toNat : Int) : Rat) * p2 base := by
  rw [signed_num, ← p2_nat, show (((i - base).toNat : Nat) : Int) = i - base from by omega]
  unfold num
  rw [show i = (i - base) + base from by omega, p2_add]
  rw [show i - base + base - base = i - base from by omega]
  grind

/-! ### what a word stands for -/
def val (b : Nat) : Rat := match double.read b with
  | .number s m e => num s m e
  | _ => 0
def fin (b : Nat) : Bool := match double.read b with
  | .number .. => true
  | _ => false
def sgn (b : Nat) : Bool := (double.read b).neg

theorem fin_read {b : Nat} (h : fin b = true) : ∃ s m e, double.read b = .number s m e ∧ val b = num s m e ∧ sgn b = s := by
  unfold fin at h
  unfold val sgn
  cases hr : double.read b with
  | number s m e => exact ⟨s, m, e, rfl, rfl, rfl⟩
  | infinity s => rw [hr] at h; cases h
  | nan s t => rw [hr] at h; cases h

theorem compare_cast (a b : Int) (c : Rat) (hc : 0 < c) (x y : Rat) (hx : x = (a : Rat) * c) (hy : y = (b : Rat) * c) :
    (compare a b = .lt ↔ x < y) ∧ (compare a b = .eq ↔ x = y) ∧ (compare a b = .gt ↔ y < x) := by
  subst hx hy
  refine ⟨?_, ?_, ?_⟩
  · rw [Rat.mul_lt_mul_right hc, Rat.intCast_lt_intCast, Int.compare_eq_lt]
  · rw [Int.compare_eq_eq]
    constructor
    · rintro rfl; rfl
    · intro h
      have h1 : (a : Rat) ≤ b := Rat.le_of_mul_le_mul_right (by rw [h]; exact Rat.le_refl) hc
      have h2 : (b : Rat) ≤ a := Rat.le_of_mul_le_mul_right (by rw [h]; exact Rat.le_refl) hc
      have := Rat.intCast_le_intCast.1 h1
      have := Rat.intCast_le_intCast.1 h2
      omega
  · rw [Rat.mul_lt_mul_right hc, Rat.intCast_lt_intCast, Int.compare_eq_gt]

/-- how two finite words stand to each other. -/
theorem order_fin {a b : Nat} (ha : fin a = true) (hb : fin b = true) :
    ∃ c, FloatKind.f64.format.order a b = some c ∧ (c = .lt ↔ val a < val b) ∧ (c = .eq ↔ val a = val b) ∧ (c = .gt ↔ val b < val a) := by
  obtain ⟨s, m, i, hra, hva, _⟩ := fin_read ha
  obtain ⟨t, n, j, hrb, hvb, _⟩ := fin_read hb
  refine ⟨_, ?_, compare_cast (signed s m (i - min i j).toNat) (signed t n (j - min i j).toNat) (p2 (min i j)) (p2_pos _) _ _ ?_ ?_⟩
  · show double.order a b = _
    unfold Format.order
    rw [hra, hrb]
    rfl
  · rw [hva]; exact num_signed (by omega)
  · rw [hvb]; exact num_signed (by omega)

theorem eq_fin {a b : Nat} (ha : fin a = true) (hb : fin b = true) : (FloatKind.f64.format.order a b == some .eq) = decide (val a = val b) := by
  obtain ⟨c, hc, h1, h2, h3⟩ := order_fin ha hb
  rw [hc, Bool.eq_iff_iff]; simp [h2]
theorem ne_fin {a b : Nat} (ha : fin a = true) (hb : fin b = true) : (FloatKind.f64.format.order a b != some .eq) = !decide (val a = val b) := by
  rw [← eq_fin ha hb]; rfl
theorem lt_fin {a b : Nat} (ha : fin a = true) (hb : fin b = true) : (FloatKind.f64.format.order a b == some .lt) = decide (val a < val b) := by
  obtain ⟨c, hc, h1, h2, h3⟩ := order_fin ha hb
  rw [hc, Bool.eq_iff_iff]; simp [h1]
theorem gt_fin {a b : Nat} (ha : fin a = true) (hb : fin b = true) : (FloatKind.f64.format.order a b == some .gt) = decide (val b < val a) := by
  obtain ⟨c, hc, h1, h2, h3⟩ := order_fin ha hb
  rw [hc, Bool.eq_iff_iff]; simp [h3]
theorem le_fin {a b : Nat} (ha : fin a = true) (hb : fin b = true) : (FloatKind.f64.format.order a b == some .lt || FloatKind.f64.format.order a b == some .eq) = decide (val a ≤ val b) := by
  rw [eq_fin ha hb, lt_fin ha hb, Bool.eq_iff_iff]; simp only [Bool.or_eq_true, decide_eq_true_eq]; exact Rat.le_iff_lt_or_eq.symm
theorem ge_fin {a b : Nat} (ha : fin a = true) (hb : fin b = true) : (FloatKind.f64.format.order a b == some .gt || FloatKind.f64.format.order a b == some .eq) = decide (val b ≤ val a) := by
  rw [eq_fin ha hb, gt_fin ha hb, Bool.eq_iff_iff]; simp only [Bool.or_eq_true, decide_eq_true_eq]
  rw [Rat.le_iff_lt_or_eq]
  constructor
  · rintro (h | h)
    · exact .inl h
    · exact .inr h.symm
  · rintro (h | h)
    · exact .inl h
    · exact .inr h.symm

/-! ### the rungs -/
theorem binade_val : double.binade = 4503599627370496 := by decide
theorem infRung_val : double.infRung = 9218868437227405312 := by decide
theorem signWeight_val : double.signWeight = 9223372036854775808 := by decide
theorem leastPlace_val : double.leastPlace = -1074 := by decide
theorem fractionBits_val : double.fractionBits = 52 := by decide

theorem read_word (s : Bool) (r : Nat) (h : r < 9223372036854775808) : double.read (double.word s r) =
    (if r < 4503599627370496 then .number s r (-1074) else if r < 9218868437227405312 then .number s (4503599627370496 + r % 4503599627370496) (-1074 + (r / 4503599627370496 - 1 : Nat))
     else if r = 9218868437227405312 then .infinity s else .nan s (r - 9218868437227405312)) := by
  unfold Format.read Format.word
  simp only [binade_val, infRung_val, signWeight_val, leastPlace_val]
  have e1 : (if s = true then 9223372036854775808 + r else r) / 9223372036854775808 % 2 = if s then 1 else 0 := by
    cases s <;> simp <;> omega
  have e2 : (if s = true then 9223372036854775808 + r else r) % 9223372036854775808 = r := by
    cases s <;> simp <;> omega
  rw [e1, e2]
  cases s <;> simp

/-- a rung of a place and a significand. -/
theorem word_val (s : Bool) (t k : Nat) (hk : k ≤ 9007199254740992) (ht : t = 0 ∨ 4503599627370496 ≤ k) (hf : t * 4503599627370496 + k < 9218868437227405312) :
    fin (double.word s (t * 4503599627370496 + k)) = true ∧ val (double.word s (t * 4503599627370496 + k)) = num s k (-1074 + t) ∧ sgn (double.word s (t * 4503599627370496 + k)) = s := by
  have hr := read_word s (t * 4503599627370496 + k) (by omega)
  by_cases h1 : t * 4503599627370496 + k < 4503599627370496
  · have ht0 : t = 0 := by omega
    subst ht0
    rw [if_pos h1] at hr
    unfold fin val sgn
    rw [hr]
    simp [Datum.neg]
  · rw [if_neg h1, if_pos hf] at hr
    unfold fin val sgn
    rw [hr]
    refine ⟨rfl, ?_, rfl⟩
    show num s _ _ = num s _ _
    by_cases h2 : k = 9007199254740992
    · subst h2
      rw [show (t * 4503599627370496 + 9007199254740992) % 4503599627370496 = 0 from by omega, show (t * 4503599627370496 + 9007199254740992) / 4503599627370496 - 1 = t + 1 from by omega]
      unfold num
      rw [show (-1074 + ((t + 1 : Nat) : Int)) = (-1074 + (t : Int)) + 1 from by omega, p2_succ]
      rw [show ((9007199254740992 : Nat) : Rat) = 2 * ((4503599627370496 : Nat) : Rat) from by simp only [Rat.natCast_ofNat]; grind]
      simp only [Nat.add_zero]
      grind
    · by_cases h3 : 4503599627370496 ≤ k
      · rw [show (t * 4503599627370496 + k) % 4503599627370496 = k - 4503599627370496 from by omega, show (t * 4503599627370496 + k) / 4503599627370496 - 1 = t from by omega,
          show 4503599627370496 + (k - 4503599627370496) = k from by omega]
      · omega
end Go.Proofs.Ytciblaabghiefaa.Fl
