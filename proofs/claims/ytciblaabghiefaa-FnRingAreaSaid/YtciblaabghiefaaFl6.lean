/- Words that are no numbers: NaN, infinities; the lesser and the greater of two words as the program takes them. -/
import Derived.Test.YtciblaabghiefaaFl5
namespace Go.Proofs.Ytciblaabghiefaa.Fl
open Ieee

def nanB (b : Nat) : Bool := (double.read b).isNaN
def infB (b : Nat) : Bool := (double.read b).isInfinity

theorem fin_eq (b : Nat) : fin b = (!nanB b && !infB b) := by
  unfold fin nanB infB
  cases double.read b <;> rfl

theorem nan_raw (b : Nat) : (FloatKind.f64.format.order b b != some .eq) = nanB b := by
  unfold nanB
  cases hr : double.read b with
  | number s m e => rw [order_self (by rw [hr]; simp)]; rfl
  | infinity s => rw [order_self (by rw [hr]; simp)]; rfl
  | nan s t =>
    have : FloatKind.f64.format.order b b = none := by
      show (double.read b).order (double.read b) = _
      rw [hr]; rfl
    rw [this]; rfl

/-- The word without its sign. -/
def absB (b : Nat) : Nat := b % 9223372036854775808

theorem read_abs (b : Nat) : double.read (absB b) = (match double.read b with | .number _ m e => .number false m e | .infinity _ => .infinity false | .nan _ t => .nan false t) := by
  have h1 : absB b / 9223372036854775808 = 0 := Nat.div_eq_of_lt (Nat.mod_lt _ (by omega))
  have h2 : absB b % 9223372036854775808 = b % 9223372036854775808 := Nat.mod_mod _ _
  unfold Format.read
  simp only [binade_val, infRung_val, signWeight_val, leastPlace_val]
  rw [h1, h2]
  by_cases c1 : b % 9223372036854775808 < 4503599627370496
  · simp [c1]
  · by_cases c2 : b % 9223372036854775808 < 9218868437227405312
    · simp [c1, c2]
    · by_cases c3 : b % 9223372036854775808 = 9218868437227405312
      · simp [c3]
      · simp [c1, c2, c3]

theorem max_read : double.read 9218868437227405311 = .number false 9007199254740991 971 := by decide

/-- 'math.IsInf(x, 0)' as the program asks it. -/
theorem inf_raw (b : Nat) : (FloatKind.f64.format.order (absB b) 9218868437227405311 == some .gt) = infB b := by
  unfold infB
  have ha := read_abs b
  cases hr : double.read b with
  | number s m e =>
    rw [hr] at ha
    obtain ⟨m1, e1, e2⟩ := read_bounds hr
    have fa : fin (absB b) = true := by unfold fin; rw [ha]
    have fm : fin 9218868437227405311 = true := by unfold fin; rw [max_read]
    rw [gt_fin fa fm]
    have va : val (absB b) = num false m e := by unfold val; rw [ha]
    have vm : val 9218868437227405311 = num false 9007199254740991 971 := by unfold val; rw [max_read]
    rw [va, vm]
    show decide _ = false
    rw [decide_eq_false_iff_not, Rat.not_lt]
    unfold num sg
    have a1 := Rat.mul_le_mul_of_nonneg_right (c := p2 e) (rat_nat_le (show m ≤ 9007199254740991 from by omega)) (Rat.le_of_lt (p2_pos e))
    have a2 := Rat.mul_le_mul_of_nonneg_left (c := ((9007199254740991 : Nat) : Rat)) (p2_le e2) Rat.natCast_nonneg
    simp at *
    grind
  | infinity s =>
    rw [hr] at ha
    have : FloatKind.f64.format.order (absB b) 9218868437227405311 = some .gt := by
      show (double.read (absB b)).order (double.read 9218868437227405311) = _
      rw [ha, max_read]; rfl
    rw [this]; rfl
  | nan s t =>
    rw [hr] at ha
    have : FloatKind.f64.format.order (absB b) 9218868437227405311 = none := by
      show (double.read (absB b)).order (double.read 9218868437227405311) = _
      rw [ha]; rfl
    rw [this]; rfl

def ltB (a b : Nat) : Bool := FloatKind.f64.format.order a b == some .lt
def gtB (a b : Nat) : Bool := FloatKind.f64.format.order a b == some .gt
def leB (a b : Nat) : Bool := FloatKind.f64.format.order a b == some .lt || FloatKind.f64.format.order a b == some .eq
def geB (a b : Nat) : Bool := FloatKind.f64.format.order a b == some .gt || FloatKind.f64.format.order a b == some .eq
def eqB (a b : Nat) : Bool := FloatKind.f64.format.order a b == some .eq

/-- 'fastMin', 'fastMax' of package geom. -/
def fmin (a b : Nat) : Nat := if nanB a || ltB a b then a else b
def fmax (a b : Nat) : Nat := if nanB a || gtB a b then a else b

theorem fmin_fin {a b : Nat} (ha : fin a = true) (hb : fin b = true) : fin (fmin a b) = true ∧ val (fmin a b) = min (val a) (val b) := by
  have na : nanB a = false := by rw [fin_eq] at ha; simp at ha; exact ha.1
  have hl : ltB a b = decide (val a < val b) := lt_fin ha hb
  unfold fmin
  rw [na, hl]
  by_cases h : val a < val b
  · simp only [Bool.false_or, decide_eq_true_eq, h, if_true]
    exact ⟨ha, by grind⟩
  · simp only [Bool.false_or, decide_eq_true_eq, h, if_false]
    exact ⟨hb, by grind⟩
theorem fmax_fin {a b : Nat} (ha : fin a = true) (hb : fin b = true) : fin (fmax a b) = true ∧ val (fmax a b) = max (val a) (val b) := by
  have na : nanB a = false := by rw [fin_eq] at ha; simp at ha; exact ha.1
  have hl : gtB a b = decide (val b < val a) := gt_fin ha hb
  unfold fmax
  rw [na, hl]
  by_cases h : val b < val a
  · simp only [Bool.false_or, decide_eq_true_eq, h, if_true]
    exact ⟨ha, by grind⟩
  · simp only [Bool.false_or, decide_eq_true_eq, h, if_false]
    exact ⟨hb, by grind⟩

theorem order_inf_l {a b : Nat} {s : Bool} (ha : double.read a = .infinity s) (hb : nanB b = false) :
    FloatKind.f64.format.order a b = (match double.read b with | .infinity t => some (compare t.toNat s.toNat) | _ => some (if s then .lt else .gt)) := by
  show (double.read a).order (double.read b) = _
  unfold nanB at hb
  cases hr : double.read b with
  | number t m e => rw [ha]; rfl
  | infinity t => rw [ha]; rfl
  | nan t u => rw [hr] at hb; cases hb

/-- The lesser and the greater of two words are numbers just if both are. -/
theorem minmax_fin (a b : Nat) : (fin (fmin a b) && fin (fmax a b)) = (fin a && fin b) := by
  cases ha : fin a <;> cases hb : fin b
  · -- neither
    have : fin (fmin a b) = false := by unfold fmin; split <;> assumption
    simp [this]
  · -- a is none, b is a number
    have nb : nanB b = false := by rw [fin_eq] at hb; simp at hb; exact hb.1
    by_cases hn : nanB a = true
    · have : fmin a b = a := by unfold fmin; simp [hn]
      rw [this, ha]; rfl
    · obtain ⟨s, m, e, hrb, _, _⟩ := fin_read hb
      have hi : infB a = true := by rw [fin_eq] at ha; simp at hn; simp [hn] at ha; exact ha
      cases hr : double.read a with
      | number s m e => unfold infB at hi; rw [hr] at hi; cases hi
      | nan s t => unfold infB at hi; rw [hr] at hi; cases hi
      | infinity s =>
        have ho := order_inf_l hr nb
        rw [hrb] at ho
        simp only at ho
        cases s
        · have : fmax a b = a := by unfold fmax gtB; rw [ho]; simp
          rw [this, ha]; simp
        · have : fmin a b = a := by unfold fmin ltB; rw [ho]; simp
          rw [this, ha]; simp
  · -- b is none, a is a number
    have na : nanB a = false := by rw [fin_eq] at ha; simp at ha; exact ha.1
    by_cases hn : nanB b = true
    · have ho : FloatKind.f64.format.order a b = none := by
        show (double.read a).order (double.read b) = _
        unfold nanB at hn
        cases hr : double.read b with
        | number s m e => rw [hr] at hn; cases hn
        | infinity s => rw [hr] at hn; cases hn
        | nan s t => cases double.read a <;> rfl
      have : fmin a b = b := by unfold fmin ltB; rw [ho, na]; simp
      rw [this, hb]; rfl
    · obtain ⟨s, m, e, hra, _, _⟩ := fin_read ha
      have hi : infB b = true := by rw [fin_eq] at hb; simp at hn; simp [hn] at hb; exact hb
      cases hr : double.read b with
      | number s m e => unfold infB at hi; rw [hr] at hi; cases hi
      | nan s t => unfold infB at hi; rw [hr] at hi; cases hi
      | infinity t =>
        have ho : FloatKind.f64.format.order a b = some (if t then .gt else .lt) := by
          show (double.read a).order (double.read b) = _
          rw [hra, hr]; rfl
        cases t
        · have : fmax a b = b := by unfold fmax gtB; rw [ho, na]; simp
          rw [this, hb]; simp
        · have : fmin a b = b := by unfold fmin ltB; rw [ho, na]; simp
          rw [this, hb]; simp
  · simp [fmin_fin ha hb, fmax_fin ha hb]
end Go.Proofs.Ytciblaabghiefaa.Fl
