/- Arithmetic on words that stand for numbers, where the answer is a number that a word stands for. -/
import Derived.Test.YtciblaabghiefaaFl2
namespace Go.Proofs.Ytciblaabghiefaa.Fl
open Ieee

/-- A number that a word stands for. -/
def Rep (x : Rat) : Prop := ∃ k j : Int, x = (k : Rat) * p2 j ∧ k.natAbs ≤ 9007199254740992 ∧ -1074 ≤ j ∧ x < p2 1024 ∧ -x < p2 1024

theorem sg_natAbs (k : Int) : (k : Rat) = sg (k < 0) * (k.natAbs : Rat) := by
  by_cases h : k < 0
  · have : k = -(k.natAbs : Int) := by omega
    rw [show sg (decide (k < 0)) = -1 from by simp [sg, h]]
    generalize k.natAbs = n at *
    subst this
    rw [Rat.intCast_neg, Rat.intCast_natCast]; grind
  · have : k = (k.natAbs : Int) := by omega
    rw [show sg (decide (k < 0)) = 1 from by simp [sg, h]]
    generalize k.natAbs = n at *
    subst this
    rw [Rat.intCast_natCast]; grind

theorem sg_ne (s : Bool) : sg s ≠ 0 := by cases s <;> simp [sg] <;> decide
theorem sg_sq (s : Bool) : sg s * sg s = 1 := by cases s <;> simp [sg] <;> grind

theorem abs_eq {s t : Bool} {a b : Rat} (ha : 0 ≤ a) (hb : 0 ≤ b) (h : sg s * a = sg t * b) : a = b := by
  cases s <;> cases t <;> simp [sg] at h <;> grind

theorem word_zero (s : Bool) : fin (double.word s 0) = true ∧ val (double.word s 0) = 0 ∧ sgn (double.word s 0) = s := by
  obtain ⟨a, b, c⟩ := word_val s 0 0 (by omega) (.inl rfl) (by omega)
  simp only [Nat.zero_mul, Nat.zero_add] at a b c
  refine ⟨a, ?_, c⟩
  rw [b]
  show sg s * 0 * _ = 0
  grind

theorem write_rep {s : Bool} {m : Nat} {e : Int} (h : Rep (num s m e)) : fin (double.write (.number s m e)) = true ∧ val (double.write (.number s m e)) = num s m e ∧ sgn (double.write (.number s m e)) = s := by
  show fin (double.nearest s m e) = true ∧ val (double.nearest s m e) = _ ∧ sgn (double.nearest s m e) = s
  by_cases hm : m = 0
  · subst hm
    have : double.nearest s 0 e = double.word s 0 := by unfold Format.nearest; rw [if_pos rfl]
    rw [this]
    obtain ⟨a, b, c⟩ := word_zero s
    refine ⟨a, ?_, c⟩
    rw [b]
    show 0 = sg s * 0 * _
    grind
  · obtain ⟨k, j, hx, hk, h1, h2, h3⟩ := h
    refine nearest_exact s m e hm k.natAbs j h1 hk ?_ (by unfold num sg at h2 h3; cases s <;> simp at h2 h3 <;> grind)
    rw [sg_natAbs k] at hx
    unfold num at hx
    have hp := p2_pos e
    have hq := p2_pos j
    refine abs_eq (s := s) (t := decide (k < 0)) (Rat.mul_nonneg Rat.natCast_nonneg (Rat.le_of_lt hp)) (Rat.mul_nonneg Rat.natCast_nonneg (Rat.le_of_lt hq)) ?_
    rw [← Rat.mul_assoc, hx, Rat.mul_assoc]

theorem Rep.int {n : Int} (h : n.natAbs ≤ 9007199254740992) : Rep (n : Rat) := by
  have h2 : ((9007199254740992 : Nat) : Rat) < p2 1024 := by rw [Rat.natCast_ofNat, ← p2_53]; exact p2_lt (by omega)
  have h3 : (n : Rat) ≤ ((9007199254740992 : Int) : Rat) := Rat.intCast_le_intCast.2 (by omega)
  have h4 : (((-9007199254740992 : Int)) : Rat) ≤ (n : Rat) := Rat.intCast_le_intCast.2 (by omega)
  refine ⟨n, 0, by rw [p2_zero]; grind, h, by omega, ?_, ?_⟩
  · simp at h2 h3; grind
  · simp at h2 h4; grind

theorem num_int (n : Int) : num (n < 0) n.natAbs 0 = (n : Rat) := by
  unfold num
  rw [p2_zero, ← sg_natAbs]; grind

/-- A word that stands for a whole number. -/
def isI (b : Nat) (n : Int) : Prop := fin b = true ∧ val b = (n : Rat)

theorem ofInt_I {n : Int} (h : n.natAbs ≤ 9007199254740992) : isI (floatOfInt .f64 n) n := by
  have hr : Rep (num (n < 0) n.natAbs 0) := by rw [num_int]; exact .int h
  obtain ⟨a, b, _⟩ := write_rep hr
  exact ⟨a, by rw [num_int] at b; exact b⟩

theorem sum_num (s : Bool) (m : Nat) (i : Int) (t : Bool) (n : Nat) (j : Int) : ∃ u k e, (Datum.number s m i).sum (.number t n j) = some (.number u k e) ∧ num u k e = num s m i + num t n j := by
  refine ⟨_, _, _, rfl, ?_⟩
  have h1 := num_signed (s := s) (m := m) (i := i) (base := min i j) (by omega)
  have h2 := num_signed (s := t) (m := n) (i := j) (base := min i j) (by omega)
  rw [h1, h2]
  generalize signed s m (i - min i j).toNat = a
  generalize signed t n (j - min i j).toNat = b
  rw [← Rat.add_mul, ← Rat.intCast_add]
  by_cases h : a + b = 0
  · rw [h]
    unfold num
    show _ * 0 * _ = 0 * _
    grind
  · rw [if_neg h]
    unfold num
    rw [← sg_natAbs]

theorem product_num (s : Bool) (m : Nat) (i : Int) (t : Bool) (n : Nat) (j : Int) : (Datum.number s m i).product (.number t n j) = some (.number (s ^^ t) (m * n) (i + j)) ∧ num (s ^^ t) (m * n) (i + j) = num s m i * num t n j := by
  refine ⟨rfl, ?_⟩
  unfold num
  rw [sg_mul, p2_add, Rat.natCast_mul]
  grind

theorem num_neg (s : Bool) (m : Nat) (e : Int) : num (!s) m e = - num s m e := by
  unfold num; rw [sg_not]; grind

theorem add_rep {a b : Nat} (ha : fin a = true) (hb : fin b = true) (h : Rep (val a + val b)) : ∃ r, floatBits .add .f64 a b = some r ∧ fin r = true ∧ val r = val a + val b := by
  obtain ⟨s, m, i, hra, hva, _⟩ := fin_read ha
  obtain ⟨t, n, j, hrb, hvb, _⟩ := fin_read hb
  obtain ⟨u, k, e, hs, hv⟩ := sum_num s m i t n j
  rw [hva, hvb, ← hv] at h
  obtain ⟨w1, w2, _⟩ := write_rep h
  refine ⟨_, ?_, w1, by rw [w2, hv, hva, hvb]⟩
  show double.add a b = _
  unfold Format.add
  rw [hra, hrb, hs]
  rfl

theorem sub_rep {a b : Nat} (ha : fin a = true) (hb : fin b = true) (h : Rep (val a - val b)) : ∃ r, floatBits .sub .f64 a b = some r ∧ fin r = true ∧ val r = val a - val b := by
  obtain ⟨s, m, i, hra, hva, _⟩ := fin_read ha
  obtain ⟨t, n, j, hrb, hvb, _⟩ := fin_read hb
  obtain ⟨u, k, e, hs, hv⟩ := sum_num s m i (!t) n j
  rw [num_neg] at hv
  have hv' : num u k e = val a - val b := by rw [hv, hva, hvb]; grind
  rw [← hv'] at h
  obtain ⟨w1, w2, _⟩ := write_rep h
  refine ⟨_, ?_, w1, by rw [w2, hv']⟩
  show double.sub a b = _
  unfold Format.sub
  rw [hra, hrb]
  show Option.map _ ((Datum.number s m i).sum (.number (!t) n j)) = _
  rw [hs]
  rfl

theorem mul_rep {a b : Nat} (ha : fin a = true) (hb : fin b = true) (h : Rep (val a * val b)) : ∃ r, floatBits .mul .f64 a b = some r ∧ fin r = true ∧ val r = val a * val b := by
  obtain ⟨s, m, i, hra, hva, _⟩ := fin_read ha
  obtain ⟨t, n, j, hrb, hvb, _⟩ := fin_read hb
  obtain ⟨hs, hv⟩ := product_num s m i t n j
  rw [hva, hvb, ← hv] at h
  obtain ⟨w1, w2, _⟩ := write_rep h
  refine ⟨_, ?_, w1, by rw [w2, hv, hva, hvb]⟩
  show double.mul a b = _
  unfold Format.mul
  rw [hra, hrb, hs]
  rfl

theorem add_I {a b : Nat} {x y : Int} (ha : isI a x) (hb : isI b y) (h : (x + y).natAbs ≤ 9007199254740992) : ∃ r, floatBits .add .f64 a b = some r ∧ isI r (x + y) := by
  obtain ⟨a1, a2⟩ := ha
  obtain ⟨b1, b2⟩ := hb
  have e : val a + val b = ((x + y : Int) : Rat) := by rw [a2, b2, Rat.intCast_add]
  obtain ⟨r, h1, h2, h3⟩ := add_rep a1 b1 (by rw [e]; exact .int h)
  exact ⟨r, h1, h2, by rw [h3, e]⟩
theorem sub_I {a b : Nat} {x y : Int} (ha : isI a x) (hb : isI b y) (h : (x - y).natAbs ≤ 9007199254740992) : ∃ r, floatBits .sub .f64 a b = some r ∧ isI r (x - y) := by
  obtain ⟨a1, a2⟩ := ha
  obtain ⟨b1, b2⟩ := hb
  have e : val a - val b = ((x - y : Int) : Rat) := by rw [a2, b2, Rat.intCast_sub]
  obtain ⟨r, h1, h2, h3⟩ := sub_rep a1 b1 (by rw [e]; exact .int h)
  exact ⟨r, h1, h2, by rw [h3, e]⟩
theorem mul_I {a b : Nat} {x y : Int} (ha : isI a x) (hb : isI b y) (h : (x * y).natAbs ≤ 9007199254740992) : ∃ r, floatBits .mul .f64 a b = some r ∧ isI r (x * y) := by
  obtain ⟨a1, a2⟩ := ha
  obtain ⟨b1, b2⟩ := hb
  have e : val a * val b = ((x * y : Int) : Rat) := by rw [a2, b2, Rat.intCast_mul]
  obtain ⟨r, h1, h2, h3⟩ := mul_rep a1 b1 (by rw [e]; exact .int h)
  exact ⟨r, h1, h2, by rw [h3, e]⟩

section
variable {a b : Nat} {x y : Int} (ha : isI a x) (hb : isI b y)
include ha hb
theorem eq_I : (FloatKind.f64.format.order a b == some .eq) = decide (x = y) := by rw [eq_fin ha.1 hb.1, ha.2, hb.2]; simp [Rat.intCast_inj]
theorem ne_I : (FloatKind.f64.format.order a b != some .eq) = !decide (x = y) := by rw [ne_fin ha.1 hb.1, ha.2, hb.2]; simp [Rat.intCast_inj]
theorem lt_I : (FloatKind.f64.format.order a b == some .lt) = decide (x < y) := by rw [lt_fin ha.1 hb.1, ha.2, hb.2]; simp [Rat.intCast_lt_intCast]
theorem gt_I : (FloatKind.f64.format.order a b == some .gt) = decide (y < x) := by rw [gt_fin ha.1 hb.1, ha.2, hb.2]; simp [Rat.intCast_lt_intCast]
theorem le_I : (FloatKind.f64.format.order a b == some .lt || FloatKind.f64.format.order a b == some .eq) = decide (x ≤ y) := by rw [le_fin ha.1 hb.1, ha.2, hb.2]; simp [Rat.intCast_le_intCast]
theorem ge_I : (FloatKind.f64.format.order a b == some .gt || FloatKind.f64.format.order a b == some .eq) = decide (y ≤ x) := by rw [ge_fin ha.1 hb.1, ha.2, hb.2]; simp [Rat.intCast_le_intCast]
end

/-! ### a number cut towards zero -/
theorem cut_zero (neg : Bool) (n d : Nat) : Toward.zero.cut neg n d = n / 2 ^ min d (n.log2 + 2) := by
  unfold Toward.cut
  simp [Nat.one_shiftLeft]

theorem cut_zero' (neg : Bool) (n d : Nat) : Toward.zero.cut neg n d = n / 2 ^ d := by
  rw [cut_zero]
  by_cases h : d ≤ n.log2 + 2
  · rw [Nat.min_eq_left h]
  · rw [Nat.min_eq_right (by omega)]
    have h0 := pos_lt_two_pow_log2 n
    have h1 : n < 2 ^ (n.log2 + 2) := by rw [Nat.pow_succ 2 (n.log2 + 1)]; omega
    have h2 : 2 ^ (n.log2 + 2) ≤ 2 ^ d := Nat.pow_le_pow_right (by omega) (by omega)
    rw [Nat.div_eq_of_lt h1, Nat.div_eq_of_lt (by omega)]

theorem read_bounds {b : Nat} {s : Bool} {m : Nat} {e : Int} (h : double.read b = .number s m e) : m < 9007199254740992 ∧ -1074 ≤ e ∧ e ≤ 971 := by
  unfold Format.read at h
  simp only [binade_val, infRung_val, signWeight_val, leastPlace_val] at h
  split at h
  · cases h; omega
  · split at h
    · cases h; omega
    · split at h <;> cases h

theorem num_bounds {s : Bool} {m : Nat} {e : Int} (hm : m < 9007199254740992) (he : e ≤ 971) : num s m e < p2 1024 ∧ - num s m e < p2 1024 := by
  have h1 : (m : Rat) * p2 e < p2 1024 := by
    rw [show (1024 : Int) = 53 + 971 from by omega, p2_add, p2_53]
    have a := Rat.mul_lt_mul_of_pos_right (rat_nat_lt hm) (p2_pos e)
    rw [Rat.natCast_ofNat] at a
    have b := Rat.mul_le_mul_of_nonneg_left (c := 9007199254740992) (p2_le he) (by decide)
    grind
  have h2 : 0 ≤ (m : Rat) * p2 e := Rat.mul_nonneg Rat.natCast_nonneg (Rat.le_of_lt (p2_pos _))
  have h3 := p2_pos 1024
  unfold num sg
  cases s <;> simp <;> grind

theorem num_rep {s : Bool} {m : Nat} {e : Int} (hm : m < 9007199254740992) (h1 : -1074 ≤ e) (he : e ≤ 971) : Rep (num s m e) := by
  obtain ⟨h2, h3⟩ := num_bounds (s := s) hm he
  refine ⟨if s then -(m : Int) else m, e, ?_, ?_, h1, h2, h3⟩
  · unfold num sg
    cases s <;> simp [Rat.intCast_natCast] <;> grind
  · cases s <;> simp <;> omega

theorem fin_rep {b : Nat} (hb : fin b = true) : Rep (val b) := by
  obtain ⟨s, m, e, hr, hv, _⟩ := fin_read hb
  obtain ⟨b1, b2, b3⟩ := read_bounds hr
  rw [hv]
  exact num_rep b1 b2 b3

theorem Rep.neg {x : Rat} (h : Rep x) : Rep (-x) := by
  obtain ⟨k, j, h1, h2, h3, h4, h5⟩ := h
  exact ⟨-k, j, by rw [h1, Rat.intCast_neg]; grind, by omega, h3, h5, by rw [Rat.neg_neg]; exact h4⟩

/-- 'math.Trunc' of a word that stands for a number is whole. -/
theorem trunc_fin {b : Nat} (hb : fin b = true) : ∃ n : Int, isI (FloatKind.f64.encode ((FloatKind.f64.decode b).integral .zero)) n ∧ sgn (FloatKind.f64.encode ((FloatKind.f64.decode b).integral .zero)) = sgn b := by
  obtain ⟨s, m, e, hr, hv, hs⟩ := fin_read hb
  obtain ⟨b1, b2, b3⟩ := read_bounds hr
  have hd : FloatKind.f64.decode b = .number s m e := hr
  rw [hd]
  show ∃ n, isI (double.write (.number s (Toward.zero.cut s (m <<< e.toNat) (-e).toNat) 0)) n ∧ sgn (double.write (.number s (Toward.zero.cut s (m <<< e.toNat) (-e).toNat) 0)) = _
  rw [cut_zero', Nat.shiftLeft_eq]
  have hrep : Rep (num s (m * 2 ^ e.toNat / 2 ^ (-e).toNat) 0) := by
    by_cases h : e ≤ 0
    · have h1 : m * 2 ^ e.toNat / 2 ^ (-e).toNat ≤ m := by
        rw [show e.toNat = 0 from by omega]
        rw [Nat.pow_zero, Nat.mul_one]
        exact Nat.div_le_self ..
      exact num_rep (by omega) (by omega) (by omega)
    · rw [show (-e).toNat = 0 from by omega, Nat.pow_zero, Nat.div_one]
      have hn : num s (m * 2 ^ e.toNat) 0 = num s m e := by
        unfold num
        rw [p2_zero, Rat.natCast_mul, ← p2_nat, show ((e.toNat : Nat) : Int) = e from by omega]
        grind
      rw [hn]
      exact num_rep b1 b2 b3
  obtain ⟨w1, w2, w3⟩ := write_rep hrep
  generalize m * 2 ^ e.toNat / 2 ^ (-e).toNat = N at *
  refine ⟨if s then -(N : Int) else N, ⟨w1, ?_⟩, ?_⟩
  · rw [w2]
    unfold num sg
    rw [p2_zero]
    cases s <;> simp [Rat.intCast_natCast] <;> grind
  · rw [w3, hs]
end Go.Proofs.Ytciblaabghiefaa.Fl
