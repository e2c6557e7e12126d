/- Rounding to the nearest word, ties to even: what it gives, and that it gives the number itself where a word stands for it. -/
import Derived.Test.YtciblaabghiefaaFl1
namespace Go.Proofs.Ytciblaabghiefaa.Fl
open Ieee

theorem pos_lt_two_pow_log2 (n : Nat) : n < 2 ^ (n.log2 + 1) := Nat.lt_log2_self

/-- a whole number, cut to the nearest, ties to even. -/
theorem cut_even (neg : Bool) (n d : Nat) : 2 * (Toward.even.cut neg n d * 2 ^ d) ≤ 2 * n + 2 ^ d ∧ 2 * n ≤ 2 * (Toward.even.cut neg n d * 2 ^ d) + 2 ^ d ∧
    ((2 * (Toward.even.cut neg n d * 2 ^ d) = 2 * n + 2 ^ d ∨ 2 * n = 2 * (Toward.even.cut neg n d * 2 ^ d) + 2 ^ d) → Toward.even.cut neg n d % 2 = 0) := by
  have hlog := pos_lt_two_pow_log2 n
  by_cases hd : d ≤ n.log2 + 2
  · have hmin : min d (n.log2 + 2) = d := by omega
    unfold Toward.cut
    simp only [hmin, Nat.one_shiftLeft]
    have hG : 0 < 2 ^ d := Nat.two_pow_pos d
    generalize 2 ^ d = G at *
    have h1 := Nat.div_add_mod n G
    have h2 := Nat.mod_lt n hG
    generalize n / G = lo at *
    generalize n % G = r at *
    by_cases c1 : G < 2 * r
    · simp [c1]
      have : (lo + 1) * G = G * lo + G := by rw [Nat.add_mul, Nat.mul_comm]; omega
      rw [this]
      refine ⟨by omega, by omega, by omega⟩
    · by_cases c2 : G = 2 * r ∧ lo % 2 = 1
      · obtain ⟨c2, c3⟩ := c2
        subst c2
        simp [c3]
        have : (lo + 1) * (2 * r) = (2 * r) * lo + 2 * r := by rw [Nat.add_mul, Nat.mul_comm]; omega
        rw [this]
        refine ⟨by omega, by omega, by omega⟩
      · have : (decide (G < 2 * r) || G == 2 * r && lo % 2 == 1) = false := by
          simp only [Bool.or_eq_false_iff, decide_eq_false_iff_not, Bool.and_eq_false_iff, beq_eq_false_iff_ne]
          refine ⟨c1, ?_⟩
          by_cases h : G = 2 * r
          · exact .inr (fun h' => c2 ⟨h, h'⟩)
          · exact .inl h
        rw [this]
        simp only [Bool.toNat_false, Nat.add_zero]
        rw [Nat.mul_comm lo G]
        refine ⟨by omega, by omega, ?_⟩
        rintro (h | h)
        · omega
        · by_cases hh : G = 2 * r
          · have : ¬ lo % 2 = 1 := fun h' => c2 ⟨hh, h'⟩
            omega
          · omega
  · have hmin : min d (n.log2 + 2) = n.log2 + 2 := by omega
    have h4 : 4 * n < 2 ^ (n.log2 + 2) + 2 ^ (n.log2 + 2) := by rw [Nat.pow_succ] at *; omega
    have h5 : n < 2 ^ (n.log2 + 2) := by rw [Nat.pow_succ 2 (n.log2 + 1)]; omega
    have h6 : 2 ^ (n.log2 + 2) ≤ 2 ^ d := Nat.pow_le_pow_right (by omega) (by omega)
    have hz : Toward.even.cut neg n d = 0 := by
      unfold Toward.cut
      simp only [hmin, Nat.one_shiftLeft]
      rw [Nat.div_eq_of_lt h5, Nat.mod_eq_of_lt h5]
      have c1 : ¬ 2 ^ (n.log2 + 2) < 2 * n := by omega
      simp [c1]
    rw [hz]
    refine ⟨by omega, by omega, fun _ => rfl⟩

theorem div_eq_zero_of_lt {a b : Nat} (h : a < b) : a / b = 0 := Nat.div_eq_of_lt h

theorem rat_nat_le {a b : Nat} (h : a ≤ b) : (a : Rat) ≤ (b : Rat) := Rat.natCast_le_natCast.2 h
theorem nat_of_rat_le {a b : Nat} (h : (a : Rat) ≤ (b : Rat)) : a ≤ b := Rat.natCast_le_natCast.1 h
theorem nat_of_rat_lt {a b : Nat} (h : (a : Rat) < (b : Rat)) : a < b := Rat.natCast_lt_natCast.1 h
theorem rat_nat_lt {a b : Nat} (h : a < b) : (a : Rat) < (b : Rat) := Rat.natCast_lt_natCast.2 h

/-- k is y, a number from 0 on, rounded to a whole number, ties to even. -/
def Near (k : Nat) (y : Rat) : Prop := 2 * (k : Rat) ≤ 2 * y + 1 ∧ 2 * y ≤ 2 * (k : Rat) + 1 ∧ ((2 * (k : Rat) = 2 * y + 1 ∨ 2 * y = 2 * (k : Rat) + 1) → k % 2 = 0)

theorem Near.unique {k l : Nat} {y : Rat} (h : Near k y) (g : Near l y) : k = l := by
  obtain ⟨h1, h2, h3⟩ := h
  obtain ⟨g1, g2, g3⟩ := g
  rcases Nat.lt_trichotomy k l with hlt | heq | hgt
  · exfalso
    have a1 : ((k + 1 : Nat) : Rat) ≤ (l : Rat) := rat_nat_le hlt
    rw [Rat.natCast_add] at a1
    have a2 : ((1 : Nat) : Rat) = 1 := rfl
    rw [a2] at a1
    have e1 : 2 * (l : Rat) = 2 * y + 1 := by grind
    have e2 : 2 * y = 2 * (k : Rat) + 1 := by grind
    have b1 := h3 (.inr e2)
    have b2 := g3 (.inl e1)
    have e3 : (l : Rat) = (k : Rat) + 1 := by grind
    have e4 : (l : Rat) = ((k + 1 : Nat) : Rat) := by rw [Rat.natCast_add, a2]; exact e3
    have := Rat.natCast_inj.1 e4
    omega
  · exact heq
  · exfalso
    have a1 : ((l + 1 : Nat) : Rat) ≤ (k : Rat) := rat_nat_le hgt
    rw [Rat.natCast_add] at a1
    have a2 : ((1 : Nat) : Rat) = 1 := rfl
    rw [a2] at a1
    have e1 : 2 * (k : Rat) = 2 * y + 1 := by grind
    have e2 : 2 * y = 2 * (l : Rat) + 1 := by grind
    have b1 := g3 (.inr e2)
    have b2 := h3 (.inl e1)
    have e3 : (k : Rat) = (l : Rat) + 1 := by grind
    have e4 : (k : Rat) = ((l + 1 : Nat) : Rat) := by rw [Rat.natCast_add, a2]; exact e3
    have := Rat.natCast_inj.1 e4
    omega

theorem Near.self (k : Nat) : Near k (k : Rat) := ⟨by grind, by grind, by grind⟩
theorem Near.exact {k l : Nat} (h : Near k (l : Rat)) : k = l := h.unique (.self l)

theorem cut_near (neg : Bool) (n u d : Nat) : Near (Toward.even.cut neg (n <<< u) d) ((n : Rat) * p2 ((u : Int) - (d : Int))) := by
  obtain ⟨h1, h2, h3⟩ := cut_even neg (n <<< u) d
  rw [Nat.shiftLeft_eq] at *
  generalize Toward.even.cut neg (n * 2 ^ u) d = k at *
  have hp := p2_pos d
  have e : (n : Rat) * p2 ((u : Int) - (d : Int)) * p2 d = ((n * 2 ^ u : Nat) : Rat) := by
    rw [Rat.mul_assoc, ← p2_add, Int.sub_add_cancel, p2_nat, Rat.natCast_mul]
  generalize (n : Rat) * p2 ((u : Int) - (d : Int)) = Y at *
  generalize n * 2 ^ u = N at *
  have g1 := rat_nat_le h1
  have g2 := rat_nat_le h2
  rw [p2_nat] at hp e
  generalize 2 ^ d = G at *
  simp only [Rat.natCast_add, Rat.natCast_mul, Rat.natCast_ofNat] at g1 g2
  refine ⟨Rat.le_of_mul_le_mul_right (c := (G : Rat)) ?_ hp, Rat.le_of_mul_le_mul_right (c := (G : Rat)) ?_ hp, ?_⟩
  · grind
  · grind
  · intro h
    refine h3 ?_
    rcases h with h | h
    · refine .inl (Rat.natCast_inj.1 ?_)
      simp only [Rat.natCast_add, Rat.natCast_mul, Rat.natCast_ofNat]
      grind
    · refine .inr (Rat.natCast_inj.1 ?_)
      simp only [Rat.natCast_add, Rat.natCast_mul, Rat.natCast_ofNat]
      grind

theorem p2_52 : p2 52 = 4503599627370496 := by
  rw [show (52 : Int) = ((52 : Nat) : Int) from rfl, p2_nat]; rfl
theorem p2_53 : p2 53 = 9007199254740992 := by
  rw [show (53 : Int) = ((53 : Nat) : Int) from rfl, p2_nat]; rfl

/-- What rounding gives: a place 't' above the least one and a significand 'k'. -/
theorem nearest_form (s : Bool) (mag : Nat) (place : Int) (hm : mag ≠ 0) :
    ∃ t k : Nat, double.nearest s mag place = double.word s (min (t * 4503599627370496 + k) 9218868437227405312) ∧ k ≤ 9007199254740992 ∧ (t = 0 ∨ 4503599627370496 ≤ k) ∧
      Near k ((mag : Rat) * p2 (place + 1074 - t)) ∧ (mag : Rat) * p2 place < p2 (53 - 1074 + t) ∧ (t = 0 ∨ p2 (52 - 1074 + t) ≤ (mag : Rat) * p2 place) := by
  have l1 : 2 ^ mag.log2 ≤ mag := Nat.log2_self_le hm
  have l2 : mag < 2 ^ (mag.log2 + 1) := pos_lt_two_pow_log2 mag
  generalize hL : mag.log2 = L at *
  have r1 : p2 L ≤ (mag : Rat) := by rw [p2_nat]; exact rat_nat_le l1
  have r2 : (mag : Rat) < p2 (L + 1) := by rw [show ((L : Int) + 1) = ((L + 1 : Nat) : Int) from rfl, p2_nat]; exact rat_nat_lt l2
  have q1 : p2 (L + place) ≤ (mag : Rat) * p2 place := by rw [p2_add]; exact Rat.mul_le_mul_of_nonneg_right r1 (Rat.le_of_lt (p2_pos _))
  have q2 : (mag : Rat) * p2 place < p2 (L + 1 + place) := by rw [p2_add]; exact Rat.mul_lt_mul_of_pos_right r2 (p2_pos _)
  obtain ⟨t, ht⟩ : ∃ t : Nat, max (place + (L : Int) - 52) (-1074) = -1074 + (t : Int) := ⟨(max (place + (L : Int) - 52) (-1074) + 1074).toNat, by omega⟩
  have ht0 : t = 0 ∨ place + L - 52 = -1074 + t := by omega
  have ht1 : place + L - 52 ≤ -1074 + t := by omega
  have hn := cut_near s mag (place - (-1074 + t)).toNat ((-1074 + t) - place).toNat
  rw [show (((place - (-1074 + (t : Int))).toNat : Nat) : Int) - ((((-1074 + (t : Int)) - place).toNat : Nat) : Int) = place + 1074 - t from by omega] at hn
  refine ⟨t, Toward.even.cut s (mag <<< (place - (-1074 + t)).toNat) ((-1074 + t) - place).toNat, ?_, ?_, ?_, hn, ?_, ?_⟩
  · unfold Format.nearest
    rw [if_neg hm]
    simp only [hL, fractionBits_val, leastPlace_val, binade_val, infRung_val]
    rw [show ((52 : Nat) : Int) = 52 from rfl, ht, show (-1074 + (t : Int) - -1074).toNat = t from by omega]
  · generalize Toward.even.cut s (mag <<< (place - (-1074 + t)).toNat) ((-1074 + t) - place).toNat = k at *
    obtain ⟨n1, _, _⟩ := hn
    have y1 : (mag : Rat) * p2 (place + 1074 - t) < p2 53 := by
      have h : p2 (L + 1 + place) * p2 (1074 - t) ≤ p2 53 := by rw [← p2_add]; exact p2_le (by omega)
      have h' := Rat.mul_lt_mul_of_pos_right q2 (p2_pos (1074 - t))
      rw [Rat.mul_assoc (mag : Rat), ← p2_add place, show place + (1074 - (t : Int)) = place + 1074 - t from by omega] at h'
      grind
    rw [p2_53] at y1
    refine Nat.lt_succ_iff.1 (nat_of_rat_lt ?_)
    rw [Nat.succ_eq_add_one, Rat.natCast_add, Rat.natCast_ofNat]
    have : ((1 : Nat) : Rat) = 1 := rfl
    grind
  · generalize Toward.even.cut s (mag <<< (place - (-1074 + t)).toNat) ((-1074 + t) - place).toNat = k at *
    rcases ht0 with h0 | h0
    · exact .inl h0
    · refine .inr ?_
      obtain ⟨_, n2, _⟩ := hn
      have y1 : p2 52 ≤ (mag : Rat) * p2 (place + 1074 - t) := by
        have h : p2 (L + place) * p2 (1074 - t) = p2 52 := by rw [← p2_add]; congr 1; omega
        have h' := Rat.mul_le_mul_of_nonneg_right q1 (Rat.le_of_lt (p2_pos (1074 - t)))
        rw [Rat.mul_assoc (mag : Rat), ← p2_add place, show place + (1074 - (t : Int)) = place + 1074 - t from by omega] at h'
        grind
      rw [p2_52] at y1
      refine Nat.lt_succ_iff.1 (nat_of_rat_lt ?_)
      rw [Nat.succ_eq_add_one, Rat.natCast_add, Rat.natCast_ofNat]
      have : ((1 : Nat) : Rat) = 1 := rfl
      grind
  · have : p2 (L + 1 + place) ≤ p2 (53 - 1074 + t) := p2_le (by omega)
    grind
  · rcases ht0 with h0 | h0
    · exact .inl h0
    · refine .inr ?_
      have : p2 (52 - 1074 + t) ≤ p2 (L + place) := p2_le (by omega)
      grind

/-- A word stands for the number: it is found. 'j' is the place of its last digit, 'k' what stands ahead. -/
theorem nearest_exact (s : Bool) (mag : Nat) (place : Int) (hm : mag ≠ 0) (k : Nat) (j : Int) (hj : -1074 ≤ j) (hk : k ≤ 9007199254740992) (hx : (mag : Rat) * p2 place = (k : Rat) * p2 j) (hj2 : (mag : Rat) * p2 place < p2 1024) :
    fin (double.nearest s mag place) = true ∧ val (double.nearest s mag place) = num s mag place ∧ sgn (double.nearest s mag place) = s := by
  obtain ⟨t, l, hw, hl, ht, hn, hlt, hge⟩ := nearest_form s mag place hm
  have hp := p2_pos place
  have hx53 : (mag : Rat) * p2 place ≤ p2 (53 + j) := by
    rw [hx, p2_add, p2_53]
    refine Rat.mul_le_mul_of_nonneg_right ?_ (Rat.le_of_lt (p2_pos _))
    have := rat_nat_le hk
    rwa [Rat.natCast_ofNat] at this
  have hmag : (mag : Rat) * p2 place = (mag : Rat) * p2 (place + 1074 - t) * p2 (-1074 + t) := by
    rw [Rat.mul_assoc, ← p2_add]; congr 2; omega
  -- the number is a whole multiple of the last place
  have hwhole : ∃ l' : Nat, (mag : Rat) * p2 (place + 1074 - t) = (l' : Rat) := by
    by_cases c : -1074 + (t : Int) ≤ j
    · obtain ⟨u, hu⟩ : ∃ u : Nat, j = -1074 + t + u := ⟨(j - (-1074 + t)).toNat, by omega⟩
      refine ⟨k * 2 ^ u, ?_⟩
      have : (mag : Rat) * p2 (place + 1074 - t) * p2 (-1074 + t) = ((k * 2 ^ u : Nat) : Rat) * p2 (-1074 + t) := by
        rw [← hmag, hx, hu, p2_add, p2_nat, Rat.natCast_mul]
        grind
      have hpp := p2_pos (-1074 + t)
      have h1 : (mag : Rat) * p2 (place + 1074 - t) ≤ ((k * 2 ^ u : Nat) : Rat) := Rat.le_of_mul_le_mul_right (by rw [this]; exact Rat.le_refl) hpp
      have h2 : ((k * 2 ^ u : Nat) : Rat) ≤ (mag : Rat) * p2 (place + 1074 - t) := Rat.le_of_mul_le_mul_right (by rw [this]; exact Rat.le_refl) hpp
      exact Rat.le_antisymm h1 h2
    · -- t > 0: the number is at least 2^(52 - 1074 + t) and at most 2^(53 + j): so j + 1 = -1074 + t and it is a power of two
      have hge' : p2 (52 - 1074 + t) ≤ (mag : Rat) * p2 place := by rcases hge with h | h; omega; exact h
      have hle : 52 - 1074 + (t : Int) ≤ 53 + j := by
        by_cases c' : 52 - 1074 + (t : Int) ≤ 53 + j
        · exact c'
        · have := p2_lt (show 53 + j < 52 - 1074 + (t : Int) from by omega)
          grind
      have hj' : j = -1074 + t - 1 := by omega
      refine ⟨4503599627370496, ?_⟩
      have : (mag : Rat) * p2 (place + 1074 - t) * p2 (-1074 + t) = ((4503599627370496 : Nat) : Rat) * p2 (-1074 + t) := by
        rw [← hmag, Rat.natCast_ofNat, ← p2_52, ← p2_add, show 52 + (-1074 + (t : Int)) = 53 + j from by omega]
        refine Rat.le_antisymm hx53 ?_
        rw [show 53 + j = 52 - 1074 + (t : Int) from by omega]
        exact hge'
      have hpp := p2_pos (-1074 + t)
      exact Rat.le_antisymm (Rat.le_of_mul_le_mul_right (by rw [this]; exact Rat.le_refl) hpp) (Rat.le_of_mul_le_mul_right (by rw [this]; exact Rat.le_refl) hpp)
  obtain ⟨l', hl'⟩ := hwhole
  rw [hl'] at hn
  obtain rfl := hn.exact
  -- not beyond the greatest number
  have hfit : t * 4503599627370496 + l < 9218868437227405312 := by
    by_cases c : t = 0
    · subst c; omega
    · by_cases c2 : (t : Int) ≤ 2045
      · have h1 : (l : Rat) * p2 (-1074 + t) < ((9007199254740992 : Nat) : Rat) * p2 971 := by
          rw [← hl', ← hmag, Rat.natCast_ofNat, ← p2_53, ← p2_add]
          exact hj2
        by_cases c3 : (t : Int) = 2045
        · rw [show (-1074 + (t : Int)) = 971 from by omega, Rat.mul_lt_mul_right (p2_pos _)] at h1
          have := nat_of_rat_lt h1
          omega
        · omega
      · exfalso
        have h52 : p2 (52 - 1074 + t) ≤ (mag : Rat) * p2 place := by rcases hge with h | h; omega; exact h
        have := p2_le (show (1024 : Int) ≤ 52 - 1074 + t from by omega)
        grind
  have hmin : min (t * 4503599627370496 + l) 9218868437227405312 = t * 4503599627370496 + l := by omega
  rw [hmin] at hw
  rw [hw]
  obtain ⟨w1, w2, w3⟩ := word_val s t l hl ht hfit
  refine ⟨w1, ?_, w3⟩
  rw [w2]
  unfold num
  rw [Rat.mul_assoc, Rat.mul_assoc, hmag, hl']
end Go.Proofs.Ytciblaabghiefaa.Fl
