/- One number, one word (but for zero); division by two; the root of a word. -/
import Derived.Test.YtciblaabghiefaaFl3
namespace Go.Proofs.Ytciblaabghiefaa.Fl
open Ieee

theorem read_norm {b : Nat} {s : Bool} {m : Nat} {e : Int} (h : double.read b = .number s m e) : e = -1074 ∨ 4503599627370496 ≤ m := by
  unfold Format.read at h
  simp only [binade_val, infRung_val, signWeight_val, leastPlace_val] at h
  split at h
  · cases h; exact .inl rfl
  · split at h
    · cases h; exact .inr (by omega)
    · split at h <;> cases h

/-- A word under 2^64 is the word of its sign and its rung. -/
theorem word_of {b : Nat} (hb : b < 18446744073709551616) : b = double.word (b / 9223372036854775808 % 2 == 1) (b % 9223372036854775808) := by
  unfold Format.word
  rw [signWeight_val]
  by_cases h : b < 9223372036854775808
  · have : (b / 9223372036854775808 % 2 == 1) = false := by simp; omega
    rw [this]; simp; omega
  · have : (b / 9223372036854775808 % 2 == 1) = true := by simp; omega
    rw [this]; simp; omega

theorem read_rung {b : Nat} {s : Bool} {m : Nat} {e : Int} (h : double.read b = .number s m e) : s = (b / 9223372036854775808 % 2 == 1) ∧ ∃ t : Nat, e = -1074 + t ∧ b % 9223372036854775808 = t * 4503599627370496 + m := by
  unfold Format.read at h
  simp only [binade_val, infRung_val, signWeight_val, leastPlace_val] at h
  split at h
  · cases h; exact ⟨rfl, 0, by omega, by omega⟩
  · split at h
    · cases h; exact ⟨rfl, b % 9223372036854775808 / 4503599627370496 - 1, rfl, by omega⟩
    · split at h <;> cases h

theorem num_zero {s : Bool} {m : Nat} {e : Int} (h : num s m e = 0) : m = 0 := by
  unfold num at h
  have hp := p2_pos e
  have hs := sg_ne s
  rcases Rat.mul_eq_zero.1 h with h1 | h1
  · rcases Rat.mul_eq_zero.1 h1 with h2 | h2
    · exact absurd h2 hs
    · exact Rat.natCast_eq_zero_iff.1 h2
  · rw [h1] at hp; exact absurd hp (by decide)

theorem p2_mono_lt {a b : Int} (h : p2 a < p2 b) : a < b := by
  by_cases c : a < b
  · exact c
  · have := p2_le (show b ≤ a from by omega)
    grind

/-- Two numbers that are written alike, neither 0: the same sign, magnitude and place. -/
theorem num_inj {s t : Bool} {m n : Nat} {e f : Int} (h : num s m e = num t n f) (hz : num s m e ≠ 0) (hm : m < 9007199254740992) (hn : n < 9007199254740992) (he : -1074 ≤ e) (hf : -1074 ≤ f)
    (hm' : e = -1074 ∨ 4503599627370496 ≤ m) (hn' : f = -1074 ∨ 4503599627370496 ≤ n) : s = t ∧ m = n ∧ e = f := by
  have hpe := p2_pos e
  have hpf := p2_pos f
  have hm0 : m ≠ 0 := by rintro rfl; exact hz (by unfold num; show _ * 0 * _ = _; grind)
  have hn0 : n ≠ 0 := by rintro rfl; exact hz (h.trans (by unfold num; show _ * 0 * _ = _; grind))
  have hmr : 0 < (m : Rat) := Rat.natCast_pos.2 (by omega)
  have hnr : 0 < (n : Rat) := Rat.natCast_pos.2 (by omega)
  have h1 := Rat.mul_pos hmr hpe
  have h2 := Rat.mul_pos hnr hpf
  have hst : s = t := by
    unfold num sg at h
    cases s <;> cases t <;> simp at h <;> first | rfl | (exfalso; grind)
  subst hst
  have habs : (m : Rat) * p2 e = (n : Rat) * p2 f := by
    unfold num at h
    exact abs_eq (Rat.le_of_lt h1) (Rat.le_of_lt h2) (by rw [← Rat.mul_assoc, h, Rat.mul_assoc])
  -- the places are the same
  have key : ∀ (m n : Nat) (e f : Int), m < 9007199254740992 → n < 9007199254740992 → -1074 ≤ e → (f = -1074 ∨ 4503599627370496 ≤ n) → (m : Rat) * p2 e = (n : Rat) * p2 f → f ≤ e := by
    intro m n e f hm hn he hn' heq
    rcases hn' with h' | h'
    · omega
    · have a1 : (m : Rat) * p2 e < p2 (53 + e) := by
        rw [p2_add, p2_53]
        have := Rat.mul_lt_mul_of_pos_right (rat_nat_lt hm) (p2_pos e)
        rw [Rat.natCast_ofNat] at this
        exact this
      have a2 : p2 (52 + f) ≤ (n : Rat) * p2 f := by
        rw [p2_add, p2_52]
        have := Rat.mul_le_mul_of_nonneg_right (c := p2 f) (rat_nat_le h') (Rat.le_of_lt (p2_pos f))
        rw [Rat.natCast_ofNat] at this
        exact this
      have := p2_mono_lt (a := 52 + f) (b := 53 + e) (by grind)
      omega
  have e1 := key m n e f hm hn he hn' habs
  have e2 := key n m f e hn hm hf hm' habs.symm
  obtain rfl : e = f := by omega
  refine ⟨rfl, ?_, rfl⟩
  have a : m ≤ n := nat_of_rat_le (Rat.le_of_mul_le_mul_right (by rw [habs]; exact Rat.le_refl) hpe)
  have b : n ≤ m := nat_of_rat_le (Rat.le_of_mul_le_mul_right (by rw [habs]; exact Rat.le_refl) hpe)
  omega

/-- One number that is not 0: one word. -/
theorem val_inj {a b : Nat} (ha : fin a = true) (hb : fin b = true) (h : val a = val b) (hz : val a ≠ 0) (ha' : a < 18446744073709551616) (hb' : b < 18446744073709551616) : a = b := by
  obtain ⟨s, m, e, hra, hva, _⟩ := fin_read ha
  obtain ⟨t, n, f, hrb, hvb, _⟩ := fin_read hb
  obtain ⟨m1, m2, _⟩ := read_bounds hra
  obtain ⟨n1, n2, _⟩ := read_bounds hrb
  obtain ⟨e1, e2, e3⟩ := num_inj (by rw [← hva, ← hvb]; exact h) (by rw [← hva]; exact hz) m1 n1 m2 n2 (read_norm hra) (read_norm hrb)
  subst e1 e2 e3
  obtain ⟨g1, u, hu, g2⟩ := read_rung hra
  obtain ⟨g3, v, hv, g4⟩ := read_rung hrb
  obtain rfl : u = v := by omega
  rw [word_of ha', word_of hb', ← g1, ← g3, g2, g4]

theorem sgn_eq (a : Nat) : sgn a = (a / 9223372036854775808 % 2 == 1) := by
  unfold sgn Format.read
  simp only [binade_val, infRung_val, signWeight_val, leastPlace_val]
  split
  · rfl
  · split
    · rfl
    · split <;> rfl

/-- The two zeros. -/
theorem val_zero {a : Nat} (ha : fin a = true) (h : val a = 0) (ha' : a < 18446744073709551616) : a = if sgn a then 9223372036854775808 else 0 := by
  obtain ⟨s, m, e, hra, hva, hs⟩ := fin_read ha
  obtain ⟨g1, t, ht, g2⟩ := read_rung hra
  have hm := num_zero (hva.symm.trans h)
  subst hm
  rcases read_norm hra with h1 | h1
  · obtain rfl : t = 0 := by omega
    rw [sgn_eq]
    split <;> rename_i hc <;> simp at hc <;> omega
  · omega

theorem isI.inj {a b : Nat} {x : Int} (ha : isI a x) (hb : isI b x) (hx : x ≠ 0) (ha' : a < 18446744073709551616) (hb' : b < 18446744073709551616) : a = b :=
  val_inj ha.1 hb.1 (ha.2.trans hb.2.symm) (by rw [ha.2]; exact fun h => hx (Rat.intCast_eq_zero_iff.1 h)) ha' hb'

theorem lt_of_bits {op : BinOp} {x y r : Nat} (h : floatBits op .f64 x y = some r) : r < 18446744073709551616 := by
  have := floatBits_wf h
  simpa [Lit.wf] using this
theorem ofInt_lt (n : Int) : floatOfInt .f64 n < 18446744073709551616 := by
  have := floatOfInt_wf .f64 n
  simpa [Lit.wf] using this

/-! ### half of a number: the word of 2 is 4611686018427387904 -/
theorem two_read : double.read 4611686018427387904 = .number false 4503599627370496 (-51) := by decide
theorem half_rep {a : Nat} (ha : fin a = true) (h : Rep (val a * p2 (-1))) : ∃ r, floatBits .quo .f64 a 4611686018427387904 = some r ∧ fin r = true ∧ val r = val a * p2 (-1) := by
  obtain ⟨s, m, e, hra, hva, _⟩ := fin_read ha
  obtain ⟨more, hmore⟩ : ∃ more : Nat, 54 + Nat.log2 4503599627370496 - m.log2 = 52 + more := by
    obtain ⟨m1, _, _⟩ := read_bounds hra
    have : Nat.log2 4503599627370496 = 52 := by decide
    rw [this]
    have hl : m.log2 ≤ 52 := by
      by_cases h0 : m = 0
      · subst h0; decide
      · have := (Nat.log2_lt h0 (k := 53)).2 (by omega)
        omega
    exact ⟨54 - m.log2, by omega⟩
  have hd : m <<< (52 + more) / 4503599627370496 = m * 2 ^ more := by
    rw [Nat.shiftLeft_eq, Nat.pow_add, ← Nat.mul_assoc, Nat.mul_comm m, Nat.mul_assoc, show (2 ^ 52 : Nat) = 4503599627370496 from rfl, Nat.mul_div_cancel_left _ (by omega)]
  have hr : m <<< (52 + more) % 4503599627370496 = 0 := by
    rw [Nat.shiftLeft_eq, Nat.pow_add, ← Nat.mul_assoc, Nat.mul_comm m, Nat.mul_assoc, show (2 ^ 52 : Nat) = 4503599627370496 from rfl, Nat.mul_mod_right]
  have hq : (Datum.number s m e).quotient 54 (.number false 4503599627370496 (-51)) = some (.number s (2 * (m * 2 ^ more)) (e + 51 - ((52 + more : Nat) : Int) - 1)) := by
    unfold Datum.quotient
    simp only [show (4503599627370496 : Nat) ≠ 0 from by omega, if_false, hmore, hd, hr]
    simp
  have hv : num s (2 * (m * 2 ^ more)) (e + 51 - ((52 + more : Nat) : Int) - 1) = val a * p2 (-1) := by
    rw [hva]
    unfold num
    rw [show e + 51 - ((52 + more : Nat) : Int) - 1 = (e + -1) + (-(more : Int) + -1) from by omega, p2_add, p2_add, p2_add, Rat.natCast_mul, Rat.natCast_mul, ← p2_nat]
    have i1 := p2_inv more
    have i2 := p2_inv 1
    rw [p2_one] at i2
    rw [show ((2 : Nat) : Rat) = 2 from rfl]
    grind
  rw [← hv] at h
  obtain ⟨w1, w2, _⟩ := write_rep h
  refine ⟨_, ?_, w1, by rw [w2, hv]⟩
  show double.div a 4611686018427387904 = _
  unfold Format.div
  rw [hra, two_read, show double.fractionBits + 2 = 54 from rfl, hq]
  rfl
/-- 'int(x)' of a whole number. -/
theorem toInt_I {b : Nat} {n : Int} (h : isI b n) (h1 : IntKind.i64.min ≤ n) (h2 : n ≤ IntKind.i64.max) : floatToIntVal .f64 b .i64 = some n := by
  obtain ⟨hb, hv⟩ := h
  obtain ⟨s, m, e, hr, hv', hs⟩ := fin_read hb
  have hd : FloatKind.f64.decode b = .number s m e := hr
  have key : (FloatKind.f64.decode b).toInt .zero = some n := by
    rw [hd]
    show some (signed s (Toward.zero.cut s (m <<< e.toNat) (-e).toNat) 0) = some n
    rw [cut_zero', Nat.shiftLeft_eq]
    congr 1
    rw [hv] at hv'
    have hN : ((signed s (m * 2 ^ e.toNat / 2 ^ (-e).toNat) 0 : Int) : Rat) = (n : Rat) := by
      rw [signed_num, hv']
      unfold num
      have hcast : ((m * 2 ^ e.toNat / 2 ^ (-e).toNat : Nat) : Rat) = (m : Rat) * p2 e := by
        by_cases he : 0 ≤ e
        · rw [show (-e).toNat = 0 from by omega, Nat.pow_zero, Nat.div_one, Rat.natCast_mul, ← p2_nat, show ((e.toNat : Nat) : Int) = e from by omega]
        · rw [show e.toNat = 0 from by omega, Nat.pow_zero, Nat.mul_one]
          have hm : m = n.natAbs * 2 ^ (-e).toNat := by
            have h3 : (m : Rat) * p2 e = (n.natAbs : Rat) := by
              rw [sg_natAbs n] at hv'
              unfold num at hv'
              have ha := abs_eq (s := decide (n < 0)) (t := s) (a := (n.natAbs : Rat)) (b := (m : Rat) * p2 e) Rat.natCast_nonneg (Rat.mul_nonneg Rat.natCast_nonneg (Rat.le_of_lt (p2_pos e))) (by rw [hv', Rat.mul_assoc])
              exact ha.symm
            have h4 : (m : Rat) = ((n.natAbs * 2 ^ (-e).toNat : Nat) : Rat) := by
              rw [Rat.natCast_mul, ← p2_nat, show (((-e).toNat : Nat) : Int) = -e from by omega, ← h3, Rat.mul_assoc, p2_inv]
              grind
            exact Rat.natCast_inj.1 h4
          rw [hm, Nat.mul_div_cancel _ (Nat.two_pow_pos _), Rat.natCast_mul, ← p2_nat, show (((-e).toNat : Nat) : Int) = -e from by omega, Rat.mul_assoc]
          rw [show p2 (-e) * p2 e = 1 from by rw [Rat.mul_comm]; exact p2_inv e]
          grind
      rw [hcast]
      simp
      grind
    exact Rat.intCast_inj.1 hN
  unfold floatToIntVal
  rw [key]
  show (if _ then _ else _) = _
  rw [if_pos ⟨h1, h2⟩]
end Go.Proofs.Ytciblaabghiefaa.Fl
