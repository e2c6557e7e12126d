/- The root of a word: of two words that stand for one number from 0 on, the roots are equal. -/
import Derived.Test.YtciblaabghiefaaFl4
namespace Go.Proofs.Ytciblaabghiefaa.Fl
open Ieee

theorem order_self {b : Nat} (h : ∀ s t, double.read b ≠ .nan s t) : FloatKind.f64.format.order b b = some .eq := by
  show (double.read b).order (double.read b) = _
  cases hr : double.read b with
  | number s m e =>
    show some (compare _ _) = _
    rw [Int.compare_eq_eq.2 rfl]
  | infinity s =>
    show some (compare s.toNat s.toNat) = _
    rw [Nat.compare_eq_eq.2 rfl]
  | nan s t => exact absurd hr (h s t)

theorem write_num_not_nan (s : Bool) (m : Nat) (e : Int) : ∀ u t, double.read (double.write (.number s m e)) ≠ .nan u t := by
  intro u t h
  change double.read (double.nearest s m e) = _ at h
  unfold Format.nearest at h
  split at h
  · rw [read_word s 0 (by omega)] at h
    simp at h
  · dsimp only at h
    rw [infRung_val] at h
    have hle := Nat.min_le_right ((max (e + (m.log2 : Int) - (double.fractionBits : Int)) double.leastPlace - double.leastPlace).toNat * double.binade + Toward.even.cut s (m <<< (e - max (e + (m.log2 : Int) - (double.fractionBits : Int)) double.leastPlace).toNat) (max (e + (m.log2 : Int) - (double.fractionBits : Int)) double.leastPlace - e).toNat) 9218868437227405312
    generalize min _ 9218868437227405312 = r at h hle
    rw [read_word s r (by omega)] at h
    split at h
    · cases h
    · split at h
      · cases h
      · split at h
        · cases h
        · omega

theorem sqrt_some {b : Nat} {n : Int} (h : isI b n) (hn : 0 ≤ n) : ∃ r, double.sqrt b = some r ∧ (n = 0 → isI r 0) ∧ FloatKind.f64.format.order r r = some .eq := by
  obtain ⟨hb, hv⟩ := h
  obtain ⟨s, m, e, hr, hv', hs⟩ := fin_read hb
  unfold Format.sqrt
  rw [hr]
  by_cases hm : m = 0
  · subst hm
    have e1 : (Datum.number s 0 e).root (double.fractionBits + 2) = some (.number s 0 e) := by simp [Datum.root]
    rw [e1]
    refine ⟨_, rfl, fun _ => ?_, order_self (write_num_not_nan _ _ _)⟩
    have : Rep (num s 0 e) := ⟨0, 0, by unfold num; simp, by omega, by omega, by unfold num; simp; exact p2_pos _, by unfold num; simp; exact p2_pos _⟩
    obtain ⟨w1, w2, _⟩ := write_rep this
    refine ⟨w1, ?_⟩
    rw [w2]
    unfold num
    simp
  · have hpos : s = false := by
      cases s with
      | false => rfl
      | true =>
        exfalso
        rw [hv] at hv'
        unfold num sg at hv'
        have h1 := Rat.mul_pos (Rat.natCast_pos.2 (Nat.pos_of_ne_zero hm)) (p2_pos e)
        have h2 : (0 : Rat) ≤ (n : Rat) := Rat.intCast_nonneg.2 hn
        simp at hv'
        grind
    subst hpos
    have e1 : ∃ a b c, (Datum.number false m e).root (double.fractionBits + 2) = some (.number a b c) := by
      unfold Datum.root
      simp only [hm, if_false]
      exact ⟨_, _, _, rfl⟩
    obtain ⟨a, b', c, e1⟩ := e1
    rw [e1]
    refine ⟨_, rfl, fun hn0 => ?_, order_self (write_num_not_nan _ _ _)⟩
    exfalso
    subst hn0
    rw [hv] at hv'
    exact hm (num_zero (by rw [← hv']; rfl))

/-- The roots of two words for one number are equal. -/
theorem sqrt_eq {a b : Nat} {n : Int} (ha : isI a n) (hb : isI b n) (hn : 0 ≤ n) (ha' : a < 18446744073709551616) (hb' : b < 18446744073709551616) :
    ∃ r s, double.sqrt a = some r ∧ double.sqrt b = some s ∧ (FloatKind.f64.format.order r s == some .eq) = true := by
  obtain ⟨r, h1, h2, h3⟩ := sqrt_some ha hn
  obtain ⟨s, k1, k2, k3⟩ := sqrt_some hb hn
  refine ⟨r, s, h1, k1, ?_⟩
  by_cases h0 : n = 0
  · rw [eq_I (h2 h0) (k2 h0)]; simp
  · obtain rfl := ha.inj hb h0 ha' hb'
    rw [h1] at k1
    cases k1
    rw [h3]; rfl
end Go.Proofs.Ytciblaabghiefaa.Fl
