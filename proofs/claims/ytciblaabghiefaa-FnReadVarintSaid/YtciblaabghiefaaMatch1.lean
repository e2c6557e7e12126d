/- RelateMatches. -/
import Derived.Test.YtciblaabghiefaaRegion
import Derived.Laws.RangeAny
import Derived.Laws.RangeString
import Derived.LoopTactic
namespace Go.Proofs.Ytciblaabghiefaa
open Go.RowKit
set_option maxRecDepth 100000

/-- Byte number i. -/
def bt (s : ByteArray) (i : Nat) : Nat := if h : i < s.size then (s[i]'h).toNat else 0
theorem bt_eq (s : ByteArray) (i : Nat) (h : i < s.size) : (s[i]'h).toNat = bt s i := by simp [bt, h]
def goodM (m : Nat) : Bool := m == 70 || m == 48 || m == 49 || m == 50
def goodP (p : Nat) : Bool := p == 70 || p == 48 || p == 49 || p == 50 || p == 84 || p == 42
def isE (m p : Nat) : Bool := p == 42 || (p == 84 && m != 70) || m == p
def good (s t : ByteArray) (i : Nat) : Bool := goodM (bt s i) && goodP (bt t i)
def fits (s t : ByteArray) (i : Nat) : Bool := isE (bt s i) (bt t i)

theorem errNew_any (s : ByteArray) (w : World) : Calls Try.prog 102 #[.string s] w fun e w' => (∃ t u, e = .returned (.iface t u)) ∧ Below w.heap.size w w' := by
  go_enter Try.func102, Try.ntmps102
  go_wp2
  go_ret
  exact ⟨⟨_, _, rfl⟩, (by (repeat (first | (with_reducible exact Below.refl _ _) | (with_reducible assumption) | (with_reducible refine Below.drew ?_) | (with_reducible refine below_drewN ?_ _) | ((with_reducible refine below_alloc' ?_ ?_); (focus (first | (simp; done) | omega | (simp; omega)))) | ((with_reducible refine below_set' ?_ ?_); (focus (first | (simp; done) | omega | (simp; omega)))) | (with_reducible refine below_step ?_ (by assumption)) | (with_reducible refine below_step_since ?_ (by assumption)) | ((with_reducible refine below_since' (by assumption) ?_ ?_); (focus (first | (simp; done) | omega | (simp; omega)))) | ((with_reducible refine below_trans' (by assumption) ?_ ?_); (focus (first | (simp; done) | omega | (simp; omega)))))))⟩

theorem p_cases (p : Nat) : (p = 70 ∨ p = 48 ∨ p = 49 ∨ p = 50 ∨ p = 84 ∨ p = 42) ∨ (p ≠ 70 ∧ p ≠ 48 ∧ p ≠ 49 ∧ p ≠ 50 ∧ p ≠ 84 ∧ p ≠ 42) := by omega
theorem m_cases (p : Nat) : (p = 70 ∨ p = 48 ∨ p = 49 ∨ p = 50) ∨ (p ≠ 70 ∧ p ≠ 48 ∧ p ≠ 49 ∧ p ≠ 50) := by omega

/-- What RelateMatches returns. -/
def RelPost (s t : ByteArray) (w : World) (e : Ending) (w' : World) : Prop :=
  ((∃ k u, e = .returned (.tuple #[.bool false, .iface k u]) ∧ ∃ i, i < 9 ∧ good s t i = false) ∨
   (e = .returned (.tuple #[.bool false, .nilIface]) ∧ ∃ i, i < 9 ∧ fits s t i = false) ∨
   (e = .returned (.tuple #[.bool true, .nilIface]) ∧ ∀ i, i < 9 → good s t i = true ∧ fits s t i = true)) ∧ Below w.heap.size w w'

theorem below_iter (w : World) (s : ByteArray) (pos : Nat) : Below w.heap.size w (w.iter s pos) := (Below.refl _ _).alloc (Nat.le_refl _) _

set_option maxHeartbeats 4000000 in
theorem relate_nine (s t : ByteArray) (w : World) (hs : s.size = 9) (ht : t.size = 9) : Calls Try.prog 69 #[.string s, .string t] w (RelPost s t w) := by
  go_enter Try.func69, Try.ntmps69
  go_wp2
  go_loopw [] (fun wr => ∃ pos : Nat, pos ≤ 9 ∧ wr = w.iter s pos ∧ Hid (∀ i, i < pos → good s t i = true ∧ fits s t i = true)) (fun wr => 9 - wr.iterPos w.heap.size)
  case atStart => exact ⟨0, by omega, rfl, fun i hi => absurd hi (by omega)⟩
  case round =>
    obtain ⟨pos, hpos, rfl, hall⟩ := hrel
    by_cases hp : pos < 9
    · have hps : pos < s.size := by omega
      have hpt : pos < t.size := by omega
      have hnx : ∀ ty, (Instr.next (.pointer (some ⟨w.heap.size, 0, none⟩)) true ty).run Try.prog (w.iter s pos) = _ := fun ty => run_next_any w s pos ty hps
      have hA : ∀ h : bt s pos < 128, (Utf8.decode s pos) = (bt s pos, 1) := fun h => by rw [← bt_eq s pos hps] at *; exact decode_ascii s pos hps h
      have hB : ¬ bt s pos < 128 → 128 ≤ (Utf8.decode s pos).1 := fun h => (decode_high s pos hps (by rw [bt_eq]; omega)).1
      have hg : Hid (good s t pos = (goodM (bt s pos) && goodP (bt t pos))) := rfl
      have hf : Hid (fits s t pos = isE (bt s pos) (bt t pos)) := rfl
      have hq : (t[pos]'hpt).toNat = bt t pos := bt_eq t pos hpt
      have hall' := hall
      generalize bt t pos = q at *
      generalize bt s pos = m at *
      rcases p_cases q with h | h
      · rcases m_cases m with h' | h'
        · rw [hA (by omega)] at hnx
          clear hA hB
          rcases h with rfl | rfl | rfl | rfl | rfl | rfl <;> rcases h' with rfl | rfl | rfl | rfl
          all_goals
            go_wp2
            first
              | (refine ⟨⟨pos + 1, by omega, rfl, fun i hi => ?_⟩, by simp; omega⟩
                 by_cases hip : i = pos
                 · subst hip
                   exact ⟨hg.out, hf.out⟩
                 · exact hall.out i (by omega))
              | (go_ret2
                 exact ⟨Or.inr (Or.inl ⟨rfl, pos, hp, hf.out⟩), below_iter _ _ _⟩)
        · have hr : (((Utf8.decode s pos).1 : Int) == 70) = false ∧ (((Utf8.decode s pos).1 : Int) == 48) = false ∧ (((Utf8.decode s pos).1 : Int) == 49) = false ∧ (((Utf8.decode s pos).1 : Int) == 50) = false := by
            by_cases hlt : m < 128
            · rw [hA hlt]; simp; omega
            · have := hB hlt
              refine ⟨?_, ?_, ?_, ?_⟩ <;> (simp; omega)
          have hgb : goodM m = false := by simp [goodM]; omega
          rw [hgb] at hg
          obtain ⟨r1, r2, r3, r4⟩ := hr
          clear hA hB hgb
          rcases h with rfl | rfl | rfl | rfl | rfl | rfl
          all_goals
            go_wp2_with (go_at_call 102; refine (errNew_any _ _).mono ?_; rintro e w2 ⟨⟨k, u, rfl⟩, hb⟩)
            go_ret2
            exact ⟨Or.inl ⟨_, _, rfl, pos, hp, hg.out⟩, below_trans' hb (by simp [World.iter]) (below_iter _ _ _)⟩
      · have hgb : goodP q = false := by simp [goodP]; omega
        rw [hgb, Bool.and_false] at hg
        have r1 : ((q : Int) == 70) = false := by simp; omega
        have r2 : ((q : Int) == 48) = false := by simp; omega
        have r3 : ((q : Int) == 49) = false := by simp; omega
        have r4 : ((q : Int) == 50) = false := by simp; omega
        have r5 : ((q : Int) == 84) = false := by simp; omega
        have r6 : ((q : Int) == 42) = false := by simp; omega
        clear hA hB hgb h
        go_wp2_with (go_at_call 102; refine (errNew_any _ _).mono ?_; rintro e w2 ⟨⟨k, u, rfl⟩, hb⟩)
        go_ret2
        exact ⟨Or.inl ⟨_, _, rfl, pos, hp, hg.out⟩, below_trans' hb (by simp [World.iter]) (below_iter _ _ _)⟩
    · have hnx : ∀ ty, (Instr.next (.pointer (some ⟨w.heap.size, 0, none⟩)) true ty).run Try.prog (w.iter s pos) = _ := fun ty => run_next_end w s pos ty (by omega)
      go_wp2
      go_ret2
      exact ⟨Or.inr (Or.inr ⟨rfl, fun i hi => hall.out i (by omega)⟩), below_iter _ _ _⟩
end Go.Proofs.Ytciblaabghiefaa
