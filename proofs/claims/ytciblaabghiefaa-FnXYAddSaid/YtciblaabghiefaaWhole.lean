/- Whole numbers: 'gWhole'. -/
import Derived.Test.YtciblaabghiefaaRegion
import Derived.Laws.Externs
namespace Go.Proofs.Ytciblaabghiefaa
open Go.RowKit
attribute [local go_sem] run_store_float

theorem run_archTrunc (args : Array Value) (w : World) : (callFunc 123 args).run Try.prog w = ((Extern.MathFloor.toIntegral "math.archTrunc" .zero args).run Try.prog w).andThen fun v w' => .ok (.value v) w' :=
  run_callFunc_extern Try.func123 (by kernel_rfl) (by kernel_rfl) (by kernel_rfl) (by kernel_rfl) args w

def truncOf (x : Nat) : Nat := FloatKind.f64.encode ((FloatKind.f64.decode x).integral .zero)

theorem run_archTrunc_fin (x : Nat) (w : World) (hx : Fl.fin x = true) : (callFunc 123 #[.float .f64 x]).run Try.prog w = .ok (.value (.float .f64 (truncOf x))) w := by
  rw [run_archTrunc]
  obtain ⟨s, m, e, hr, _⟩ := Fl.fin_read hx
  have hd : FloatKind.f64.decode x = .number s m e := hr
  have e : Extern.MathFloor.toIntegral "math.archTrunc" .zero #[.float .f64 x] = pure (.float .f64 (truncOf x)) := by
    have key : ∀ d, FloatKind.f64.decode x = d → d = .number s m e → Extern.MathFloor.toIntegral "math.archTrunc" .zero #[.float .f64 x] = pure (.float .f64 (FloatKind.f64.encode (d.integral .zero))) := by
      intro d h1 h2
      delta Extern.MathFloor.toIntegral Extern.MathFloor.toIntegral.match_2
      simp
      delta Extern.MathFloor.toIntegral._sparseCasesOn_2 Extern.MathFloor.toIntegral._sparseCasesOn_3
      dsimp [Array.getLit]
      rw [h1, h2]
    exact key _ rfl hd
  rw [e]
  rfl

theorem math_trunc_fin (x : Nat) (w : World) (hx : Fl.fin x = true) : Calls Try.prog 99 #[.float .f64 x] w fun e w' => e = .returned (.float .f64 (truncOf x)) ∧ w' = w := by
  have ht := fun w => run_archTrunc_fin x w hx
  clear hx
  go_enter Try.func99, Try.ntmps99
  go_wp2_with fail
  go_ret
  exact ⟨rfl, rfl⟩

/-- 'gWhole' as a Bool: equal to itself cut towards zero, from -2^20 to 2^20. -/
def gW (x : Nat) : Bool := Fl.fin x && (FloatKind.f64.format.order x (truncOf x) == some .eq) &&
  (FloatKind.f64.format.order x 13920626448202203136 == some .gt || FloatKind.f64.format.order x 13920626448202203136 == some .eq) &&
  (FloatKind.f64.format.order x 4697254411347427328 == some .lt || FloatKind.f64.format.order x 4697254411347427328 == some .eq)

theorem lo_I : Fl.isI 13920626448202203136 (-1048576) := by
  have h : Ieee.double.read 13920626448202203136 = .number true 4503599627370496 (-32) := by decide
  refine ⟨by unfold Fl.fin; rw [h], ?_⟩
  unfold Fl.val
  rw [h]
  show Fl.num _ _ _ = _
  unfold Fl.num Fl.sg
  rw [show ((4503599627370496 : Nat) : Rat) = 4503599627370496 from rfl, ← Fl.p2_52, Rat.mul_assoc, ← Fl.p2_add]
  rw [show (52 + -32 : Int) = ((20 : Nat) : Int) from rfl, Fl.p2_nat]
  simp
  grind
theorem hi_I : Fl.isI 4697254411347427328 1048576 := by
  have h : Ieee.double.read 4697254411347427328 = .number false 4503599627370496 (-32) := by decide
  refine ⟨by unfold Fl.fin; rw [h], ?_⟩
  unfold Fl.val
  rw [h]
  show Fl.num _ _ _ = _
  unfold Fl.num Fl.sg
  rw [show ((4503599627370496 : Nat) : Rat) = 4503599627370496 from rfl, ← Fl.p2_52, Rat.mul_assoc, ← Fl.p2_add]
  rw [show (52 + -32 : Int) = ((20 : Nat) : Int) from rfl, Fl.p2_nat]
  simp

theorem gW_spec {x : Nat} (h : gW x = true) : ∃ n : Int, Fl.isI x n ∧ -1048576 ≤ n ∧ n ≤ 1048576 := by
  unfold gW at h
  rw [Bool.and_eq_true, Bool.and_eq_true, Bool.and_eq_true] at h
  obtain ⟨⟨⟨h1, h2⟩, h3⟩, h4⟩ := h
  obtain ⟨n, hn, _⟩ := Fl.trunc_fin h1
  have e : truncOf x = FloatKind.f64.encode ((FloatKind.f64.decode x).integral .zero) := rfl
  rw [← e] at hn
  rw [Fl.eq_fin h1 hn.1, hn.2] at h2
  have hx : Fl.isI x n := ⟨h1, by simpa using h2⟩
  rw [Fl.ge_I hx lo_I] at h3
  rw [Fl.le_I hx hi_I] at h4
  exact ⟨n, hx, by simpa using h3, by simpa using h4⟩

theorem gWhole_fin (x : Nat) (w : World) (hx : Fl.fin x = true) : Calls Try.prog 62 #[.float .f64 x] w fun e w' => e = .returned (.bool (gW x)) ∧ w = w' := by
  have ht := fun w => (math_trunc_fin x w hx)
  have HX := Lib.hid hx
  clear hx
  go_enter Try.func62, Try.ntmps62
  go_wp2_with (go_at_call 99; refine (ht _).mono ?_; rintro e w' ⟨rfl, rfl⟩)
  all_goals (go_ret; refine ⟨?_, rfl⟩; simp [gW, HX.out, *])

/-- Of any word 'math.Trunc' gives some word; if that is not a number, the test on it or on the bounds fails. -/
theorem archTrunc_not (x : Nat) (w : World) (hx : Fl.fin x = false) : ∃ v n, (callFunc 123 #[.float .f64 x]).run Try.prog w = .ok (.value (.float .f64 v)) (w.drewN n) ∧
    ((FloatKind.f64.format.order x v == some .eq) = false ∨
     ((FloatKind.f64.format.order x v == some .eq) = true ∧ (FloatKind.f64.format.order x 13920626448202203136 == some .gt || FloatKind.f64.format.order x 13920626448202203136 == some .eq) = false) ∨
     ((FloatKind.f64.format.order x v == some .eq) = true ∧ (FloatKind.f64.format.order x 13920626448202203136 == some .gt || FloatKind.f64.format.order x 13920626448202203136 == some .eq) = true ∧
      (FloatKind.f64.format.order x 4697254411347427328 == some .lt || FloatKind.f64.format.order x 4697254411347427328 == some .eq) = false)) := by
  have hlo : Ieee.double.read 13920626448202203136 = .number true 4503599627370496 (-32) := by decide
  have hhi : Ieee.double.read 4697254411347427328 = .number false 4503599627370496 (-32) := by decide
  cases hd : FloatKind.f64.decode x with
  | number s m e =>
    have : Ieee.double.read x = .number s m e := hd
    unfold Fl.fin at hx
    rw [this] at hx
    cases hx
  | infinity s =>
    have hr : Ieee.double.read x = .infinity s := hd
    refine ⟨truncOf x, 0, ?_, ?_⟩
    · rw [run_archTrunc]
      have e : Extern.MathFloor.toIntegral "math.archTrunc" .zero #[.float .f64 x] = pure (.float .f64 (truncOf x)) := by
        have key : ∀ d, FloatKind.f64.decode x = d → d = .infinity s → Extern.MathFloor.toIntegral "math.archTrunc" .zero #[.float .f64 x] = pure (.float .f64 (FloatKind.f64.encode (d.integral .zero))) := by
          intro d h1 h2
          delta Extern.MathFloor.toIntegral Extern.MathFloor.toIntegral.match_2
          simp
          delta Extern.MathFloor.toIntegral._sparseCasesOn_2 Extern.MathFloor.toIntegral._sparseCasesOn_3
          dsimp [Array.getLit]
          rw [h1, h2]
        exact key _ rfl hd
      rw [e]
      rfl
    · have hi : Ieee.double.read (truncOf x) = .infinity s := by
        unfold truncOf
        rw [hd]
        cases s <;> decide
      have e1 : FloatKind.f64.format.order x (truncOf x) = some .eq := by
        show (Ieee.double.read x).order (Ieee.double.read (truncOf x)) = _
        rw [hr, hi]
        cases s <;> rfl
      have e2 : FloatKind.f64.format.order x 13920626448202203136 = some (if s then .lt else .gt) := by
        show (Ieee.double.read x).order (Ieee.double.read 13920626448202203136) = _
        rw [hr, hlo]
        rfl
      have e3 : FloatKind.f64.format.order x 4697254411347427328 = some (if s then .lt else .gt) := by
        show (Ieee.double.read x).order (Ieee.double.read 4697254411347427328) = _
        rw [hr, hhi]
        rfl
      rw [e1, e2, e3]
      cases s
      · exact .inr (.inr (by decide))
      · exact .inr (.inl (by decide))
  | nan s t =>
    have hr : Ieee.double.read x = .nan s t := hd
    have ho : ∀ v, (FloatKind.f64.format.order x v == some .eq) = false := by
      intro v
      have : FloatKind.f64.format.order x v = none := by
        show (Ieee.double.read x).order (Ieee.double.read v) = _
        rw [hr]
        rfl
      rw [this]; rfl
    have hrun : ∃ v n, (Extern.MathFloor.toIntegral "math.archTrunc" .zero #[.float .f64 x]).run Try.prog w = .ok (.float .f64 v) (w.drewN n) := by
      have key : ∀ d, FloatKind.f64.decode x = d → d = .nan s t → ∃ v n, (Extern.MathFloor.toIntegral "math.archTrunc" .zero #[.float .f64 x]).run Try.prog w = .ok (.float .f64 v) (w.drewN n) := by
        intro d h1 h2
        delta Extern.MathFloor.toIntegral Extern.MathFloor.toIntegral.match_2
        simp
        delta Extern.MathFloor.toIntegral._sparseCasesOn_2 Extern.MathFloor.toIntegral._sparseCasesOn_3
        dsimp [Array.getLit]
        rw [h1, h2]
        dsimp only
        by_cases hq : FloatKind.f64.format.quiet t = t
        · rw [if_pos hq]
          exact ⟨x, 0, rfl⟩
        · rw [if_neg hq]
          simp only [Sem.run_map, run_choose_drew]
          split
          · exact ⟨_, 0, rfl⟩
          · exact ⟨_, 1, rfl⟩
      exact key _ rfl hd
    obtain ⟨v, n, hv⟩ := hrun
    refine ⟨v, n, ?_, .inl (ho v)⟩
    rw [run_archTrunc, hv]
    rfl

set_option maxRecDepth 100000 in
theorem math_trunc_run {x v n : Nat} {w : World} (h : (callFunc 123 #[.float .f64 x]).run Try.prog w = .ok (.value (.float .f64 v)) (w.drewN n)) : Calls Try.prog 99 #[.float .f64 x] w fun e w' => e = .returned (.float .f64 v) ∧ w.drewN n = w' := by
  go_enter Try.func99, Try.ntmps99
  go_wp2_with fail
  go_ret
  exact ⟨rfl, rfl⟩

theorem gWhole_any (x : Nat) (w : World) : Calls Try.prog 62 #[.float .f64 x] w fun e w' => e = .returned (.bool (gW x)) ∧ ∃ n, w' = w.drewN n := by
  cases hx : Fl.fin x with
  | true => exact (gWhole_fin x w hx).mono fun e w' ⟨he, hw⟩ => ⟨he, 0, hw.symm⟩
  | false =>
    have hg : gW x = false := by unfold gW; rw [hx]; rfl
    obtain ⟨v, n, hrun, h⟩ := archTrunc_not x w hx
    have HG := Lib.hid hg
    have ht := math_trunc_run hrun
    have HT := Lib.hid ht
    clear hg hx hrun ht
    rcases h with h | ⟨h1, h2⟩ | ⟨h1, h2, h3⟩
    all_goals
      go_enter Try.func62, Try.ntmps62
      go_wp2_with (go_at_call 99; refine HT.out.mono ?_; rintro e w' ⟨rfl, rfl⟩)
      go_ret
      exact ⟨by rw [HG.out]; rfl, n, rfl⟩
end Go.Proofs.Ytciblaabghiefaa
