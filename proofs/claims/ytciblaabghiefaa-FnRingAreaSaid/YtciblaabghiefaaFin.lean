/- 'math.IsNaN', 'math.IsInf', 'math.Abs', 'gFinite', 'fastMin', 'fastMax'. -/
import Derived.Test.YtciblaabghiefaaRegion
import Derived.Test.YtciblaabghiefaaFl6
import Derived.Laws.Externs
import Derived.Laws.BitsAllLaws
namespace Go.Proofs.Ytciblaabghiefaa
open Go.RowKit
attribute [local go_sem] run_store_float

/-- A word of 64 bits. -/
def W64 (x : Nat) : Prop := x < 18446744073709551616
theorem W64.out {x : Nat} (h : W64 x) : x < 18446744073709551616 := h

theorem isNaN_any (x : Nat) (w : World) : Calls Try.prog 89 #[.float .f64 x] w fun e w' => e = .returned (.bool (Fl.nanB x)) ∧ Below w.heap.size w w' := by
  have h := Fl.nan_raw x
  go_enter Try.func89, Try.ntmps89
  go_wp2
  go_ret
  exact ⟨rfl, Below.refl _ _⟩

theorem run_bits0 (args : Array Value) (w : World) : (callFunc 85 args).run Try.prog w = ((Extern.MathFloatBits.float64bits args).run Try.prog w).andThen fun v w' => .ok (.value v) w' :=
  run_callFunc_extern Try.func85 (by kernel_rfl) (by kernel_rfl) (by kernel_rfl) (by kernel_rfl) args w
theorem run_bits (x : Nat) (w : World) : (callFunc 85 #[.float .f64 x]).run Try.prog w = .ok (.value (.int .u64 x)) w := by
  rw [run_bits0]; rfl
theorem run_frombits0 (args : Array Value) (w : World) : (callFunc 133 args).run Try.prog w = ((Extern.MathFloatBits.float64frombits args).run Try.prog w).andThen fun v w' => .ok (.value v) w' :=
  run_callFunc_extern Try.func133 (by kernel_rfl) (by kernel_rfl) (by kernel_rfl) (by kernel_rfl) args w
theorem run_frombits (n : Int) (w : World) : (callFunc 133 #[.int .u64 n]).run Try.prog w = .ok (.value (.float .f64 n.toNat)) w := by
  rw [run_frombits0]; rfl

theorem and_abs (x : Nat) (hx : x < 18446744073709551616) : bits .andNot .u64 (x : Int) 9223372036854775808 = ((Fl.absB x : Nat) : Int) := by
  have h := u64_andNot_nat x 9223372036854775808 hx (by omega)
  rw [show ((9223372036854775808 : Nat) : Int) = 9223372036854775808 from rfl] at h
  rw [h]
  congr 1
  exact Nat.and_two_pow_sub_one_eq_mod x 63

theorem abs_any (x : Nat) (hx : W64 x) (w : World) : Calls Try.prog 121 #[.float .f64 x] w fun e w' => e = .returned (.float .f64 (Fl.absB x)) ∧ Below w.heap.size w w' := by
  have h1 := run_bits x
  have h2 := run_frombits
  have h3 := and_abs x hx.out
  clear hx
  go_enter Try.func121, Try.ntmps121
  go_wp2_with fail
  go_ret
  exact ⟨rfl, Below.refl _ _⟩

theorem isInf_any (x : Nat) (hx : W64 x) (w : World) : Calls Try.prog 90 #[.float .f64 x, .int .i64 0] w fun e w' => e = .returned (.bool (Fl.infB x)) ∧ Below w.heap.size w w' := by
  have h := Fl.inf_raw x
  go_enter Try.func90, Try.ntmps90
  go_wp2_with (go_at_call 121; refine (abs_any _ hx _).mono ?_; rintro e w2 ⟨rfl, hb⟩)
  go_ret
  exact ⟨rfl, (by (repeat (first | (with_reducible exact Below.refl _ _) | (with_reducible assumption) | (with_reducible refine Below.drew ?_) | (with_reducible refine below_drewN ?_ _) | ((with_reducible refine below_alloc' ?_ ?_); (focus (first | (simp; done) | omega | (simp; omega)))) | ((with_reducible refine below_set' ?_ ?_); (focus (first | (simp; done) | omega | (simp; omega)))) | (with_reducible refine below_step ?_ (by assumption)) | (with_reducible refine below_step_since ?_ (by assumption)) | ((with_reducible refine below_since' (by assumption) ?_ ?_); (focus (first | (simp; done) | omega | (simp; omega)))) | ((with_reducible refine below_trans' (by assumption) ?_ ?_); (focus (first | (simp; done) | omega | (simp; omega)))))))⟩

theorem gFinite_any (x : Nat) (hx : W64 x) (w : World) : Calls Try.prog 54 #[.float .f64 x] w fun e w' => e = .returned (.bool (Fl.fin x)) ∧ Below w.heap.size w w' := by
  have hf := Lib.hid (Fl.fin_eq x)
  cases h1 : Fl.nanB x
  all_goals
    have H1 := Lib.hid h1
    go_enter Try.func54, Try.ntmps54
    go_wp2_with (first | (go_at_call 89; refine (isNaN_any _ _).mono ?_; rintro e w2 ⟨rfl, hb⟩) | (go_at_call 90; refine (isInf_any _ hx _).mono ?_; rintro e w2 ⟨rfl, hb⟩))
    go_ret
    exact ⟨by rw [hf.out, H1.out]; rfl, (by (repeat (first | (with_reducible exact Below.refl _ _) | (with_reducible assumption) | (with_reducible refine Below.drew ?_) | (with_reducible refine below_drewN ?_ _) | ((with_reducible refine below_alloc' ?_ ?_); (focus (first | (simp; done) | omega | (simp; omega)))) | ((with_reducible refine below_set' ?_ ?_); (focus (first | (simp; done) | omega | (simp; omega)))) | (with_reducible refine below_step ?_ (by assumption)) | (with_reducible refine below_step_since ?_ (by assumption)) | ((with_reducible refine below_since' (by assumption) ?_ ?_); (focus (first | (simp; done) | omega | (simp; omega)))) | ((with_reducible refine below_trans' (by assumption) ?_ ?_); (focus (first | (simp; done) | omega | (simp; omega)))))))⟩

theorem fastMin_any (a b : Nat) (w : World) : Calls Try.prog 111 #[.float .f64 a, .float .f64 b] w fun e w' => e = .returned (.float .f64 (Fl.fmin a b)) ∧ Below w.heap.size w w' := by
  have hd : Hid (Fl.fmin a b = if Fl.nanB a || Fl.ltB a b then a else b) := rfl
  have hl : (FloatKind.f64.format.order a b == some .lt) = Fl.ltB a b := rfl
  cases h1 : Fl.nanB a <;> cases h2 : Fl.ltB a b
  all_goals
    have H1 := Lib.hid h1
    have H2 := Lib.hid h2
    go_enter Try.func111, Try.ntmps111
    go_wp2_with (go_at_call 89; refine (isNaN_any _ _).mono ?_; rintro e w2 ⟨rfl, hb⟩)
    go_ret
    exact ⟨by rw [hd.out, H1.out, H2.out]; rfl, (by (repeat (first | (with_reducible exact Below.refl _ _) | (with_reducible assumption) | (with_reducible refine Below.drew ?_) | (with_reducible refine below_drewN ?_ _) | ((with_reducible refine below_alloc' ?_ ?_); (focus (first | (simp; done) | omega | (simp; omega)))) | ((with_reducible refine below_set' ?_ ?_); (focus (first | (simp; done) | omega | (simp; omega)))) | (with_reducible refine below_step ?_ (by assumption)) | (with_reducible refine below_step_since ?_ (by assumption)) | ((with_reducible refine below_since' (by assumption) ?_ ?_); (focus (first | (simp; done) | omega | (simp; omega)))) | ((with_reducible refine below_trans' (by assumption) ?_ ?_); (focus (first | (simp; done) | omega | (simp; omega)))))))⟩
theorem fastMax_any (a b : Nat) (w : World) : Calls Try.prog 112 #[.float .f64 a, .float .f64 b] w fun e w' => e = .returned (.float .f64 (Fl.fmax a b)) ∧ Below w.heap.size w w' := by
  have hd : Hid (Fl.fmax a b = if Fl.nanB a || Fl.gtB a b then a else b) := rfl
  have hl : (FloatKind.f64.format.order a b == some .gt) = Fl.gtB a b := rfl
  cases h1 : Fl.nanB a <;> cases h2 : Fl.gtB a b
  all_goals
    have H1 := Lib.hid h1
    have H2 := Lib.hid h2
    go_enter Try.func112, Try.ntmps112
    go_wp2_with (go_at_call 89; refine (isNaN_any _ _).mono ?_; rintro e w2 ⟨rfl, hb⟩)
    go_ret
    exact ⟨by rw [hd.out, H1.out, H2.out]; rfl, (by (repeat (first | (with_reducible exact Below.refl _ _) | (with_reducible assumption) | (with_reducible refine Below.drew ?_) | (with_reducible refine below_drewN ?_ _) | ((with_reducible refine below_alloc' ?_ ?_); (focus (first | (simp; done) | omega | (simp; omega)))) | ((with_reducible refine below_set' ?_ ?_); (focus (first | (simp; done) | omega | (simp; omega)))) | (with_reducible refine below_step ?_ (by assumption)) | (with_reducible refine below_step_since ?_ (by assumption)) | ((with_reducible refine below_since' (by assumption) ?_ ?_); (focus (first | (simp; done) | omega | (simp; omega)))) | ((with_reducible refine below_trans' (by assumption) ?_ ?_); (focus (first | (simp; done) | omega | (simp; omega)))))))⟩
end Go.Proofs.Ytciblaabghiefaa
