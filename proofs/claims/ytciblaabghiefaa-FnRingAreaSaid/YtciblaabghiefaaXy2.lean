/- Places by value, more: differences, products, lengths; places of whole numbers as places. -/
import Derived.Test.YtciblaabghiefaaXy1
import Derived.Test.YtciblaabghiefaaFl5
import Derived.Laws.Externs
namespace Go.Proofs.Ytciblaabghiefaa
open Go.RowKit
attribute [local go_sem] run_store_float

theorem sub_any (a b c d r s : Nat) (w : World) (h1 : floatBits .sub .f64 a c = some r) (h2 : floatBits .sub .f64 b d = some s) :
    Calls Try.prog 129 #[.agg #[.float .f64 a, .float .f64 b], .agg #[.float .f64 c, .float .f64 d]] w fun e w' => e = .returned (.agg #[.float .f64 r, .float .f64 s]) ∧ Below w.heap.size w w' := by
  have k1 := hop h1
  have k2 := hop h2
  clear h1 h2
  go_enter Try.func129, Try.ntmps129
  go_wp2
  refine bodyPost_ret (v := .agg #[.float .f64 r, .float .f64 s]) (by simp [results, Try.results129, go_sem]) rfl ⟨rfl, ?_⟩
  (repeat (first | (with_reducible exact Below.refl _ _) | (with_reducible assumption) | (with_reducible refine Below.drew ?_) | (with_reducible refine below_drewN ?_ _) | ((with_reducible refine below_alloc' ?_ ?_); (focus (first | (simp; done) | omega | (simp; omega)))) | ((with_reducible refine below_set' ?_ ?_); (focus (first | (simp; done) | omega | (simp; omega)))) | (with_reducible refine below_step ?_ (by assumption)) | (with_reducible refine below_step_since ?_ (by assumption)) | ((with_reducible refine below_since' (by assumption) ?_ ?_); (focus (first | (simp; done) | omega | (simp; omega)))) | ((with_reducible refine below_trans' (by assumption) ?_ ?_); (focus (first | (simp; done) | omega | (simp; omega))))))

theorem dot_any (a b c d p q r : Nat) (w : World) (h1 : floatBits .mul .f64 a c = some p) (h2 : floatBits .mul .f64 b d = some q) (h3 : floatBits .add .f64 p q = some r) :
    Calls Try.prog 135 #[.agg #[.float .f64 a, .float .f64 b], .agg #[.float .f64 c, .float .f64 d]] w fun e w' => e = .returned (.float .f64 r) ∧ Below w.heap.size w w' := by
  have k1 := hop h1
  have k2 := hop h2
  have k3 := hop h3
  clear h1 h2 h3
  go_enter Try.func135, Try.ntmps135
  go_wp2
  go_ret
  exact ⟨rfl, (by (repeat (first | (with_reducible exact Below.refl _ _) | (with_reducible assumption) | (with_reducible refine Below.drew ?_) | (with_reducible refine below_drewN ?_ _) | ((with_reducible refine below_alloc' ?_ ?_); (focus (first | (simp; done) | omega | (simp; omega)))) | ((with_reducible refine below_set' ?_ ?_); (focus (first | (simp; done) | omega | (simp; omega)))) | (with_reducible refine below_step ?_ (by assumption)) | (with_reducible refine below_step_since ?_ (by assumption)) | ((with_reducible refine below_since' (by assumption) ?_ ?_); (focus (first | (simp; done) | omega | (simp; omega)))) | ((with_reducible refine below_trans' (by assumption) ?_ ?_); (focus (first | (simp; done) | omega | (simp; omega)))))))⟩

theorem lengthSq_any (a b p q r : Nat) (w : World) (h1 : floatBits .mul .f64 a a = some p) (h2 : floatBits .mul .f64 b b = some q) (h3 : floatBits .add .f64 p q = some r) :
    Calls Try.prog 126 #[.agg #[.float .f64 a, .float .f64 b]] w fun e w' => e = .returned (.float .f64 r) ∧ Below w.heap.size w w' := by
  have H1 := Lib.hid h1
  have H2 := Lib.hid h2
  have H3 := Lib.hid h3
  clear h1 h2 h3
  go_enter Try.func126, Try.ntmps126
  go_wp2_with (go_at_call 135; refine (dot_any _ _ _ _ _ _ _ _ H1.out H2.out H3.out).mono ?_; rintro e w2 ⟨rfl, hb⟩)
  go_ret
  exact ⟨rfl, (by (repeat (first | (with_reducible exact Below.refl _ _) | (with_reducible assumption) | (with_reducible refine Below.drew ?_) | (with_reducible refine below_drewN ?_ _) | ((with_reducible refine below_alloc' ?_ ?_); (focus (first | (simp; done) | omega | (simp; omega)))) | ((with_reducible refine below_set' ?_ ?_); (focus (first | (simp; done) | omega | (simp; omega)))) | (with_reducible refine below_step ?_ (by assumption)) | (with_reducible refine below_step_since ?_ (by assumption)) | ((with_reducible refine below_since' (by assumption) ?_ ?_); (focus (first | (simp; done) | omega | (simp; omega)))) | ((with_reducible refine below_trans' (by assumption) ?_ ?_); (focus (first | (simp; done) | omega | (simp; omega)))))))⟩

theorem run_mathsqrt0 (args : Array Value) (w : World) : (callFunc 74 args).run Try.prog w = ((Extern.MathSqrt.sqrt args).run Try.prog w).andThen fun v w' => .ok (.value v) w' :=
  run_callFunc_extern Try.func74 (by kernel_rfl) (by kernel_rfl) (by kernel_rfl) (by kernel_rfl) args w

theorem run_mathsqrt (x r : Nat) (h : FloatKind.f64.format.sqrt x = some r) (w : World) : (callFunc 74 #[.float .f64 x]).run Try.prog w = .ok (.value (.float .f64 r)) w := by
  have key : ∀ d, FloatKind.f64.format.sqrt x = d → d = some r → Extern.MathSqrt.sqrt #[.float .f64 x] = pure (.float .f64 r) := by
    intro d h1 h2
    delta Extern.MathSqrt.sqrt Extern.MathSqrt.sqrt.match_2
    simp
    delta Extern.MathSqrt.sqrt._sparseCasesOn_2 Extern.MathSqrt.sqrt._sparseCasesOn_3
    dsimp [Array.getLit]
    rw [h1, h2]
  rw [run_mathsqrt0, key _ rfl h]
  rfl

theorem sqrt_any (x r : Nat) (w : World) (h : FloatKind.f64.format.sqrt x = some r) : Calls Try.prog 38 #[.float .f64 x] w fun e w' => e = .returned (.float .f64 r) ∧ Below w.heap.size w w' := by
  have k := run_mathsqrt x r h
  clear h
  go_enter Try.func38, Try.ntmps38
  go_wp2_with fail
  go_ret
  exact ⟨rfl, Below.refl _ _⟩
end Go.Proofs.Ytciblaabghiefaa
