/- Arguments opened: what each parameter's value is. -/
import Derived.Test.YtciblaabghiefaaRows
import Derived.WalkKit
import Derived.ProofKit
import Derived.OpenShut
import Derived.ShutString
import Derived.ChangeOld
import Derived.Below
import Derived.Lib.SmallJoins
import Derived.WalkLawsBesides
namespace Go.Proofs.Ytciblaabghiefaa
open Go.ChangeShapes Go.WideShapes Go.ChangeAt Go.RowKit Go.Joins
set_option linter.unusedVariables false
set_option maxRecDepth 100000

theorem own : ownKnob Try.prog.godebug = none := by kernel_rfl
theorem laidOut : laidOutB Try.prog = true := by kernel_rfl

section
variable {H : Type} {enc : TypeId × Value → H} {P : Program} {w : World} {base : Nat} {spare : Nat → Bool} {held : Bool}
theorem trod_float {t : TypeId} {k : FloatKind} {fuel : Nat} {cs : List Value} {x : DataW H × List MemPlace} (ht : P.underlying t = some (.float k)) (h : DataW.trod enc P w base spare held fuel t cs = some x) :
    ∃ b, cs = [.float k b] ∧ x = (.lit (.float k b), []) ∧ (Lit.float k b).wf = true := by
  cases fuel with
  | zero => simp [DataW.trod] at h
  | succ n =>
    unfold DataW.trod at h
    rw [ht] at h
    split at h <;> simp_all
end

theorem f64_lt {b : Nat} (h : (Lit.float .f64 b).wf = true) : b < 18446744073709551616 := by simpa [Lit.wf] using h
theorem i64_bd {n : Int} (h : (Lit.int .i64 n).wf = true) : -9223372036854775808 ≤ n ∧ n ≤ 9223372036854775807 := by
  simpa [Lit.wf, IntKind.min, IntKind.max, IntKind.signed, IntKind.bits] using h

section
variable {H : Type} {enc : TypeId × Value → H} {w : World} {base : Nat} {spare : Nat → Bool} {held : Bool}
theorem open_XY {r : Reach} {b0 : Nat} {v : Value} {d : DataW H} {p : List MemPlace} (hv : Value.okWide Try.prog w r b0 36 v) (h : DataW.Trod enc Try.prog w base spare held 36 v d p) :
    ∃ a b, v = .agg #[.float .f64 a, .float .f64 b] ∧ a < 18446744073709551616 ∧ b < 18446744073709551616 := by
  obtain ⟨v0, v1, y0, y1, n, rfl, rfl, rfl, h0, h1⟩ := open_agg2 Try.underlying36 (by kernel_rfl) (by kernel_rfl) hv h
  obtain ⟨a, e0, _, wa⟩ := trod_float Try.underlying34 h0
  obtain ⟨b, e1, _, wb⟩ := trod_float Try.underlying34 h1
  simp at e0 e1
  subst e0 e1
  exact ⟨a, b, rfl, f64_lt wa, f64_lt wb⟩
theorem open_Pt {r : Reach} {b0 : Nat} {v : Value} {d : DataW H} {p : List MemPlace} (hv : Value.okWide Try.prog w r b0 42 v) (h : DataW.Trod enc Try.prog w base spare held 42 v d p) :
    ∃ a b : Int, v = .agg #[.int .i64 a, .int .i64 b] ∧ (-9223372036854775808 ≤ a ∧ a ≤ 9223372036854775807) ∧ (-9223372036854775808 ≤ b ∧ b ≤ 9223372036854775807) := by
  obtain ⟨v0, v1, y0, y1, n, rfl, rfl, rfl, h0, h1⟩ := open_agg2 Try.underlying42 (by kernel_rfl) (by kernel_rfl) hv h
  obtain ⟨a, e0, _, wa⟩ := DataW.trod_int Try.underlying3 h0
  obtain ⟨b, e1, _, wb⟩ := DataW.trod_int Try.underlying3 h1
  simp at e0 e1
  subst e0 e1
  exact ⟨a, b, rfl, i64_bd wa, i64_bd wb⟩
end
end Go.Proofs.Ytciblaabghiefaa
