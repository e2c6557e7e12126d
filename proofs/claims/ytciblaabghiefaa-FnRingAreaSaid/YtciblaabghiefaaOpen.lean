/- Arguments opened: what each parameter's value is. -/
import Derived.Test.YtciblaabghiefaaRows
import Derived.WalkKit
import Derived.ProofKit
import Derived.OpenShut
import Derived.ShutString
import Derived.ChangeOld
import Derived.Below
import Derived.Lib.SmallJoins
import Derived.WalkLawsBesides
namespace Go.Proofs.Ytciblaabghiefaa
open Go.ChangeShapes Go.WideShapes Go.ChangeAt Go.RowKit Go.Joins
set_option linter.unusedVariables false
set_option maxRecDepth 100000

theorem own : ownKnob Try.prog.godebug = none := by kernel_rfl
theorem laidOut : laidOutB Try.prog = true := by kernel_rfl

section
variable {H : Type} {enc : TypeId × Value → H} {P : Program} {w : World} {base : Nat} {spare : Nat → Bool} {held : Bool}
theorem trod_float {t : TypeId} {k : FloatKind} {fuel : Nat} {cs : List Value} {x : DataW H × List MemPlace} (ht : P.underlying t = some (.float k)) (h : DataW.trod enc P w base spare held fuel t cs = some x) :
    ∃ b, cs = [.float k b] ∧ x = (.lit (.float k b), []) ∧ (Lit.float k b).wf = true := by
  cases fuel with
  | zero => simp [DataW.trod] at h
  | succ n =>
    unfold DataW.trod at h
    rw [ht] at h
    split at h <;> simp_all
end

theorem f64_lt {b : Nat} (h : (Lit.float .f64 b).wf = true) : b < 18446744073709551616 := by simpa [Lit.wf] using h
theorem i64_bd {n : Int} (h : (Lit.int .i64 n).wf = true) : -9223372036854775808 ≤ n ∧ n ≤ 9223372036854775807 := by
  simpa [Lit.wf, IntKind.min, IntKind.max, IntKind.signed, IntKind.bits] using h

section
variable {H : Type} {enc : TypeId × Value → H} {w : World} {base : Nat} {spare : Nat → Bool} {held : Bool}
theorem open_XY {r : Reach} {b0 : Nat} {v : Value} {d : DataW H} {p : List MemPlace} (hv : Value.okWide Try.prog w r b0 36 v) (h : DataW.Trod enc Try.prog w base spare held 36 v d p) :
    ∃ a b, v = .agg #[.float .f64 a, .float .f64 b] ∧ a < 18446744073709551616 ∧ b < 18446744073709551616 := by
  obtain ⟨v0, v1, y0, y1, n, rfl, rfl, rfl, h0, h1⟩ := open_agg2 Try.underlying36 (by kernel_rfl) (by kernel_rfl) hv h
  obtain ⟨a, e0, _, wa⟩ := trod_float Try.underlying34 h0
  obtain ⟨b, e1, _, wb⟩ := trod_float Try.underlying34 h1
  simp at e0 e1
  subst e0 e1
  exact ⟨a, b, rfl, f64_lt wa, f64_lt wb⟩
theorem open_Pt {r : Reach} {b0 : Nat} {v : Value} {d : DataW H} {p : List MemPlace} (hv : Value.okWide Try.prog w r b0 42 v) (h : DataW.Trod enc Try.prog w base spare held 42 v d p) :
    ∃ a b : Int, v = .agg #[.int .i64 a, .int .i64 b] ∧ (-9223372036854775808 ≤ a ∧ a ≤ 9223372036854775807) ∧ (-9223372036854775808 ≤ b ∧ b ≤ 9223372036854775807) := by
  obtain ⟨v0, v1, y0, y1, n, rfl, rfl, rfl, h0, h1⟩ := open_agg2 Try.underlying42 (by kernel_rfl) (by kernel_rfl) hv h
  obtain ⟨a, e0, _, wa⟩ := DataW.trod_int Try.underlying3 h0
  obtain ⟨b, e1, _, wb⟩ := DataW.trod_int Try.underlying3 h1
  simp at e0 e1
  subst e0 e1
  exact ⟨a, b, rfl, i64_bd wa, i64_bd wb⟩
theorem array5 {α : Type} {cs : Array α} (h : cs.size = 5) : ∃ c0 c1 c2 c3 c4, cs = #[c0, c1, c2, c3, c4] := by
  obtain ⟨l⟩ := cs
  match l, h with
  | [c0, c1, c2, c3, c4], _ => exact ⟨c0, c1, c2, c3, c4, rfl⟩
theorem open_Env {r : Reach} {b0 : Nat} {v : Value} {d : DataW H} {p : List MemPlace} (hv : Value.okWide Try.prog w r b0 71 v) (h : DataW.Trod enc Try.prog w base spare held 71 v d p) :
    ∃ (f : Bool) (a b c e : Nat), v = .agg #[.bool f, .float .f64 a, .float .f64 b, .float .f64 c, .float .f64 e] ∧ (a < 18446744073709551616 ∧ b < 18446744073709551616) ∧ c < 18446744073709551616 ∧ e < 18446744073709551616 := by
  obtain ⟨cs, rfl, hsz⟩ := okWide_struct Try.underlying71 hv
  obtain ⟨c0, c1, c2, c3, c4, rfl⟩ := array5 (hsz.trans (by kernel_rfl))
  obtain ⟨fuel, hf⟩ := h
  obtain ⟨y0, y1, n, hx, _, h0, h1⟩ := trod_struct2 Try.underlying71 hf
  have h0 : DataW.trod enc Try.prog w base spare held n 4 [c0] = some y0 := h0
  have h1 : DataW.trod enc Try.prog w base spare held n 69 [c1, c2, c3, c4] = some y1 := h1
  obtain ⟨z0, z1, z2, z3, m, hz, _, g0, g1, g2, g3⟩ := trod_struct4 Try.underlying69 h1
  have g0 : DataW.trod enc Try.prog w base spare held m 34 [c1] = some z0 := g0
  have g1 : DataW.trod enc Try.prog w base spare held m 34 [c2] = some z1 := g1
  have g2 : DataW.trod enc Try.prog w base spare held m 34 [c3] = some z2 := g2
  have g3 : DataW.trod enc Try.prog w base spare held m 34 [c4] = some z3 := g3
  obtain ⟨f, ef, _⟩ := DataW.trod_bool Try.underlying4 h0
  obtain ⟨a, e0, _, wa⟩ := trod_float Try.underlying34 g0
  obtain ⟨b, e1, _, wb⟩ := trod_float Try.underlying34 g1
  obtain ⟨c, e2, _, wc⟩ := trod_float Try.underlying34 g2
  obtain ⟨e, e3, _, we⟩ := trod_float Try.underlying34 g3
  simp at ef e0 e1 e2 e3
  subst ef e0 e1 e2 e3
  exact ⟨f, a, b, c, e, rfl, ⟨f64_lt wa, f64_lt wb⟩, f64_lt wc, f64_lt we⟩
end
end Go.Proofs.Ytciblaabghiefaa
