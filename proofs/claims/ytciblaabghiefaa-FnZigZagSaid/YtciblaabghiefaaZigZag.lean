/-
  Signed numbers are written as unsigned ones as the reference does it: 'FnZigZag' returns true for every int64. No condition.
-/
import Derived.Test.YtciblaabghiefaaRows
import Derived.WalkKit
import Derived.WalkSpells
import Derived.WalkLawsBesides
import Derived.ProofKit
import Derived.OpenShut
import Derived.Lib.Hide
namespace Go.Proofs.Ytciblaabghiefaa.fnZigZag
open Go.ChangeShapes Go.WideShapes Go.ChangeAt Go.RowKit
set_option linter.unusedVariables false

theorem own : ownKnob Try.prog.godebug = none := by kernel_rfl

theorem xor_ones (x : Int) (h1 : -9223372036854775808 ≤ x) (h2 : x ≤ 9223372036854775807) : bits .xor .i64 x (-1) = -1 - x := by
  show IntKind.i64.wrap ((BitVec.ofInt 64 x ^^^ BitVec.ofInt 64 (-1)).toNat : Int) = _
  have e : BitVec.ofInt 64 (-1) = BitVec.allOnes 64 := by decide
  rw [e, BitVec.xor_allOnes, BitVec.toNat_not, IntKind.wrap_i64, BitVec.toNat_ofInt]
  omega
theorem xor_zero (x : Int) (h1 : -9223372036854775808 ≤ x) (h2 : x ≤ 9223372036854775807) : bits .xor .i64 x 0 = x := by
  show IntKind.i64.wrap ((BitVec.ofInt 64 x ^^^ BitVec.ofInt 64 0).toNat : Int) = _
  have e : BitVec.ofInt 64 0 = 0#64 := by decide
  rw [e, BitVec.xor_zero, IntKind.wrap_i64, BitVec.toNat_ofInt]
  omega
theorem plain (a : Int) (h1 : -9223372036854775808 ≤ a) (h2 : a ≤ 9223372036854775807) :
    IntKind.u64.wrap (bits .xor .i64 (wrap64 (a * 2)) (a / 9223372036854775808)) = if a < 0 then 2 * -(a + 1) + 1 else 2 * a := by
  have hw : -9223372036854775808 ≤ wrap64 (a * 2) ∧ wrap64 (a * 2) ≤ 9223372036854775807 := by unfold wrap64; omega
  by_cases h : a < 0
  · rw [if_pos h, show a / 9223372036854775808 = -1 from by omega, xor_ones _ hw.1 hw.2]
    simp only [IntKind.wrap, IntKind.bits, IntKind.signed]
    unfold wrap64
    simp
    omega
  · rw [if_neg h, show a / 9223372036854775808 = 0 from by omega, xor_zero _ hw.1 hw.2]
    simp only [IntKind.wrap, IntKind.bits, IntKind.signed]
    unfold wrap64
    simp
    omega

theorem walk (a0 : Int) (w0 : (Lit.int .i64 a0).wf = true) (w : World) :
    Calls Try.prog 3 #[.int .i64 a0] w fun e w' => e = .returned (.bool true) ∧ Grown w w' := by
  have hb : -9223372036854775808 ≤ a0 ∧ a0 ≤ 9223372036854775807 := by simpa [Lit.wf, IntKind.min, IntKind.max, IntKind.signed, IntKind.bits] using w0
  obtain ⟨hb1, hb2⟩ := hb
  have hp := plain a0 hb1 hb2
  by_cases h : a0 < 0
  · rw [if_pos h] at hp
    have H := Lib.hid hp
    clear hp
    go_enter Try.func3, Try.ntmps3
    go_wp2
    go_ret
    exact ⟨by rw [H.out]; simp, Grown.refl _⟩
  · rw [if_neg h] at hp
    have H := Lib.hid hp
    clear hp
    go_enter Try.func3, Try.ntmps3
    go_wp2
    go_ret
    exact ⟨by rw [H.out]; simp, Grown.refl _⟩

set_option maxRecDepth 100000 in
theorem lifted (os : Os) (started : os.Started) (H : Type) (enc : TypeId × Value → H) :
    ReturnsInHanded {} Try.checked os 3 .any (Rows.fnZigZagSpec.pre6 enc Try.prog Try.f3 Rows.fnZigZagRow.domain false) (Rows.fnZigZagSpec.post enc Try.prog Try.f3 false true false false) := by
  refine returnsInHanded_of_change (C := Try.checked) own started (by kernel_rfl) Try.func3
    (ChangeSpec.witness6 (enc := enc) (C := Try.checked) false ⟨#[], #[.int .i64 0], []⟩ 8 (by kernel_rfl) (by kernel_rfl) (by kernel_rfl) (by kernel_rfl)) ?_
  intro W base args ds gs before hval0 hW hcnd _
  have hval : ∀ (j : Nat) t v, Try.f3.params[j]? = some t → args[j]? = some v → Value.okWide Try.prog W .any base t v := hval0
  have hW' := hW
  obtain ⟨p, q, hA0, hV, rfl, hfz, hnd⟩ := hW
  have hA : DataW.TrodAll enc Try.prog W 0 (fun _ => true) true Try.f3.params.toList args.toList ds p := hA0
  rw [Try.params3] at hA hval
  obtain ⟨v0, vs0, d0, ds0, p0, q0, hargs, rfl, rfl, h0, r0⟩ := trodAll_cons hA
  obtain ⟨rfl, rfl, rfl⟩ := trodAll_nil r0
  obtain rfl : args = #[v0] := by cases args; simp_all
  obtain ⟨rfl, rfl⟩ := trodVars_none hV
  obtain ⟨a0, rfl, rfl, rfl, w0⟩ := open_int Try.underlying2 (hval 0 2 v0 rfl rfl) h0
  clear hA0 hval0
  simp only [List.append_nil] at hW'
  refine (walk a0 w0 W).mono fun e W' ⟨he, hg⟩ => ?_
  subst he
  exact ⟨_, rfl, post_of_same (pa := []) (pv := []) hW' (fun _ _ _ => (trodAll_cons_mk (shut_bool Try.underlying4 _) trodAll_mk0)) (fun sp _ => (trodAll_cons_mk (shut_int Try.underlying2 w0) trodAll_mk0)) (fun _ _ => rfl) rfl
    (hg.frame _) hg.2.1 (ok_one (by kernel_rfl) rfl (okWide_bool_mk Try.underlying4 _))⟩

theorem over : Rows.fnZigZagRow.holds Try.pinned (OpenSpec.ofChange Rows.fnZigZagSpec) :=
  OpenClaim.holds_of_wide 3 Try.f3 rfl rfl rfl rfl rfl rfl rfl ⟨rfl, rfl, rfl, rfl, rfl⟩ rfl rfl rfl rfl rfl (by kernel_rfl) Try.func3 (by kernel_rfl)
    (of_decide_eq_true (by kernel_rfl)) (by unfold Func.isWrapper; first | (rw [if_pos (by decide +kernel)]; kernel_rfl) | (rw [if_neg (by decide +kernel)]; exact ⟨rfl, rfl⟩))
    (fun os started H enc _ => lifted os started H enc)

theorem proved : Rows.FnZigZagSaid := over
#print axioms proved
end Go.Proofs.Ytciblaabghiefaa.fnZigZag
