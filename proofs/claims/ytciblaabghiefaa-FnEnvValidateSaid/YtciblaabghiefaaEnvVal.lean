/- FnEnvValidate. -/
import Derived.Test.YtciblaabghiefaaEnv3
import Derived.Test.YtciblaabghiefaaOpen
namespace Go.Proofs.Ytciblaabghiefaa.fnEnvValidate
open Go.RowKit
attribute [local go_sem] run_store_float
set_option maxRecDepth 100000

theorem fmin_w (a b : Nat) (ha : W64 a) (hb : W64 b) : W64 (Fl.fmin a b) := by unfold Fl.fmin; split <;> assumption
theorem fmax_w (a b : Nat) (ha : W64 a) (hb : W64 b) : W64 (Fl.fmax a b) := by unfold Fl.fmax; split <;> assumption
theorem made_eq (a b c d : Nat) : envMade true a b c d = ⟨Fl.fmin a c, Fl.fmin b d, Fl.fmax a c, Fl.fmax b d, true⟩ := by
  simp [envMade, envOf, Env5.addXY, Env5.empty]
theorem valid_made (f : Bool) (a b c d : Nat) : (envMade f a b c d).valid = (!f || (Fl.fin a && (Fl.fin b && (Fl.fin c && Fl.fin d)))) := by
  cases f with
  | false => rfl
  | true =>
    rw [made_eq]
    have h1 := Fl.minmax_fin a c
    have h2 := Fl.minmax_fin b d
    simp only [Env5.valid, Bool.not_true, Bool.false_or]
    revert h1 h2
    cases Fl.fin (Fl.fmin a c) <;> cases Fl.fin (Fl.fmax a c) <;> cases Fl.fin (Fl.fmin b d) <;> cases Fl.fin (Fl.fmax b d) <;> cases Fl.fin a <;> cases Fl.fin b <;> cases Fl.fin c <;> cases Fl.fin d <;> simp

theorem implVal_any (f : Bool) (a b c d : Nat) (ha : W64 a) (hb' : W64 b) (hc' : W64 c) (hd : W64 d) (w : World) :
    Calls Try.prog 51 #[.agg #[.bool f, .float .f64 a, .float .f64 b, .float .f64 c, .float .f64 d]] w fun e w' => e = .returned (.bool (!f || (Fl.fin a && (Fl.fin b && (Fl.fin c && Fl.fin d))))) ∧ Below w.heap.size w w' := by
  rw [← valid_made]
  have HE := fun W => Lib.hid (envelope_any f a b c d W)
  have hw : W64 (envMade f a b c d).x0 ∧ W64 (envMade f a b c d).y0 ∧ W64 (envMade f a b c d).x1 ∧ W64 (envMade f a b c d).y1 := by
    cases f with
    | false => refine ⟨?_, ?_, ?_, ?_⟩ <;> (show (0 : Nat) < _; omega)
    | true => rw [made_eq]; exact ⟨fmin_w _ _ ha hc', fmin_w _ _ hb' hd, fmax_w _ _ ha hc', fmax_w _ _ hb' hd⟩
  generalize envMade f a b c d = V at *
  obtain ⟨v0, v1, v2, v3, v4⟩ := V
  simp only [Env5.cells] at HE
  have HV := fun W => Lib.hid (envValidate_any v0 v1 v2 v3 v4 hw.1 hw.2.1 hw.2.2.1 hw.2.2.2 W)
  clear hw ha hb' hc' hd
  generalize Env5.valid ⟨v0, v1, v2, v3, v4⟩ = r at *
  cases r with
  | true =>
    go_enter Try.func51, Try.ntmps51
    go_wp2_with (first | (go_at_call 76; (with_reducible refine Calls.mono ((HE _).out) ?_); rintro e w2 ⟨rfl, hb⟩) | (go_at_call 86; (with_reducible refine Calls.mono ((HV _).out) ?_); rintro e w3 ⟨hx, hb2⟩; obtain rfl : e = .returned .nilIface := hx))
    go_ret
    exact ⟨rfl, (by (repeat (first | (with_reducible exact Below.refl _ _) | (with_reducible assumption) | (with_reducible refine Below.drew ?_) | (with_reducible refine below_drewN ?_ _) | ((with_reducible refine below_alloc' ?_ ?_); (focus (first | (simp; done) | omega | (simp; omega)))) | ((with_reducible refine below_set' ?_ ?_); (focus (first | (simp; done) | omega | (simp; omega)))) | (with_reducible refine below_step ?_ (by assumption)) | (with_reducible refine below_step_since ?_ (by assumption)) | ((with_reducible refine below_since' (by assumption) ?_ ?_); (focus (first | (simp; done) | omega | (simp; omega)))) | ((with_reducible refine below_trans' (by assumption) ?_ ?_); (focus (first | (simp; done) | omega | (simp; omega)))))))⟩
  | false =>
    go_enter Try.func51, Try.ntmps51
    go_wp2_with (first | (go_at_call 76; (with_reducible refine Calls.mono ((HE _).out) ?_); rintro e w2 ⟨rfl, hb⟩) | (go_at_call 86; (with_reducible refine Calls.mono ((HV _).out) ?_); rintro e w3 ⟨hx, hb2⟩; obtain ⟨t, u, rfl⟩ : ∃ t u, e = .returned (.iface t u) := hx))
    go_ret
    exact ⟨rfl, (by (repeat (first | (with_reducible exact Below.refl _ _) | (with_reducible assumption) | (with_reducible refine Below.drew ?_) | (with_reducible refine below_drewN ?_ _) | ((with_reducible refine below_alloc' ?_ ?_); (focus (first | (simp; done) | omega | (simp; omega)))) | ((with_reducible refine below_set' ?_ ?_); (focus (first | (simp; done) | omega | (simp; omega)))) | (with_reducible refine below_step ?_ (by assumption)) | (with_reducible refine below_step_since ?_ (by assumption)) | ((with_reducible refine below_since' (by assumption) ?_ ?_); (focus (first | (simp; done) | omega | (simp; omega)))) | ((with_reducible refine below_trans' (by assumption) ?_ ?_); (focus (first | (simp; done) | omega | (simp; omega)))))))⟩

theorem eFinite_any (a b c d : Nat) (ha : W64 a) (hb' : W64 b) (hc' : W64 c) (hd : W64 d) (w : World) :
    Calls Try.prog 52 #[.agg #[.float .f64 a, .float .f64 b, .float .f64 c, .float .f64 d]] w fun e w' => e = .returned (.bool (Fl.fin a && (Fl.fin b && (Fl.fin c && Fl.fin d)))) ∧ Below w.heap.size w w' := by
  have H0 := fun W => Lib.hid (gFinite_any a ha W)
  have H1 := fun W => Lib.hid (gFinite_any b hb' W)
  have H2 := fun W => Lib.hid (gFinite_any c hc' W)
  have H3 := fun W => Lib.hid (gFinite_any d hd W)
  clear ha hb' hc' hd
  generalize Fl.fin a = fa at *
  generalize Fl.fin b = fb at *
  generalize Fl.fin c = fc at *
  generalize Fl.fin d = fd at *
  cases fa <;> cases fb <;> cases fc <;> cases fd
  all_goals
    go_enter Try.func52, Try.ntmps52
    go_wp2_with (first | (go_at_call 54; (with_reducible refine Calls.mono ((H0 _).out) ?_); rintro e w2 ⟨rfl, hb⟩; have hc := (bcell hb).1; have hf := (bcell hb).2.1; have hq0 : w.heap.size < w2.heap.size := (by have hsz := hb.size; (try simp at hsz); omega)) | (go_at_call 54; (with_reducible refine Calls.mono ((H1 _).out) ?_); rintro e w2 ⟨rfl, hb⟩; have hc := (bcell hb).1; have hf := (bcell hb).2.1; have hq0 : w.heap.size < w2.heap.size := (by have hsz := hb.size; (try simp at hsz); omega)) | (go_at_call 54; (with_reducible refine Calls.mono ((H2 _).out) ?_); rintro e w2 ⟨rfl, hb⟩; have hc := (bcell hb).1; have hf := (bcell hb).2.1; have hq0 : w.heap.size < w2.heap.size := (by have hsz := hb.size; (try simp at hsz); omega)) | (go_at_call 54; (with_reducible refine Calls.mono ((H3 _).out) ?_); rintro e w2 ⟨rfl, hb⟩; have hc := (bcell hb).1; have hf := (bcell hb).2.1; have hq0 : w.heap.size < w2.heap.size := (by have hsz := hb.size; (try simp at hsz); omega)))
    go_ret
    exact ⟨rfl, (by (repeat (first | (with_reducible exact Below.refl _ _) | (with_reducible assumption) | (with_reducible refine Below.drew ?_) | (with_reducible refine below_drewN ?_ _) | ((with_reducible refine below_alloc' ?_ ?_); (focus (first | (simp; done) | omega | (simp; omega)))) | ((with_reducible refine below_set' ?_ ?_); (focus (first | (simp; done) | omega | (simp; omega)))) | (with_reducible refine below_step ?_ (by assumption)) | (with_reducible refine below_step_since ?_ (by assumption)) | ((with_reducible refine below_since' (by assumption) ?_ ?_); (focus (first | (simp; done) | omega | (simp; omega)))) | ((with_reducible refine below_trans' (by assumption) ?_ ?_); (focus (first | (simp; done) | omega | (simp; omega)))))))⟩

theorem law_any (f : Bool) (a b c d : Nat) (ha : W64 a) (hb' : W64 b) (hc' : W64 c) (hd : W64 d) (w : World) :
    Calls Try.prog 13 #[.agg #[.bool f, .float .f64 a, .float .f64 b, .float .f64 c, .float .f64 d]] w fun e w' => e = .returned (.bool true) ∧ Below w.heap.size w w' := by
  have HE := fun W => Lib.hid (implVal_any f a b c d ha hb' hc' hd W)
  have HF := fun W => Lib.hid (eFinite_any a b c d ha hb' hc' hd W)
  clear ha hb' hc' hd
  generalize (Fl.fin a && (Fl.fin b && (Fl.fin c && Fl.fin d))) = r at *
  have B0 : Blk (w.alloc (.cells #[.bool f, .float .f64 a, .float .f64 b, .float .f64 c, .float .f64 d] 71)) w.heap.size 71 #[.bool f, .float .f64 a, .float .f64 b, .float .f64 c, .float .f64 d] := Blk.new _ _ _
  cases f <;> cases r
  all_goals
    go_enter Try.func13, Try.ntmps13
    go_wp2
    (refine region_start (by kernel_rfl) ?_)
    generalize hW : World.drew _ = W; have HB : Below w.heap.size w W := (by (rw [← hW]; (repeat (first | (with_reducible exact Below.refl _ _) | (with_reducible assumption) | (with_reducible refine Below.drew ?_) | (with_reducible refine below_drewN ?_ _) | ((with_reducible refine below_alloc' ?_ ?_); (focus (first | (simp; done) | omega | (simp; omega)))) | ((with_reducible refine below_set' ?_ ?_); (focus (first | (simp; done) | omega | (simp; omega)))) | (with_reducible refine below_step ?_ (by assumption)) | (with_reducible refine below_step_since ?_ (by assumption)) | ((with_reducible refine below_since' (by assumption) ?_ ?_); (focus (first | (simp; done) | omega | (simp; omega)))) | ((with_reducible refine below_trans' (by assumption) ?_ ?_); (focus (first | (simp; done) | omega | (simp; omega)))))))); have B0 : Blk W w.heap.size 71 #[.bool _, .float .f64 a, .float .f64 b, .float .f64 c, .float .f64 d] := (by (rw [← hW]; (repeat (first | exact Blk.new' (by first | rfl | (simp; done) | (simp; omega)) | refine Blk.drew ?_ | refine Blk.alloc ?_ _)))); clear hW
    have l0 := B0.lt; have f0 := B0.frozen; have c0_0 := B0.cell_ 0 rfl; have c0_1 := B0.cell_ 1 rfl; have c0_2 := B0.cell_ 2 rfl; have c0_3 := B0.cell_ 3 rfl; have c0_4 := B0.cell_ 4 rfl
    (refine from_stretch (Since _) 0 12 (by kernel_rfl) (Since.refl _) ?_; simp only [List.take_succ_cons, List.take_zero, List.drop_zero]; (iterate 12 (refine wpStay_step (Since.ne _) ⟨?_, ?_, ?_, ?_⟩; rotate_left 2; (intro w1 hS K hK; have hc := Since.cell hS; have hf := Since.frz hS; have hz := Since.size hS; go_simp; (first | exact hK _ hS | (go_at_call 51; (with_reducible refine Calls.mono ((HE _).out) ?_); rintro e w2 ⟨rfl, hb⟩; (try go_simp); exact hK _ (hS.then hb)) | (go_at_call 52; (with_reducible refine Calls.mono ((HF _).out) ?_); rintro e w2 ⟨rfl, hb⟩; (try go_simp); exact hK _ (hS.then hb)))); rotate_left 1; rfl)); refine wpStay_nil ?_; intro w1 hS; have hc := Since.cell hS; have hf := Since.frz hS; have hz := Since.size hS)
    have HB := below_step HB hS
    (refine from_end (by kernel_rfl) ?_)
    go_wp2
    go_ret
    exact ⟨rfl, (by (repeat (first | (with_reducible exact Below.refl _ _) | (with_reducible assumption) | (with_reducible refine Below.drew ?_) | (with_reducible refine below_drewN ?_ _) | ((with_reducible refine below_alloc' ?_ ?_); (focus (first | (simp; done) | omega | (simp; omega)))) | ((with_reducible refine below_set' ?_ ?_); (focus (first | (simp; done) | omega | (simp; omega)))) | (with_reducible refine below_step ?_ (by assumption)) | (with_reducible refine below_step_since ?_ (by assumption)) | ((with_reducible refine below_since' (by assumption) ?_ ?_); (focus (first | (simp; done) | omega | (simp; omega)))) | ((with_reducible refine below_trans' (by assumption) ?_ ?_); (focus (first | (simp; done) | omega | (simp; omega)))))))⟩

open Go.ChangeShapes Go.WideShapes Go.ChangeAt
set_option maxRecDepth 100000 in
theorem lifted (os : Os) (started : os.Started) (H : Type) (enc : TypeId × Value → H) :
    ReturnsInHanded {} Try.checked os 13 .any (Rows.fnEnvValidateSpec.pre6 enc Try.prog Try.f13 Rows.fnEnvValidateRow.domain false) (Rows.fnEnvValidateSpec.post enc Try.prog Try.f13 false true false false) := by
  refine returnsInHanded_of_change (C := Try.checked) own started (by kernel_rfl) Try.func13
    (ChangeSpec.witness6 (enc := enc) (C := Try.checked) false ⟨#[], #[.agg #[.bool false, .float .f64 0, .float .f64 0, .float .f64 0, .float .f64 0]], []⟩ 8 (by kernel_rfl) (by kernel_rfl) (by kernel_rfl) (by kernel_rfl)) ?_
  intro W base args ds gs before hval0 hW hcnd _
  have hval : ∀ (j : Nat) t v, Try.f13.params[j]? = some t → args[j]? = some v → Value.okWide Try.prog W .any base t v := hval0
  have hW' := hW
  obtain ⟨p, q, hA0, hV, rfl, hfz, hnd⟩ := hW
  have hA : DataW.TrodAll enc Try.prog W 0 (fun _ => true) true Try.f13.params.toList args.toList ds p := hA0
  rw [Try.params13] at hA hval
  obtain ⟨v0, vs0, d0, ds0, p0, q0, hargs, rfl, rfl, h0, r0⟩ := trodAll_cons hA
  obtain ⟨rfl, rfl, rfl⟩ := trodAll_nil r0
  obtain rfl : args = #[v0] := by cases args; simp_all
  obtain ⟨rfl, rfl⟩ := trodVars_none hV
  have k0 := h0
  have lt0 : ∀ x ∈ p0, x.block < W.heap.size := by obtain ⟨m, hm⟩ := k0; exact DataW.trod_lt m _ _ _ hm
  obtain ⟨f0, a0, b0, c0, e0, rfl, ⟨ua0, ub0⟩, uc0, ue0⟩ := open_Env (hval 0 71 v0 rfl rfl) h0
  clear hA0 hval0
  refine (law_any f0 a0 b0 c0 e0 ua0 ub0 uc0 ue0 W).mono fun e W' ⟨he, bel⟩ => ?_
  subst he
  exact ⟨_, rfl, _, _, _, [], _, [], hW', trodAll_mk1 (shut_bool Try.underlying4 _), (trodAll_cons_mk (Below.trod laidOut (by kernel_rfl) (of_decide_eq_true (by kernel_rfl)) k0 bel lt0) trodAll_mk0), rfl, bel.frame _, fun h => by cases h⟩

theorem over : Rows.fnEnvValidateRow.holds Try.pinned (OpenSpec.ofChange Rows.fnEnvValidateSpec) :=
  OpenClaim.holds_of_wide 13 Try.f13 rfl rfl rfl rfl rfl rfl rfl ⟨rfl, rfl, rfl, rfl, rfl⟩ rfl rfl rfl rfl rfl (by kernel_rfl) Try.func13 (by kernel_rfl)
    (of_decide_eq_true (by kernel_rfl)) (by unfold Func.isWrapper; first | (rw [if_pos (by decide +kernel)]; kernel_rfl) | (rw [if_neg (by decide +kernel)]; exact ⟨rfl, rfl⟩))
    (fun os started H enc _ => lifted os started H enc)

theorem proved : Rows.FnEnvValidateSaid := over
#print axioms proved
end Go.Proofs.Ytciblaabghiefaa.fnEnvValidate
