/- Places by value: what the small functions over them return. -/
import Derived.Test.YtciblaabghiefaaRegion
namespace Go.Proofs.Ytciblaabghiefaa
open Go.RowKit
attribute [local go_sem] run_store_float

theorem xy_any (a b : Nat) (w : World) : Calls Try.prog 64 #[.agg #[.float .f64 a, .float .f64 b]] w fun e w' => e = .returned (.agg #[.float .f64 a, .float .f64 b]) ∧ Below w.heap.size w w' := by
  go_enter Try.func64, Try.ntmps64
  go_wp2
  refine bodyPost_ret (v := .agg #[.float .f64 a, .float .f64 b]) (by simp [results, Try.results64, go_sem]) rfl ⟨rfl, ?_⟩
  (repeat (first | (with_reducible exact Below.refl _ _) | (with_reducible assumption) | (with_reducible refine Below.drew ?_) | (with_reducible refine below_drewN ?_ _) | ((with_reducible refine below_alloc' ?_ ?_); (focus (first | (simp; done) | omega | (simp; omega)))) | ((with_reducible refine below_set' ?_ ?_); (focus (first | (simp; done) | omega | (simp; omega)))) | (with_reducible refine below_step ?_ (by assumption)) | (with_reducible refine below_step_since ?_ (by assumption)) | ((with_reducible refine below_since' (by assumption) ?_ ?_); (focus (first | (simp; done) | omega | (simp; omega)))) | ((with_reducible refine below_trans' (by assumption) ?_ ?_); (focus (first | (simp; done) | omega | (simp; omega))))))

theorem plainXY_any (a b : Nat) (w : World) : Calls Try.prog 63 #[.agg #[.float .f64 a, .float .f64 b]] w fun e w' => e = .returned (.agg #[.float .f64 a, .float .f64 b]) ∧ Below w.heap.size w w' := by
  go_enter Try.func63, Try.ntmps63
  go_wp2
  refine bodyPost_ret (v := .agg #[.float .f64 a, .float .f64 b]) (by simp [results, Try.results63, go_sem]) rfl ⟨rfl, ?_⟩
  (repeat (first | (with_reducible exact Below.refl _ _) | (with_reducible assumption) | (with_reducible refine Below.drew ?_) | (with_reducible refine below_drewN ?_ _) | ((with_reducible refine below_alloc' ?_ ?_); (focus (first | (simp; done) | omega | (simp; omega)))) | ((with_reducible refine below_set' ?_ ?_); (focus (first | (simp; done) | omega | (simp; omega)))) | (with_reducible refine below_step ?_ (by assumption)) | (with_reducible refine below_step_since ?_ (by assumption)) | ((with_reducible refine below_since' (by assumption) ?_ ?_); (focus (first | (simp; done) | omega | (simp; omega)))) | ((with_reducible refine below_trans' (by assumption) ?_ ?_); (focus (first | (simp; done) | omega | (simp; omega))))))

theorem add_any (a b c d r s : Nat) (w : World) (h1 : floatBits .add .f64 a c = some r) (h2 : floatBits .add .f64 b d = some s) :
    Calls Try.prog 65 #[.agg #[.float .f64 a, .float .f64 b], .agg #[.float .f64 c, .float .f64 d]] w fun e w' => e = .returned (.agg #[.float .f64 r, .float .f64 s]) ∧ Below w.heap.size w w' := by
  have k1 := hop h1
  have k2 := hop h2
  clear h1 h2
  go_enter Try.func65, Try.ntmps65
  go_wp2
  refine bodyPost_ret (v := .agg #[.float .f64 r, .float .f64 s]) (by simp [results, Try.results65, go_sem]) rfl ⟨rfl, ?_⟩
  (repeat (first | (with_reducible exact Below.refl _ _) | (with_reducible assumption) | (with_reducible refine Below.drew ?_) | (with_reducible refine below_drewN ?_ _) | ((with_reducible refine below_alloc' ?_ ?_); (focus (first | (simp; done) | omega | (simp; omega)))) | ((with_reducible refine below_set' ?_ ?_); (focus (first | (simp; done) | omega | (simp; omega)))) | (with_reducible refine below_step ?_ (by assumption)) | (with_reducible refine below_step_since ?_ (by assumption)) | ((with_reducible refine below_since' (by assumption) ?_ ?_); (focus (first | (simp; done) | omega | (simp; omega)))) | ((with_reducible refine below_trans' (by assumption) ?_ ?_); (focus (first | (simp; done) | omega | (simp; omega))))))

theorem vAt_any (x y : Int) (w : World) : Calls Try.prog 22 #[.int .i64 x, .int .i64 y] w fun e w' => e = .returned (.agg #[.float .f64 (floatOfInt .f64 x), .float .f64 (floatOfInt .f64 y)]) ∧ Below w.heap.size w w' := by
  go_enter Try.func22, Try.ntmps22
  go_wp2
  refine bodyPost_ret (v := .agg #[.float .f64 (floatOfInt .f64 x), .float .f64 (floatOfInt .f64 y)]) (by simp [results, Try.results22, go_sem]) rfl ⟨rfl, ?_⟩
  (repeat (first | (with_reducible exact Below.refl _ _) | (with_reducible assumption) | (with_reducible refine Below.drew ?_) | (with_reducible refine below_drewN ?_ _) | ((with_reducible refine below_alloc' ?_ ?_); (focus (first | (simp; done) | omega | (simp; omega)))) | ((with_reducible refine below_set' ?_ ?_); (focus (first | (simp; done) | omega | (simp; omega)))) | (with_reducible refine below_step ?_ (by assumption)) | (with_reducible refine below_step_since ?_ (by assumption)) | ((with_reducible refine below_since' (by assumption) ?_ ?_); (focus (first | (simp; done) | omega | (simp; omega)))) | ((with_reducible refine below_trans' (by assumption) ?_ ?_); (focus (first | (simp; done) | omega | (simp; omega))))))

theorem XYAdd_any (a b c d r s : Nat) (w : World) (h1 : floatBits .add .f64 a c = some r) (h2 : floatBits .add .f64 b d = some s) :
    Calls Try.prog 21 #[.agg #[.float .f64 a, .float .f64 b], .agg #[.float .f64 c, .float .f64 d]] w fun e w' => e = .returned (.agg #[.float .f64 r, .float .f64 s]) ∧ Below w.heap.size w w' := by
  have H1 := Lib.hid h1
  have H2 := Lib.hid h2
  clear h1 h2
  go_enter Try.func21, Try.ntmps21
  go_wp2_with fail
  refine region_start (by kernel_rfl) ?_
  (refine from_stretch (Since _) 0 6 (by kernel_rfl) (Since.refl _) ?_; simp only [List.take_succ_cons, List.take_zero, List.drop_zero]; (iterate 6 (refine wpStay_step (Since.ne _) ⟨?_, ?_, ?_, ?_⟩; rotate_left 2; (intro w1 hS K hK; have hc := Since.cell hS; have hf := Since.frz hS; have hz := Since.size hS; go_simp; (first | exact hK _ hS | (go_at_call 64; refine (xy_any _ _ _).mono ?_; rintro e w2 ⟨rfl, hb⟩; (try go_simp); exact hK _ (hS.then hb)) | (go_at_call 65; refine (add_any _ _ _ _ _ _ _ H1.out H2.out).mono ?_; rintro e w2 ⟨rfl, hb⟩; (try go_simp); exact hK _ (hS.then hb)) | (go_at_call 63; refine (plainXY_any _ _ _).mono ?_; rintro e w2 ⟨rfl, hb⟩; (try go_simp); exact hK _ (hS.then hb)))); rotate_left 1; rfl)); refine wpStay_nil ?_; intro w1 hS; have hc := Since.cell hS; have hf := Since.frz hS; have hz := Since.size hS)
  (refine from_list (by kernel_rfl) ?_; simp only [List.drop_succ_cons, List.drop_zero])
  go_wp2
  refine bodyPost_ret (v := .agg #[.float .f64 r, .float .f64 s]) (by simp [results, Try.results21, go_sem, hc]) rfl ⟨rfl, ?_⟩
  (repeat (first | (with_reducible exact Below.refl _ _) | (with_reducible assumption) | (with_reducible refine Below.drew ?_) | (with_reducible refine below_drewN ?_ _) | ((with_reducible refine below_alloc' ?_ ?_); (focus (first | (simp; done) | omega | (simp; omega)))) | ((with_reducible refine below_set' ?_ ?_); (focus (first | (simp; done) | omega | (simp; omega)))) | (with_reducible refine below_step ?_ (by assumption)) | (with_reducible refine below_step_since ?_ (by assumption)) | ((with_reducible refine below_since' (by assumption) ?_ ?_); (focus (first | (simp; done) | omega | (simp; omega)))) | ((with_reducible refine below_trans' (by assumption) ?_ ?_); (focus (first | (simp; done) | omega | (simp; omega))))))
end Go.Proofs.Ytciblaabghiefaa
