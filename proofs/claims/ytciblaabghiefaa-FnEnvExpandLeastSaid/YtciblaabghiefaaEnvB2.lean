/- Envelopes that grow together and cover one another. -/
import Derived.Test.YtciblaabghiefaaEnvB1
namespace Go.Proofs.Ytciblaabghiefaa
open Go.RowKit
attribute [local go_sem] run_store_float
set_option maxRecDepth 100000

set_option maxHeartbeats 1000000 in
theorem join_any (a b c d a' b' c' d' : Nat) (w : World) : Calls Try.prog 77 #[.agg #[.float .f64 a, .float .f64 b, .float .f64 c, .float .f64 d, .bool true], .agg #[.float .f64 a', .float .f64 b', .float .f64 c', .float .f64 d', .bool true]] w fun e w' =>
    e = .returned (.agg #[.float .f64 (Fl.fmin a a'), .float .f64 (Fl.fmin b b'), .float .f64 (Fl.fmax c c'), .float .f64 (Fl.fmax d d'), .bool true]) ∧ Below w.heap.size w w' := by
  have nn02 : w.heap.size < w.heap.size + 1 + 1 := (by omega); have nn03 : w.heap.size < w.heap.size + 1 + 1 + 1 := (by omega); have nn13 : w.heap.size + 1 < w.heap.size + 1 + 1 + 1 := (by omega); have nn04 : w.heap.size < w.heap.size + 1 + 1 + 1 + 1 := (by omega); have nn14 : w.heap.size + 1 < w.heap.size + 1 + 1 + 1 + 1 := (by omega); have nn24 : w.heap.size + 1 + 1 < w.heap.size + 1 + 1 + 1 + 1 := (by omega)
  go_enter Try.func77, Try.ntmps77
  go_wp2_with (go_at_call 109; (with_reducible refine Calls.mono (isEmpty_any _ _ _ _ _ _) ?_); rintro e w2 ⟨rfl, hb⟩; first
    | (replace HB := below_step HB hb; replace B0 := B0.below hb B0.lt; replace B1 := B1.below hb B1.lt; replace B2 := B2.below hb B2.lt; clear hb)
    | (have HB : Below w.heap.size w w2 := (by (repeat (first | (with_reducible exact Below.refl _ _) | (with_reducible assumption) | (with_reducible refine Below.drew ?_) | (with_reducible refine below_drewN ?_ _) | ((with_reducible refine below_alloc' ?_ ?_); (focus (first | (simp; done) | omega | (simp; omega)))) | ((with_reducible refine below_set' ?_ ?_); (focus (first | (simp; done) | omega | (simp; omega)))) | (with_reducible refine below_step ?_ (by assumption)) | (with_reducible refine below_step_since ?_ (by assumption)) | ((with_reducible refine below_since' (by assumption) ?_ ?_); (focus (first | (simp; done) | omega | (simp; omega)))) | ((with_reducible refine below_trans' (by assumption) ?_ ?_); (focus (first | (simp; done) | omega | (simp; omega)))))))
       have B0 : Blk w2 w.heap.size 121 #[.float .f64 a, .float .f64 b, .float .f64 c, .float .f64 d, .bool true] := (((Blk.new w _ _).alloc _).alloc _).below hb (by first | (simp; done) | omega | (simp; omega))
       have B1 : Blk w2 (w.heap.size + 1) 121 #[.float .f64 a', .float .f64 b', .float .f64 c', .float .f64 d', .bool true] := ((Blk.new' (by first | (simp; done) | omega | (simp; omega))).alloc _).below hb (by first | (simp; done) | omega | (simp; omega))
       have B2 : Blk w2 (w.heap.size + 1 + 1) 121 #[.float .f64 0, .float .f64 0, .float .f64 0, .float .f64 0, .bool false] := (Blk.new' (by first | (simp; done) | omega | (simp; omega))).below hb (by first | (simp; done) | omega | (simp; omega))
       clear hb
       have l1 := B1.lt; have f1 := B1.frozen; have c1_0 := B1.cell_ 0 rfl; have c1_1 := B1.cell_ 1 rfl; have c1_2 := B1.cell_ 2 rfl; have c1_3 := B1.cell_ 3 rfl; have c1_4 := B1.cell_ 4 rfl))
  clear l1 f1 c1_0 c1_1 c1_2 c1_3 c1_4
  (refine region_start (by kernel_rfl) ?_)
  generalize hW : World.drew _ = W; replace HB : Below w.heap.size w W := (by rw [← hW]; exact HB.drew); replace B0 := B0.drew; rw [hW] at B0; replace B1 := B1.drew; rw [hW] at B1; replace B2 := B2.drew; rw [hW] at B2; clear hW
  have l0 := B0.lt; have f0 := B0.frozen; have c0_0 := B0.cell_ 0 rfl; have c0_1 := B0.cell_ 1 rfl; have c0_2 := B0.cell_ 2 rfl; have c0_3 := B0.cell_ 3 rfl; have c0_4 := B0.cell_ 4 rfl; have l1 := B1.lt; have f1 := B1.frozen; have c1_0 := B1.cell_ 0 rfl; have c1_1 := B1.cell_ 1 rfl; have c1_2 := B1.cell_ 2 rfl; have c1_3 := B1.cell_ 3 rfl; have c1_4 := B1.cell_ 4 rfl
  (refine from_stretch (Since _) 0 31 (by kernel_rfl) (Since.refl _) ?_; simp only [List.take_succ_cons, List.take_zero, List.drop_zero]; (iterate 31 (refine wpStay_step (Since.ne _) ⟨?_, ?_, ?_, ?_⟩; rotate_left 2; (intro w1 hS K hK; have hc := Since.cell hS; have hf := Since.frz hS; have hz := Since.size hS; go_simp; (first | exact hK _ hS | (go_at_call 111; (with_reducible refine Calls.mono (fastMin_any _ _ _) ?_); rintro e w2 ⟨rfl, hb⟩; (try go_simp); exact hK _ (hS.then hb)) | (go_at_call 112; (with_reducible refine Calls.mono (fastMax_any _ _ _) ?_); rintro e w2 ⟨rfl, hb⟩; (try go_simp); exact hK _ (hS.then hb)) | (go_at_call 110; (with_reducible refine Calls.mono (newUnchecked_any _ _ _ _ _) ?_); rintro e w2 ⟨rfl, hb⟩; (try go_simp); exact hK _ (hS.then hb)))); rotate_left 1; rfl)); refine wpStay_nil ?_; intro w1 hS; have hc := Since.cell hS; have hf := Since.frz hS; have hz := Since.size hS)
  have HB := below_step HB hS; have B2 := B2.below hS B2.lt
  clear hc hf hz
  clear l0 f0 c0_0 c0_1 c0_2 c0_3 c0_4 l1 f1 c1_0 c1_1 c1_2 c1_3 c1_4
  have l2 := B2.lt; have f2 := B2.frozen; have c2_0 := B2.cell_ 0 rfl; have c2_1 := B2.cell_ 1 rfl; have c2_2 := B2.cell_ 2 rfl; have c2_3 := B2.cell_ 3 rfl; have c2_4 := B2.cell_ 4 rfl
  (refine from_list (by kernel_rfl) ?_; simp only [List.drop_succ_cons, List.drop_zero])
  go_wp2
  have B2 := B2.set_ 0 (.float .f64 (Fl.fmin a a')); have B2 := B2.set_ 1 (.float .f64 (Fl.fmin b b')); have B2 := B2.set_ 2 (.float .f64 (Fl.fmax c c')); have B2 := B2.set_ 3 (.float .f64 (Fl.fmax d d')); have B2 := B2.set_ 4 (.bool true); simp only [List.setIfInBounds_toArray, List.set_cons_zero, List.set_cons_succ] at B2; refine bodyPost_ret (results_cell_row Try.results77 _ _ _ _ _ (0, 0) _ rfl B2 Try.underlying121 rfl (by kernel_rfl)) rfl ⟨rfl, ?_⟩
  (repeat (first | (with_reducible exact Below.refl _ _) | (with_reducible assumption) | (with_reducible refine Below.drew ?_) | (with_reducible refine below_drewN ?_ _) | ((with_reducible refine below_alloc' ?_ ?_); (focus (first | (simp; done) | omega | (simp; omega)))) | ((with_reducible refine below_set' ?_ ?_); (focus (first | (simp; done) | omega | (simp; omega)))) | (with_reducible refine below_step ?_ (by assumption)) | (with_reducible refine below_step_since ?_ (by assumption)) | ((with_reducible refine below_since' (by assumption) ?_ ?_); (focus (first | (simp; done) | omega | (simp; omega)))) | ((with_reducible refine below_trans' (by assumption) ?_ ?_); (focus (first | (simp; done) | omega | (simp; omega))))))

set_option maxHeartbeats 1000000 in
theorem minMax_any (a b c d : Nat) (w : World) : Calls Try.prog 107 #[.agg #[.float .f64 a, .float .f64 b, .float .f64 c, .float .f64 d, .bool true]] w fun e w' =>
    e = .returned (.tuple #[.agg #[.float .f64 a, .float .f64 b], .agg #[.float .f64 c, .float .f64 d], .bool true]) ∧ Below w.heap.size w w' := by
  have nn02 : w.heap.size < w.heap.size + 1 + 1 := (by omega); have nn03 : w.heap.size < w.heap.size + 1 + 1 + 1 := (by omega); have nn13 : w.heap.size + 1 < w.heap.size + 1 + 1 + 1 := (by omega); have nn04 : w.heap.size < w.heap.size + 1 + 1 + 1 + 1 := (by omega); have nn14 : w.heap.size + 1 < w.heap.size + 1 + 1 + 1 + 1 := (by omega); have nn24 : w.heap.size + 1 + 1 < w.heap.size + 1 + 1 + 1 + 1 := (by omega)
  go_enter Try.func107, Try.ntmps107
  go_wp2_with (go_at_call 109; (with_reducible refine Calls.mono (isEmpty_any _ _ _ _ _ _) ?_); rintro e w2 ⟨rfl, hb⟩; have HB : Below w.heap.size w w2 := (by (repeat (first | (with_reducible exact Below.refl _ _) | (with_reducible assumption) | (with_reducible refine Below.drew ?_) | (with_reducible refine below_drewN ?_ _) | ((with_reducible refine below_alloc' ?_ ?_); (focus (first | (simp; done) | omega | (simp; omega)))) | ((with_reducible refine below_set' ?_ ?_); (focus (first | (simp; done) | omega | (simp; omega)))) | (with_reducible refine below_step ?_ (by assumption)) | (with_reducible refine below_step_since ?_ (by assumption)) | ((with_reducible refine below_since' (by assumption) ?_ ?_); (focus (first | (simp; done) | omega | (simp; omega)))) | ((with_reducible refine below_trans' (by assumption) ?_ ?_); (focus (first | (simp; done) | omega | (simp; omega))))))); have B0 : Blk w2 w.heap.size 121 #[.float .f64 a, .float .f64 b, .float .f64 c, .float .f64 d, .bool true] := (((Blk.new w _ _).alloc _).alloc _).below hb (by first | (simp; done) | omega | (simp; omega)); have B1 : Blk w2 (w.heap.size + 1) 104 #[.float .f64 0, .float .f64 0] := ((Blk.new' (by first | (simp; done) | omega | (simp; omega))).alloc _).below hb (by first | (simp; done) | omega | (simp; omega)); have B2 : Blk w2 (w.heap.size + 1 + 1) 104 #[.float .f64 0, .float .f64 0] := (Blk.new' (by first | (simp; done) | omega | (simp; omega))).below hb (by first | (simp; done) | omega | (simp; omega)); clear hb; have l0 := B0.lt; have f0 := B0.frozen; have c0_0 := B0.cell_ 0 rfl; have c0_1 := B0.cell_ 1 rfl; have c0_2 := B0.cell_ 2 rfl; have c0_3 := B0.cell_ 3 rfl; have c0_4 := B0.cell_ 4 rfl; have l1 := B1.lt; have f1 := B1.frozen; have c1_0 := B1.cell_ 0 rfl; have c1_1 := B1.cell_ 1 rfl; have l2 := B2.lt; have f2 := B2.frozen; have c2_0 := B2.cell_ 0 rfl; have c2_1 := B2.cell_ 1 rfl)
  go_region
  go_wp2
  refine bodyPost_ret (v := .tuple #[.agg #[.float .f64 a, .float .f64 b], .agg #[.float .f64 c, .float .f64 d], .bool true]) (by simp [results, Try.results107, go_sem, c1_0, c1_1, c2_0, c2_1]) rfl ⟨rfl, ?_⟩
  (repeat (first | (with_reducible exact Below.refl _ _) | (with_reducible assumption) | (with_reducible refine Below.drew ?_) | (with_reducible refine below_drewN ?_ _) | ((with_reducible refine below_alloc' ?_ ?_); (focus (first | (simp; done) | omega | (simp; omega)))) | ((with_reducible refine below_set' ?_ ?_); (focus (first | (simp; done) | omega | (simp; omega)))) | (with_reducible refine below_step ?_ (by assumption)) | (with_reducible refine below_step_since ?_ (by assumption)) | ((with_reducible refine below_since' (by assumption) ?_ ?_); (focus (first | (simp; done) | omega | (simp; omega)))) | ((with_reducible refine below_trans' (by assumption) ?_ ?_); (focus (first | (simp; done) | omega | (simp; omega))))))

theorem plainEnv_any (a b c d : Nat) (w : World) : Calls Try.prog 75 #[.agg #[.float .f64 a, .float .f64 b, .float .f64 c, .float .f64 d, .bool true]] w fun e w' =>
    e = .returned (.agg #[.bool true, .float .f64 a, .float .f64 b, .float .f64 c, .float .f64 d]) ∧ Below w.heap.size w w' := by
  have nn02 : w.heap.size < w.heap.size + 1 + 1 := (by omega); have nn03 : w.heap.size < w.heap.size + 1 + 1 + 1 := (by omega); have nn13 : w.heap.size + 1 < w.heap.size + 1 + 1 + 1 := (by omega); have nn04 : w.heap.size < w.heap.size + 1 + 1 + 1 + 1 := (by omega); have nn14 : w.heap.size + 1 < w.heap.size + 1 + 1 + 1 + 1 := (by omega); have nn24 : w.heap.size + 1 + 1 < w.heap.size + 1 + 1 + 1 + 1 := (by omega)
  go_enter Try.func75, Try.ntmps75
  go_wp2_with (go_at_call 107; (with_reducible refine Calls.mono (minMax_any _ _ _ _ _) ?_); rintro e w2 ⟨rfl, hb⟩; have HB : Below w.heap.size w w2 := (by (repeat (first | (with_reducible exact Below.refl _ _) | (with_reducible assumption) | (with_reducible refine Below.drew ?_) | (with_reducible refine below_drewN ?_ _) | ((with_reducible refine below_alloc' ?_ ?_); (focus (first | (simp; done) | omega | (simp; omega)))) | ((with_reducible refine below_set' ?_ ?_); (focus (first | (simp; done) | omega | (simp; omega)))) | (with_reducible refine below_step ?_ (by assumption)) | (with_reducible refine below_step_since ?_ (by assumption)) | ((with_reducible refine below_since' (by assumption) ?_ ?_); (focus (first | (simp; done) | omega | (simp; omega)))) | ((with_reducible refine below_trans' (by assumption) ?_ ?_); (focus (first | (simp; done) | omega | (simp; omega))))))); have B1 : Blk w2 (w.heap.size + 1) 71 #[.bool false, .float .f64 0, .float .f64 0, .float .f64 0, .float .f64 0] := (Blk.new' (by first | (simp; done) | omega | (simp; omega))).below hb (by first | (simp; done) | omega | (simp; omega)); clear hb; have l1 := B1.lt; have f1 := B1.frozen; have c1_0 := B1.cell_ 0 rfl; have c1_1 := B1.cell_ 1 rfl; have c1_2 := B1.cell_ 2 rfl; have c1_3 := B1.cell_ 3 rfl; have c1_4 := B1.cell_ 4 rfl; have hz := HB.size; have l1b : w.heap.size < w2.heap.size := (by omega); have l1c : ¬ w.heap.size = w2.heap.size := (by omega); have l1d : ¬ w.heap.size + 1 = w2.heap.size := (by omega))
  have K1 := ((((((B1.set_ 0 (.bool true)).set_ 1 (.float .f64 a)).set_ 2 (.float .f64 b)).set_ 3 (.float .f64 c)).set_ 4 (.float .f64 d)).alloc (.cells #[.float .f64 a, .float .f64 b] 104)).alloc (.cells #[.float .f64 c, .float .f64 d] 104)
  simp only [List.setIfInBounds_toArray, List.set_cons_zero, List.set_cons_succ] at K1
  refine bodyPost_ret (results_cell_row Try.results75 _ _ _ _ _ (0, 0) _ rfl K1 Try.underlying71 rfl (by kernel_rfl)) rfl ⟨rfl, ?_⟩
  (repeat (first | (with_reducible exact Below.refl _ _) | (with_reducible assumption) | (with_reducible refine Below.drew ?_) | (with_reducible refine below_drewN ?_ _) | ((with_reducible refine below_alloc' ?_ ?_); (focus (first | (simp; done) | omega | (simp; omega)))) | ((with_reducible refine below_set' ?_ ?_); (focus (first | (simp; done) | omega | (simp; omega)))) | (with_reducible refine below_step ?_ (by assumption)) | (with_reducible refine below_step_since ?_ (by assumption)) | ((with_reducible refine below_since' (by assumption) ?_ ?_); (focus (first | (simp; done) | omega | (simp; omega)))) | ((with_reducible refine below_trans' (by assumption) ?_ ?_); (focus (first | (simp; done) | omega | (simp; omega))))))

set_option maxHeartbeats 1000000 in
theorem covers_any (a b c d a' b' c' d' : Nat) (f : Bool) (w : World) : Calls Try.prog 78 #[.agg #[.float .f64 a, .float .f64 b, .float .f64 c, .float .f64 d, .bool f], .agg #[.float .f64 a', .float .f64 b', .float .f64 c', .float .f64 d', .bool true]] w fun e w' =>
    e = .returned (.bool (f && (Fl.leB a a' && (Fl.leB b b' && (Fl.geB c c' && Fl.geB d d'))))) ∧ Below w.heap.size w w' := by
  have hr : Hid ((f && (Fl.leB a a' && (Fl.leB b b' && (Fl.geB c c' && Fl.geB d d')))) = (f && (Fl.leB a a' && (Fl.leB b b' && (Fl.geB c c' && Fl.geB d d'))))) := rfl
  generalize hrr : (f && (Fl.leB a a' && (Fl.leB b b' && (Fl.geB c c' && Fl.geB d d')))) = r
  have HR := Lib.hid hrr
  clear hr hrr
  have e1 : (FloatKind.f64.format.order a a' == some .lt || FloatKind.f64.format.order a a' == some .eq) = Fl.leB a a' := rfl
  have e2 : (FloatKind.f64.format.order b b' == some .lt || FloatKind.f64.format.order b b' == some .eq) = Fl.leB b b' := rfl
  have e3 : (FloatKind.f64.format.order c c' == some .gt || FloatKind.f64.format.order c c' == some .eq) = Fl.geB c c' := rfl
  have e4 : (FloatKind.f64.format.order d d' == some .gt || FloatKind.f64.format.order d d' == some .eq) = Fl.geB d d' := rfl
  generalize Fl.leB a a' = q1 at *
  generalize Fl.leB b b' = q2 at *
  generalize Fl.geB c c' = q3 at *
  generalize Fl.geB d d' = q4 at *
  cases f with
  | false =>
    clear e1 e2 e3 e4
    go_enter Try.func78, Try.ntmps78
    go_wp2_with (go_at_call 109; (with_reducible refine Calls.mono (isEmpty_any _ _ _ _ _ _) ?_); rintro e w2 ⟨rfl, hb⟩)
    go_ret
    exact ⟨by rw [← HR.out]; rfl, (by (repeat (first | (with_reducible exact Below.refl _ _) | (with_reducible assumption) | (with_reducible refine Below.drew ?_) | (with_reducible refine below_drewN ?_ _) | ((with_reducible refine below_alloc' ?_ ?_); (focus (first | (simp; done) | omega | (simp; omega)))) | ((with_reducible refine below_set' ?_ ?_); (focus (first | (simp; done) | omega | (simp; omega)))) | (with_reducible refine below_step ?_ (by assumption)) | (with_reducible refine below_step_since ?_ (by assumption)) | ((with_reducible refine below_since' (by assumption) ?_ ?_); (focus (first | (simp; done) | omega | (simp; omega)))) | ((with_reducible refine below_trans' (by assumption) ?_ ?_); (focus (first | (simp; done) | omega | (simp; omega)))))))⟩
  | true =>
    cases q1 <;> cases q2 <;> cases q3 <;> cases q4
    all_goals
      go_enter Try.func78, Try.ntmps78
      go_wp2_with (go_at_call 109; (with_reducible refine Calls.mono (isEmpty_any _ _ _ _ _ _) ?_); rintro e w2 ⟨rfl, hb⟩; first
        | (replace HB := below_step HB hb; replace B0 := B0.below hb B0.lt; replace B1 := B1.below hb B1.lt; clear hb; clear l0 f0 c0_0 c0_1 c0_2 c0_3 c0_4 l1 f1 c1_0 c1_1 c1_2 c1_3 c1_4; have l0 := B0.lt; have f0 := B0.frozen; have c0_0 := B0.cell_ 0 rfl; have c0_1 := B0.cell_ 1 rfl; have c0_2 := B0.cell_ 2 rfl; have c0_3 := B0.cell_ 3 rfl; have c0_4 := B0.cell_ 4 rfl; have l1 := B1.lt; have f1 := B1.frozen; have c1_0 := B1.cell_ 0 rfl; have c1_1 := B1.cell_ 1 rfl; have c1_2 := B1.cell_ 2 rfl; have c1_3 := B1.cell_ 3 rfl; have c1_4 := B1.cell_ 4 rfl)
        | (have HB : Below w.heap.size w w2 := (by (repeat (first | (with_reducible exact Below.refl _ _) | (with_reducible assumption) | (with_reducible refine Below.drew ?_) | (with_reducible refine below_drewN ?_ _) | ((with_reducible refine below_alloc' ?_ ?_); (focus (first | (simp; done) | omega | (simp; omega)))) | ((with_reducible refine below_set' ?_ ?_); (focus (first | (simp; done) | omega | (simp; omega)))) | (with_reducible refine below_step ?_ (by assumption)) | (with_reducible refine below_step_since ?_ (by assumption)) | ((with_reducible refine below_since' (by assumption) ?_ ?_); (focus (first | (simp; done) | omega | (simp; omega)))) | ((with_reducible refine below_trans' (by assumption) ?_ ?_); (focus (first | (simp; done) | omega | (simp; omega)))))))
           have B0 : Blk w2 w.heap.size 121 #[.float .f64 a, .float .f64 b, .float .f64 c, .float .f64 d, .bool true] := ((Blk.new w _ _).alloc _).below hb (by simp; omega)
           have B1 : Blk w2 (w.heap.size + 1) 121 #[.float .f64 a', .float .f64 b', .float .f64 c', .float .f64 d', .bool true] := (Blk.new' (by simp)).below hb (by simp)
           clear hb
           have l0 := B0.lt; have f0 := B0.frozen; have c0_0 := B0.cell_ 0 rfl; have c0_1 := B0.cell_ 1 rfl; have c0_2 := B0.cell_ 2 rfl; have c0_3 := B0.cell_ 3 rfl; have c0_4 := B0.cell_ 4 rfl; have l1 := B1.lt; have f1 := B1.frozen; have c1_0 := B1.cell_ 0 rfl; have c1_1 := B1.cell_ 1 rfl; have c1_2 := B1.cell_ 2 rfl; have c1_3 := B1.cell_ 3 rfl; have c1_4 := B1.cell_ 4 rfl))
      go_ret
      exact ⟨by rw [← HR.out]; rfl, HB⟩

theorem eqIn_float {P : Program} (w : World) (d : Nat) (t : TypeId) (k k' : FloatKind) (a b : Nat) (h : P.underlying t = some (.float k')) : (Op.equalIn (d + 1) t (.float k a) (.float k b)).run P w = .ok (k.format.order a b == some .eq) w := by
  simp [Op.equalIn, run_underlying h, Op.floatEq]
theorem eqIn_true (a b : Nat) (h : Fl.eqB a b = true) (w : World) : (Op.equalIn 9999 34 (.float .f64 a) (.float .f64 b)).run Try.prog w = .ok true w := by
  rw [eqIn_float w 9998 _ .f64 _ a b Try.underlying34]
  rw [show (FloatKind.f64.format.order a b == some .eq) = true from h]
theorem eEqual_full (a b c d a' b' c' d' : Nat) (w : World) (h1 : Fl.eqB a a' = true) (h2 : Fl.eqB b b' = true) (h3 : Fl.eqB c c' = true) (h4 : Fl.eqB d d' = true) :
    Calls Try.prog 44 #[.agg #[.bool true, .float .f64 a, .float .f64 b, .float .f64 c, .float .f64 d], .agg #[.bool true, .float .f64 a', .float .f64 b', .float .f64 c', .float .f64 d']] w fun e w' => e = .returned (.bool true) ∧ Below w.heap.size w w' := by
  have q1 := eqIn_true a a' h1
  have q2 := eqIn_true b b' h2
  have q3 := eqIn_true c c' h3
  have q4 := eqIn_true d d' h4
  clear h1 h2 h3 h4
  go_enter Try.func44, Try.ntmps44
  go_wp2
  go_ret
  exact ⟨rfl, (by (repeat (first | (with_reducible exact Below.refl _ _) | (with_reducible assumption) | (with_reducible refine Below.drew ?_) | (with_reducible refine below_drewN ?_ _) | ((with_reducible refine below_alloc' ?_ ?_); (focus (first | (simp; done) | omega | (simp; omega)))) | ((with_reducible refine below_set' ?_ ?_); (focus (first | (simp; done) | omega | (simp; omega)))) | (with_reducible refine below_step ?_ (by assumption)) | (with_reducible refine below_step_since ?_ (by assumption)) | ((with_reducible refine below_since' (by assumption) ?_ ?_); (focus (first | (simp; done) | omega | (simp; omega)))) | ((with_reducible refine below_trans' (by assumption) ?_ ?_); (focus (first | (simp; done) | omega | (simp; omega)))))))⟩

set_option maxHeartbeats 1000000 in
theorem implJoin_any (E O : Env5) (f f' : Bool) (a b c d a' b' c' d' : Nat) (hE : envMade f a b c d = E) (hO : envMade f' a' b' c' d' = O) (hEf : E.full = true) (hOf : O.full = true) (w : World) :
    Calls Try.prog 43 #[.agg #[.bool f, .float .f64 a, .float .f64 b, .float .f64 c, .float .f64 d], .agg #[.bool f', .float .f64 a', .float .f64 b', .float .f64 c', .float .f64 d']] w fun e w' =>
      e = .returned (.agg #[.bool true, .float .f64 (Fl.fmin E.x0 O.x0), .float .f64 (Fl.fmin E.y0 O.y0), .float .f64 (Fl.fmax E.x1 O.x1), .float .f64 (Fl.fmax E.y1 O.y1)]) ∧ Below w.heap.size w w' := by
  have H1 := fun W => Lib.hid (envelope_any f a b c d W)
  have H2 := fun W => Lib.hid (envelope_any f' a' b' c' d' W)
  rw [hE] at H1
  rw [hO] at H2
  obtain ⟨x0, y0, x1, y1, ff⟩ := E
  obtain ⟨u0, v0, u1, v1, gg⟩ := O
  simp only at hEf hOf ⊢
  subst hEf hOf
  unfold Env5.cells at H1 H2
  clear hE hO
  have nn02 : w.heap.size < w.heap.size + 1 + 1 := (by omega); have nn03 : w.heap.size < w.heap.size + 1 + 1 + 1 := (by omega); have nn13 : w.heap.size + 1 < w.heap.size + 1 + 1 + 1 := (by omega); have nn04 : w.heap.size < w.heap.size + 1 + 1 + 1 + 1 := (by omega); have nn14 : w.heap.size + 1 < w.heap.size + 1 + 1 + 1 + 1 := (by omega); have nn24 : w.heap.size + 1 + 1 < w.heap.size + 1 + 1 + 1 + 1 := (by omega)
  go_enter Try.func43, Try.ntmps43
  go_wp2
  (refine region_start (by kernel_rfl) ?_)
  generalize hW : World.drew _ = W; have HB : Below w.heap.size w W := (by (rw [← hW]; (repeat (first | (with_reducible exact Below.refl _ _) | (with_reducible assumption) | (with_reducible refine Below.drew ?_) | (with_reducible refine below_drewN ?_ _) | ((with_reducible refine below_alloc' ?_ ?_); (focus (first | (simp; done) | omega | (simp; omega)))) | ((with_reducible refine below_set' ?_ ?_); (focus (first | (simp; done) | omega | (simp; omega)))) | (with_reducible refine below_step ?_ (by assumption)) | (with_reducible refine below_step_since ?_ (by assumption)) | ((with_reducible refine below_since' (by assumption) ?_ ?_); (focus (first | (simp; done) | omega | (simp; omega)))) | ((with_reducible refine below_trans' (by assumption) ?_ ?_); (focus (first | (simp; done) | omega | (simp; omega)))))))); have B0 : Blk W w.heap.size 71 #[.bool f, .float .f64 a, .float .f64 b, .float .f64 c, .float .f64 d] := (by (rw [← hW]; (repeat (first | exact Blk.new' (by first | rfl | (simp; done) | (simp; omega)) | refine Blk.drew ?_ | refine Blk.alloc ?_ _)))); have B1 : Blk W (w.heap.size + 1) 71 #[.bool f', .float .f64 a', .float .f64 b', .float .f64 c', .float .f64 d'] := (by (rw [← hW]; (repeat (first | exact Blk.new' (by first | rfl | (simp; done) | (simp; omega)) | refine Blk.drew ?_ | refine Blk.alloc ?_ _)))); have B2 : Blk W (w.heap.size + 1 + 1) 71 #[.bool false, .float .f64 0, .float .f64 0, .float .f64 0, .float .f64 0] := (by (rw [← hW]; (repeat (first | exact Blk.new' (by first | rfl | (simp; done) | (simp; omega)) | refine Blk.drew ?_ | refine Blk.alloc ?_ _)))); clear hW
  have l0 := B0.lt; have f0 := B0.frozen; have c0_0 := B0.cell_ 0 rfl; have c0_1 := B0.cell_ 1 rfl; have c0_2 := B0.cell_ 2 rfl; have c0_3 := B0.cell_ 3 rfl; have c0_4 := B0.cell_ 4 rfl; have l1 := B1.lt; have f1 := B1.frozen; have c1_0 := B1.cell_ 0 rfl; have c1_1 := B1.cell_ 1 rfl; have c1_2 := B1.cell_ 2 rfl; have c1_3 := B1.cell_ 3 rfl; have c1_4 := B1.cell_ 4 rfl
  (refine from_stretch (Since _) 0 6 (by kernel_rfl) (Since.refl _) ?_; simp only [List.take_succ_cons, List.take_zero, List.drop_zero]; (iterate 6 (refine wpStay_step (Since.ne _) ⟨?_, ?_, ?_, ?_⟩; rotate_left 2; (intro w1 hS K hK; have hc := Since.cell hS; have hf := Since.frz hS; have hz := Since.size hS; go_simp; (first | exact hK _ hS | (go_at_call 76; (with_reducible refine Calls.mono ((H1 _).out) ?_); rintro e w2 ⟨rfl, hb⟩; (try go_simp); exact hK _ (hS.then hb)) | (go_at_call 76; (with_reducible refine Calls.mono ((H2 _).out) ?_); rintro e w2 ⟨rfl, hb⟩; (try go_simp); exact hK _ (hS.then hb)) | (go_at_call 77; (with_reducible refine Calls.mono (join_any _ _ _ _ _ _ _ _ _) ?_); rintro e w2 ⟨rfl, hb⟩; (try go_simp); exact hK _ (hS.then hb)) | (go_at_call 75; (with_reducible refine Calls.mono (plainEnv_any _ _ _ _ _) ?_); rintro e w2 ⟨rfl, hb⟩; (try go_simp); exact hK _ (hS.then hb)))); rotate_left 1; rfl)); refine wpStay_nil ?_; intro w1 hS; have hc := Since.cell hS; have hf := Since.frz hS; have hz := Since.size hS)
  have HB := below_step HB hS; have B2 := B2.below hS B2.lt
  clear hc hf hz
  clear l0 f0 c0_0 c0_1 c0_2 c0_3 c0_4 l1 f1 c1_0 c1_1 c1_2 c1_3 c1_4
  have l2 := B2.lt; have f2 := B2.frozen; have c2_0 := B2.cell_ 0 rfl; have c2_1 := B2.cell_ 1 rfl; have c2_2 := B2.cell_ 2 rfl; have c2_3 := B2.cell_ 3 rfl; have c2_4 := B2.cell_ 4 rfl
  (refine from_list (by kernel_rfl) ?_; simp only [List.drop_succ_cons, List.drop_zero])
  go_wp2
  have B2 := B2.set_ 0 (.bool true); have B2 := B2.set_ 1 (.float .f64 (Fl.fmin x0 u0)); have B2 := B2.set_ 2 (.float .f64 (Fl.fmin y0 v0)); have B2 := B2.set_ 3 (.float .f64 (Fl.fmax x1 u1)); have B2 := B2.set_ 4 (.float .f64 (Fl.fmax y1 v1)); simp only [List.setIfInBounds_toArray, List.set_cons_zero, List.set_cons_succ] at B2; refine bodyPost_ret (results_cell_row Try.results43 _ _ _ _ _ (0, 0) _ rfl B2 Try.underlying71 rfl (by kernel_rfl)) rfl ⟨rfl, ?_⟩
  (repeat (first | (with_reducible exact Below.refl _ _) | (with_reducible assumption) | (with_reducible refine Below.drew ?_) | (with_reducible refine below_drewN ?_ _) | ((with_reducible refine below_alloc' ?_ ?_); (focus (first | (simp; done) | omega | (simp; omega)))) | ((with_reducible refine below_set' ?_ ?_); (focus (first | (simp; done) | omega | (simp; omega)))) | (with_reducible refine below_step ?_ (by assumption)) | (with_reducible refine below_step_since ?_ (by assumption)) | ((with_reducible refine below_since' (by assumption) ?_ ?_); (focus (first | (simp; done) | omega | (simp; omega)))) | ((with_reducible refine below_trans' (by assumption) ?_ ?_); (focus (first | (simp; done) | omega | (simp; omega))))))

set_option maxHeartbeats 1000000 in
theorem implCovers_any (E O : Env5) (f f' : Bool) (a b c d a' b' c' d' : Nat) (hE : envMade f a b c d = E) (hO : envMade f' a' b' c' d' = O) (hOf : O.full = true) (w : World) :
    Calls Try.prog 46 #[.agg #[.bool f, .float .f64 a, .float .f64 b, .float .f64 c, .float .f64 d], .agg #[.bool f', .float .f64 a', .float .f64 b', .float .f64 c', .float .f64 d']] w fun e w' =>
      e = .returned (.bool (E.full && (Fl.leB E.x0 O.x0 && (Fl.leB E.y0 O.y0 && (Fl.geB E.x1 O.x1 && Fl.geB E.y1 O.y1))))) ∧ Below w.heap.size w w' := by
  have H1 := fun W => Lib.hid (envelope_any f a b c d W)
  have H2 := fun W => Lib.hid (envelope_any f' a' b' c' d' W)
  rw [hE] at H1
  rw [hO] at H2
  obtain ⟨x0, y0, x1, y1, ff⟩ := E
  obtain ⟨u0, v0, u1, v1, gg⟩ := O
  simp only at hOf ⊢
  subst hOf
  unfold Env5.cells at H1 H2
  clear hE hO
  have HC := fun W => Lib.hid (covers_any x0 y0 x1 y1 u0 v0 u1 v1 ff W)
  generalize (ff && (Fl.leB x0 u0 && (Fl.leB y0 v0 && (Fl.geB x1 u1 && Fl.geB y1 v1)))) = r at *
  have nn02 : w.heap.size < w.heap.size + 1 + 1 := (by omega); have nn03 : w.heap.size < w.heap.size + 1 + 1 + 1 := (by omega); have nn13 : w.heap.size + 1 < w.heap.size + 1 + 1 + 1 := (by omega); have nn04 : w.heap.size < w.heap.size + 1 + 1 + 1 + 1 := (by omega); have nn14 : w.heap.size + 1 < w.heap.size + 1 + 1 + 1 + 1 := (by omega); have nn24 : w.heap.size + 1 + 1 < w.heap.size + 1 + 1 + 1 + 1 := (by omega)
  go_enter Try.func46, Try.ntmps46
  go_wp2
  (refine region_start (by kernel_rfl) ?_)
  generalize hW : World.drew _ = W; have HB : Below w.heap.size w W := (by (rw [← hW]; (repeat (first | (with_reducible exact Below.refl _ _) | (with_reducible assumption) | (with_reducible refine Below.drew ?_) | (with_reducible refine below_drewN ?_ _) | ((with_reducible refine below_alloc' ?_ ?_); (focus (first | (simp; done) | omega | (simp; omega)))) | ((with_reducible refine below_set' ?_ ?_); (focus (first | (simp; done) | omega | (simp; omega)))) | (with_reducible refine below_step ?_ (by assumption)) | (with_reducible refine below_step_since ?_ (by assumption)) | ((with_reducible refine below_since' (by assumption) ?_ ?_); (focus (first | (simp; done) | omega | (simp; omega)))) | ((with_reducible refine below_trans' (by assumption) ?_ ?_); (focus (first | (simp; done) | omega | (simp; omega)))))))); have B0 : Blk W w.heap.size 71 #[.bool f, .float .f64 a, .float .f64 b, .float .f64 c, .float .f64 d] := (by (rw [← hW]; (repeat (first | exact Blk.new' (by first | rfl | (simp; done) | (simp; omega)) | refine Blk.drew ?_ | refine Blk.alloc ?_ _)))); have B1 : Blk W (w.heap.size + 1) 71 #[.bool f', .float .f64 a', .float .f64 b', .float .f64 c', .float .f64 d'] := (by (rw [← hW]; (repeat (first | exact Blk.new' (by first | rfl | (simp; done) | (simp; omega)) | refine Blk.drew ?_ | refine Blk.alloc ?_ _)))); clear hW
  have l0 := B0.lt; have f0 := B0.frozen; have c0_0 := B0.cell_ 0 rfl; have c0_1 := B0.cell_ 1 rfl; have c0_2 := B0.cell_ 2 rfl; have c0_3 := B0.cell_ 3 rfl; have c0_4 := B0.cell_ 4 rfl; have l1 := B1.lt; have f1 := B1.frozen; have c1_0 := B1.cell_ 0 rfl; have c1_1 := B1.cell_ 1 rfl; have c1_2 := B1.cell_ 2 rfl; have c1_3 := B1.cell_ 3 rfl; have c1_4 := B1.cell_ 4 rfl
  (refine from_stretch (Since _) 0 6 (by kernel_rfl) (Since.refl _) ?_; simp only [List.take_succ_cons, List.take_zero, List.drop_zero]; (iterate 6 (refine wpStay_step (Since.ne _) ⟨?_, ?_, ?_, ?_⟩; rotate_left 2; (intro w1 hS K hK; have hc := Since.cell hS; have hf := Since.frz hS; have hz := Since.size hS; go_simp; (first | exact hK _ hS | (go_at_call 76; (with_reducible refine Calls.mono ((H1 _).out) ?_); rintro e w2 ⟨rfl, hb⟩; (try go_simp); exact hK _ (hS.then hb)) | (go_at_call 76; (with_reducible refine Calls.mono ((H2 _).out) ?_); rintro e w2 ⟨rfl, hb⟩; (try go_simp); exact hK _ (hS.then hb)) | (go_at_call 78; (with_reducible refine Calls.mono ((HC _).out) ?_); rintro e w2 ⟨rfl, hb⟩; (try go_simp); exact hK _ (hS.then hb)))); rotate_left 1; rfl)); refine wpStay_nil ?_; intro w1 hS; have hc := Since.cell hS; have hf := Since.frz hS; have hz := Since.size hS)
  have HB := below_step HB hS
  (refine from_end (by kernel_rfl) ?_)
  go_wp2
  go_ret
  exact ⟨rfl, HB⟩

theorem eFin_any (a b c d : Nat) (ha : W64 a) (hb' : W64 b) (hc' : W64 c) (hd : W64 d) (w : World) :
    Calls Try.prog 52 #[.agg #[.float .f64 a, .float .f64 b, .float .f64 c, .float .f64 d]] w fun e w' => e = .returned (.bool (Fl.fin a && (Fl.fin b && (Fl.fin c && Fl.fin d)))) ∧ Below w.heap.size w w' := by
  have H0 := fun W => Lib.hid (gFinite_any a ha W)
  have H1 := fun W => Lib.hid (gFinite_any b hb' W)
  have H2 := fun W => Lib.hid (gFinite_any c hc' W)
  have H3 := fun W => Lib.hid (gFinite_any d hd W)
  clear ha hb' hc' hd
  generalize Fl.fin a = fa at *
  generalize Fl.fin b = fb at *
  generalize Fl.fin c = fc at *
  generalize Fl.fin d = fd at *
  cases fa <;> cases fb <;> cases fc <;> cases fd
  all_goals
    go_enter Try.func52, Try.ntmps52
    go_wp2_with (first | (go_at_call 54; (with_reducible refine Calls.mono ((H0 _).out) ?_); rintro e w2 ⟨rfl, hb⟩; have hc := (bcell hb).1; have hf := (bcell hb).2.1; have hq0 : w.heap.size < w2.heap.size := (by have hsz := hb.size; (try simp at hsz); omega)) | (go_at_call 54; (with_reducible refine Calls.mono ((H1 _).out) ?_); rintro e w2 ⟨rfl, hb⟩; have hc := (bcell hb).1; have hf := (bcell hb).2.1; have hq0 : w.heap.size < w2.heap.size := (by have hsz := hb.size; (try simp at hsz); omega)) | (go_at_call 54; (with_reducible refine Calls.mono ((H2 _).out) ?_); rintro e w2 ⟨rfl, hb⟩; have hc := (bcell hb).1; have hf := (bcell hb).2.1; have hq0 : w.heap.size < w2.heap.size := (by have hsz := hb.size; (try simp at hsz); omega)) | (go_at_call 54; (with_reducible refine Calls.mono ((H3 _).out) ?_); rintro e w2 ⟨rfl, hb⟩; have hc := (bcell hb).1; have hf := (bcell hb).2.1; have hq0 : w.heap.size < w2.heap.size := (by have hsz := hb.size; (try simp at hsz); omega)))
    go_ret
    exact ⟨rfl, (by (repeat (first | (with_reducible exact Below.refl _ _) | (with_reducible assumption) | (with_reducible refine Below.drew ?_) | (with_reducible refine below_drewN ?_ _) | ((with_reducible refine below_alloc' ?_ ?_); (focus (first | (simp; done) | omega | (simp; omega)))) | ((with_reducible refine below_set' ?_ ?_); (focus (first | (simp; done) | omega | (simp; omega)))) | (with_reducible refine below_step ?_ (by assumption)) | (with_reducible refine below_step_since ?_ (by assumption)) | ((with_reducible refine below_since' (by assumption) ?_ ?_); (focus (first | (simp; done) | omega | (simp; omega)))) | ((with_reducible refine below_trans' (by assumption) ?_ ?_); (focus (first | (simp; done) | omega | (simp; omega)))))))⟩

def EB.fits (e : EB) : Bool := !e.f || (Fl.fin e.a && (Fl.fin e.b && (Fl.fin e.c && Fl.fin e.d)))
def EB.list (e : EB) : List Value := [.bool e.f, .float .f64 e.a, .float .f64 e.b, .float .f64 e.c, .float .f64 e.d]
theorem all_step {es : List EB} {k : Nat} (hk : k < es.length) : (es.take (k + 1)).all EB.fits = ((es.take k).all EB.fits && es[k].fits) := by
  rw [List.take_succ_eq_append_getElem hk, List.all_append]; simp
theorem all_false {es : List EB} {k : Nat} (h : (es.take k).all EB.fits = false) : es.all EB.fits = false := by
  rw [List.all_eq_false] at *
  obtain ⟨p, hp, h⟩ := h
  exact ⟨p, List.mem_of_mem_take hp, h⟩

set_option maxHeartbeats 1000000 in
theorem eFits_any (A : Option Addr) (n c : Nat) (es : List EB) (w : World) (h : Reads w w.heap.size 5 A n (es.flatMap EB.list)) (hn : n ≤ 140737488355328) (hw : ∀ e ∈ es, W64 e.a ∧ W64 e.b ∧ W64 e.c ∧ W64 e.d) :
    Calls Try.prog 39 #[.slice A n c] w fun e w' => e = .returned (.bool (es.all EB.fits)) ∧ Below w.heap.size w w' := by
  have hl : es.length = n := by have := h.1; rw [flat_length EB.list 5 (fun _ => rfl)] at this; omega
  go_enter Try.func39, Try.ntmps39
  go_wp2
  go_loopw [7] (fun i wr => ∃ k : Nat, k ≤ n ∧ i = .int .i64 k ∧ Hid ((es.take k).all EB.fits = true) ∧ Below w.heap.size w wr) (fun i _ => n - (intOf i).toNat)
  case atStart => exact ⟨0, by omega, rfl, rfl, (by (repeat (first | (with_reducible exact Below.refl _ _) | (with_reducible assumption) | (with_reducible refine Below.drew ?_) | (with_reducible refine below_drewN ?_ _) | ((with_reducible refine below_alloc' ?_ ?_); (focus (first | (simp; done) | omega | (simp; omega)))) | ((with_reducible refine below_set' ?_ ?_); (focus (first | (simp; done) | omega | (simp; omega)))) | (with_reducible refine below_step ?_ (by assumption)) | (with_reducible refine below_step_since ?_ (by assumption)) | ((with_reducible refine below_since' (by assumption) ?_ ?_); (focus (first | (simp; done) | omega | (simp; omega)))) | ((with_reducible refine below_trans' (by assumption) ?_ ?_); (focus (first | (simp; done) | omega | (simp; omega)))))))⟩
  case round =>
    obtain ⟨k, hk, rfl, hv, HB⟩ := hrel
    by_cases hlt : k < n
    · have hkl : k < es.length := by omega
      obtain ⟨b, off, rfl, had, hcell⟩ := h.cellAt (by omega) (by omega)
      have g0 := flat_get EB.list 5 (fun _ => rfl) es k 0 hkl (by omega)
      have g1 := flat_get EB.list 5 (fun _ => rfl) es k 1 hkl (by omega)
      have g2 := flat_get EB.list 5 (fun _ => rfl) es k 2 hkl (by omega)
      have g3 := flat_get EB.list 5 (fun _ => rfl) es k 3 hkl (by omega)
      have g4 := flat_get EB.list 5 (fun _ => rfl) es k 4 hkl (by omega)
      have HV : Hid _ := all_step hkl
      have hwk := hw es[k] (List.getElem_mem hkl)
      generalize es[k] = p at *
      obtain ⟨pf, x, y, u, v⟩ := p
      have e0 : wr.cell? ⟨b, off + k * 5, none⟩ = some (.bool pf) := ((bcell HB).1 _ _ had).trans (hcell _ _ g0)
      have e1 : wr.cell? ⟨b, off + k * 5 + 1, none⟩ = some (.float .f64 x) := ((bcell HB).1 _ _ had).trans (hcell _ _ g1)
      have e2 : wr.cell? ⟨b, off + k * 5 + 2, none⟩ = some (.float .f64 y) := ((bcell HB).1 _ _ had).trans (hcell _ _ g2)
      have e3 : wr.cell? ⟨b, off + k * 5 + 3, none⟩ = some (.float .f64 u) := ((bcell HB).1 _ _ had).trans (hcell _ _ g3)
      have e4 : wr.cell? ⟨b, off + k * 5 + 4, none⟩ = some (.float .f64 v) := ((bcell HB).1 _ _ had).trans (hcell _ _ g4)
      clear g0 g1 g2 g3 g4 hcell
      have HF := fun W => Lib.hid (eFin_any x y u v hwk.1 hwk.2.1 hwk.2.2.1 hwk.2.2.2 W)
      clear hw hwk
      have HE : Hid (EB.fits ⟨pf, x, y, u, v⟩ = (!pf || (Fl.fin x && (Fl.fin y && (Fl.fin u && Fl.fin v))))) := rfl
      generalize EB.fits ⟨pf, x, y, u, v⟩ = fit at *
      generalize (Fl.fin x && (Fl.fin y && (Fl.fin u && Fl.fin v))) = q at *
      have had2 : b < wr.heap.size := Nat.lt_of_lt_of_le had HB.size
      have hzw := HB.size
      cases pf with
      | false =>
        go_wp2
        refine ⟨⟨k + 1, by omega, by go_num, by show _ = _; rw [HV.out, hv.out, HE.out]; rfl, (by (repeat (first | (with_reducible exact Below.refl _ _) | (with_reducible assumption) | (with_reducible refine Below.drew ?_) | (with_reducible refine below_drewN ?_ _) | ((with_reducible refine below_alloc' ?_ ?_); (focus (first | (simp; done) | omega | (simp; omega)))) | ((with_reducible refine below_set' ?_ ?_); (focus (first | (simp; done) | omega | (simp; omega)))) | (with_reducible refine below_step ?_ (by assumption)) | (with_reducible refine below_step_since ?_ (by assumption)) | ((with_reducible refine below_since' (by assumption) ?_ ?_); (focus (first | (simp; done) | omega | (simp; omega)))) | ((with_reducible refine below_trans' (by assumption) ?_ ?_); (focus (first | (simp; done) | omega | (simp; omega)))))))⟩, by simp [intOf]; omega⟩
      | true =>
        cases q with
        | false =>
          go_wp2_with (go_at_call 52; (with_reducible refine Calls.mono ((HF _).out) ?_); rintro e w2 ⟨rfl, hb⟩; replace HB : Below w.heap.size w w2 := (by (repeat (first | (with_reducible exact Below.refl _ _) | (with_reducible assumption) | (with_reducible refine Below.drew ?_) | (with_reducible refine below_drewN ?_ _) | ((with_reducible refine below_alloc' ?_ ?_); (focus (first | (simp; done) | omega | (simp; omega)))) | ((with_reducible refine below_set' ?_ ?_); (focus (first | (simp; done) | omega | (simp; omega)))) | (with_reducible refine below_step ?_ (by assumption)) | (with_reducible refine below_step_since ?_ (by assumption)) | ((with_reducible refine below_since' (by assumption) ?_ ?_); (focus (first | (simp; done) | omega | (simp; omega)))) | ((with_reducible refine below_trans' (by assumption) ?_ ?_); (focus (first | (simp; done) | omega | (simp; omega))))))); clear hb)
          go_ret
          have hf : es.all EB.fits = false := all_false (k := k + 1) (by rw [HV.out, HE.out]; simp)
          exact ⟨by rw [hf]; rfl, HB⟩
        | true =>
          go_wp2_with (go_at_call 52; (with_reducible refine Calls.mono ((HF _).out) ?_); rintro e w2 ⟨rfl, hb⟩; replace HB : Below w.heap.size w w2 := (by (repeat (first | (with_reducible exact Below.refl _ _) | (with_reducible assumption) | (with_reducible refine Below.drew ?_) | (with_reducible refine below_drewN ?_ _) | ((with_reducible refine below_alloc' ?_ ?_); (focus (first | (simp; done) | omega | (simp; omega)))) | ((with_reducible refine below_set' ?_ ?_); (focus (first | (simp; done) | omega | (simp; omega)))) | (with_reducible refine below_step ?_ (by assumption)) | (with_reducible refine below_step_since ?_ (by assumption)) | ((with_reducible refine below_since' (by assumption) ?_ ?_); (focus (first | (simp; done) | omega | (simp; omega)))) | ((with_reducible refine below_trans' (by assumption) ?_ ?_); (focus (first | (simp; done) | omega | (simp; omega))))))); clear hb)
          refine ⟨⟨k + 1, by omega, by go_num, by show _ = _; rw [HV.out, hv.out, HE.out]; rfl, HB⟩, by simp [intOf]; omega⟩
    · obtain rfl : k = n := by omega
      have hp : es.all EB.fits = true := by have := hv.out; rwa [List.take_of_length_le (by omega)] at this
      have HP := Lib.hid hp
      clear hp hv
      go_wp2
      go_ret
      exact ⟨by rw [HP.out]; rfl, HB⟩
end Go.Proofs.Ytciblaabghiefaa
