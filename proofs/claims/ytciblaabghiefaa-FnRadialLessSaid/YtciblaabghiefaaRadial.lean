/- FnRadialLess returns true for any two places: directions with whole coordinates from -2^20 to 2^20, none of them 0, are ordered about a place from straight down counterclockwise, and equal ones by their length. No condition. -/
import Derived.Test.YtciblaabghiefaaRad1
namespace Go.Proofs.Ytciblaabghiefaa.fnRadialLess
open Go.RowKit
attribute [local go_sem] run_store_float
set_option linter.unusedVariables false

set_option maxHeartbeats 1000000 in
set_option maxRecDepth 100000 in
theorem law_any (a b c d : Int) (w : World) : Calls Try.prog 6 #[.agg #[.int .i64 a, .int .i64 b], .agg #[.int .i64 c, .int .i64 d]] w fun e w' => e = .returned (.bool true) ∧ Below w.heap.size w w' := by
  by_cases h1 : a = 0 ∧ b = 0
  · have e1 := eq_Pt a b 0 0
    rw [show ((a == 0) && (b == 0)) = true from by simp [h1]] at e1
    clear h1
    go_enter Try.func6, Try.ntmps6
    go_wp2
    go_ret
    exact ⟨rfl, (by (repeat (first | exact Below.refl _ _ | assumption | refine Below.drew ?_ | refine below_drewN ?_ _ | refine Below.alloc ?_ (by first | (simp; done) | omega | (simp; omega)) _ | refine Below.setCell ?_ (by first | (simp; done) | omega | (simp; omega)) _ | refine Since.below (by assumption) ?_ (by first | (simp; done) | omega | (simp; omega)) | refine Below.trans ?_ (Below.mono (by assumption) (by first | (simp; done) | omega | (simp; omega))))))⟩
  · by_cases h2 : c = 0 ∧ d = 0
    · have e1 := eq_Pt a b 0 0
      have e2 := eq_Pt c d 0 0
      rw [show ((a == 0) && (b == 0)) = false from by simp; omega] at e1
      rw [show ((c == 0) && (d == 0)) = true from by simp [h2]] at e2
      clear h1 h2
      go_enter Try.func6, Try.ntmps6
      go_wp2
      go_ret
      exact ⟨rfl, (by (repeat (first | exact Below.refl _ _ | assumption | refine Below.drew ?_ | refine below_drewN ?_ _ | refine Below.alloc ?_ (by first | (simp; done) | omega | (simp; omega)) _ | refine Below.setCell ?_ (by first | (simp; done) | omega | (simp; omega)) _ | refine Since.below (by assumption) ?_ (by first | (simp; done) | omega | (simp; omega)) | refine Below.trans ?_ (Below.mono (by assumption) (by first | (simp; done) | omega | (simp; omega))))))⟩
    · have e1 := eq_Pt a b 0 0
      have e2 := eq_Pt c d 0 0
      rw [show ((a == 0) && (b == 0)) = false from by simp; omega] at e1
      rw [show ((c == 0) && (d == 0)) = false from by simp; omega] at e2
      cases hv : inB 1048576 [(a, b), (c, d)] with
      | false =>
        have HD : ∀ (W : World) (g : Nat), g = W.heap.size → Calls Try.prog 23 #[.int .i64 1048576, .slice (some ⟨g, 0, none⟩) 2 2] (W.alloc (.cells #[.int .i64 a, .int .i64 b, .int .i64 c, .int .i64 d] 42)) fun e w' => e = .returned (.bool false) ∧ Below (W.alloc (.cells #[.int .i64 a, .int .i64 b, .int .i64 c, .int .i64 d] 42)).heap.size (W.alloc (.cells #[.int .i64 a, .int .i64 b, .int .i64 c, .int .i64 d] 42)) w' := fun W g hg =>
          dPlaces_any _ _ _ _ [(a, b), (c, d)] _ _ hv (reads_new' W g hg [.int .i64 a, .int .i64 b, .int .i64 c, .int .i64 d] _ 2 2 (by simp) (by omega)) (by omega) (by omega) (by omega)
        have HD := fun W g hg => Lib.hid (HD W g hg)
        clear hv h1 h2
        go_enter Try.func6, Try.ntmps6
        go_wp2_with (go_at_call 23; refine ((HD _ _ (by simp)).out).mono ?_; rintro e w2 ⟨rfl, hb⟩)
        go_ret
        exact ⟨rfl, (by (repeat (first | exact Below.refl _ _ | assumption | refine Below.drew ?_ | refine below_drewN ?_ _ | refine Below.alloc ?_ (by first | (simp; done) | omega | (simp; omega)) _ | refine Below.setCell ?_ (by first | (simp; done) | omega | (simp; omega)) _ | refine Since.below (by assumption) ?_ (by first | (simp; done) | omega | (simp; omega)) | refine Below.trans ?_ (Below.mono (by assumption) (by first | (simp; done) | omega | (simp; omega))))))⟩
      | true =>
        have hbd : (-1048576 ≤ a ∧ a ≤ 1048576) ∧ (-1048576 ≤ b ∧ b ≤ 1048576) ∧ (-1048576 ≤ c ∧ c ≤ 1048576) ∧ (-1048576 ≤ d ∧ d ≤ 1048576) := by
          simp [inB] at hv
          omega
        obtain ⟨⟨la, ua⟩, ⟨lb, ub⟩, ⟨lc, uc⟩, ⟨ld, ud⟩⟩ := hbd
        have HL := fun W => Lib.hid (implLess_any _ _ _ _ a b c d W (Fl.ofInt_I (n := a) (by omega)) (Fl.ofInt_I (n := b) (by omega)) (Fl.ofInt_I (n := c) (by omega)) (Fl.ofInt_I (n := d) (by omega)) la ua lb ub lc uc ld ud)
        have HS := fun W => Lib.hid (specLess_any a b c d W la ua lb ub lc uc ld ud)
        rw [less_eq a b c d h1 h2] at HL
        have HD : ∀ (W : World) (g : Nat), g = W.heap.size → Calls Try.prog 23 #[.int .i64 1048576, .slice (some ⟨g, 0, none⟩) 2 2] (W.alloc (.cells #[.int .i64 a, .int .i64 b, .int .i64 c, .int .i64 d] 42)) fun e w' => e = .returned (.bool true) ∧ Below (W.alloc (.cells #[.int .i64 a, .int .i64 b, .int .i64 c, .int .i64 d] 42)).heap.size (W.alloc (.cells #[.int .i64 a, .int .i64 b, .int .i64 c, .int .i64 d] 42)) w' := fun W g hg =>
          dPlaces_any _ _ _ _ [(a, b), (c, d)] _ _ hv (reads_new' W g hg [.int .i64 a, .int .i64 b, .int .i64 c, .int .i64 d] _ 2 2 (by simp) (by omega)) (by omega) (by omega) (by omega)
        have HD := fun W g hg => Lib.hid (HD W g hg)
        clear hv h1 h2 la ua lb ub lc uc ld ud
        have nn02 : w.heap.size < w.heap.size + 1 + 1 := (by omega); have nn03 : w.heap.size < w.heap.size + 1 + 1 + 1 := (by omega); have nn13 : w.heap.size + 1 < w.heap.size + 1 + 1 + 1 := (by omega); have nn04 : w.heap.size < w.heap.size + 1 + 1 + 1 + 1 := (by omega); have nn14 : w.heap.size + 1 < w.heap.size + 1 + 1 + 1 + 1 := (by omega); have nn24 : w.heap.size + 1 + 1 < w.heap.size + 1 + 1 + 1 + 1 := (by omega)
        go_enter Try.func6, Try.ntmps6
        go_wp2_with (go_at_call 23; refine ((HD _ _ (by simp)).out).mono ?_; rintro e w2 ⟨rfl, hb⟩)
        have HB : Below w.heap.size w w2 := (by (repeat (first | exact Below.refl _ _ | assumption | refine Below.drew ?_ | refine below_drewN ?_ _ | refine Below.alloc ?_ (by first | (simp; done) | omega | (simp; omega)) _ | refine Below.setCell ?_ (by first | (simp; done) | omega | (simp; omega)) _ | refine Since.below (by assumption) ?_ (by first | (simp; done) | omega | (simp; omega)) | refine Below.trans ?_ (Below.mono (by assumption) (by first | (simp; done) | omega | (simp; omega))))))
        have B0 : Blk w2 w.heap.size 42 #[.int .i64 a, .int .i64 b] := Blk.below (((Blk.new w _ _).alloc _).alloc _) hb (by simp; omega)
        have B1 : Blk w2 (w.heap.size + 1) 42 #[.int .i64 c, .int .i64 d] := Blk.below ((Blk.new' (by simp)).alloc _) hb (by simp)
        clear hb
        (refine region_start (by kernel_rfl) ?_)
        generalize hW : World.drew w2 = W
        have HB : Below w.heap.size w W := by rw [← hW]; exact HB.drew
        have B0 := B0.drew
        have B1 := B1.drew
        rw [hW] at B0 B1
        clear hW
        have l0 := B0.lt; have f0 := B0.frozen; have c0_0 := B0.cell_ 0 rfl; have c0_1 := B0.cell_ 1 rfl; have l1 := B1.lt; have f1 := B1.frozen; have c1_0 := B1.cell_ 0 rfl; have c1_1 := B1.cell_ 1 rfl
        (refine from_stretch (Since _) 0 10 (by kernel_rfl) (Since.refl _) ?_; simp only [List.take_succ_cons, List.take_zero, List.drop_zero]; (iterate 10 (refine wpStay_step (Since.ne _) ⟨?_, ?_, ?_, ?_⟩; rotate_left 2; (intro w1 hS K hK; have hc := Since.cell hS; have hf := Since.frz hS; have hz := Since.size hS; go_simp; (first | exact hK _ hS | (go_at_call 25; refine (xyOf_any _ _ _).mono ?_; rintro e w2 ⟨rfl, hb⟩; (try go_simp); exact hK _ (hS.then hb)) | (go_at_call 24; refine ((HL _).out).mono ?_; rintro e w2 ⟨rfl, hb⟩; (try go_simp); exact hK _ (hS.then hb)) | (go_at_call 26; refine ((HS _).out).mono ?_; rintro e w2 ⟨rfl, hb⟩; (try go_simp); exact hK _ (hS.then hb)))); rotate_left 1; rfl)); refine wpStay_nil ?_; intro w1 hS; have hc := Since.cell hS; have hf := Since.frz hS; have hz := Since.size hS)
        have HB := below_step HB hS
        (refine from_end (by kernel_rfl) ?_)
        go_wp2
        go_ret
        exact ⟨rfl, HB⟩

open Go.ChangeShapes Go.WideShapes Go.ChangeAt
set_option maxRecDepth 100000 in
theorem lifted (os : Os) (started : os.Started) (H : Type) (enc : TypeId × Value → H) :
    ReturnsInHanded {} Try.checked os 6 .any (Rows.fnRadialLessSpec.pre6 enc Try.prog Try.f6 Rows.fnRadialLessRow.domain false) (Rows.fnRadialLessSpec.post enc Try.prog Try.f6 false true false false) := by
  refine returnsInHanded_of_change (C := Try.checked) own started (by kernel_rfl) Try.func6
    (ChangeSpec.witness6 (enc := enc) (C := Try.checked) false ⟨#[], #[.agg #[.int .i64 0, .int .i64 0], .agg #[.int .i64 0, .int .i64 0]], []⟩ 8 (by kernel_rfl) (by kernel_rfl) (by kernel_rfl) (by kernel_rfl)) ?_
  intro W base args ds gs before hval0 hW hcnd _
  have hval : ∀ (j : Nat) t v, Try.f6.params[j]? = some t → args[j]? = some v → Value.okWide Try.prog W .any base t v := hval0
  have hW' := hW
  obtain ⟨p, q, hA0, hV, rfl, hfz, hnd⟩ := hW
  have hA : DataW.TrodAll enc Try.prog W 0 (fun _ => true) true Try.f6.params.toList args.toList ds p := hA0
  rw [Try.params6] at hA hval
  obtain ⟨v0, vs0, d0, ds0, p0, q0, hargs, rfl, rfl, h0, r0⟩ := trodAll_cons hA
  obtain ⟨v1, vs1, d1, ds1, p1, q1, rfl, rfl, rfl, h1, r1⟩ := trodAll_cons r0
  obtain ⟨rfl, rfl, rfl⟩ := trodAll_nil r1
  obtain rfl : args = #[v0, v1] := by cases args; simp_all
  obtain ⟨rfl, rfl⟩ := trodVars_none hV
  have k0 := h0
  have lt0 : ∀ x ∈ p0, x.block < W.heap.size := by obtain ⟨m, hm⟩ := k0; exact DataW.trod_lt m _ _ _ hm
  have k1 := h1
  have lt1 : ∀ x ∈ p1, x.block < W.heap.size := by obtain ⟨m, hm⟩ := k1; exact DataW.trod_lt m _ _ _ hm
  obtain ⟨a0, b0, rfl, u0, w0⟩ := open_Pt (hval 0 42 v0 rfl rfl) h0
  obtain ⟨a1, b1, rfl, u1, w1⟩ := open_Pt (hval 1 42 v1 rfl rfl) h1
  clear hA0 hval0
  refine (law_any a0 b0 a1 b1 W).mono fun e W' ⟨he, bel⟩ => ?_
  subst he
  exact ⟨_, rfl, _, _, _, [], _, [], hW', trodAll_mk1 (shut_bool Try.underlying4 _), (trodAll_cons_mk (Below.trod laidOut (by kernel_rfl) (of_decide_eq_true (by kernel_rfl)) k0 bel lt0) (trodAll_cons_mk (Below.trod laidOut (by kernel_rfl) (of_decide_eq_true (by kernel_rfl)) k1 bel lt1) trodAll_mk0)), rfl, bel.frame _, fun h => by cases h⟩

theorem over : Rows.fnRadialLessRow.holds Try.pinned (OpenSpec.ofChange Rows.fnRadialLessSpec) :=
  OpenClaim.holds_of_wide 6 Try.f6 rfl rfl rfl rfl rfl rfl rfl ⟨rfl, rfl, rfl, rfl, rfl⟩ rfl rfl rfl rfl rfl (by kernel_rfl) Try.func6 (by kernel_rfl)
    (of_decide_eq_true (by kernel_rfl)) (by unfold Func.isWrapper; first | (rw [if_pos (by decide +kernel)]; kernel_rfl) | (rw [if_neg (by decide +kernel)]; exact ⟨rfl, rfl⟩))
    (fun os started H enc _ => lifted os started H enc)

theorem proved : Rows.FnRadialLessSaid := over
#print axioms proved
end Go.Proofs.Ytciblaabghiefaa.fnRadialLess
