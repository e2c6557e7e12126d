/- FnXYAdd returns true for any two places: the sum of two places of whole numbers from -2^20 to 2^20 has the sums of their X and of their Y. No condition. -/
import Derived.Test.YtciblaabghiefaaWhole
import Derived.Test.YtciblaabghiefaaXy1
import Derived.Test.YtciblaabghiefaaOpen
namespace Go.Proofs.Ytciblaabghiefaa.fnXYAdd
open Go.RowKit
attribute [local go_sem] run_store_float

/-- A place's two cells. -/
def flat2 (ps : List (Nat × Nat)) : List Value := ps.flatMap fun p => [.float .f64 p.1, .float .f64 p.2]
theorem flat2_get (ps : List (Nat × Nat)) (k : Nat) (hk : k < ps.length) : (flat2 ps)[k * 2]? = some (.float .f64 ps[k].1) ∧ (flat2 ps)[k * 2 + 1]? = some (.float .f64 ps[k].2) := by
  induction ps generalizing k with
  | nil => simp at hk
  | cons p ps ih =>
    cases k with
    | zero => simp [flat2]
    | succ k =>
      have := ih k (by simpa using hk)
      simp only [flat2, List.flatMap_cons, List.getElem_cons_succ] at *
      rw [show (k + 1) * 2 = k * 2 + 1 + 1 from by omega]
      simpa using this
theorem flat2_length (ps : List (Nat × Nat)) : (flat2 ps).length = ps.length * 2 := by
  induction ps with
  | nil => rfl
  | cons p ps ih => simp only [flat2, List.flatMap_cons, List.length_append, List.length_cons, List.length_nil] at *; omega

def vW (ps : List (Nat × Nat)) : Bool := ps.all fun p => gW p.1 && gW p.2

theorem vW_false {ps : List (Nat × Nat)} {m : Nat} (h : vW (ps.take m) = false) : vW ps = false := by
  unfold vW at *
  rw [List.all_eq_false] at *
  obtain ⟨p, hp, h⟩ := h
  exact ⟨p, List.mem_of_mem_take hp, h⟩

theorem vWhole_any (A : Option Addr) (n c : Nat) (ps : List (Nat × Nat)) (w : World) (h : Reads w w.heap.size 2 A n (flat2 ps)) (hn : n ≤ 1000000) :
    Calls Try.prog 20 #[.slice A n c] w fun e w' => e = .returned (.bool (vW ps)) ∧ Below w.heap.size w w' := by
  have hl : ps.length = n := by have := h.1; rw [flat2_length] at this; omega
  go_enter Try.func20, Try.ntmps20
  go_wp2
  go_loopw [7] (fun i wr => ∃ k : Nat, k ≤ n ∧ i = .int .i64 k ∧ Hid (vW (ps.take k) = true) ∧ Below w.heap.size w wr) (fun i _ => n - (intOf i).toNat)
  case atStart => exact ⟨0, by omega, rfl, rfl, Below.refl _ _⟩
  case round =>
    obtain ⟨k, hk, rfl, hv, hb⟩ := hrel
    by_cases hlt : k < n
    · have hkl : k < ps.length := by omega
      obtain ⟨b, off, rfl, had, hcell⟩ := h.cellAt (by omega) (by omega)
      obtain ⟨g0, g1⟩ := flat2_get ps k hkl
      have c0 := hcell _ _ g0
      have c1 := hcell _ _ g1
      have hs : vW (ps.take (k + 1)) = (vW (ps.take k) && (gW ps[k].1 && gW ps[k].2)) := by
        unfold vW
        rw [List.take_succ_eq_append_getElem hkl, List.all_append]
        simp
      generalize ps[k].1 = x at *
      generalize ps[k].2 = y at *
      have hcr := (bcell hb).1
      have hz := hb.size
      have e0 : wr.cell? ⟨b, off + k * 2, none⟩ = some (.float .f64 x) := (hcr _ _ had).trans c0
      have e1 : wr.cell? ⟨b, off + k * 2 + 1, none⟩ = some (.float .f64 y) := (hcr _ _ had).trans c1
      have HV : Hid (vW (ps.take (k + 1)) = (vW (ps.take k) && (gW x && gW y))) := hs
      clear hs c0 c1 g0 g1 hcr hcell
      go_wp2_with (go_at_call 62; refine (gWhole_any _ _).mono ?_; rintro e w1 ⟨rfl, nd, rfl⟩)
      all_goals first
        | (go_ret
           have hf : vW ps = false := vW_false (m := k + 1) (by rw [HV.out, hv.out]; simp_all)
           exact ⟨by rw [hf]; rfl, (by (repeat (first | exact Below.refl _ _ | assumption | refine Below.drew ?_ | refine below_drewN ?_ _ | refine Below.alloc ?_ (by first | (simp; done) | omega | (simp; omega)) _ | refine Below.setCell ?_ (by first | (simp; done) | omega | (simp; omega)) _ | refine Since.below (by assumption) ?_ (by first | (simp; done) | omega | (simp; omega)) | refine Below.trans ?_ (Below.mono (by assumption) (by first | (simp; done) | omega | (simp; omega))))))⟩)
        | (refine ⟨⟨k + 1, by omega, by go_num, ?_, (by (repeat (first | exact Below.refl _ _ | assumption | refine Below.drew ?_ | refine below_drewN ?_ _ | refine Below.alloc ?_ (by first | (simp; done) | omega | (simp; omega)) _ | refine Below.setCell ?_ (by first | (simp; done) | omega | (simp; omega)) _ | refine Since.below (by assumption) ?_ (by first | (simp; done) | omega | (simp; omega)) | refine Below.trans ?_ (Below.mono (by assumption) (by first | (simp; done) | omega | (simp; omega))))))⟩, by simp [intOf]; omega⟩
           show _ = true
           rw [HV.out, hv.out]; simp_all)
    · obtain rfl : k = n := by omega
      have hp : vW ps = true := by have := hv.out; rwa [List.take_of_length_le (by omega)] at this
      have HP := Lib.hid hp
      clear hp hv
      go_wp2
      go_ret
      exact ⟨by rw [HP.out]; rfl, hb⟩

theorem run_equalIn_float {P : Program} (w : World) (d : Nat) (t : TypeId) (k k' : FloatKind) (a b : Nat) (h : P.underlying t = some (.float k')) : (Op.equalIn (d + 1) t (.float k a) (.float k b)).run P w = .ok (k.format.order a b == some .eq) w := by
  simp [Op.equalIn, run_underlying h, Op.floatEq]

theorem eq_XY (a b c d : Nat) : ∀ w, (binOp .eql 36 (.agg #[.float .f64 a, .float .f64 b]) (.agg #[.float .f64 c, .float .f64 d])).run Try.prog w =
    .ok (.bool ((FloatKind.f64.format.order a c == some .eq) && (FloatKind.f64.format.order b d == some .eq))) w := by
  intro w
  simp only [binOp]
  simp [Op.equal, Op.maxDepth, run_equalIn_struct, run_equalIn_float _ _ _ _ _ _ _ Try.underlying34, go_sem]
  by_cases h1 : FloatKind.f64.format.order a c = some .eq <;> by_cases h2 : FloatKind.f64.format.order b d = some .eq <;> simp [h1, h2]

theorem vWhole_at (A : Option Addr) (n c : Nat) (ps : List (Nat × Nat)) (v : Bool) (w : World) (hv : vW ps = v) (h : Reads w w.heap.size 2 A n (flat2 ps)) (hn : n ≤ 1000000) :
    Calls Try.prog 20 #[.slice A n c] w fun e w' => e = .returned (.bool v) ∧ Below w.heap.size w w' := by
  subst hv; exact vWhole_any A n c ps w h hn

theorem hconv {b : Nat} {n : Int} (h : Fl.isI b n) (h1 : -9223372036854775808 ≤ n) (h2 : n ≤ 9223372036854775807) : ∀ w, (convert 34 3 (.float .f64 b)).run Try.prog w = .ok (.int .i64 n) w := fun w =>
  run_convert_float_int w 34 3 .f64 .i64 b n (by rw [Try.underlying34]; rfl) Try.underlying3 (Fl.toInt_I h h1 h2)

set_option maxRecDepth 100000 in
set_option maxHeartbeats 1000000 in
theorem law_any (a b c d : Nat) (w : World) : Calls Try.prog 5 #[.agg #[.float .f64 a, .float .f64 b], .agg #[.float .f64 c, .float .f64 d]] w fun e w' => e = .returned (.bool true) ∧ Below w.heap.size w w' := by
  cases hv : vW [(a, b), (c, d)] with
  | false =>
    have HV := Lib.hid hv
    clear hv
    go_enter Try.func5, Try.ntmps5
    go_wp2_with fail
    (refine region_start (by kernel_rfl) ?_)
    generalize hW : World.drew _ = W; have HB : Below w.heap.size w W := (by (rw [← hW]; (repeat (first | exact Below.refl _ _ | assumption | refine Below.drew ?_ | refine below_drewN ?_ _ | refine Below.alloc ?_ (by first | (simp; done) | omega | (simp; omega)) _ | refine Below.setCell ?_ (by first | (simp; done) | omega | (simp; omega)) _ | refine Since.below (by assumption) ?_ (by first | (simp; done) | omega | (simp; omega)) | refine Below.trans ?_ (Below.mono (by assumption) (by first | (simp; done) | omega | (simp; omega))))))); have B0 : Blk W w.heap.size 36 #[.float .f64 a, .float .f64 b] := (by (rw [← hW]; (repeat (first | exact Blk.new' (by first | rfl | (simp; done) | (simp; omega)) | refine Blk.drew ?_ | refine Blk.alloc ?_ _)))); have B1 : Blk W (w.heap.size + 1) 36 #[.float .f64 c, .float .f64 d] := (by (rw [← hW]; (repeat (first | exact Blk.new' (by first | rfl | (simp; done) | (simp; omega)) | refine Blk.drew ?_ | refine Blk.alloc ?_ _)))); clear hW
    have l0 := B0.lt; have f0 := B0.frozen; have c0_0 := B0.cell_ 0 rfl; have c0_1 := B0.cell_ 1 rfl; have l1 := B1.lt; have f1 := B1.frozen; have c1_0 := B1.cell_ 0 rfl; have c1_1 := B1.cell_ 1 rfl
    (refine from_stretch (Since _) 0 2 (by kernel_rfl) (Since.refl _) ?_; simp only [List.take_succ_cons, List.take_zero, List.drop_zero]; (iterate 2 (refine wpStay_step (Since.ne _) ⟨?_, ?_, ?_, ?_⟩; rotate_left 2; (intro w1 hS K hK; have hc := Since.cell hS; have hf := Since.frz hS; have hz := Since.size hS; go_simp; (first | exact hK _ hS)); rotate_left 1; rfl)); refine wpStay_nil ?_; intro w1 hS; have hc := Since.cell hS; have hf := Since.frz hS; have hz := Since.size hS)
    have HB := below_step HB hS; have B0 := B0.below hS B0.lt; have B1 := B1.below hS B1.lt
    (refine from_one rfl (by kernel_rfl) fun K hK => ?_; go_simp; (first | with_reducible refine hK _ _ ?_); clear hK K)
    have hr : Reads (w1.alloc (.cells #[.float .f64 a, .float .f64 b, .float .f64 c, .float .f64 d] 36)) (w1.alloc (.cells #[.float .f64 a, .float .f64 b, .float .f64 c, .float .f64 d] 36)).heap.size 2 (some ⟨w1.heap.size, 0, none⟩) 2 (flat2 [(a, b), (c, d)]) := reads_new w1 _ _ 2 2 (by simp) (by omega)
    have HB := HB.alloc HB.size (.cells #[.float .f64 a, .float .f64 b, .float .f64 c, .float .f64 d] 36)
    (refine from_one rfl (by kernel_rfl) fun K hK => ?_; go_simp; (first | with_reducible refine hK _ _ ?_ | (go_at_call 20; refine (vWhole_at _ _ _ _ _ _ HV.out hr (by omega)).mono ?_; rintro e w2 ⟨rfl, hb⟩; (try go_simp); refine hK _ _ ?_)); clear hK K)
    have HB := below_step HB hb
    clear hr hc hf hz
    (refine from_stretch (Since _) 4 23 (by kernel_rfl) (Since.refl _) ?_; simp only [List.take_succ_cons, List.take_zero, List.drop_zero, List.drop_succ_cons]; (iterate 23 (refine wpStay_step (Since.ne _) ⟨?_, ?_, ?_, ?_⟩; rotate_left 2; (intro w1 hS K hK; have hc := Since.cell hS; have hf := Since.frz hS; have hz := Since.size hS; go_simp; (first | exact hK _ hS)); rotate_left 1; rfl)); refine wpStay_nil ?_; intro w1 hS; have hc := Since.cell hS; have hf := Since.frz hS; have hz := Since.size hS)
    have HB := below_step HB hS
    (refine from_end (by kernel_rfl) ?_)
    go_wp2
    go_ret
    exact ⟨rfl, HB⟩
  | true =>
    have hall : gW a = true ∧ gW b = true ∧ gW c = true ∧ gW d = true := by
      simp only [vW, List.all_cons, List.all_nil, Bool.and_true, Bool.and_eq_true] at hv
      obtain ⟨⟨h1, h2⟩, h3, h4⟩ := hv
      exact ⟨h1, h2, h3, h4⟩
    obtain ⟨ha, hb, hc, hd⟩ := hall
    obtain ⟨na, ia, la, ua⟩ := gW_spec ha
    obtain ⟨nb, ib, lb, ub⟩ := gW_spec hb
    obtain ⟨nc, ic, lc, uc⟩ := gW_spec hc
    obtain ⟨nd, id, ld, ud⟩ := gW_spec hd
    obtain ⟨r, hr1, hr2⟩ := Fl.add_I ia ic (by omega)
    obtain ⟨s, hs1, hs2⟩ := Fl.add_I ib id (by omega)
    have q1 : (FloatKind.f64.format.order r (floatOfInt .f64 (na + nc)) == some .eq) = true := by rw [Fl.eq_I hr2 (Fl.ofInt_I (by omega))]; simp
    have q2 : (FloatKind.f64.format.order s (floatOfInt .f64 (nb + nd)) == some .eq) = true := by rw [Fl.eq_I hs2 (Fl.ofInt_I (by omega))]; simp
    have heq := eq_XY r s (floatOfInt .f64 (na + nc)) (floatOfInt .f64 (nb + nd))
    rw [q1, q2] at heq
    have ca := hconv ia (by omega) (by omega)
    have cb := hconv ib (by omega) (by omega)
    have cc := hconv ic (by omega) (by omega)
    have cd := hconv id (by omega) (by omega)
    have s1 : IntKind.i64.wrap (na + nc) = na + nc := IntWalk.i64_in _ (by omega)
    have s2 : IntKind.i64.wrap (nb + nd) = nb + nd := IntWalk.i64_in _ (by omega)
    have HV := Lib.hid hv
    have HR := Lib.hid hr1
    have HS := Lib.hid hs1
    clear hv hr1 hs1 hr2 hs2 ia ib ic id ha hb hc hd q1 q2
    go_enter Try.func5, Try.ntmps5
    go_wp2_with fail
    (refine region_start (by kernel_rfl) ?_)
    generalize hW : World.drew _ = W; have HB : Below w.heap.size w W := (by (rw [← hW]; (repeat (first | exact Below.refl _ _ | assumption | refine Below.drew ?_ | refine below_drewN ?_ _ | refine Below.alloc ?_ (by first | (simp; done) | omega | (simp; omega)) _ | refine Below.setCell ?_ (by first | (simp; done) | omega | (simp; omega)) _ | refine Since.below (by assumption) ?_ (by first | (simp; done) | omega | (simp; omega)) | refine Below.trans ?_ (Below.mono (by assumption) (by first | (simp; done) | omega | (simp; omega))))))); have B0 : Blk W w.heap.size 36 #[.float .f64 a, .float .f64 b] := (by (rw [← hW]; (repeat (first | exact Blk.new' (by first | rfl | (simp; done) | (simp; omega)) | refine Blk.drew ?_ | refine Blk.alloc ?_ _)))); have B1 : Blk W (w.heap.size + 1) 36 #[.float .f64 c, .float .f64 d] := (by (rw [← hW]; (repeat (first | exact Blk.new' (by first | rfl | (simp; done) | (simp; omega)) | refine Blk.drew ?_ | refine Blk.alloc ?_ _)))); clear hW
    have l0 := B0.lt; have f0 := B0.frozen; have c0_0 := B0.cell_ 0 rfl; have c0_1 := B0.cell_ 1 rfl; have l1 := B1.lt; have f1 := B1.frozen; have c1_0 := B1.cell_ 0 rfl; have c1_1 := B1.cell_ 1 rfl
    (refine from_stretch (Since _) 0 2 (by kernel_rfl) (Since.refl _) ?_; simp only [List.take_succ_cons, List.take_zero, List.drop_zero]; (iterate 2 (refine wpStay_step (Since.ne _) ⟨?_, ?_, ?_, ?_⟩; rotate_left 2; (intro w1 hS K hK; have hc := Since.cell hS; have hf := Since.frz hS; have hz := Since.size hS; go_simp; (first | exact hK _ hS)); rotate_left 1; rfl)); refine wpStay_nil ?_; intro w1 hS; have hc := Since.cell hS; have hf := Since.frz hS; have hz := Since.size hS)
    have HB := below_step HB hS; have B0 := B0.below hS B0.lt; have B1 := B1.below hS B1.lt
    (refine from_one rfl (by kernel_rfl) fun K hK => ?_; go_simp; (first | with_reducible refine hK _ _ ?_); clear hK K)
    have hr : Reads (w1.alloc (.cells #[.float .f64 a, .float .f64 b, .float .f64 c, .float .f64 d] 36)) (w1.alloc (.cells #[.float .f64 a, .float .f64 b, .float .f64 c, .float .f64 d] 36)).heap.size 2 (some ⟨w1.heap.size, 0, none⟩) 2 (flat2 [(a, b), (c, d)]) := reads_new w1 _ _ 2 2 (by simp) (by omega)
    have HB := HB.alloc HB.size (.cells #[.float .f64 a, .float .f64 b, .float .f64 c, .float .f64 d] 36)
    have B0 := B0.alloc (.cells #[.float .f64 a, .float .f64 b, .float .f64 c, .float .f64 d] 36)
    have B1 := B1.alloc (.cells #[.float .f64 a, .float .f64 b, .float .f64 c, .float .f64 d] 36)
    (refine from_one rfl (by kernel_rfl) fun K hK => ?_; go_simp; (first | with_reducible refine hK _ _ ?_ | (go_at_call 20; refine (vWhole_at _ _ _ _ _ _ HV.out hr (by omega)).mono ?_; rintro e w2 ⟨rfl, hb⟩; (try go_simp); refine hK _ _ ?_)); clear hK K)
    have HB := below_step HB hb; have B0 := B0.below hb B0.lt; have B1 := B1.below hb B1.lt
    clear hr hc hf hz
    have l0 := B0.lt; have f0 := B0.frozen; have c0_0 := B0.cell_ 0 rfl; have c0_1 := B0.cell_ 1 rfl; have l1 := B1.lt; have f1 := B1.frozen; have c1_0 := B1.cell_ 0 rfl; have c1_1 := B1.cell_ 1 rfl
    (refine from_stretch (Since _) 4 23 (by kernel_rfl) (Since.refl _) ?_; simp only [List.take_succ_cons, List.take_zero, List.drop_zero, List.drop_succ_cons]; (iterate 23 (refine wpStay_step (Since.ne _) ⟨?_, ?_, ?_, ?_⟩; rotate_left 2; (intro w1 hS K hK; have hc := Since.cell hS; have hf := Since.frz hS; have hz := Since.size hS; go_simp; (first | exact hK _ hS | (go_at_call 21; refine (XYAdd_any _ _ _ _ _ _ _ HR.out HS.out).mono ?_; rintro e w2 ⟨rfl, hb⟩; (try go_simp); exact hK _ (hS.then hb)) | (go_at_call 22; refine (vAt_any _ _ _).mono ?_; rintro e w2 ⟨rfl, hb⟩; (try go_simp); exact hK _ (hS.then hb)))); rotate_left 1; rfl)); refine wpStay_nil ?_; intro w1 hS; have hc := Since.cell hS; have hf := Since.frz hS; have hz := Since.size hS)
    have HB := below_step HB hS
    (refine from_end (by kernel_rfl) ?_)
    go_wp2
    go_ret
    exact ⟨rfl, HB⟩

open Go.ChangeShapes Go.WideShapes Go.ChangeAt
set_option linter.unusedVariables false
set_option maxRecDepth 100000 in
theorem lifted (os : Os) (started : os.Started) (H : Type) (enc : TypeId × Value → H) :
    ReturnsInHanded {} Try.checked os 5 .any (Rows.fnXYAddSpec.pre6 enc Try.prog Try.f5 Rows.fnXYAddRow.domain false) (Rows.fnXYAddSpec.post enc Try.prog Try.f5 false true false false) := by
  refine returnsInHanded_of_change (C := Try.checked) own started (by kernel_rfl) Try.func5
    (ChangeSpec.witness6 (enc := enc) (C := Try.checked) false ⟨#[], #[.agg #[.float .f64 0, .float .f64 0], .agg #[.float .f64 0, .float .f64 0]], []⟩ 8 (by kernel_rfl) (by kernel_rfl) (by kernel_rfl) (by kernel_rfl)) ?_
  intro W base args ds gs before hval0 hW hcnd _
  have hval : ∀ (j : Nat) t v, Try.f5.params[j]? = some t → args[j]? = some v → Value.okWide Try.prog W .any base t v := hval0
  have hW' := hW
  obtain ⟨p, q, hA0, hV, rfl, hfz, hnd⟩ := hW
  have hA : DataW.TrodAll enc Try.prog W 0 (fun _ => true) true Try.f5.params.toList args.toList ds p := hA0
  rw [Try.params5] at hA hval
  obtain ⟨v0, vs0, d0, ds0, p0, q0, hargs, rfl, rfl, h0, r0⟩ := trodAll_cons hA
  obtain ⟨v1, vs1, d1, ds1, p1, q1, rfl, rfl, rfl, h1, r1⟩ := trodAll_cons r0
  obtain ⟨rfl, rfl, rfl⟩ := trodAll_nil r1
  obtain rfl : args = #[v0, v1] := by cases args; simp_all
  obtain ⟨rfl, rfl⟩ := trodVars_none hV
  have k0 := h0
  have lt0 : ∀ x ∈ p0, x.block < W.heap.size := by obtain ⟨m, hm⟩ := k0; exact DataW.trod_lt m _ _ _ hm
  have k1 := h1
  have lt1 : ∀ x ∈ p1, x.block < W.heap.size := by obtain ⟨m, hm⟩ := k1; exact DataW.trod_lt m _ _ _ hm
  obtain ⟨a0, b0, rfl, u0, w0⟩ := open_XY (hval 0 36 v0 rfl rfl) h0
  obtain ⟨a1, b1, rfl, u1, w1⟩ := open_XY (hval 1 36 v1 rfl rfl) h1
  clear hA0 hval0
  refine (law_any a0 b0 a1 b1 W).mono fun e W' ⟨he, bel⟩ => ?_
  subst he
  exact ⟨_, rfl, _, _, _, [], _, [], hW', trodAll_mk1 (shut_bool Try.underlying4 _), (trodAll_cons_mk (Below.trod laidOut (by kernel_rfl) (of_decide_eq_true (by kernel_rfl)) k0 bel lt0) (trodAll_cons_mk (Below.trod laidOut (by kernel_rfl) (of_decide_eq_true (by kernel_rfl)) k1 bel lt1) trodAll_mk0)), rfl, bel.frame _, fun h => by cases h⟩

theorem over : Rows.fnXYAddRow.holds Try.pinned (OpenSpec.ofChange Rows.fnXYAddSpec) :=
  OpenClaim.holds_of_wide 5 Try.f5 rfl rfl rfl rfl rfl rfl rfl ⟨rfl, rfl, rfl, rfl, rfl⟩ rfl rfl rfl rfl rfl (by kernel_rfl) Try.func5 (by kernel_rfl)
    (of_decide_eq_true (by kernel_rfl)) (by unfold Func.isWrapper; first | (rw [if_pos (by decide +kernel)]; kernel_rfl) | (rw [if_neg (by decide +kernel)]; exact ⟨rfl, rfl⟩))
    (fun os started H enc _ => lifted os started H enc)

theorem proved : Rows.FnXYAddSaid := over
#print axioms proved
end Go.Proofs.Ytciblaabghiefaa.fnXYAdd
