/- FnPlaceDistance returns true for any two places: the distance of any two places with whole coordinates from -2^20 to 2^20 is the root of the sum of the squares of their differences, rounded once. No condition. -/
import Derived.Test.YtciblaabghiefaaXy2
import Derived.Test.YtciblaabghiefaaPts
import Derived.Test.YtciblaabghiefaaOpen
namespace Go.Proofs.Ytciblaabghiefaa.fnPlaceDistance
open Go.RowKit
attribute [local go_sem] run_store_float
set_option linter.unusedVariables false

theorem walk_any (A : Option Addr) (n c : Nat) (m least : Int) (ps : List (Int × Int)) (v : Bool) (w : World) (hv : inB m ps = v) (h : Reads w w.heap.size 2 A n (ps.flatMap ptCells)) (hn : n ≤ 100) (hl : least ≤ n) (hm : 0 ≤ m) (hm2 : m ≤ 9223372036854775807) :
    Calls Try.prog 36 #[.slice A n c, .int .i64 least, .int .i64 m] w fun e w' => e = .returned (.bool v) ∧ Below w.heap.size w w' := by
  have H := Lib.hid h
  have HV := Lib.hid hv
  clear h hv
  go_enter Try.func36, Try.ntmps36
  go_wp2_with (go_at_call 66; refine (formed_line _ _ _ _ ps _ H.out (by omega) hm hm2).mono ?_; rintro e w2 ⟨rfl, hb⟩)
  go_ret
  exact ⟨by rw [← HV.out]; rfl, hb⟩

theorem xyOf_any (x y : Int) (w : World) : Calls Try.prog 25 #[.agg #[.int .i64 x, .int .i64 y]] w fun e w' => e = .returned (.agg #[.float .f64 (floatOfInt .f64 x), .float .f64 (floatOfInt .f64 y)]) ∧ Below w.heap.size w w' := by
  go_enter Try.func25, Try.ntmps25
  go_wp2
  refine bodyPost_ret (v := .agg #[.float .f64 (floatOfInt .f64 x), .float .f64 (floatOfInt .f64 y)]) (by simp [results, Try.results25, go_sem]) rfl ⟨rfl, ?_⟩
  (repeat (first | exact Below.refl _ _ | assumption | refine Below.drew ?_ | refine below_drewN ?_ _ | refine Below.alloc ?_ (by first | (simp; done) | omega | (simp; omega)) _ | refine Below.setCell ?_ (by first | (simp; done) | omega | (simp; omega)) _ | refine below_step ?_ (by assumption) | refine Since.below (by assumption) ?_ (by first | (simp; done) | omega | (simp; omega)) | refine Below.trans ?_ (Below.mono (by assumption) (by first | (simp; done) | omega | (simp; omega)))))

theorem length_any (a b p q r s : Nat) (w : World) (h1 : floatBits .mul .f64 a a = some p) (h2 : floatBits .mul .f64 b b = some q) (h3 : floatBits .add .f64 p q = some r) (h4 : FloatKind.f64.format.sqrt r = some s) :
    Calls Try.prog 130 #[.agg #[.float .f64 a, .float .f64 b]] w fun e w' => e = .returned (.float .f64 s) ∧ Below w.heap.size w w' := by
  have H1 := Lib.hid h1
  have H2 := Lib.hid h2
  have H3 := Lib.hid h3
  have H4 := Lib.hid h4
  clear h1 h2 h3 h4
  go_enter Try.func130, Try.ntmps130
  go_wp2_with (first | (go_at_call 126; refine (lengthSq_any _ _ _ _ _ _ H1.out H2.out H3.out).mono ?_; rintro e w2 ⟨rfl, hb⟩) | (go_at_call 38; refine (sqrt_any _ _ _ H4.out).mono ?_; rintro e w2 ⟨rfl, hb⟩))
  go_ret
  exact ⟨rfl, (by (repeat (first | exact Below.refl _ _ | assumption | refine Below.drew ?_ | refine below_drewN ?_ _ | refine Below.alloc ?_ (by first | (simp; done) | omega | (simp; omega)) _ | refine Below.setCell ?_ (by first | (simp; done) | omega | (simp; omega)) _ | refine below_step ?_ (by assumption) | refine Since.below (by assumption) ?_ (by first | (simp; done) | omega | (simp; omega)) | refine Below.trans ?_ (Below.mono (by assumption) (by first | (simp; done) | omega | (simp; omega))))))⟩

/-- The chain of words from two places to their distance. -/
structure Dist (a b c d r : Nat) : Prop where
  ex : ∃ x y p q s, floatBits .sub .f64 a c = some x ∧ floatBits .sub .f64 b d = some y ∧ floatBits .mul .f64 x x = some p ∧ floatBits .mul .f64 y y = some q ∧ floatBits .add .f64 p q = some s ∧ FloatKind.f64.format.sqrt s = some r

theorem dist_any (a b c d r : Nat) (w : World) (h : Dist a b c d r) :
    Calls Try.prog 106 #[.agg #[.float .f64 a, .float .f64 b], .agg #[.float .f64 c, .float .f64 d]] w fun e w' => e = .returned (.float .f64 r) ∧ Below w.heap.size w w' := by
  obtain ⟨x, y, p, q, s, h1, h2, h3, h4, h5, h6⟩ := h.ex
  have H1 := Lib.hid h1
  have H2 := Lib.hid h2
  have H3 := Lib.hid h3
  have H4 := Lib.hid h4
  have H5 := Lib.hid h5
  have H6 := Lib.hid h6
  clear h1 h2 h3 h4 h5 h6 h
  go_enter Try.func106, Try.ntmps106
  go_wp2_with (first | (go_at_call 129; refine (sub_any _ _ _ _ _ _ _ H1.out H2.out).mono ?_; rintro e w2 ⟨rfl, hb⟩) | (go_at_call 130; refine (length_any _ _ _ _ _ _ _ H3.out H4.out H5.out H6.out).mono ?_; rintro e w2 ⟨rfl, hb⟩))
  go_ret
  exact ⟨rfl, (by (repeat (first | exact Below.refl _ _ | assumption | refine Below.drew ?_ | refine below_drewN ?_ _ | refine Below.alloc ?_ (by first | (simp; done) | omega | (simp; omega)) _ | refine Below.setCell ?_ (by first | (simp; done) | omega | (simp; omega)) _ | refine below_step ?_ (by assumption) | refine Since.below (by assumption) ?_ (by first | (simp; done) | omega | (simp; omega)) | refine Below.trans ?_ (Below.mono (by assumption) (by first | (simp; done) | omega | (simp; omega))))))⟩

theorem door_any (a b c d r : Nat) (w : World) (h : Dist a b c d r) :
    Calls Try.prog 73 #[.agg #[.float .f64 a, .float .f64 b], .agg #[.float .f64 c, .float .f64 d]] w fun e w' => e = .returned (.float .f64 r) ∧ Below w.heap.size w w' := by
  go_enter Try.func73, Try.ntmps73
  go_wp2_with (go_at_call 106; refine (dist_any _ _ _ _ _ _ h).mono ?_; rintro e w2 ⟨rfl, hb⟩)
  go_ret
  exact ⟨rfl, (by (repeat (first | exact Below.refl _ _ | assumption | refine Below.drew ?_ | refine below_drewN ?_ _ | refine Below.alloc ?_ (by first | (simp; done) | omega | (simp; omega)) _ | refine Below.setCell ?_ (by first | (simp; done) | omega | (simp; omega)) _ | refine below_step ?_ (by assumption) | refine Since.below (by assumption) ?_ (by first | (simp; done) | omega | (simp; omega)) | refine Below.trans ?_ (Below.mono (by assumption) (by first | (simp; done) | omega | (simp; omega))))))⟩

theorem impl_any (a b c d r : Nat) (w : World) (h : Dist a b c d r) :
    Calls Try.prog 37 #[.agg #[.float .f64 a, .float .f64 b], .agg #[.float .f64 c, .float .f64 d]] w fun e w' => e = .returned (.float .f64 r) ∧ Below w.heap.size w w' := by
  have nn02 : w.heap.size < w.heap.size + 1 + 1 := (by omega); have nn03 : w.heap.size < w.heap.size + 1 + 1 + 1 := (by omega); have nn13 : w.heap.size + 1 < w.heap.size + 1 + 1 + 1 := (by omega); have nn04 : w.heap.size < w.heap.size + 1 + 1 + 1 + 1 := (by omega); have nn14 : w.heap.size + 1 < w.heap.size + 1 + 1 + 1 + 1 := (by omega); have nn24 : w.heap.size + 1 + 1 < w.heap.size + 1 + 1 + 1 + 1 := (by omega)
  go_enter Try.func37, Try.ntmps37
  go_wp2_with fail
  (refine region_start (by kernel_rfl) ?_)
  generalize hW : World.drew _ = W; have HB : Below w.heap.size w W := (by (rw [← hW]; (repeat (first | exact Below.refl _ _ | assumption | refine Below.drew ?_ | refine below_drewN ?_ _ | refine Below.alloc ?_ (by first | (simp; done) | omega | (simp; omega)) _ | refine Below.setCell ?_ (by first | (simp; done) | omega | (simp; omega)) _ | refine below_step ?_ (by assumption) | refine Since.below (by assumption) ?_ (by first | (simp; done) | omega | (simp; omega)) | refine Below.trans ?_ (Below.mono (by assumption) (by first | (simp; done) | omega | (simp; omega))))))); have B0 : Blk W w.heap.size 36 #[.float .f64 a, .float .f64 b] := (by (rw [← hW]; (repeat (first | exact Blk.new' (by first | rfl | (simp; done) | (simp; omega)) | refine Blk.drew ?_ | refine Blk.alloc ?_ _)))); have B1 : Blk W (w.heap.size + 1) 36 #[.float .f64 c, .float .f64 d] := (by (rw [← hW]; (repeat (first | exact Blk.new' (by first | rfl | (simp; done) | (simp; omega)) | refine Blk.drew ?_ | refine Blk.alloc ?_ _)))); clear hW
  have l0 := B0.lt; have f0 := B0.frozen; have c0_0 := B0.cell_ 0 rfl; have c0_1 := B0.cell_ 1 rfl; have l1 := B1.lt; have f1 := B1.frozen; have c1_0 := B1.cell_ 0 rfl; have c1_1 := B1.cell_ 1 rfl
  (refine from_stretch (Since _) 0 6 (by kernel_rfl) (Since.refl _) ?_; simp only [List.take_succ_cons, List.take_zero, List.drop_zero]; (iterate 6 (refine wpStay_step (Since.ne _) ⟨?_, ?_, ?_, ?_⟩; rotate_left 2; (intro w1 hS K hK; have hc := Since.cell hS; have hf := Since.frz hS; have hz := Since.size hS; go_simp; (first | exact hK _ hS | (go_at_call 64; refine (xy_any _ _ _).mono ?_; rintro e w2 ⟨rfl, hb⟩; (try go_simp); exact hK _ (hS.then hb)) | (go_at_call 73; refine (door_any _ _ _ _ _ _ h).mono ?_; rintro e w2 ⟨rfl, hb⟩; (try go_simp); exact hK _ (hS.then hb)))); rotate_left 1; rfl)); refine wpStay_nil ?_; intro w1 hS; have hc := Since.cell hS; have hf := Since.frz hS; have hz := Since.size hS)
  have HB := below_step HB hS
  (refine from_end (by kernel_rfl) ?_)
  go_wp2
  go_ret
  exact ⟨rfl, HB⟩

theorem sq_bd (x : Int) (h1 : -2097152 ≤ x) (h2 : x ≤ 2097152) : 0 ≤ x * x ∧ x * x ≤ 4398046511104 := by
  have a1 := Int.mul_nonneg (a := 2097152 - x) (b := 2097152 + x) (by omega) (by omega)
  rw [Int.sub_mul, Int.mul_add, Int.mul_add] at a1
  have a2 : 0 ≤ x * x := by
    rcases Int.le_total 0 x with h | h
    · exact Int.mul_nonneg h h
    · exact Int.mul_nonneg_of_nonpos_of_nonpos h h
  constructor <;> omega

theorem plain (a b c d : Int) (la : -1048576 ≤ a) (ua : a ≤ 1048576) (lb : -1048576 ≤ b) (ub : b ≤ 1048576) (lc : -1048576 ≤ c) (uc : c ≤ 1048576) (ld : -1048576 ≤ d) (ud : d ≤ 1048576) :
    ∃ r s, Dist (floatOfInt .f64 a) (floatOfInt .f64 b) (floatOfInt .f64 c) (floatOfInt .f64 d) r ∧ FloatKind.f64.format.sqrt (floatOfInt .f64 ((a - c) * (a - c) + (b - d) * (b - d))) = some s ∧ (FloatKind.f64.format.order r s == some .eq) = true := by
  obtain ⟨n1, m1⟩ := sq_bd (a - c) (by omega) (by omega)
  obtain ⟨n2, m2⟩ := sq_bd (b - d) (by omega) (by omega)
  obtain ⟨x, hx, ix⟩ := Fl.sub_I (Fl.ofInt_I (n := a) (by omega)) (Fl.ofInt_I (n := c) (by omega)) (by omega)
  obtain ⟨y, hy, iy⟩ := Fl.sub_I (Fl.ofInt_I (n := b) (by omega)) (Fl.ofInt_I (n := d) (by omega)) (by omega)
  obtain ⟨p, hp, ip⟩ := Fl.mul_I ix ix (by omega)
  obtain ⟨q, hq, iq⟩ := Fl.mul_I iy iy (by omega)
  obtain ⟨s, hs, is⟩ := Fl.add_I ip iq (by omega)
  obtain ⟨r, s', h1, h2, h3⟩ := Fl.sqrt_eq is (Fl.ofInt_I (n := (a - c) * (a - c) + (b - d) * (b - d)) (by omega)) (by omega) (Fl.lt_of_bits hs) (Fl.ofInt_lt _)
  exact ⟨r, s', ⟨x, y, p, q, s, hx, hy, hp, hq, hs, h1⟩, h2, h3⟩

set_option maxHeartbeats 1000000 in
set_option maxRecDepth 100000 in
theorem law_any (a b c d : Int) (w : World) : Calls Try.prog 10 #[.agg #[.int .i64 a, .int .i64 b], .agg #[.int .i64 c, .int .i64 d]] w fun e w' => e = .returned (.bool true) ∧ Below w.heap.size w w' := by
  cases hv : inB 1048576 [(a, b), (c, d)] with
  | false =>
    have HD : ∀ (W : World) (g : Nat), g = W.heap.size → Hid (Calls Try.prog 36 #[.slice (some ⟨g, 0, none⟩) 2 2, .int .i64 2, .int .i64 1048576] (W.alloc (.cells #[.int .i64 a, .int .i64 b, .int .i64 c, .int .i64 d] 42)) fun e w' => e = .returned (.bool false) ∧ Below (W.alloc (.cells #[.int .i64 a, .int .i64 b, .int .i64 c, .int .i64 d] 42)).heap.size (W.alloc (.cells #[.int .i64 a, .int .i64 b, .int .i64 c, .int .i64 d] 42)) w') := fun W g hg =>
      walk_any _ _ _ _ _ [(a, b), (c, d)] _ _ hv (reads_new' W g hg [.int .i64 a, .int .i64 b, .int .i64 c, .int .i64 d] _ 2 2 (by simp) (by omega)) (by omega) (by omega) (by omega) (by omega)
    clear hv
    go_enter Try.func10, Try.ntmps10
    go_wp2_with (go_at_call 36; refine ((HD _ _ (by simp)).out).mono ?_; rintro e w2 ⟨rfl, hb⟩)
    go_ret
    exact ⟨rfl, (by (repeat (first | exact Below.refl _ _ | assumption | refine Below.drew ?_ | refine below_drewN ?_ _ | refine Below.alloc ?_ (by first | (simp; done) | omega | (simp; omega)) _ | refine Below.setCell ?_ (by first | (simp; done) | omega | (simp; omega)) _ | refine below_step ?_ (by assumption) | refine Since.below (by assumption) ?_ (by first | (simp; done) | omega | (simp; omega)) | refine Below.trans ?_ (Below.mono (by assumption) (by first | (simp; done) | omega | (simp; omega))))))⟩
  | true =>
    have hbd : (-1048576 ≤ a ∧ a ≤ 1048576) ∧ (-1048576 ≤ b ∧ b ≤ 1048576) ∧ (-1048576 ≤ c ∧ c ≤ 1048576) ∧ (-1048576 ≤ d ∧ d ≤ 1048576) := by
      simp [inB] at hv
      omega
    obtain ⟨⟨la, ua⟩, ⟨lb, ub⟩, ⟨lc, uc⟩, ⟨ld, ud⟩⟩ := hbd
    have HD : ∀ (W : World) (g : Nat), g = W.heap.size → Hid (Calls Try.prog 36 #[.slice (some ⟨g, 0, none⟩) 2 2, .int .i64 2, .int .i64 1048576] (W.alloc (.cells #[.int .i64 a, .int .i64 b, .int .i64 c, .int .i64 d] 42)) fun e w' => e = .returned (.bool true) ∧ Below (W.alloc (.cells #[.int .i64 a, .int .i64 b, .int .i64 c, .int .i64 d] 42)).heap.size (W.alloc (.cells #[.int .i64 a, .int .i64 b, .int .i64 c, .int .i64 d] 42)) w') := fun W g hg =>
      walk_any _ _ _ _ _ [(a, b), (c, d)] _ _ hv (reads_new' W g hg [.int .i64 a, .int .i64 b, .int .i64 c, .int .i64 d] _ 2 2 (by simp) (by omega)) (by omega) (by omega) (by omega) (by omega)
    obtain ⟨r, s, h1, h2, h3⟩ := plain a b c d la ua lb ub lc uc ld ud
    have H1 := Lib.hid h1
    have H2 := Lib.hid h2
    obtain ⟨n1, m1⟩ := sq_bd (a - c) (by omega) (by omega)
    obtain ⟨n2, m2⟩ := sq_bd (b - d) (by omega) (by omega)
    have s1 : IntKind.i64.wrap (a - c) = a - c := IntWalk.i64_in _ (by omega)
    have s2 : IntKind.i64.wrap (b - d) = b - d := IntWalk.i64_in _ (by omega)
    have s3 : IntKind.i64.wrap ((a - c) * (a - c)) = (a - c) * (a - c) := IntWalk.i64_in _ (by omega)
    have s4 : IntKind.i64.wrap ((b - d) * (b - d)) = (b - d) * (b - d) := IntWalk.i64_in _ (by omega)
    have s5 : IntKind.i64.wrap ((a - c) * (a - c) + (b - d) * (b - d)) = (a - c) * (a - c) + (b - d) * (b - d) := IntWalk.i64_in _ (by omega)
    clear hv h1 h2 la ua lb ub lc uc ld ud n1 m1 n2 m2
    have nn02 : w.heap.size < w.heap.size + 1 + 1 := (by omega); have nn03 : w.heap.size < w.heap.size + 1 + 1 + 1 := (by omega); have nn13 : w.heap.size + 1 < w.heap.size + 1 + 1 + 1 := (by omega); have nn04 : w.heap.size < w.heap.size + 1 + 1 + 1 + 1 := (by omega); have nn14 : w.heap.size + 1 < w.heap.size + 1 + 1 + 1 + 1 := (by omega); have nn24 : w.heap.size + 1 + 1 < w.heap.size + 1 + 1 + 1 + 1 := (by omega)
    go_enter Try.func10, Try.ntmps10
    go_wp2_with (go_at_call 36; refine ((HD _ _ (by simp)).out).mono ?_; rintro e w2 ⟨rfl, hb⟩)
    have HB : Below w.heap.size w w2 := (by (repeat (first | exact Below.refl _ _ | assumption | refine Below.drew ?_ | refine below_drewN ?_ _ | refine Below.alloc ?_ (by first | (simp; done) | omega | (simp; omega)) _ | refine Below.setCell ?_ (by first | (simp; done) | omega | (simp; omega)) _ | refine below_step ?_ (by assumption) | refine Since.below (by assumption) ?_ (by first | (simp; done) | omega | (simp; omega)) | refine Below.trans ?_ (Below.mono (by assumption) (by first | (simp; done) | omega | (simp; omega))))))
    have B0 : Blk w2 w.heap.size 42 #[.int .i64 a, .int .i64 b] := Blk.below (((Blk.new w _ _).alloc _).alloc _) hb (by simp; omega)
    have B1 : Blk w2 (w.heap.size + 1) 42 #[.int .i64 c, .int .i64 d] := Blk.below ((Blk.new' (by simp)).alloc _) hb (by simp)
    clear hb
    (refine region_start (by kernel_rfl) ?_)
    generalize hW : World.drew w2 = W
    have HB : Below w.heap.size w W := by rw [← hW]; exact HB.drew
    have B0 := B0.drew
    have B1 := B1.drew
    rw [hW] at B0 B1
    clear hW
    have l0 := B0.lt; have f0 := B0.frozen; have c0_0 := B0.cell_ 0 rfl; have c0_1 := B0.cell_ 1 rfl; have l1 := B1.lt; have f1 := B1.frozen; have c1_0 := B1.cell_ 0 rfl; have c1_1 := B1.cell_ 1 rfl
    (refine from_stretch (Since _) 0 12 (by kernel_rfl) (Since.refl _) ?_; simp only [List.take_succ_cons, List.take_zero, List.drop_zero]; (iterate 12 (refine wpStay_step (Since.ne _) ⟨?_, ?_, ?_, ?_⟩; rotate_left 2; (intro w1 hS K hK; have hc := Since.cell hS; have hf := Since.frz hS; have hz := Since.size hS; go_simp; (first | exact hK _ hS)); rotate_left 1; rfl)); refine wpStay_nil ?_; intro w1 hS; have hc := Since.cell hS; have hf := Since.frz hS; have hz := Since.size hS)
    have HB := below_step HB hS; have B0 := B0.below hS B0.lt; have B1 := B1.below hS B1.lt
    clear hc hf hz
    (refine from_end (by kernel_rfl) ?_)
    go_wp2_with fail
    (refine region_start (by kernel_rfl) ?_)
    generalize hW : World.drew w1 = W
    have HB : Below w.heap.size w W := by rw [← hW]; exact HB.drew
    have B0 := B0.drew
    have B1 := B1.drew
    rw [hW] at B0 B1
    clear hW
    have l0 := B0.lt; have f0 := B0.frozen; have c0_0 := B0.cell_ 0 rfl; have c0_1 := B0.cell_ 1 rfl; have l1 := B1.lt; have f1 := B1.frozen; have c1_0 := B1.cell_ 0 rfl; have c1_1 := B1.cell_ 1 rfl
    (refine from_stretch (Since _) 0 16 (by kernel_rfl) (Since.refl _) ?_; simp only [List.take_succ_cons, List.take_zero, List.drop_zero]; (iterate 16 (refine wpStay_step (Since.ne _) ⟨?_, ?_, ?_, ?_⟩; rotate_left 2; (intro w1 hS K hK; have hc := Since.cell hS; have hf := Since.frz hS; have hz := Since.size hS; go_simp; (first | exact hK _ hS | (go_at_call 25; refine (xyOf_any _ _ _).mono ?_; rintro e w2 ⟨rfl, hb⟩; (try go_simp); exact hK _ (hS.then hb)) | (go_at_call 37; refine (impl_any _ _ _ _ _ _ H1.out).mono ?_; rintro e w2 ⟨rfl, hb⟩; (try go_simp); exact hK _ (hS.then hb)) | (go_at_call 38; refine (sqrt_any _ _ _ H2.out).mono ?_; rintro e w2 ⟨rfl, hb⟩; (try go_simp); exact hK _ (hS.then hb)))); rotate_left 1; rfl)); refine wpStay_nil ?_; intro w1 hS; have hc := Since.cell hS; have hf := Since.frz hS; have hz := Since.size hS)
    have HB := below_step HB hS
    (refine from_end (by kernel_rfl) ?_)
    go_wp2
    go_ret
    exact ⟨rfl, HB⟩

open Go.ChangeShapes Go.WideShapes Go.ChangeAt
set_option maxRecDepth 100000 in
theorem lifted (os : Os) (started : os.Started) (H : Type) (enc : TypeId × Value → H) :
    ReturnsInHanded {} Try.checked os 10 .any (Rows.fnPlaceDistanceSpec.pre6 enc Try.prog Try.f10 Rows.fnPlaceDistanceRow.domain false) (Rows.fnPlaceDistanceSpec.post enc Try.prog Try.f10 false true false false) := by
  refine returnsInHanded_of_change (C := Try.checked) own started (by kernel_rfl) Try.func10
    (ChangeSpec.witness6 (enc := enc) (C := Try.checked) false ⟨#[], #[.agg #[.int .i64 0, .int .i64 0], .agg #[.int .i64 0, .int .i64 0]], []⟩ 8 (by kernel_rfl) (by kernel_rfl) (by kernel_rfl) (by kernel_rfl)) ?_
  intro W base args ds gs before hval0 hW hcnd _
  have hval : ∀ (j : Nat) t v, Try.f10.params[j]? = some t → args[j]? = some v → Value.okWide Try.prog W .any base t v := hval0
  have hW' := hW
  obtain ⟨p, q, hA0, hV, rfl, hfz, hnd⟩ := hW
  have hA : DataW.TrodAll enc Try.prog W 0 (fun _ => true) true Try.f10.params.toList args.toList ds p := hA0
  rw [Try.params10] at hA hval
  obtain ⟨v0, vs0, d0, ds0, p0, q0, hargs, rfl, rfl, h0, r0⟩ := trodAll_cons hA
  obtain ⟨v1, vs1, d1, ds1, p1, q1, rfl, rfl, rfl, h1, r1⟩ := trodAll_cons r0
  obtain ⟨rfl, rfl, rfl⟩ := trodAll_nil r1
  obtain rfl : args = #[v0, v1] := by cases args; simp_all
  obtain ⟨rfl, rfl⟩ := trodVars_none hV
  have k0 := h0
  have lt0 : ∀ x ∈ p0, x.block < W.heap.size := by obtain ⟨m, hm⟩ := k0; exact DataW.trod_lt m _ _ _ hm
  have k1 := h1
  have lt1 : ∀ x ∈ p1, x.block < W.heap.size := by obtain ⟨m, hm⟩ := k1; exact DataW.trod_lt m _ _ _ hm
  obtain ⟨a0, b0, rfl, u0, w0⟩ := open_Pt (hval 0 42 v0 rfl rfl) h0
  obtain ⟨a1, b1, rfl, u1, w1⟩ := open_Pt (hval 1 42 v1 rfl rfl) h1
  clear hA0 hval0
  refine (law_any a0 b0 a1 b1 W).mono fun e W' ⟨he, bel⟩ => ?_
  subst he
  exact ⟨_, rfl, _, _, _, [], _, [], hW', trodAll_mk1 (shut_bool Try.underlying4 _), (trodAll_cons_mk (Below.trod laidOut (by kernel_rfl) (of_decide_eq_true (by kernel_rfl)) k0 bel lt0) (trodAll_cons_mk (Below.trod laidOut (by kernel_rfl) (of_decide_eq_true (by kernel_rfl)) k1 bel lt1) trodAll_mk0)), rfl, bel.frame _, fun h => by cases h⟩

theorem over : Rows.fnPlaceDistanceRow.holds Try.pinned (OpenSpec.ofChange Rows.fnPlaceDistanceSpec) :=
  OpenClaim.holds_of_wide 10 Try.f10 rfl rfl rfl rfl rfl rfl rfl ⟨rfl, rfl, rfl, rfl, rfl⟩ rfl rfl rfl rfl rfl (by kernel_rfl) Try.func10 (by kernel_rfl)
    (of_decide_eq_true (by kernel_rfl)) (by unfold Func.isWrapper; first | (rw [if_pos (by decide +kernel)]; kernel_rfl) | (rw [if_neg (by decide +kernel)]; exact ⟨rfl, rfl⟩))
    (fun os started H enc _ => lifted os started H enc)

theorem proved : Rows.FnPlaceDistanceSaid := over
#print axioms proved
end Go.Proofs.Ytciblaabghiefaa.fnPlaceDistance
