/- Directions about a place: what the functions compute. -/
import Derived.Test.YtciblaabghiefaaXy1
import Derived.Test.YtciblaabghiefaaPts
import Derived.Test.YtciblaabghiefaaOpen
namespace Go.Proofs.Ytciblaabghiefaa.fnRadialLess
open Go.RowKit
attribute [local go_sem] run_store_float
set_option linter.unusedVariables false

def rLess (a b c d : Int) : Bool :=
  if 0 ≤ a ∧ c < 0 then true else if a < 0 ∧ 0 ≤ c then false
  else if a = 0 ∧ c = 0 then (if 0 ≤ b ∨ 0 ≤ d then decide (b < d) else decide (d < b))
  else if a * d - b * c ≠ 0 then decide (0 < a * d - b * c) else decide (a * a + b * b < c * c + d * d)

theorem zero_I : Fl.isI 0 0 := by
  have h : Ieee.double.read 0 = .number false 0 (-1074) := by decide
  refine ⟨by unfold Fl.fin; rw [h], ?_⟩
  unfold Fl.val
  rw [h]
  show Fl.num _ _ _ = _
  unfold Fl.num
  simp

theorem cross_any (a b c d p q r : Nat) (w : World) (h1 : floatBits .mul .f64 a d = some p) (h2 : floatBits .mul .f64 b c = some q) (h3 : floatBits .sub .f64 p q = some r) :
    Calls Try.prog 125 #[.agg #[.float .f64 a, .float .f64 b], .agg #[.float .f64 c, .float .f64 d]] w fun e w' => e = .returned (.float .f64 r) ∧ Below w.heap.size w w' := by
  have k1 := hop h1
  have k2 := hop h2
  have k3 := hop h3
  clear h1 h2 h3
  go_enter Try.func125, Try.ntmps125
  go_wp2
  go_ret
  exact ⟨rfl, (by (repeat (first | exact Below.refl _ _ | assumption | refine Below.drew ?_ | refine below_drewN ?_ _ | refine Below.alloc ?_ (by first | (simp; done) | omega | (simp; omega)) _ | refine Below.setCell ?_ (by first | (simp; done) | omega | (simp; omega)) _ | refine Since.below (by assumption) ?_ (by first | (simp; done) | omega | (simp; omega)) | refine Below.trans ?_ (Below.mono (by assumption) (by first | (simp; done) | omega | (simp; omega))))))⟩

theorem dot_any (a b c d p q r : Nat) (w : World) (h1 : floatBits .mul .f64 a c = some p) (h2 : floatBits .mul .f64 b d = some q) (h3 : floatBits .add .f64 p q = some r) :
    Calls Try.prog 135 #[.agg #[.float .f64 a, .float .f64 b], .agg #[.float .f64 c, .float .f64 d]] w fun e w' => e = .returned (.float .f64 r) ∧ Below w.heap.size w w' := by
  have k1 := hop h1
  have k2 := hop h2
  have k3 := hop h3
  clear h1 h2 h3
  go_enter Try.func135, Try.ntmps135
  go_wp2
  go_ret
  exact ⟨rfl, (by (repeat (first | exact Below.refl _ _ | assumption | refine Below.drew ?_ | refine below_drewN ?_ _ | refine Below.alloc ?_ (by first | (simp; done) | omega | (simp; omega)) _ | refine Below.setCell ?_ (by first | (simp; done) | omega | (simp; omega)) _ | refine Since.below (by assumption) ?_ (by first | (simp; done) | omega | (simp; omega)) | refine Below.trans ?_ (Below.mono (by assumption) (by first | (simp; done) | omega | (simp; omega))))))⟩

theorem lengthSq_any (a b p q r : Nat) (w : World) (h1 : floatBits .mul .f64 a a = some p) (h2 : floatBits .mul .f64 b b = some q) (h3 : floatBits .add .f64 p q = some r) :
    Calls Try.prog 126 #[.agg #[.float .f64 a, .float .f64 b]] w fun e w' => e = .returned (.float .f64 r) ∧ Below w.heap.size w w' := by
  have H1 := Lib.hid h1
  have H2 := Lib.hid h2
  have H3 := Lib.hid h3
  clear h1 h2 h3
  go_enter Try.func126, Try.ntmps126
  go_wp2_with (go_at_call 135; refine (dot_any _ _ _ _ _ _ _ _ H1.out H2.out H3.out).mono ?_; rintro e w2 ⟨rfl, hb⟩)
  go_ret
  exact ⟨rfl, (by (repeat (first | exact Below.refl _ _ | assumption | refine Below.drew ?_ | refine below_drewN ?_ _ | refine Below.alloc ?_ (by first | (simp; done) | omega | (simp; omega)) _ | refine Below.setCell ?_ (by first | (simp; done) | omega | (simp; omega)) _ | refine Since.below (by assumption) ?_ (by first | (simp; done) | omega | (simp; omega)) | refine Below.trans ?_ (Below.mono (by assumption) (by first | (simp; done) | omega | (simp; omega))))))⟩

theorem mul_bd (x y : Int) (h1 : -1048576 ≤ x) (h2 : x ≤ 1048576) (h3 : -1048576 ≤ y) (h4 : y ≤ 1048576) : -1099511627776 ≤ x * y ∧ x * y ≤ 1099511627776 := by
  have a1 := Int.mul_nonneg (a := 1048576 - x) (b := 1048576 - y) (by omega) (by omega)
  have a2 := Int.mul_nonneg (a := 1048576 - x) (b := 1048576 + y) (by omega) (by omega)
  have a3 := Int.mul_nonneg (a := 1048576 + x) (b := 1048576 - y) (by omega) (by omega)
  have a4 := Int.mul_nonneg (a := 1048576 + x) (b := 1048576 + y) (by omega) (by omega)
  rw [Int.sub_mul, Int.mul_sub, Int.mul_sub] at a1
  rw [Int.sub_mul, Int.mul_add, Int.mul_add] at a2
  rw [Int.add_mul, Int.mul_sub, Int.mul_sub] at a3
  rw [Int.add_mul, Int.mul_add, Int.mul_add] at a4
  constructor <;> omega

set_option maxHeartbeats 1000000 in
set_option maxRecDepth 100000 in
theorem radialLess_any (xa xb xc xd : Nat) (a b c d : Int) (w : World) (ia : Fl.isI xa a) (ib : Fl.isI xb b) (ic : Fl.isI xc c) (id : Fl.isI xd d)
    (la : -1048576 ≤ a) (ua : a ≤ 1048576) (lb : -1048576 ≤ b) (ub : b ≤ 1048576) (lc : -1048576 ≤ c) (uc : c ≤ 1048576) (ld : -1048576 ≤ d) (ud : d ≤ 1048576) :
    Calls Try.prog 101 #[.agg #[.float .f64 xa, .float .f64 xb], .agg #[.float .f64 xc, .float .f64 xd]] w fun e w' => e = .returned (.bool (rLess a b c d)) ∧ Below w.heap.size w w' := by
  have m1 := mul_bd a d la ua ld ud
  have m2 := mul_bd b c lb ub lc uc
  have m3 := mul_bd a a la ua la ua
  have m4 := mul_bd b b lb ub lb ub
  have m5 := mul_bd c c lc uc lc uc
  have m6 := mul_bd d d ld ud ld ud
  obtain ⟨p1, hp1, ip1⟩ := Fl.mul_I ia id (by omega)
  obtain ⟨p2, hp2, ip2⟩ := Fl.mul_I ib ic (by omega)
  obtain ⟨p3, hp3, ip3⟩ := Fl.sub_I ip1 ip2 (by omega)
  obtain ⟨q1, hq1, iq1⟩ := Fl.mul_I ia ia (by omega)
  obtain ⟨q2, hq2, iq2⟩ := Fl.mul_I ib ib (by omega)
  obtain ⟨q3, hq3, iq3⟩ := Fl.add_I iq1 iq2 (by omega)
  obtain ⟨r1, hr1, ir1⟩ := Fl.mul_I ic ic (by omega)
  obtain ⟨r2, hr2, ir2⟩ := Fl.mul_I id id (by omega)
  obtain ⟨r3, hr3, ir3⟩ := Fl.add_I ir1 ir2 (by omega)
  have e1 := Fl.gt_I ia zero_I
  have e2 := Fl.gt_I ib zero_I
  have e3 := Fl.gt_I ic zero_I
  have e4 := Fl.gt_I id zero_I
  have f1 := Fl.eq_I ia zero_I
  have f2 := Fl.eq_I ib zero_I
  have f3 := Fl.eq_I ic zero_I
  have f4 := Fl.eq_I id zero_I
  have f5 := Fl.lt_I ia zero_I
  have f6 := Fl.lt_I ic zero_I
  have f9 := Fl.lt_I ib id
  have f10 := Fl.lt_I id ib
  have f11 := Fl.ne_I ip3 zero_I
  have f12 := Fl.gt_I ip3 zero_I
  have f13 := Fl.lt_I iq3 ir3
  have P1 := Lib.hid hp1
  have P2 := Lib.hid hp2
  have P3 := Lib.hid hp3
  have Q1 := Lib.hid hq1
  have Q2 := Lib.hid hq2
  have Q3 := Lib.hid hq3
  have R1 := Lib.hid hr1
  have R2 := Lib.hid hr2
  have R3 := Lib.hid hr3
  clear m1 m2 m3 m4 m5 m6 hp1 hp2 hp3 hq1 hq2 hq3 hr1 hr2 hr3 ip1 ip2 ip3 iq1 iq2 iq3 ir1 ir2 ir3 la ua lb ub lc uc ld ud ia ib ic id
  have nn02 : w.heap.size < w.heap.size + 1 + 1 := (by omega); have nn03 : w.heap.size < w.heap.size + 1 + 1 + 1 := (by omega); have nn13 : w.heap.size + 1 < w.heap.size + 1 + 1 + 1 := (by omega); have nn04 : w.heap.size < w.heap.size + 1 + 1 + 1 + 1 := (by omega); have nn14 : w.heap.size + 1 < w.heap.size + 1 + 1 + 1 + 1 := (by omega); have nn24 : w.heap.size + 1 + 1 < w.heap.size + 1 + 1 + 1 + 1 := (by omega)
  go_enter Try.func101, Try.ntmps101
  go_wp2_with (first
    | (go_at_call 125; refine (cross_any _ _ _ _ _ _ _ _ P1.out P2.out P3.out).mono ?_; rintro e w2 ⟨rfl, hb⟩; have hc := (bcell hb).1; have hf := (bcell hb).2.1; have hq0 : w.heap.size < w2.heap.size := (by have hsz := hb.size; (try simp at hsz); omega); have hq1 : w.heap.size + 1 < w2.heap.size := (by have hsz := hb.size; (try simp at hsz); omega))
    | (go_at_call 126; refine (lengthSq_any _ _ _ _ _ _ Q1.out Q2.out Q3.out).mono ?_; rintro e w2 ⟨rfl, hb⟩; have hc := (bcell hb).1; have hf := (bcell hb).2.1; have hq0 : w.heap.size < w2.heap.size := (by have hsz := hb.size; (try simp at hsz); omega); have hq1 : w.heap.size + 1 < w2.heap.size := (by have hsz := hb.size; (try simp at hsz); omega))
    | (go_at_call 126; refine (lengthSq_any _ _ _ _ _ _ R1.out R2.out R3.out).mono ?_; rintro e w2 ⟨rfl, hb⟩; have hc := (bcell hb).1; have hf := (bcell hb).2.1; have hq0 : w.heap.size < w2.heap.size := (by have hsz := hb.size; (try simp at hsz); omega); have hq1 : w.heap.size + 1 < w2.heap.size := (by have hsz := hb.size; (try simp at hsz); omega)))
  all_goals
    go_ret
    refine ⟨?_, (by (repeat (first | exact Below.refl _ _ | assumption | refine Below.drew ?_ | refine below_drewN ?_ _ | refine Below.alloc ?_ (by first | (simp; done) | omega | (simp; omega)) _ | refine Below.setCell ?_ (by first | (simp; done) | omega | (simp; omega)) _ | refine Since.below (by assumption) ?_ (by first | (simp; done) | omega | (simp; omega)) | refine Below.trans ?_ (Below.mono (by assumption) (by first | (simp; done) | omega | (simp; omega))))))⟩
    show Ending.returned (Value.bool _) = Ending.returned (Value.bool _)
    congr 2
    unfold rLess
    grind

/-! ### the reference -/
def quar (a b : Int) : Int := if 0 < a then 1 else if a < 0 then 3 else if 0 < b then 2 else 0
def sLess (a b c d : Int) : Bool :=
  if quar a b ≠ quar c d then decide (quar a b < quar c d)
  else if a * d - b * c ≠ 0 then decide (0 < a * d - b * c) else decide (a * a + b * b < c * c + d * d)

theorem quarter_any (a b : Int) (w : World) : Calls Try.prog 68 #[.agg #[.int .i64 a, .int .i64 b]] w fun e w' => e = .returned (.int .i64 (quar a b)) ∧ Below w.heap.size w w' := by
  go_enter Try.func68, Try.ntmps68
  go_wp2
  all_goals
    go_ret
    refine ⟨?_, (by (repeat (first | exact Below.refl _ _ | assumption | refine Below.drew ?_ | refine below_drewN ?_ _ | refine Below.alloc ?_ (by first | (simp; done) | omega | (simp; omega)) _ | refine Below.setCell ?_ (by first | (simp; done) | omega | (simp; omega)) _ | refine Since.below (by assumption) ?_ (by first | (simp; done) | omega | (simp; omega)) | refine Below.trans ?_ (Below.mono (by assumption) (by first | (simp; done) | omega | (simp; omega))))))⟩
    show Ending.returned (Value.int _ _) = Ending.returned (Value.int _ _)
    congr 2
    unfold quar
    grind

set_option maxHeartbeats 1000000 in
set_option maxRecDepth 100000 in
theorem specLess_any (a b c d : Int) (w : World) (la : -1048576 ≤ a) (ua : a ≤ 1048576) (lb : -1048576 ≤ b) (ub : b ≤ 1048576) (lc : -1048576 ≤ c) (uc : c ≤ 1048576) (ld : -1048576 ≤ d) (ud : d ≤ 1048576) :
    Calls Try.prog 26 #[.agg #[.int .i64 a, .int .i64 b], .agg #[.int .i64 c, .int .i64 d]] w fun e w' => e = .returned (.bool (sLess a b c d)) ∧ Below w.heap.size w w' := by
  obtain ⟨n1, m1⟩ := mul_bd a d la ua ld ud
  obtain ⟨n2, m2⟩ := mul_bd b c lb ub lc uc
  obtain ⟨n3, m3⟩ := mul_bd a a la ua la ua
  obtain ⟨n4, m4⟩ := mul_bd b b lb ub lb ub
  obtain ⟨n5, m5⟩ := mul_bd c c lc uc lc uc
  obtain ⟨n6, m6⟩ := mul_bd d d ld ud ld ud
  have nn02 : w.heap.size < w.heap.size + 1 + 1 := (by omega); have nn03 : w.heap.size < w.heap.size + 1 + 1 + 1 := (by omega); have nn13 : w.heap.size + 1 < w.heap.size + 1 + 1 + 1 := (by omega); have nn04 : w.heap.size < w.heap.size + 1 + 1 + 1 + 1 := (by omega); have nn14 : w.heap.size + 1 < w.heap.size + 1 + 1 + 1 + 1 := (by omega); have nn24 : w.heap.size + 1 + 1 < w.heap.size + 1 + 1 + 1 + 1 := (by omega)
  go_enter Try.func26, Try.ntmps26
  go_wp2_with fail
  (refine region_start (by kernel_rfl) ?_)
  generalize hW : World.drew _ = W; have HB : Below w.heap.size w W := (by (rw [← hW]; (repeat (first | exact Below.refl _ _ | assumption | refine Below.drew ?_ | refine below_drewN ?_ _ | refine Below.alloc ?_ (by first | (simp; done) | omega | (simp; omega)) _ | refine Below.setCell ?_ (by first | (simp; done) | omega | (simp; omega)) _ | refine Since.below (by assumption) ?_ (by first | (simp; done) | omega | (simp; omega)) | refine Below.trans ?_ (Below.mono (by assumption) (by first | (simp; done) | omega | (simp; omega))))))); have B0 : Blk W w.heap.size 42 #[.int .i64 a, .int .i64 b] := (by (rw [← hW]; (repeat (first | exact Blk.new' (by first | rfl | (simp; done) | (simp; omega)) | refine Blk.drew ?_ | refine Blk.alloc ?_ _)))); have B1 : Blk W (w.heap.size + 1) 42 #[.int .i64 c, .int .i64 d] := (by (rw [← hW]; (repeat (first | exact Blk.new' (by first | rfl | (simp; done) | (simp; omega)) | refine Blk.drew ?_ | refine Blk.alloc ?_ _)))); clear hW
  have l0 := B0.lt; have f0 := B0.frozen; have c0_0 := B0.cell_ 0 rfl; have c0_1 := B0.cell_ 1 rfl; have l1 := B1.lt; have f1 := B1.frozen; have c1_0 := B1.cell_ 0 rfl; have c1_1 := B1.cell_ 1 rfl
  (refine from_stretch (Since _) 0 6 (by kernel_rfl) (Since.refl _) ?_; simp only [List.take_succ_cons, List.take_zero, List.drop_zero]; (iterate 6 (refine wpStay_step (Since.ne _) ⟨?_, ?_, ?_, ?_⟩; rotate_left 2; (intro w1 hS K hK; have hc := Since.cell hS; have hf := Since.frz hS; have hz := Since.size hS; go_simp; (first | exact hK _ hS | (go_at_call 68; refine (quarter_any _ _ _).mono ?_; rintro e w2 ⟨rfl, hb⟩; (try go_simp); exact hK _ (hS.then hb)))); rotate_left 1; rfl)); refine wpStay_nil ?_; intro w1 hS; have hc := Since.cell hS; have hf := Since.frz hS; have hz := Since.size hS)
  have HB := below_step HB hS; have B0 := B0.below hS B0.lt; have B1 := B1.below hS B1.lt
  clear hc hf hz
  have l0 := B0.lt; have f0 := B0.frozen; have c0_0 := B0.cell_ 0 rfl; have c0_1 := B0.cell_ 1 rfl; have l1 := B1.lt; have f1 := B1.frozen; have c1_0 := B1.cell_ 0 rfl; have c1_1 := B1.cell_ 1 rfl
  (refine from_end (by kernel_rfl) ?_)
  go_wp2
  all_goals
    go_ret
    refine ⟨?_, (by (repeat (first | exact Below.refl _ _ | assumption | refine Below.drew ?_ | refine below_drewN ?_ _ | refine Below.alloc ?_ (by first | (simp; done) | omega | (simp; omega)) _ | refine Below.setCell ?_ (by first | (simp; done) | omega | (simp; omega)) _ | refine Since.below (by assumption) ?_ (by first | (simp; done) | omega | (simp; omega)) | refine Below.trans ?_ (Below.mono (by assumption) (by first | (simp; done) | omega | (simp; omega))))))⟩
    show Ending.returned (Value.bool _) = Ending.returned (Value.bool _)
    congr 2
    unfold sLess
    grind

theorem less_eq (a b c d : Int) (h1 : ¬ (a = 0 ∧ b = 0)) (h2 : ¬ (c = 0 ∧ d = 0)) : rLess a b c d = sLess a b c d := by
  by_cases ha : a = 0
  · subst ha
    by_cases hc : c = 0
    · subst hc
      have hb : b ≠ 0 := by omega
      have hd : d ≠ 0 := by omega
      have key : (b * b < d * d) ↔ (b.natAbs < d.natAbs) := by
        rw [← Int.natAbs_mul_self (a := b), ← Int.natAbs_mul_self (a := d)]
        constructor
        · intro h
          have h' : b.natAbs * b.natAbs < d.natAbs * d.natAbs := by exact_mod_cast h
          exact Nat.lt_of_not_le fun hle => absurd (Nat.mul_le_mul hle hle) (by omega)
        · intro h
          have h' : b.natAbs * b.natAbs < d.natAbs * d.natAbs := Nat.mul_lt_mul_of_lt_of_lt h h
          exact_mod_cast h'
      unfold rLess sLess quar
      simp [key]
      grind
    · have hb : b ≠ 0 := by omega
      unfold rLess sLess quar
      rcases Int.lt_or_lt_of_ne hb with hb' | hb' <;> rcases Int.lt_or_lt_of_ne hc with hc' | hc'
      · have := Int.mul_pos_of_neg_of_neg hb' hc'; grind
      · have := Int.mul_neg_of_neg_of_pos hb' hc'; grind
      · have := Int.mul_neg_of_pos_of_neg hb' hc'; grind
      · have := Int.mul_pos hb' hc'; grind
  · by_cases hc : c = 0
    · subst hc
      have hd : d ≠ 0 := by omega
      unfold rLess sLess quar
      rcases Int.lt_or_lt_of_ne hd with hd' | hd' <;> rcases Int.lt_or_lt_of_ne ha with ha' | ha'
      · have := Int.mul_pos_of_neg_of_neg ha' hd'; grind
      · have := Int.mul_neg_of_pos_of_neg ha' hd'; grind
      · have := Int.mul_neg_of_neg_of_pos ha' hd'; grind
      · have := Int.mul_pos ha' hd'; grind
    · unfold rLess sLess quar
      grind

theorem xyOf_any (x y : Int) (w : World) : Calls Try.prog 25 #[.agg #[.int .i64 x, .int .i64 y]] w fun e w' => e = .returned (.agg #[.float .f64 (floatOfInt .f64 x), .float .f64 (floatOfInt .f64 y)]) ∧ Below w.heap.size w w' := by
  go_enter Try.func25, Try.ntmps25
  go_wp2
  refine bodyPost_ret (v := .agg #[.float .f64 (floatOfInt .f64 x), .float .f64 (floatOfInt .f64 y)]) (by simp [results, Try.results25, go_sem]) rfl ⟨rfl, ?_⟩
  (repeat (first | exact Below.refl _ _ | assumption | refine Below.drew ?_ | refine below_drewN ?_ _ | refine Below.alloc ?_ (by first | (simp; done) | omega | (simp; omega)) _ | refine Below.setCell ?_ (by first | (simp; done) | omega | (simp; omega)) _ | refine Since.below (by assumption) ?_ (by first | (simp; done) | omega | (simp; omega)) | refine Below.trans ?_ (Below.mono (by assumption) (by first | (simp; done) | omega | (simp; omega)))))

theorem door_any (xa xb xc xd : Nat) (a b c d : Int) (w : World) (ia : Fl.isI xa a) (ib : Fl.isI xb b) (ic : Fl.isI xc c) (id : Fl.isI xd d)
    (la : -1048576 ≤ a) (ua : a ≤ 1048576) (lb : -1048576 ≤ b) (ub : b ≤ 1048576) (lc : -1048576 ≤ c) (uc : c ≤ 1048576) (ld : -1048576 ≤ d) (ud : d ≤ 1048576) :
    Calls Try.prog 67 #[.agg #[.float .f64 xa, .float .f64 xb], .agg #[.float .f64 xc, .float .f64 xd]] w fun e w' => e = .returned (.bool (rLess a b c d)) ∧ Below w.heap.size w w' := by
  have H := fun W => Lib.hid (radialLess_any xa xb xc xd a b c d W ia ib ic id la ua lb ub lc uc ld ud)
  go_enter Try.func67, Try.ntmps67
  go_wp2_with (go_at_call 101; refine ((H _).out).mono ?_; rintro e w2 ⟨rfl, hb⟩)
  go_ret
  exact ⟨rfl, (by (repeat (first | exact Below.refl _ _ | assumption | refine Below.drew ?_ | refine below_drewN ?_ _ | refine Below.alloc ?_ (by first | (simp; done) | omega | (simp; omega)) _ | refine Below.setCell ?_ (by first | (simp; done) | omega | (simp; omega)) _ | refine Since.below (by assumption) ?_ (by first | (simp; done) | omega | (simp; omega)) | refine Below.trans ?_ (Below.mono (by assumption) (by first | (simp; done) | omega | (simp; omega))))))⟩

theorem implLess_any (xa xb xc xd : Nat) (a b c d : Int) (w : World) (ia : Fl.isI xa a) (ib : Fl.isI xb b) (ic : Fl.isI xc c) (id : Fl.isI xd d)
    (la : -1048576 ≤ a) (ua : a ≤ 1048576) (lb : -1048576 ≤ b) (ub : b ≤ 1048576) (lc : -1048576 ≤ c) (uc : c ≤ 1048576) (ld : -1048576 ≤ d) (ud : d ≤ 1048576) :
    Calls Try.prog 24 #[.agg #[.float .f64 xa, .float .f64 xb], .agg #[.float .f64 xc, .float .f64 xd]] w fun e w' => e = .returned (.bool (rLess a b c d)) ∧ Below w.heap.size w w' := by
  have H := fun W => Lib.hid (door_any xa xb xc xd a b c d W ia ib ic id la ua lb ub lc uc ld ud)
  have nn02 : w.heap.size < w.heap.size + 1 + 1 := (by omega); have nn03 : w.heap.size < w.heap.size + 1 + 1 + 1 := (by omega); have nn13 : w.heap.size + 1 < w.heap.size + 1 + 1 + 1 := (by omega); have nn04 : w.heap.size < w.heap.size + 1 + 1 + 1 + 1 := (by omega); have nn14 : w.heap.size + 1 < w.heap.size + 1 + 1 + 1 + 1 := (by omega); have nn24 : w.heap.size + 1 + 1 < w.heap.size + 1 + 1 + 1 + 1 := (by omega)
  go_enter Try.func24, Try.ntmps24
  go_wp2_with fail
  (refine region_start (by kernel_rfl) ?_)
  generalize hW : World.drew _ = W; have HB : Below w.heap.size w W := (by (rw [← hW]; (repeat (first | exact Below.refl _ _ | assumption | refine Below.drew ?_ | refine below_drewN ?_ _ | refine Below.alloc ?_ (by first | (simp; done) | omega | (simp; omega)) _ | refine Below.setCell ?_ (by first | (simp; done) | omega | (simp; omega)) _ | refine Since.below (by assumption) ?_ (by first | (simp; done) | omega | (simp; omega)) | refine Below.trans ?_ (Below.mono (by assumption) (by first | (simp; done) | omega | (simp; omega))))))); have B0 : Blk W w.heap.size 36 #[.float .f64 xa, .float .f64 xb] := (by (rw [← hW]; (repeat (first | exact Blk.new' (by first | rfl | (simp; done) | (simp; omega)) | refine Blk.drew ?_ | refine Blk.alloc ?_ _)))); have B1 : Blk W (w.heap.size + 1) 36 #[.float .f64 xc, .float .f64 xd] := (by (rw [← hW]; (repeat (first | exact Blk.new' (by first | rfl | (simp; done) | (simp; omega)) | refine Blk.drew ?_ | refine Blk.alloc ?_ _)))); clear hW
  have l0 := B0.lt; have f0 := B0.frozen; have c0_0 := B0.cell_ 0 rfl; have c0_1 := B0.cell_ 1 rfl; have l1 := B1.lt; have f1 := B1.frozen; have c1_0 := B1.cell_ 0 rfl; have c1_1 := B1.cell_ 1 rfl
  (refine from_stretch (Since _) 0 6 (by kernel_rfl) (Since.refl _) ?_; simp only [List.take_succ_cons, List.take_zero, List.drop_zero]; (iterate 6 (refine wpStay_step (Since.ne _) ⟨?_, ?_, ?_, ?_⟩; rotate_left 2; (intro w1 hS K hK; have hc := Since.cell hS; have hf := Since.frz hS; have hz := Since.size hS; go_simp; (first | exact hK _ hS | (go_at_call 64; refine (xy_any _ _ _).mono ?_; rintro e w2 ⟨rfl, hb⟩; (try go_simp); exact hK _ (hS.then hb)) | (go_at_call 67; refine ((H _).out).mono ?_; rintro e w2 ⟨rfl, hb⟩; (try go_simp); exact hK _ (hS.then hb)))); rotate_left 1; rfl)); refine wpStay_nil ?_; intro w1 hS; have hc := Since.cell hS; have hf := Since.frz hS; have hz := Since.size hS)
  have HB := below_step HB hS
  (refine from_end (by kernel_rfl) ?_)
  go_wp2
  go_ret
  exact ⟨rfl, HB⟩

theorem eq_Pt (a b c d : Int) : ∀ w, (binOp .eql 42 (.agg #[.int .i64 a, .int .i64 b]) (.agg #[.int .i64 c, .int .i64 d])).run Try.prog w = .ok (.bool ((a == c) && (b == d))) w := by
  intro w
  simp only [binOp]
  simp [Op.equal, Op.maxDepth, run_equalIn_struct, go_sem]
  by_cases h1 : a = c <;> by_cases h2 : b = d <;> simp [h1, h2]

end Go.Proofs.Ytciblaabghiefaa.fnRadialLess
