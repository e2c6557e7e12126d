/- The package's signed area of a closed line of whole places. -/
import Derived.Test.YtciblaabghiefaaRing3
import Derived.Test.YtciblaabghiefaaGetXY
namespace Go.Proofs.Ytciblaabghiefaa
open Go.RowKit
attribute [local go_sem] run_store_float
set_option maxRecDepth 100000

theorem fnums_nth {ps : List (Int × Int)} {i : Nat} (hi : i < ps.length) : nth (fnums ps) (i * 2) = floatOfInt .f64 (px ps i) ∧ nth (fnums ps) (i * 2 + 1) = floatOfInt .f64 (py ps i) := by
  have key : ∀ (ps : List (Int × Int)) (i : Nat), i < ps.length → (fnums ps)[i * 2]? = some (floatOfInt .f64 (px ps i)) ∧ (fnums ps)[i * 2 + 1]? = some (floatOfInt .f64 (py ps i)) := by
    intro ps
    induction ps with
    | nil => intro i hi; simp at hi
    | cons p ps ih =>
      intro i hi
      cases i with
      | zero => simp [fnums, px, py]
      | succ i =>
        have := ih i (by simpa using hi)
        have e : fnums (p :: ps) = [floatOfInt .f64 p.1, floatOfInt .f64 p.2] ++ fnums ps := by simp [fnums]
        rw [e]
        have h1 : px (p :: ps) (i + 1) = px ps i := by simp [px]
        have h2 : py (p :: ps) (i + 1) = py ps i := by simp [py]
        rw [h1, h2, List.getElem?_append_right (by simp; omega), List.getElem?_append_right (by simp; omega)]
        simp only [List.length_cons, List.length_nil]
        rw [show (i + 1) * 2 - (0 + 1 + 1) = i * 2 by omega, show (i + 1) * 2 + 1 - (0 + 1 + 1) = i * 2 + 1 by omega]
        exact this
  obtain ⟨h1, h2⟩ := key ps i hi
  unfold nth
  rw [h1, h2]
  exact ⟨rfl, rfl⟩

theorem nilFunc_ne (w : World) : (binOp .neq 106 .nilFunc .nilFunc).run Try.prog w = .ok (.bool false) w := by kernel_rfl

set_option maxHeartbeats 1000000 in
theorem nth_any (A : Option Addr) (m c g6 g3 : Nat) (xs : List Nat) (i : Nat) (w : World) (B6 : Blk w g6 97 #[.int .u8 0, .slice A m c]) (B3 : Blk w g3 106 #[.nilFunc]) (h : Reads w w.heap.size 1 A m (xs.map fl)) (hm : xs.length = m) (hn : m ≤ 2147483647) (hi : i * 2 + 2 ≤ m) :
    Calls Try.prog 128 #[.int .i64 i, .pointer (some ⟨g6, 0, none⟩), .pointer (some ⟨g3, 0, none⟩)] w fun e w' =>
      e = .returned (.agg #[.float .f64 (nth xs (i * 2)), .float .f64 (nth xs (i * 2 + 1))]) ∧ Below w.heap.size w w' := by
  subst hm
  have HG := fun W hW => Lib.hid (getXY_any 0 (.inl rfl) A c xs i W ((h.below hW).more hW.size) hn (by simpa [wd] using hi))
  rw [show wd 0 = 2 from rfl] at HG
  clear h hn hi
  generalize nth xs (i * 2) = x at *
  generalize nth xs (i * 2 + 1) = y at *
  generalize xs.length = m at *
  have hne := nilFunc_ne
  have l6 := B6.lt; have f6 := B6.frozen; have c6_0 := B6.cell_ 0 rfl; have c6_1 := B6.cell_ 1 rfl; have l3 := B3.lt; have f3 := B3.frozen; have c3_0 := B3.cell_ 0 rfl
  go_enter Try.func128, Try.ntmps128
  go_wp2_with (go_at_call 84; (with_reducible refine Calls.mono ((HG _ (by (repeat (first | (with_reducible exact Below.refl _ _) | (with_reducible assumption) | (with_reducible refine Below.drew ?_) | (with_reducible refine below_drewN ?_ _) | ((with_reducible refine below_alloc' ?_ ?_); (focus (first | (simp; done) | omega | (simp; omega)))) | ((with_reducible refine below_set' ?_ ?_); (focus (first | (simp; done) | omega | (simp; omega)))) | (with_reducible refine below_step ?_ (by assumption)) | (with_reducible refine below_step_since ?_ (by assumption)) | ((with_reducible refine below_since' (by assumption) ?_ ?_); (focus (first | (simp; done) | omega | (simp; omega)))) | ((with_reducible refine below_trans' (by assumption) ?_ ?_); (focus (first | (simp; done) | omega | (simp; omega)))))))).out) ?_); rintro e w2 ⟨rfl, hb⟩; have HB : Below w.heap.size w w2 := (by (repeat (first | (with_reducible exact Below.refl _ _) | (with_reducible assumption) | (with_reducible refine Below.drew ?_) | (with_reducible refine below_drewN ?_ _) | ((with_reducible refine below_alloc' ?_ ?_); (focus (first | (simp; done) | omega | (simp; omega)))) | ((with_reducible refine below_set' ?_ ?_); (focus (first | (simp; done) | omega | (simp; omega)))) | (with_reducible refine below_step ?_ (by assumption)) | (with_reducible refine below_step_since ?_ (by assumption)) | ((with_reducible refine below_since' (by assumption) ?_ ?_); (focus (first | (simp; done) | omega | (simp; omega)))) | ((with_reducible refine below_trans' (by assumption) ?_ ?_); (focus (first | (simp; done) | omega | (simp; omega))))))); have B9 : Blk w2 w.heap.size 104 #[.float .f64 0, .float .f64 0] := (Blk.new w _ _).below hb (by simp); replace B3 := (B3.alloc (.cells #[.float .f64 0, .float .f64 0] 104)).below hb (by simp; omega); clear hb; clear l6 f6 c6_0 c6_1 l3 f3 c3_0; have l9 := B9.lt; have f9 := B9.frozen; have c9_0 := B9.cell_ 0 rfl; have c9_1 := B9.cell_ 1 rfl; have l3 := B3.lt; have f3 := B3.frozen; have c3_0 := B3.cell_ 0 rfl)
  have K9 := ((B9.set_ 0 (.float .f64 x)).set_ 1 (.float .f64 y)).alloc (.cells #[.float .f64 x, .float .f64 y] 104)
  simp only [List.setIfInBounds_toArray, List.set_cons_zero, List.set_cons_succ] at K9
  have hz := HB.size
  refine bodyPost_ret (results_cell_row Try.results128 _ _ _ _ _ (0, 0) _ rfl K9 Try.underlying104 rfl (by kernel_rfl)) rfl ⟨rfl, ?_⟩
  (repeat (first | (with_reducible exact Below.refl _ _) | (with_reducible assumption) | (with_reducible refine Below.drew ?_) | (with_reducible refine below_drewN ?_ _) | ((with_reducible refine below_alloc' ?_ ?_); (focus (first | (simp; done) | omega | (simp; omega)))) | ((with_reducible refine below_set' ?_ ?_); (focus (first | (simp; done) | omega | (simp; omega)))) | (with_reducible refine below_step ?_ (by assumption)) | (with_reducible refine below_step_since ?_ (by assumption)) | ((with_reducible refine below_since' (by assumption) ?_ ?_); (focus (first | (simp; done) | omega | (simp; omega)))) | ((with_reducible refine below_trans' (by assumption) ?_ ?_); (focus (first | (simp; done) | omega | (simp; omega))))))

theorem half_int {s : Nat} {n : Int} (h : Fl.isI s n) (hn : n.natAbs ≤ 9007199254740992) : ∃ r, floatBits .quo .f64 s 4611686018427387904 = some r ∧ Fl.fin r = true ∧ Fl.val r = (n : Rat) * Fl.p2 (-1) := by
  have h2 : Fl.p2 (-1) = 1 / 2 := by
    have := Fl.p2_inv 1
    rw [Fl.p2_one] at this
    grind
  obtain ⟨_, _, _, _, _, b1, b2⟩ := Fl.Rep.int hn
  have h0 : 0 < Fl.p2 1024 := Fl.p2_pos _
  obtain ⟨r, e, f, v⟩ := Fl.half_rep h.1 (by rw [h.2]; exact ⟨n, -1, rfl, hn, by omega, by rw [h2]; grind, by rw [h2]; grind⟩)
  exact ⟨r, e, f, by rw [v, h.2]⟩

/-- The shoelace sum of the first k steps. -/
def sh (ps : List (Int × Int)) : Nat → Int
  | 0 => 0
  | k + 1 => sh ps k + (px ps (k + 1) + px ps k) * (py ps (k + 1) - py ps k)
theorem term_bd {ps : List (Int × Int)} (h : inP ps) (k : Nat) : -4398046511104 ≤ (px ps (k + 1) + px ps k) * (py ps (k + 1) - py ps k) ∧ (px ps (k + 1) + px ps k) * (py ps (k + 1) - py ps k) ≤ 4398046511104 := by
  have h1 := h k
  have h2 := h (k + 1)
  exact mul_bd (m := 2097152) (k := 2097152) (by omega) (by omega)
theorem sh_bd {ps : List (Int × Int)} (h : inP ps) : ∀ k : Nat, -(4398046511104 * (k : Int)) ≤ sh ps k ∧ sh ps k ≤ 4398046511104 * (k : Int)
  | 0 => by simp [sh]
  | k + 1 => by
    have := sh_bd h k
    have h1 := term_bd h k
    rw [sh]
    omega
/-- Both sums are the same for a closed line. -/
theorem sh_cr (ps : List (Int × Int)) : ∀ k : Nat, sh ps k = cr ps (k + 1) + (px ps k * py ps k - px ps 0 * py ps 0)
  | 0 => by simp [sh, cr]
  | k + 1 => by
    rw [sh, sh_cr ps k, cr_step ps (show 0 < k + 1 by omega)]
    simp only [Nat.add_sub_cancel]
    grind

set_option maxHeartbeats 2000000 in
theorem area_any (A : Option Addr) (c n : Nat) (ps : List (Int × Int)) (w : World) (h : Reads w w.heap.size 1 A (2 * n) ((fnums ps).map fl)) (hl : ps.length = n) (h0 : 0 < n) (hn : n ≤ 200) (hp : inP ps) :
    Calls Try.prog 105 #[.agg #[.int .u8 0, .slice A (2 * n) c], .nilFunc] w fun e w' =>
      (∃ s r, e = .returned (.float .f64 r) ∧ Fl.isI s (sh ps (n - 1)) ∧ floatBits .quo .f64 s 4611686018427387904 = some r) ∧ Below w.heap.size w w' := by
  have hfl : (fnums ps).length = 2 * n := by rw [fnums_length, hl]
  have HN := fun (k : Nat) (hk : k < n) (g6 g3 : Nat) (W : World) (hW : Below w.heap.size w W) (B6 : Blk W g6 97 #[.int .u8 0, .slice A (2 * n) c]) (B3 : Blk W g3 106 #[.nilFunc]) => Lib.hid (nth_any A (2 * n) c g6 g3 (fnums ps) k W B6 B3 ((h.below hW).more hW.size) hfl (by omega) (by omega))
  have HN : ∀ (z : Int) (k : Nat), z = (k : Int) → k < n → ∀ (g6 g3 : Nat) (W : World), Below w.heap.size w W → Blk W g6 97 #[.int .u8 0, .slice A (2 * n) c] → Blk W g3 106 #[.nilFunc] → Hid (Calls Try.prog 128 #[.int .i64 z, .pointer (some ⟨g6, 0, none⟩), .pointer (some ⟨g3, 0, none⟩)] W fun e w' => e = .returned (.agg #[.float .f64 (floatOfInt .f64 (px ps k)), .float .f64 (floatOfInt .f64 (py ps k))]) ∧ Below W.heap.size W w') := by
    intro z k hz hk g6 g3 W hW B6 B3
    subst hz
    have := HN k hk g6 g3 W hW B6 B3
    rw [(fnums_nth (ps := ps) (i := k) (by omega)).1, (fnums_nth (ps := ps) (i := k) (by omega)).2] at this
    exact this
  have HL := fun W => Lib.hid (length_any 0 (.inl rfl) A (2 * n) c (by omega) W)
  have hq : (((2 * n : Nat) : Int) / ((wd 0 : Nat) : Int)) = (n : Int) := by
    rw [show wd 0 = 2 from rfl]; omega
  simp only [hq] at HL
  have hmf : ∀ (fn : Fn) (first cap : Array Value) (w : World), (Instr.makeFunc fn first cap).run Try.prog w = .ok (.func fn first cap) w := fun _ _ _ _ => rfl
  have HPP := Lib.hid hp
  clear h hfl hp hq
  have g1 : ¬ ((n : Int) = 0) := by omega
  have g2 : IntKind.i64.wrap ((n : Int) - 1) = ((n - 1 : Nat) : Int) := by rw [IntWalk.i64_in _ (by omega)]; omega
  have g3 : (n : Int) - 1 = ((n - 1 : Nat) : Int) := by omega
  have g4 : ((n : Int) == 0) = false := by simp; omega
  go_enter Try.func105, Try.ntmps105
  go_wp2_with (first
    | (go_at_call 60; (with_reducible refine Calls.mono (lineCoords_any _ _ _ _ _) ?_); rintro e wa ⟨rfl, hb⟩; have HB : Below w.heap.size w wa := (by (repeat (first | (with_reducible exact Below.refl _ _) | (with_reducible assumption) | (with_reducible refine Below.drew ?_) | (with_reducible refine below_drewN ?_ _) | ((with_reducible refine below_alloc' ?_ ?_); (focus (first | (simp; done) | omega | (simp; omega)))) | ((with_reducible refine below_set' ?_ ?_); (focus (first | (simp; done) | omega | (simp; omega)))) | (with_reducible refine below_step ?_ (by assumption)) | (with_reducible refine below_step_since ?_ (by assumption)) | ((with_reducible refine below_since' (by assumption) ?_ ?_); (focus (first | (simp; done) | omega | (simp; omega)))) | ((with_reducible refine below_trans' (by assumption) ?_ ?_); (focus (first | (simp; done) | omega | (simp; omega))))))); have B3 : Blk wa (w.heap.size + 1) 106 #[.nilFunc] := (Blk.new' (by simp)).below hb (by simp); clear hb; have hz1 := HB.size)
    | (go_at_call 61; (with_reducible refine Calls.mono (HL _).out ?_); rintro e wb ⟨rfl, hb⟩; have B6 : Blk wb wa.heap.size 97 #[.int .u8 0, .slice A (2 * n) c] := (Blk.new wa _ _).below hb (by simp); replace B3 := (B3.alloc (.cells #[.int .u8 0, .slice A (2 * n) c] 97)).below hb (by have := B3.lt; simp; omega); replace HB : Below w.heap.size w wb := (by (repeat (first | (with_reducible exact Below.refl _ _) | (with_reducible assumption) | (with_reducible refine Below.drew ?_) | (with_reducible refine below_drewN ?_ _) | ((with_reducible refine below_alloc' ?_ ?_); (focus (first | (simp; done) | omega | (simp; omega)))) | ((with_reducible refine below_set' ?_ ?_); (focus (first | (simp; done) | omega | (simp; omega)))) | (with_reducible refine below_step ?_ (by assumption)) | (with_reducible refine below_step_since ?_ (by assumption)) | ((with_reducible refine below_since' (by assumption) ?_ ?_); (focus (first | (simp; done) | omega | (simp; omega)))) | ((with_reducible refine below_trans' (by assumption) ?_ ?_); (focus (first | (simp; done) | omega | (simp; omega))))))); clear hb)
    | (go_at_call 128; (with_reducible refine Calls.mono (HN _ 0 (by simp) h0 _ _ _ HB B6 B3).out ?_); rintro e wd ⟨rfl, hb⟩; replace B6 := B6.below hb B6.lt; replace B3 := B3.below hb B3.lt; replace HB := below_step HB hb; clear hb))
  have B9 := Blk.new wd 104 #[.float .f64 (floatOfInt .f64 (px ps 0)), .float .f64 (floatOfInt .f64 (py ps 0))]
  have hz2 := HB.size
  replace HB : Below w.heap.size w (wd.alloc (.cells #[.float .f64 (floatOfInt .f64 (px ps 0)), .float .f64 (floatOfInt .f64 (py ps 0))] 104)) := (by (repeat (first | (with_reducible exact Below.refl _ _) | (with_reducible assumption) | (with_reducible refine Below.drew ?_) | (with_reducible refine below_drewN ?_ _) | ((with_reducible refine below_alloc' ?_ ?_); (focus (first | (simp; done) | omega | (simp; omega)))) | ((with_reducible refine below_set' ?_ ?_); (focus (first | (simp; done) | omega | (simp; omega)))) | (with_reducible refine below_step ?_ (by assumption)) | (with_reducible refine below_step_since ?_ (by assumption)) | ((with_reducible refine below_since' (by assumption) ?_ ?_); (focus (first | (simp; done) | omega | (simp; omega)))) | ((with_reducible refine below_trans' (by assumption) ?_ ?_); (focus (first | (simp; done) | omega | (simp; omega)))))))
  replace B6 := B6.alloc (.cells #[.float .f64 (floatOfInt .f64 (px ps 0)), .float .f64 (floatOfInt .f64 (py ps 0))] 104)
  replace B3 := B3.alloc (.cells #[.float .f64 (floatOfInt .f64 (px ps 0)), .float .f64 (floatOfInt .f64 (py ps 0))] 104)
  generalize wd.alloc (.cells #[.float .f64 (floatOfInt .f64 (px ps 0)), .float .f64 (floatOfInt .f64 (py ps 0))] 104) = W9 at *
  generalize wd.heap.size = g9 at *
  generalize wa.heap.size = g6 at *
  have h00 : Fl.isI 0 0 := by
    have := Fl.word_zero false
    exact ⟨this.1, by rw [show (0 : Nat) = Ieee.double.word false 0 from by decide, this.2.1]; rfl⟩
  go_loopw [5, 10] (fun v i wr => ∃ (k s : Nat), k ≤ n - 1 ∧ i = .int .i64 k ∧ v = .float .f64 s ∧ Hid (Fl.isI s (sh ps k)) ∧ Blk wr g9 104 #[.float .f64 (floatOfInt .f64 (px ps k)), .float .f64 (floatOfInt .f64 (py ps k))] ∧ Blk wr g6 97 #[.int .u8 0, .slice A (2 * n) c] ∧ Blk wr (w.heap.size + 1) 106 #[.nilFunc] ∧ Below w.heap.size w wr) (fun _ i _ => n - (intOf i).toNat)
  case atStart => exact ⟨0, 0, by omega, rfl, rfl, h00, B9, B6, B3, HB⟩
  case round =>
    clear B9 B6 B3 HB h00
    obtain ⟨k, s, hk, rfl, rfl, hs, B9, B6, B3, HB⟩ := hrel
    by_cases hlt : k < n - 1
    · have hp := HPP.out
      have hx0 := Fl.ofInt_I (n := px ps k) (by have := (hp k).1; omega)
      have hy0 := Fl.ofInt_I (n := py ps k) (by have := (hp k).2; omega)
      have hx1 := Fl.ofInt_I (n := px ps (k + 1)) (by have := (hp (k + 1)).1; omega)
      have hy1 := Fl.ofInt_I (n := py ps (k + 1)) (by have := (hp (k + 1)).2; omega)
      obtain ⟨r1, e1, i1⟩ := Fl.add_I hx1 hx0 (by have := (hp (k + 1)).1; have := (hp k).1; omega)
      obtain ⟨r2, e2, i2⟩ := Fl.sub_I hy1 hy0 (by have := (hp (k + 1)).2; have := (hp k).2; omega)
      obtain ⟨r3, e3, i3⟩ := Fl.mul_I i1 i2 (by have := term_bd hp k; omega)
      obtain ⟨r4, e4, i4⟩ := Fl.add_I hs.out i3 (by have := term_bd hp k; have := sh_bd hp k; omega)
      have HS : Hid (Fl.isI r4 (sh ps (k + 1))) := by show Fl.isI _ _; rw [sh]; exact i4
      have HNk := HN ((k : Int) + 1) (k + 1) (by omega) (by omega)
      clear hx0 hy0 hx1 hy1 i1 i2 i3 i4 hp HN
      generalize floatOfInt .f64 (px ps k) = X0 at *
      generalize floatOfInt .f64 (py ps k) = Y0 at *
      generalize hX1 : floatOfInt .f64 (px ps (k + 1)) = X1 at *
      generalize hY1 : floatOfInt .f64 (py ps (k + 1)) = Y1 at *
      have HX1 := Lib.hid hX1
      have HY1 := Lib.hid hY1
      clear hX1 hY1
      have o1 := hop e1; have o2 := hop e2; have o3 := hop e3; have o4 := hop e4
      clear e1 e2 e3 e4
      have w1 : IntKind.i64.wrap ((k : Int) + 1) = (k : Int) + 1 := IntWalk.i64_in _ (by omega)
      have hzr := HB.size
      have l9 := B9.lt
      have l9 := B9.lt; have f9 := B9.frozen; have c9_0 := B9.cell_ 0 rfl; have c9_1 := B9.cell_ 1 rfl
      go_wp2_with (go_at_call 128; (with_reducible refine Calls.mono (HNk _ _ _ (by (repeat (first | (with_reducible exact Below.refl _ _) | (with_reducible assumption) | (with_reducible refine Below.drew ?_) | (with_reducible refine below_drewN ?_ _) | ((with_reducible refine below_alloc' ?_ ?_); (focus (first | (simp; done) | omega | (simp; omega)))) | ((with_reducible refine below_set' ?_ ?_); (focus (first | (simp; done) | omega | (simp; omega)))) | (with_reducible refine below_step ?_ (by assumption)) | (with_reducible refine below_step_since ?_ (by assumption)) | ((with_reducible refine below_since' (by assumption) ?_ ?_); (focus (first | (simp; done) | omega | (simp; omega)))) | ((with_reducible refine below_trans' (by assumption) ?_ ?_); (focus (first | (simp; done) | omega | (simp; omega))))))) (B6.alloc _) (B3.alloc _)).out ?_); rintro e we ⟨rfl, hb⟩; have B11 : Blk we wr.heap.size 104 #[.float .f64 X0, .float .f64 Y0] := (Blk.new wr _ _).below hb (by simp); replace B9 := (B9.alloc (.cells #[.float .f64 X0, .float .f64 Y0] 104)).below hb (by simp; omega); replace B6 := (B6.alloc (.cells #[.float .f64 X0, .float .f64 Y0] 104)).below hb (by have := B6.lt; simp; omega); replace B3 := (B3.alloc (.cells #[.float .f64 X0, .float .f64 Y0] 104)).below hb (by have := B3.lt; simp; omega); replace HB : Below w.heap.size w we := (by (repeat (first | (with_reducible exact Below.refl _ _) | (with_reducible assumption) | (with_reducible refine Below.drew ?_) | (with_reducible refine below_drewN ?_ _) | ((with_reducible refine below_alloc' ?_ ?_); (focus (first | (simp; done) | omega | (simp; omega)))) | ((with_reducible refine below_set' ?_ ?_); (focus (first | (simp; done) | omega | (simp; omega)))) | (with_reducible refine below_step ?_ (by assumption)) | (with_reducible refine below_step_since ?_ (by assumption)) | ((with_reducible refine below_since' (by assumption) ?_ ?_); (focus (first | (simp; done) | omega | (simp; omega)))) | ((with_reducible refine below_trans' (by assumption) ?_ ?_); (focus (first | (simp; done) | omega | (simp; omega))))))); clear hb; have l9' : g9 < wr.heap.size := l9; clear l9 f9 c9_0 c9_1; have l9 := B9.lt; have f9 := B9.frozen; have c9_0 := B9.cell_ 0 rfl; have c9_1 := B9.cell_ 1 rfl; have l11 := B11.lt; have f11 := B11.frozen; have c11_0 := B11.cell_ 0 rfl; have c11_1 := B11.cell_ 1 rfl)
      have K9 := (B9.set_ 0 (.float .f64 X1)).set_ 1 (.float .f64 Y1)
      refine ⟨⟨k + 1, r4, by omega, by go_num, rfl, HS, ?_, ?_, ?_, ?_⟩, by simp [intOf]; omega⟩
      · rw [HX1.out, HY1.out]; exact K9
      · exact (B6.far (B6.ne_ B9 (by decide)) _).far (B6.ne_ B9 (by decide)) _
      · exact (B3.far (B3.ne_ B9 (by decide)) _).far (B3.ne_ B9 (by decide)) _
      · (repeat (first | (with_reducible exact Below.refl _ _) | (with_reducible assumption) | (with_reducible refine Below.drew ?_) | (with_reducible refine below_drewN ?_ _) | ((with_reducible refine below_alloc' ?_ ?_); (focus (first | (simp; done) | omega | (simp; omega)))) | ((with_reducible refine below_set' ?_ ?_); (focus (first | (simp; done) | omega | (simp; omega)))) | (with_reducible refine below_step ?_ (by assumption)) | (with_reducible refine below_step_since ?_ (by assumption)) | ((with_reducible refine below_since' (by assumption) ?_ ?_); (focus (first | (simp; done) | omega | (simp; omega)))) | ((with_reducible refine below_trans' (by assumption) ?_ ?_); (focus (first | (simp; done) | omega | (simp; omega))))))
    · obtain rfl : k = n - 1 := by omega
      have hs' := hs.out
      obtain ⟨r, er, _, _⟩ := half_int hs' (by have := sh_bd HPP.out (n - 1); omega)
      have HSS := Lib.hid hs'
      have HER := Lib.hid er
      have er' := hop er
      clear hs' HN HPP er
      have w1 : ¬ ((n - 1 : Nat) : Int) < ((n - 1 : Nat) : Int) := by omega
      go_wp2
      go_ret
      exact ⟨⟨s, r, rfl, HSS.out, HER.out⟩, HB⟩
end Go.Proofs.Ytciblaabghiefaa
