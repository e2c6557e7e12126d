/- spec.GeomOf of a line of places; the checker's figure. -/
import Derived.Test.YtciblaabghiefaaRing2
import Derived.Test.YtciblaabghiefaaPlain
namespace Go.Proofs.Ytciblaabghiefaa
open Go.RowKit
attribute [local go_sem] run_store_float
set_option maxRecDepth 100000

/-- The numbers of places. -/
def fnums (ps : List (Int × Int)) : List Nat := ps.flatMap fun p => [floatOfInt .f64 p.1, floatOfInt .f64 p.2]
theorem fnums_length (ps : List (Int × Int)) : (fnums ps).length = 2 * ps.length := by
  unfold fnums; induction ps with
  | nil => rfl
  | cons p ps ih => rw [List.flatMap_cons, List.length_append, ih]; simp; omega
theorem fnums_step {ps : List (Int × Int)} {k : Nat} (hk : k < ps.length) : fnums (ps.take (k + 1)) = fnums (ps.take k) ++ [floatOfInt .f64 (px ps k), floatOfInt .f64 (py ps k)] := by
  unfold fnums px py
  rw [List.take_succ_eq_append_getElem hk, List.flatMap_append, List.getElem?_eq_getElem hk]
  simp

/-- The state inside a round: the boxed shape, the result, the geometry under way with its row of numbers, the place. -/
structure GSt (w : World) (A : Option Addr) (n c g3 g5 : Nat) (x y : Int) (V : Option Addr) (i cv : Nat) (cur : List Value) (W : World) : Prop where
  hg3 : w.heap.size + 1 < g3
  B0 : Blk W w.heap.size 63 #[.int .i64 2, .slice A n c, .slice none 0 0]
  B1 : Blk W (w.heap.size + 1) 28 #[.int .i64 0, .int .i64 0, .slice none 0 0, .slice none 0 0]
  B3 : Blk W g3 28 #[.int .i64 2, .int .i64 0, .slice V i cv, .slice none 0 0]
  B5 : Blk W g5 42 #[.int .i64 x, .int .i64 y]
  own : W.ownsRow w.heap.size 34 1 (.slice V i cv) i cur
  HB : Below w.heap.size w W

theorem GSt.app {w : World} {A : Option Addr} {n c g3 g5 : Nat} {x y : Int} {V : Option Addr} {i cv : Nat} {cur : List Value} {W W' : World} (h : GSt w A n c g3 g5 x y V i cv cur W) {l : Obj} {V' : Option Addr} {i' cv' : Nat} {cur' : List Value} (hg : (W.alloc l).grownBy W' (Value.slice V i cv).ownBlock)
    (ho : W'.ownsRow w.heap.size 34 1 (.slice V' i' cv') i' cur') : GSt w A n c g3 g5 x y V' i' cv' cur' (W'.setCell ⟨g3, 2, none⟩ (.slice V' i' cv')) ∧ Blk W' g3 28 #[.int .i64 2, .int .i64 0, .slice V i cv, .slice none 0 0] := by
  obtain ⟨hg3, B0, B1, B3, B5, own, HB⟩ := h
  have k0 := (B0.alloc l).grown hg (own_blk_ne own B0 (by decide)).symm
  have k1 := (B1.alloc l).grown hg (own_blk_ne own B1 (by decide)).symm
  have k3 := (B3.alloc l).grown hg (own_blk_ne own B3 (by decide)).symm
  have k5 := (B5.alloc l).grown hg (own_blk_ne own B5 (by decide)).symm
  have hz := HB.size
  have kb : Below w.heap.size w W' := Below.grown (w := W.alloc l) (by (repeat (first | (with_reducible exact Below.refl _ _) | (with_reducible assumption) | (with_reducible refine Below.drew ?_) | (with_reducible refine below_drewN ?_ _) | ((with_reducible refine below_alloc' ?_ ?_); (focus (first | (simp; done) | omega | (simp; omega)))) | ((with_reducible refine below_set' ?_ ?_); (focus (first | (simp; done) | omega | (simp; omega)))) | (with_reducible refine below_step ?_ (by assumption)) | (with_reducible refine below_step_since ?_ (by assumption)) | ((with_reducible refine below_since' (by assumption) ?_ ?_); (focus (first | (simp; done) | omega | (simp; omega)))) | ((with_reducible refine below_trans' (by assumption) ?_ ?_); (focus (first | (simp; done) | omega | (simp; omega))))))) hg (by simp; omega) (fun k hk => (own.lt k hk).1)
  exact ⟨⟨hg3, k0.far (by simp; omega) _, k1.far (by simp; omega) _, k3.set_ 2 _, k5.far (Blk.ne_ k5 k3 (by decide)) _, own_far ho (own_blk_ne ho k3 (by decide)) _, kb.setCell (by show w.heap.size ≤ g3; omega) _⟩, k3⟩

set_option maxHeartbeats 2000000 in
theorem geomOf_fresh (A : Option Addr) (n c : Nat) (ps : List (Int × Int)) (w : World) (h : Reads w w.heap.size 2 A n (ps.flatMap ptCells)) (hn : n ≤ 1073741823) :
    Calls Try.prog 72 #[.agg #[.int .i64 2, .slice A n c, .slice none 0 0]] w fun e w' =>
      (∃ A' c', e = .returned (.agg #[.int .i64 2, .int .i64 0, .slice A' (2 * n) c', .slice none 0 0]) ∧ Reads w' w'.heap.size 1 A' (2 * n) ((fnums ps).map fl) ∧ Fresh w A') ∧ Below w.heap.size w w' := by
  have hl : ps.length = n := by have := h.1; rw [flat_length ptCells 2 (fun _ => rfl)] at this; omega
  obtain ⟨i0, hi0, hz0, hz1, hz2⟩ := info_parts f64_info
  have HI := Lib.hid hi0; have HZ0 := Lib.hid hz0; have HZ1 := Lib.hid hz1; have HZ2 := Lib.hid hz2
  clear hi0 hz0 hz1 hz2
  go_enter Try.func72, Try.ntmps72
  go_wp2
  go_loopw [14] (fun i wr => ∃ (k : Nat) (V : Option Addr) (cv : Nat), k ≤ n ∧ i = .int .i64 k ∧ Blk wr (w.heap.size + 1 + 1) 28 #[.int .i64 2, .int .i64 0, .slice V (2 * k) cv, .slice none 0 0] ∧ wr.ownsRow w.heap.size 34 1 (.slice V (2 * k) cv) (2 * k) ((fnums (ps.take k)).map fl) ∧ Below w.heap.size w wr ∧ Blk wr w.heap.size 63 #[.int .i64 2, .slice A n c, .slice none 0 0] ∧ Blk wr (w.heap.size + 1) 28 #[.int .i64 0, .int .i64 0, .slice none 0 0, .slice none 0 0]) (fun i _ => n - (intOf i).toNat)
  case atStart => exact ⟨0, none, 0, by omega, rfl, Blk.new' (by simp), ⟨by simp [fnums], .inl ⟨by simp, by simp⟩⟩, (by (repeat (first | (with_reducible exact Below.refl _ _) | (with_reducible assumption) | (with_reducible refine Below.drew ?_) | (with_reducible refine below_drewN ?_ _) | ((with_reducible refine below_alloc' ?_ ?_); (focus (first | (simp; done) | omega | (simp; omega)))) | ((with_reducible refine below_set' ?_ ?_); (focus (first | (simp; done) | omega | (simp; omega)))) | (with_reducible refine below_step ?_ (by assumption)) | (with_reducible refine below_step_since ?_ (by assumption)) | ((with_reducible refine below_since' (by assumption) ?_ ?_); (focus (first | (simp; done) | omega | (simp; omega)))) | ((with_reducible refine below_trans' (by assumption) ?_ ?_); (focus (first | (simp; done) | omega | (simp; omega))))))), ((Blk.new w _ _).alloc _).alloc _, (Blk.new' (by simp)).alloc _⟩
  case round =>
    obtain ⟨k, V, cv, hk, rfl, B3, hown, HB, B0, B1⟩ := hrel
    by_cases hlt : k < n
    · obtain ⟨b, off, rfl, had, hcell⟩ := h.cellAt (by omega) (by omega)
      obtain ⟨x0, y0⟩ := pts_cells (ps := ps) (i := k) (by omega)
      have e0 : wr.cell? ⟨b, off + k * 2, none⟩ = some (.int .i64 (px ps k)) := ((bcell HB).1 _ _ had).trans (hcell _ _ x0)
      have e1 : wr.cell? ⟨b, off + k * 2 + 1, none⟩ = some (.int .i64 (py ps k)) := ((bcell HB).1 _ _ had).trans (hcell _ _ y0)
      have HST := Lib.hid (fnums_step (ps := ps) (k := k) (by omega))
      clear x0 y0 hcell
      generalize hx : px ps k = x at *
      generalize hy : py ps k = y at *
      clear hx hy
      have hz := HB.size
      have lb : b < wr.heap.size := by omega
      have S : GSt w (some ⟨b, off, none⟩) n c (w.heap.size + 1 + 1) wr.heap.size x y V (2 * k) cv ((fnums (ps.take k)).map fl) (wr.alloc (.cells #[.int .i64 x, .int .i64 y] 42)) := ⟨by omega, B0.alloc _, B1.alloc _, B3.alloc _, Blk.new _ _ _, hown.alloc _, by (repeat (first | (with_reducible exact Below.refl _ _) | (with_reducible assumption) | (with_reducible refine Below.drew ?_) | (with_reducible refine below_drewN ?_ _) | ((with_reducible refine below_alloc' ?_ ?_); (focus (first | (simp; done) | omega | (simp; omega)))) | ((with_reducible refine below_set' ?_ ?_); (focus (first | (simp; done) | omega | (simp; omega)))) | (with_reducible refine below_step ?_ (by assumption)) | (with_reducible refine below_step_since ?_ (by assumption)) | ((with_reducible refine below_since' (by assumption) ?_ ?_); (focus (first | (simp; done) | omega | (simp; omega)))) | ((with_reducible refine below_trans' (by assumption) ?_ ?_); (focus (first | (simp; done) | omega | (simp; omega))))))⟩
      have l35 := B3.lt
      clear B0 B1 hown
      have l3 := B3.lt; have f3 := B3.frozen; have c3_0 := B3.cell_ 0 rfl; have c3_1 := B3.cell_ 1 rfl; have c3_2 := B3.cell_ 2 rfl; have c3_3 := B3.cell_ 3 rfl
      go_wp2_with (at_builtin; refine stop_ ?_)
      refine go_on_ ?_
      refine wpList_append_any _ rfl (.tmp 19) (.tmp 26) _ rfl w.heap.size 34 i0 _ 1 8 Try.underlying25 HI.out HZ0.out HZ1.out HZ2.out rfl (by omega) _ _ _ rfl (S.own.alloc _) _ _ 2 2 [fl (floatOfInt .f64 x), fl (floatOfInt .f64 y)] rfl (reads_new' _ _ (by simp) _ _ 1 2 rfl (by omega)) (by simp [fl, Value.oneCell']) (by simp only [maxLen]; omega) (by omega) (by have := S.HB.size; simp; omega) ?_
      intro v1 w5 hown1 hg1 hat1
      obtain ⟨V1, cv1, rfl, hrr⟩ := own_form hown1
      obtain ⟨S', K3⟩ := S.app hg1 hown1
      clear S hown1 hg1 hat1 hrr
      clear l3 f3 c3_0 c3_1 c3_2 c3_3
      clear B3
      have l3 := K3.lt; have f3 := K3.frozen; have c3_0 := K3.cell_ 0 rfl; have c3_1 := K3.cell_ 1 rfl; have c3_2 := K3.cell_ 2 rfl; have c3_3 := K3.cell_ 3 rfl
      go_wp2
      have HST2 : Hid _ := show (fnums (ps.take (k + 1))).map fl = (fnums (ps.take k)).map fl ++ [fl (floatOfInt .f64 x), fl (floatOfInt .f64 y)] by rw [HST.out]; simp
      refine ⟨⟨k + 1, V1, cv1, by omega, by go_num, by rw [show 2 * (k + 1) = 2 * k + 2 by omega]; exact S'.B3, by rw [show 2 * (k + 1) = 2 * k + 2 by omega, HST2.out]; exact S'.own, S'.HB, S'.B0, S'.B1⟩, by simp [intOf]; omega⟩
    · obtain rfl : k = n := by omega
      rw [List.take_of_length_le (by omega)] at hown
      have hr := Reads.of_own hown
      have hne : (Value.slice V (2 * k) cv).ownBlock ≠ some (w.heap.size + 1) := own_blk_ne hown B1 (by decide)
      have HA : Hid (∀ ad, V = some ad → ad.block ≠ w.heap.size + 1) := by rintro ad rfl e; exact hne (by rw [← e]; rfl)
      have hF : Fresh w V := by rintro ad rfl; exact (hown.lt _ rfl).1
      clear hne hown h hl hlt hk
      have HR := Lib.hid hr
      clear hr
      have l0 := B0.lt; have f0 := B0.frozen; have c0_0 := B0.cell_ 0 rfl; have c0_1 := B0.cell_ 1 rfl; have c0_2 := B0.cell_ 2 rfl; have l1 := B1.lt; have f1 := B1.frozen; have c1_0 := B1.cell_ 0 rfl; have c1_1 := B1.cell_ 1 rfl; have c1_2 := B1.cell_ 2 rfl; have c1_3 := B1.cell_ 3 rfl; have l3 := B3.lt; have f3 := B3.frozen; have c3_0 := B3.cell_ 0 rfl; have c3_1 := B3.cell_ 1 rfl; have c3_2 := B3.cell_ 2 rfl; have c3_3 := B3.cell_ 3 rfl
      go_wp2
      go_loopw [33] (fun i wz => i = .int .i64 0 ∧ wz = wr) (fun _ _ => 0)
      case atStart => exact ⟨rfl, rfl⟩
      case round =>
        obtain ⟨rfl, rfl⟩ := hrel
        go_wp2
        have B1 := B1.set_ 0 (.int .i64 2); have B1 := B1.set_ 1 (.int .i64 0); have B1 := B1.set_ 2 (.slice V (2 * k) cv); have B1 := B1.set_ 3 (.slice none 0 0); simp only [List.setIfInBounds_toArray, List.set_cons_zero, List.set_cons_succ] at B1; refine bodyPost_ret (results_cell_row Try.results72 _ _ _ _ _ (0, 0) _ rfl B1 Try.underlying28 rfl (by kernel_rfl)) rfl ⟨⟨V, cv, rfl, ?_, hF⟩, ?_⟩
        · have := ((((HR.out.far (p := ⟨w.heap.size + 1, 0, none⟩) HA.out (.int .i64 2)).far (p := ⟨w.heap.size + 1, 1, none⟩) HA.out (.int .i64 0)).far (p := ⟨w.heap.size + 1, 2, none⟩) HA.out (.slice V (2 * k) cv)).far (p := ⟨w.heap.size + 1, 3, none⟩) HA.out (.slice none 0 0))
          simpa using this
        · (repeat (first | (with_reducible exact Below.refl _ _) | (with_reducible assumption) | (with_reducible refine Below.drew ?_) | (with_reducible refine below_drewN ?_ _) | ((with_reducible refine below_alloc' ?_ ?_); (focus (first | (simp; done) | omega | (simp; omega)))) | ((with_reducible refine below_set' ?_ ?_); (focus (first | (simp; done) | omega | (simp; omega)))) | (with_reducible refine below_step ?_ (by assumption)) | (with_reducible refine below_step_since ?_ (by assumption)) | ((with_reducible refine below_since' (by assumption) ?_ ?_); (focus (first | (simp; done) | omega | (simp; omega)))) | ((with_reducible refine below_trans' (by assumption) ?_ ?_); (focus (first | (simp; done) | omega | (simp; omega))))))

set_option maxHeartbeats 1000000 in
theorem figure_line (A : Option Addr) (n c : Nat) (ps : List (Int × Int)) (w : World) (h : Reads w w.heap.size 2 A n (ps.flatMap ptCells)) (hn : n ≤ 1073741823) :
    Calls Try.prog 34 #[.agg #[.int .i64 2, .slice A n c, .slice none 0 0]] w fun e w' =>
      (∃ A' c', e = .returned (.agg #[.int .i64 2, .int .i64 0, .slice A' (2 * n) c', .slice none 0 0]) ∧ Reads w' w'.heap.size 1 A' (2 * n) ((fnums ps).map fl)) ∧ Below w.heap.size w w' := by
  have HG := fun W hW => Lib.hid (geomOf_fresh A n c ps W ((h.below hW).more hW.size) hn)
  clear h hn
  generalize (fnums ps).map fl = cs at *
  generalize 2 * n = m at *
  go_enter Try.func34, Try.ntmps34
  go_wp2_with (go_at_call 72; (with_reducible refine Calls.mono (HG _ (by (repeat (first | (with_reducible exact Below.refl _ _) | (with_reducible assumption) | (with_reducible refine Below.drew ?_) | (with_reducible refine below_drewN ?_ _) | ((with_reducible refine below_alloc' ?_ ?_); (focus (first | (simp; done) | omega | (simp; omega)))) | ((with_reducible refine below_set' ?_ ?_); (focus (first | (simp; done) | omega | (simp; omega)))) | (with_reducible refine below_step ?_ (by assumption)) | (with_reducible refine below_step_since ?_ (by assumption)) | ((with_reducible refine below_since' (by assumption) ?_ ?_); (focus (first | (simp; done) | omega | (simp; omega)))) | ((with_reducible refine below_trans' (by assumption) ?_ ?_); (focus (first | (simp; done) | omega | (simp; omega)))))))).out ?_); rintro e w2 ⟨⟨A', c', rfl, hr, hF⟩, hb⟩; have HB : Below w.heap.size w w2 := (by (repeat (first | (with_reducible exact Below.refl _ _) | (with_reducible assumption) | (with_reducible refine Below.drew ?_) | (with_reducible refine below_drewN ?_ _) | ((with_reducible refine below_alloc' ?_ ?_); (focus (first | (simp; done) | omega | (simp; omega)))) | ((with_reducible refine below_set' ?_ ?_); (focus (first | (simp; done) | omega | (simp; omega)))) | (with_reducible refine below_step ?_ (by assumption)) | (with_reducible refine below_step_since ?_ (by assumption)) | ((with_reducible refine below_since' (by assumption) ?_ ?_); (focus (first | (simp; done) | omega | (simp; omega)))) | ((with_reducible refine below_trans' (by assumption) ?_ ?_); (focus (first | (simp; done) | omega | (simp; omega))))))); have B1 : Blk w2 (w.heap.size + 1) 28 #[.int .i64 0, .int .i64 0, .slice none 0 0, .slice none 0 0] := (Blk.new' (by simp)).below hb (by simp); have HA : Hid (∀ ad, A' = some ad → ad.block ≠ w.heap.size + 1) := (fun ad e => by have := hF ad e; simp at this; omega); clear hb hF; have l1 := B1.lt; have f1 := B1.frozen; have c1_0 := B1.cell_ 0 rfl; have c1_1 := B1.cell_ 1 rfl; have c1_2 := B1.cell_ 2 rfl; have c1_3 := B1.cell_ 3 rfl)
  have B1 := B1.set_ 0 (.int .i64 2); have B1 := B1.set_ 1 (.int .i64 0); have B1 := B1.set_ 2 (.slice A' m c'); have B1 := B1.set_ 3 (.slice none 0 0); simp only [List.setIfInBounds_toArray, List.set_cons_zero, List.set_cons_succ] at B1; refine bodyPost_ret (results_cell_row Try.results34 _ _ _ _ _ (0, 0) _ rfl B1 Try.underlying28 rfl (by kernel_rfl)) rfl ⟨⟨A', c', rfl, ?_⟩, ?_⟩
  · have := ((((hr.far (p := ⟨w.heap.size + 1, 0, none⟩) HA.out (.int .i64 2)).far (p := ⟨w.heap.size + 1, 1, none⟩) HA.out (.int .i64 0)).far (p := ⟨w.heap.size + 1, 2, none⟩) HA.out (.slice A' m c')).far (p := ⟨w.heap.size + 1, 3, none⟩) HA.out (.slice none 0 0))
    simpa using this
  · (repeat (first | (with_reducible exact Below.refl _ _) | (with_reducible assumption) | (with_reducible refine Below.drew ?_) | (with_reducible refine below_drewN ?_ _) | ((with_reducible refine below_alloc' ?_ ?_); (focus (first | (simp; done) | omega | (simp; omega)))) | ((with_reducible refine below_set' ?_ ?_); (focus (first | (simp; done) | omega | (simp; omega)))) | (with_reducible refine below_step ?_ (by assumption)) | (with_reducible refine below_step_since ?_ (by assumption)) | ((with_reducible refine below_since' (by assumption) ?_ ?_); (focus (first | (simp; done) | omega | (simp; omega)))) | ((with_reducible refine below_trans' (by assumption) ?_ ?_); (focus (first | (simp; done) | omega | (simp; omega))))))
end Go.Proofs.Ytciblaabghiefaa
