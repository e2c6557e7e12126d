/- Envelopes: what the small functions over them return. -/
import Derived.Test.YtciblaabghiefaaXy1
import Derived.Test.YtciblaabghiefaaFin
namespace Go.Proofs.Ytciblaabghiefaa
open Go.RowKit
attribute [local go_sem] run_store_float
set_option maxRecDepth 100000

theorem errAt_any (s : ByteArray) (a b : Nat) (w : World) : Calls Try.prog 132 #[.string s, .agg #[.float .f64 a, .float .f64 b]] w fun e w' =>
    e = .returned (.iface 189 (.agg #[.string s, .bool true, .float .f64 a, .float .f64 b])) ∧ Below w.heap.size w w' := by
  go_enter Try.func132, Try.ntmps132
  go_wp2
  go_ret
  exact ⟨rfl, (by (repeat (first | (with_reducible exact Below.refl _ _) | (with_reducible assumption) | (with_reducible refine Below.drew ?_) | (with_reducible refine below_drewN ?_ _) | ((with_reducible refine below_alloc' ?_ ?_); (focus (first | (simp; done) | omega | (simp; omega)))) | ((with_reducible refine below_set' ?_ ?_); (focus (first | (simp; done) | omega | (simp; omega)))) | (with_reducible refine below_step ?_ (by assumption)) | (with_reducible refine below_step_since ?_ (by assumption)) | ((with_reducible refine below_since' (by assumption) ?_ ?_); (focus (first | (simp; done) | omega | (simp; omega)))) | ((with_reducible refine below_trans' (by assumption) ?_ ?_); (focus (first | (simp; done) | omega | (simp; omega)))))))⟩

/-- An error value comes back. -/
def IsErr (w : World) (e : Ending) (w' : World) : Prop := (∃ t u, e = .returned (.iface t u)) ∧ Below w.heap.size w w'

theorem validate_ok (a b : Nat) (ha : W64 a) (hb : W64 b) (w : World) (h1 : Fl.fin a = true) (h2 : Fl.fin b = true) :
    Calls Try.prog 117 #[.agg #[.float .f64 a, .float .f64 b]] w fun e w' => e = .returned .nilIface ∧ Below w.heap.size w w' := by
  rw [Fl.fin_eq] at h1 h2
  simp at h1 h2
  obtain ⟨n1, i1⟩ := h1
  obtain ⟨n2, i2⟩ := h2
  go_enter Try.func117, Try.ntmps117
  go_wp2_with (first | (go_at_call 89; refine (isNaN_any _ _).mono ?_; rintro e w2 ⟨rfl, hb⟩; have hc := (bcell hb).1; have hf := (bcell hb).2.1; have hq0 : w.heap.size < w2.heap.size := (by have hsz := hb.size; (try simp at hsz); omega)) | (go_at_call 90; refine (isInf_any _ (by assumption) _).mono ?_; rintro e w2 ⟨rfl, hb⟩; have hc := (bcell hb).1; have hf := (bcell hb).2.1; have hq0 : w.heap.size < w2.heap.size := (by have hsz := hb.size; (try simp at hsz); omega)))
  go_ret
  exact ⟨rfl, (by (repeat (first | (with_reducible exact Below.refl _ _) | (with_reducible assumption) | (with_reducible refine Below.drew ?_) | (with_reducible refine below_drewN ?_ _) | ((with_reducible refine below_alloc' ?_ ?_); (focus (first | (simp; done) | omega | (simp; omega)))) | ((with_reducible refine below_set' ?_ ?_); (focus (first | (simp; done) | omega | (simp; omega)))) | (with_reducible refine below_step ?_ (by assumption)) | (with_reducible refine below_step_since ?_ (by assumption)) | ((with_reducible refine below_since' (by assumption) ?_ ?_); (focus (first | (simp; done) | omega | (simp; omega)))) | ((with_reducible refine below_trans' (by assumption) ?_ ?_); (focus (first | (simp; done) | omega | (simp; omega)))))))⟩

theorem validate_bad (a b : Nat) (ha : W64 a) (hb : W64 b) (w : World) (h : (Fl.fin a && Fl.fin b) = false) :
    Calls Try.prog 117 #[.agg #[.float .f64 a, .float .f64 b]] w (IsErr w) := by
  rw [Fl.fin_eq, Fl.fin_eq] at h
  cases n1 : Fl.nanB a <;> cases n2 : Fl.nanB b <;> cases i1 : Fl.infB a <;> cases i2 : Fl.infB b <;> first
    | (exfalso; simp [n1, n2, i1, i2] at h; done)
    | (clear h
       go_enter Try.func117, Try.ntmps117
       go_wp2_with (first | (go_at_call 89; refine (isNaN_any _ _).mono ?_; rintro e w2 ⟨rfl, hb⟩; have hc := (bcell hb).1; have hf := (bcell hb).2.1; have hq0 : w.heap.size < w2.heap.size := (by have hsz := hb.size; (try simp at hsz); omega)) | (go_at_call 90; refine (isInf_any _ (by assumption) _).mono ?_; rintro e w2 ⟨rfl, hb⟩; have hc := (bcell hb).1; have hf := (bcell hb).2.1; have hq0 : w.heap.size < w2.heap.size := (by have hsz := hb.size; (try simp at hsz); omega)) | (go_at_call 132; refine (errAt_any _ _ _ _).mono ?_; rintro e w2 ⟨rfl, hb⟩))
       go_ret
       exact ⟨⟨_, _, rfl⟩, (by (repeat (first | (with_reducible exact Below.refl _ _) | (with_reducible assumption) | (with_reducible refine Below.drew ?_) | (with_reducible refine below_drewN ?_ _) | ((with_reducible refine below_alloc' ?_ ?_); (focus (first | (simp; done) | omega | (simp; omega)))) | ((with_reducible refine below_set' ?_ ?_); (focus (first | (simp; done) | omega | (simp; omega)))) | (with_reducible refine below_step ?_ (by assumption)) | (with_reducible refine below_step_since ?_ (by assumption)) | ((with_reducible refine below_since' (by assumption) ?_ ?_); (focus (first | (simp; done) | omega | (simp; omega)))) | ((with_reducible refine below_trans' (by assumption) ?_ ?_); (focus (first | (simp; done) | omega | (simp; omega)))))))⟩)

/-- An envelope's five cells. -/
structure Env5 where
  x0 : Nat
  y0 : Nat
  x1 : Nat
  y1 : Nat
  full : Bool
def Env5.cells (e : Env5) : Array Value := #[.float .f64 e.x0, .float .f64 e.y0, .float .f64 e.x1, .float .f64 e.y1, .bool e.full]
def Env5.empty : Env5 := ⟨0, 0, 0, 0, false⟩
def Env5.addXY (e : Env5) (x y : Nat) : Env5 := if e.full then ⟨Fl.fmin e.x0 x, Fl.fmin e.y0 y, Fl.fmax e.x1 x, Fl.fmax e.y1 y, true⟩ else ⟨x, y, x, y, true⟩

theorem isEmpty_any (a b c d : Nat) (f : Bool) (w : World) : Calls Try.prog 109 #[.agg #[.float .f64 a, .float .f64 b, .float .f64 c, .float .f64 d, .bool f]] w fun e w' => e = .returned (.bool !f) ∧ Below w.heap.size w w' := by
  go_enter Try.func109, Try.ntmps109
  go_wp2
  go_ret
  exact ⟨rfl, (by (repeat (first | (with_reducible exact Below.refl _ _) | (with_reducible assumption) | (with_reducible refine Below.drew ?_) | (with_reducible refine below_drewN ?_ _) | ((with_reducible refine below_alloc' ?_ ?_); (focus (first | (simp; done) | omega | (simp; omega)))) | ((with_reducible refine below_set' ?_ ?_); (focus (first | (simp; done) | omega | (simp; omega)))) | (with_reducible refine below_step ?_ (by assumption)) | (with_reducible refine below_step_since ?_ (by assumption)) | ((with_reducible refine below_since' (by assumption) ?_ ?_); (focus (first | (simp; done) | omega | (simp; omega)))) | ((with_reducible refine below_trans' (by assumption) ?_ ?_); (focus (first | (simp; done) | omega | (simp; omega)))))))⟩

theorem newUnchecked_any (a b c d : Nat) (w : World) : Calls Try.prog 110 #[.agg #[.float .f64 a, .float .f64 b], .agg #[.float .f64 c, .float .f64 d]] w fun e w' =>
    e = .returned (.agg #[.float .f64 a, .float .f64 b, .float .f64 c, .float .f64 d, .bool true]) ∧ Below w.heap.size w w' := by
  go_enter Try.func110, Try.ntmps110
  go_wp2
  refine bodyPost_ret (v := .agg #[.float .f64 a, .float .f64 b, .float .f64 c, .float .f64 d, .bool true]) (by simp [results, Try.results110, go_sem]) rfl ⟨rfl, ?_⟩
  (repeat (first | (with_reducible exact Below.refl _ _) | (with_reducible assumption) | (with_reducible refine Below.drew ?_) | (with_reducible refine below_drewN ?_ _) | ((with_reducible refine below_alloc' ?_ ?_); (focus (first | (simp; done) | omega | (simp; omega)))) | ((with_reducible refine below_set' ?_ ?_); (focus (first | (simp; done) | omega | (simp; omega)))) | (with_reducible refine below_step ?_ (by assumption)) | (with_reducible refine below_step_since ?_ (by assumption)) | ((with_reducible refine below_since' (by assumption) ?_ ?_); (focus (first | (simp; done) | omega | (simp; omega)))) | ((with_reducible refine below_trans' (by assumption) ?_ ?_); (focus (first | (simp; done) | omega | (simp; omega))))))

set_option maxHeartbeats 1000000 in
theorem expandXY_any (a b c d : Nat) (f : Bool) (x y : Nat) (w : World) : Calls Try.prog 131 #[.agg #[.float .f64 a, .float .f64 b, .float .f64 c, .float .f64 d, .bool f], .agg #[.float .f64 x, .float .f64 y]] w fun e w' =>
    e = .returned (.agg (Env5.addXY ⟨a, b, c, d, f⟩ x y).cells) ∧ Below w.heap.size w w' := by
  have nn02 : w.heap.size < w.heap.size + 1 + 1 := (by omega); have nn03 : w.heap.size < w.heap.size + 1 + 1 + 1 := (by omega); have nn13 : w.heap.size + 1 < w.heap.size + 1 + 1 + 1 := (by omega); have nn04 : w.heap.size < w.heap.size + 1 + 1 + 1 + 1 := (by omega); have nn14 : w.heap.size + 1 < w.heap.size + 1 + 1 + 1 + 1 := (by omega); have nn24 : w.heap.size + 1 + 1 < w.heap.size + 1 + 1 + 1 + 1 := (by omega)
  cases f with
  | false =>
    go_enter Try.func131, Try.ntmps131
    go_wp2_with (first | (go_at_call 109; refine (isEmpty_any _ _ _ _ _ _).mono ?_; rintro e w2 ⟨rfl, hb⟩; have hc := (bcell hb).1; have hf := (bcell hb).2.1; have hq0 : w.heap.size < w2.heap.size := (by have hsz := hb.size; (try simp at hsz); omega); have hq1 : w.heap.size + 1 < w2.heap.size := (by have hsz := hb.size; (try simp at hsz); omega); have hq2 : w.heap.size + 1 + 1 < w2.heap.size := (by have hsz := hb.size; (try simp at hsz); omega); have B2 : Blk w2 (w.heap.size + 1 + 1) 121 #[.float .f64 0, .float .f64 0, .float .f64 0, .float .f64 0, .bool false] := (Blk.below (Blk.new' (by first | (simp; done) | omega | (simp; omega))) hb (by first | (simp; done) | omega | (simp; omega))); have HB : Below w.heap.size w w2 := (by (repeat (first | (with_reducible exact Below.refl _ _) | (with_reducible assumption) | (with_reducible refine Below.drew ?_) | (with_reducible refine below_drewN ?_ _) | ((with_reducible refine below_alloc' ?_ ?_); (focus (first | (simp; done) | omega | (simp; omega)))) | ((with_reducible refine below_set' ?_ ?_); (focus (first | (simp; done) | omega | (simp; omega)))) | (with_reducible refine below_step ?_ (by assumption)) | (with_reducible refine below_step_since ?_ (by assumption)) | ((with_reducible refine below_since' (by assumption) ?_ ?_); (focus (first | (simp; done) | omega | (simp; omega)))) | ((with_reducible refine below_trans' (by assumption) ?_ ?_); (focus (first | (simp; done) | omega | (simp; omega)))))))) | (go_at_call 110; refine (newUnchecked_any _ _ _ _ _).mono ?_; rintro e w2 ⟨rfl, hb⟩; have HB := below_step HB hb; have B2 := B2.below hb B2.lt; have l2 := B2.lt; have f2 := B2.frozen; have c2_0 := B2.cell_ 0 rfl; have c2_1 := B2.cell_ 1 rfl; have c2_2 := B2.cell_ 2 rfl; have c2_3 := B2.cell_ 3 rfl; have c2_4 := B2.cell_ 4 rfl))
    have B2 := B2.set_ 0 (.float .f64 x); have B2 := B2.set_ 1 (.float .f64 y); have B2 := B2.set_ 2 (.float .f64 x); have B2 := B2.set_ 3 (.float .f64 y); have B2 := B2.set_ 4 (.bool true); simp only [List.setIfInBounds_toArray, List.set_cons_zero, List.set_cons_succ] at B2; refine bodyPost_ret (results_cell_row Try.results131 _ _ _ _ _ (0, 0) _ rfl B2 Try.underlying121 rfl (by kernel_rfl)) rfl ⟨rfl, ?_⟩
    (repeat (first | (with_reducible exact Below.refl _ _) | (with_reducible assumption) | (with_reducible refine Below.drew ?_) | (with_reducible refine below_drewN ?_ _) | ((with_reducible refine below_alloc' ?_ ?_); (focus (first | (simp; done) | omega | (simp; omega)))) | ((with_reducible refine below_set' ?_ ?_); (focus (first | (simp; done) | omega | (simp; omega)))) | (with_reducible refine below_step ?_ (by assumption)) | (with_reducible refine below_step_since ?_ (by assumption)) | ((with_reducible refine below_since' (by assumption) ?_ ?_); (focus (first | (simp; done) | omega | (simp; omega)))) | ((with_reducible refine below_trans' (by assumption) ?_ ?_); (focus (first | (simp; done) | omega | (simp; omega))))))
  | true =>
    go_enter Try.func131, Try.ntmps131
    go_wp2_with (go_at_call 109; refine (isEmpty_any _ _ _ _ _ _).mono ?_; rintro e w2 ⟨rfl, hb⟩)
    have HB : Below w.heap.size w w2 := (by (repeat (first | (with_reducible exact Below.refl _ _) | (with_reducible assumption) | (with_reducible refine Below.drew ?_) | (with_reducible refine below_drewN ?_ _) | ((with_reducible refine below_alloc' ?_ ?_); (focus (first | (simp; done) | omega | (simp; omega)))) | ((with_reducible refine below_set' ?_ ?_); (focus (first | (simp; done) | omega | (simp; omega)))) | (with_reducible refine below_step ?_ (by assumption)) | (with_reducible refine below_step_since ?_ (by assumption)) | ((with_reducible refine below_since' (by assumption) ?_ ?_); (focus (first | (simp; done) | omega | (simp; omega)))) | ((with_reducible refine below_trans' (by assumption) ?_ ?_); (focus (first | (simp; done) | omega | (simp; omega)))))))
    have B0 : Blk w2 w.heap.size 121 #[.float .f64 a, .float .f64 b, .float .f64 c, .float .f64 d, .bool true] := Blk.below (((Blk.new w _ _).alloc _).alloc _) hb (by first | (simp; done) | omega | (simp; omega))
    have B1 : Blk w2 (w.heap.size + 1) 104 #[.float .f64 x, .float .f64 y] := Blk.below ((Blk.new' (by first | (simp; done) | omega | (simp; omega))).alloc _) hb (by first | (simp; done) | omega | (simp; omega))
    have B2 : Blk w2 (w.heap.size + 1 + 1) 121 #[.float .f64 0, .float .f64 0, .float .f64 0, .float .f64 0, .bool false] := Blk.below (Blk.new' (by first | (simp; done) | omega | (simp; omega))) hb (by first | (simp; done) | omega | (simp; omega))
    clear hb
    (refine region_start (by kernel_rfl) ?_)
    generalize hW : World.drew w2 = W
    have HB : Below w.heap.size w W := by rw [← hW]; exact HB.drew
    have B0 := B0.drew
    have B1 := B1.drew
    have B2 := B2.drew
    rw [hW] at B0 B1 B2
    clear hW
    have l0 := B0.lt; have f0 := B0.frozen; have c0_0 := B0.cell_ 0 rfl; have c0_1 := B0.cell_ 1 rfl; have c0_2 := B0.cell_ 2 rfl; have c0_3 := B0.cell_ 3 rfl; have c0_4 := B0.cell_ 4 rfl; have l1 := B1.lt; have f1 := B1.frozen; have c1_0 := B1.cell_ 0 rfl; have c1_1 := B1.cell_ 1 rfl
    (refine from_stretch (Since _) 0 27 (by kernel_rfl) (Since.refl _) ?_; simp only [List.take_succ_cons, List.take_zero, List.drop_zero]; (iterate 27 (refine wpStay_step (Since.ne _) ⟨?_, ?_, ?_, ?_⟩; rotate_left 2; (intro w1 hS K hK; have hc := Since.cell hS; have hf := Since.frz hS; have hz := Since.size hS; go_simp; (first | exact hK _ hS | (go_at_call 111; refine (fastMin_any _ _ _).mono ?_; rintro e w2 ⟨rfl, hb⟩; (try go_simp); exact hK _ (hS.then hb)) | (go_at_call 112; refine (fastMax_any _ _ _).mono ?_; rintro e w2 ⟨rfl, hb⟩; (try go_simp); exact hK _ (hS.then hb)) | (go_at_call 110; refine (newUnchecked_any _ _ _ _ _).mono ?_; rintro e w2 ⟨rfl, hb⟩; (try go_simp); exact hK _ (hS.then hb)))); rotate_left 1; rfl)); refine wpStay_nil ?_; intro w1 hS; have hc := Since.cell hS; have hf := Since.frz hS; have hz := Since.size hS)
    have HB := below_step HB hS; have B2 := B2.below hS B2.lt
    clear hc hf hz
    have l2 := B2.lt; have f2 := B2.frozen; have c2_0 := B2.cell_ 0 rfl; have c2_1 := B2.cell_ 1 rfl; have c2_2 := B2.cell_ 2 rfl; have c2_3 := B2.cell_ 3 rfl; have c2_4 := B2.cell_ 4 rfl
    (refine from_list (by kernel_rfl) ?_; simp only [List.drop_succ_cons, List.drop_zero])
    go_wp2
    have B2 := B2.set_ 0 (.float .f64 (Fl.fmin a x)); have B2 := B2.set_ 1 (.float .f64 (Fl.fmin b y)); have B2 := B2.set_ 2 (.float .f64 (Fl.fmax c x)); have B2 := B2.set_ 3 (.float .f64 (Fl.fmax d y)); have B2 := B2.set_ 4 (.bool true); simp only [List.setIfInBounds_toArray, List.set_cons_zero, List.set_cons_succ] at B2; refine bodyPost_ret (results_cell_row Try.results131 _ _ _ _ _ (0, 0) _ rfl B2 Try.underlying121 rfl (by kernel_rfl)) rfl ⟨rfl, ?_⟩
    (repeat (first | (with_reducible exact Below.refl _ _) | (with_reducible assumption) | (with_reducible refine Below.drew ?_) | (with_reducible refine below_drewN ?_ _) | ((with_reducible refine below_alloc' ?_ ?_); (focus (first | (simp; done) | omega | (simp; omega)))) | ((with_reducible refine below_set' ?_ ?_); (focus (first | (simp; done) | omega | (simp; omega)))) | (with_reducible refine below_step ?_ (by assumption)) | (with_reducible refine below_step_since ?_ (by assumption)) | ((with_reducible refine below_since' (by assumption) ?_ ?_); (focus (first | (simp; done) | omega | (simp; omega)))) | ((with_reducible refine below_trans' (by assumption) ?_ ?_); (focus (first | (simp; done) | omega | (simp; omega))))))
end Go.Proofs.Ytciblaabghiefaa
