/- Sequence.Get, Sequence.GetXY. -/
import Derived.Test.YtciblaabghiefaaSeq2
namespace Go.Proofs.Ytciblaabghiefaa
open Go.RowKit
attribute [local go_sem] run_store_float
set_option maxRecDepth 100000

/-- Number j of a list (0 beyond it). -/
def nth (xs : List Nat) (j : Nat) : Nat := xs[j]?.getD 0
theorem nth_get {xs : List Nat} {j : Nat} (h : j < xs.length) : (xs.map fl)[j]? = some (fl (nth xs j)) := by
  simp [nth, h]
def zOf (d : Int) (xs : List Nat) (j : Nat) : Nat := if d = 1 ∨ d = 3 then nth xs (j + 2) else 0
def mOf (d : Int) (xs : List Nat) (j : Nat) : Nat := if d = 2 then nth xs (j + 2) else if d = 3 then nth xs (j + 3) else 0
def coords (d : Int) (x y z m : Nat) : Array Value := #[.float .f64 x, .float .f64 y, .float .f64 z, .float .f64 m, .int .u8 d]

set_option maxHeartbeats 2000000 in
theorem get_any (d : Int) (hd : d = 0 ∨ d = 1 ∨ d = 2 ∨ d = 3) (A : Option Addr) (c : Nat) (xs : List Nat) (i : Nat) (w : World) (h : Reads w w.heap.size 1 A xs.length (xs.map fl)) (hn : xs.length ≤ 2147483647) (hi : i * wd d + wd d ≤ xs.length) :
    Calls Try.prog 114 #[.agg #[.int .u8 d, .slice A xs.length c], .int .i64 i] w fun e w' =>
      e = .returned (.agg (coords d (nth xs (i * wd d)) (nth xs (i * wd d + 1)) (zOf d xs (i * wd d)) (mOf d xs (i * wd d)))) ∧ Below w.heap.size w w' := by
  have HD := fun W => Lib.hid (dimension_any d hd W)
  have h2 := wd_cases d hd
  obtain ⟨b, off, rfl, had, hcell⟩ := h.cellAt (by omega) (by omega)
  have e0 := hcell _ _ (nth_get (xs := xs) (j := i * wd d) (by omega))
  have e1 := hcell _ _ (nth_get (xs := xs) (j := i * wd d + 1) (by omega))
  have e2 : d ≠ 0 → w.cell? ⟨b, off + (i * wd d + 2), none⟩ = some (fl (nth xs (i * wd d + 2))) := fun h => hcell _ _ (nth_get (by rcases hd with rfl | rfl | rfl | rfl <;> simp [wd] at * <;> omega))
  have e3 : d = 3 → w.cell? ⟨b, off + (i * wd d + 3), none⟩ = some (fl (nth xs (i * wd d + 3))) := fun h => hcell _ _ (nth_get (by subst h; simp [wd] at *; omega))
  have hil : d ≠ 0 → i * wd d + 2 < xs.length := fun h => by rcases hd with rfl | rfl | rfl | rfl <;> simp [wd] at * <;> omega
  have hil3 : d = 3 → i * wd d + 3 < xs.length := fun h => by subst h; simp [wd] at *; omega
  have hij : ((i : Int) * (wd d : Int)) = ((i * wd d : Nat) : Int) := by simp
  have hz : Hid (zOf d xs (i * wd d) = if d = 1 ∨ d = 3 then nth xs (i * wd d + 2) else 0) := rfl
  have hm : Hid (mOf d xs (i * wd d) = if d = 2 then nth xs (i * wd d + 2) else if d = 3 then nth xs (i * wd d + 3) else 0) := rfl
  have hj1 : i * wd d + 1 < xs.length := by omega
  clear hcell h hi
  generalize zOf d xs (i * wd d) = zz at *
  generalize mOf d xs (i * wd d) = mm at *
  generalize nth xs (i * wd d) = x at *
  generalize nth xs (i * wd d + 1) = y at *
  generalize nth xs (i * wd d + 2) = z at *
  generalize nth xs (i * wd d + 3) = m at *
  generalize xs.length = n at *
  generalize i * wd d = j at *
  generalize wd d = k at *
  have hw0 : IntKind.i64.wrap ((i : Int) * (k : Int)) = (j : Int) := by rw [hij]; exact IntWalk.i64_in _ (by omega)
  have hw1 : IntKind.i64.wrap ((j : Int) + 1) = (j : Int) + 1 := IntWalk.i64_in _ (by omega)
  have hw2 : IntKind.i64.wrap ((j : Int) + 2) = (j : Int) + 2 := IntWalk.i64_in _ (by omega)
  have hw3 : IntKind.i64.wrap ((j : Int) + 3) = (j : Int) + 3 := IntWalk.i64_in _ (by omega)
  unfold coords
  have nn02 : w.heap.size < w.heap.size + 1 + 1 := (by omega); have nn03 : w.heap.size < w.heap.size + 1 + 1 + 1 := (by omega); have nn13 : w.heap.size + 1 < w.heap.size + 1 + 1 + 1 := (by omega); have nn04 : w.heap.size < w.heap.size + 1 + 1 + 1 + 1 := (by omega); have nn14 : w.heap.size + 1 < w.heap.size + 1 + 1 + 1 + 1 := (by omega); have nn24 : w.heap.size + 1 + 1 < w.heap.size + 1 + 1 + 1 + 1 := (by omega)
  have hj0 : j < n := by omega
  have hp1 : (0 : Int) ≤ (j : Int) + 1 := by omega
  have hp2 : (0 : Int) ≤ (j : Int) + 2 := by omega
  have hp3 : (0 : Int) ≤ (j : Int) + 3 := by omega
  have hq1 : (j : Int) + 1 < (n : Int) := by omega
  clear h2 hij
  have hq2 : d ≠ 0 → (j : Int) + 2 < (n : Int) := fun h => by have := hil h; omega
  have hq3 : d = 3 → (j : Int) + 3 < (n : Int) := fun h => by have := hil3 h; omega
  have HQ2 := Lib.hid hq2
  have HQ3 := Lib.hid hq3
  have HE2 := Lib.hid e2
  have HE3 := Lib.hid e3
  have HDD := Lib.hid hd
  clear e2 e3 hil hil3 hq2 hq3 hd
  go_enter Try.func114, Try.ntmps114
  go_wp2_with (go_at_call 98; (with_reducible refine Calls.mono ((HD _).out) ?_); rintro e w2 ⟨rfl, hb⟩; have HB : Below w.heap.size w w2 := (by (repeat (first | (with_reducible exact Below.refl _ _) | (with_reducible assumption) | (with_reducible refine Below.drew ?_) | (with_reducible refine below_drewN ?_ _) | ((with_reducible refine below_alloc' ?_ ?_); (focus (first | (simp; done) | omega | (simp; omega)))) | ((with_reducible refine below_set' ?_ ?_); (focus (first | (simp; done) | omega | (simp; omega)))) | (with_reducible refine below_step ?_ (by assumption)) | (with_reducible refine below_step_since ?_ (by assumption)) | ((with_reducible refine below_since' (by assumption) ?_ ?_); (focus (first | (simp; done) | omega | (simp; omega)))) | ((with_reducible refine below_trans' (by assumption) ?_ ?_); (focus (first | (simp; done) | omega | (simp; omega))))))); have B0 : Blk w2 w.heap.size 97 #[.int .u8 d, .slice (some ⟨b, off, none⟩) n c] := ((Blk.new _ _ _).alloc _).below hb (by first | (simp; done) | omega | (simp; omega)); have B1 : Blk w2 (w.heap.size + 1) 133 #[.float .f64 0, .float .f64 0, .float .f64 0, .float .f64 0, .int .u8 0] := (Blk.new' (by first | (simp; done) | omega | (simp; omega))).below hb (by first | (simp; done) | omega | (simp; omega)); clear hb)
  have f0 : w2.cell? ⟨b, off + j, none⟩ = some (.float .f64 x) := ((bcell HB).1 _ _ had).trans e0
  have f1 : w2.cell? ⟨b, off + (j + 1), none⟩ = some (.float .f64 y) := ((bcell HB).1 _ _ had).trans e1
  have had2 : b < w2.heap.size := Nat.lt_of_lt_of_le had HB.size
  have l0 := B0.lt; have f0 := B0.frozen; have c0_0 := B0.cell_ 0 rfl; have c0_1 := B0.cell_ 1 rfl; have l1 := B1.lt; have f1 := B1.frozen; have c1_0 := B1.cell_ 0 rfl; have c1_1 := B1.cell_ 1 rfl; have c1_2 := B1.cell_ 2 rfl; have c1_3 := B1.cell_ 3 rfl; have c1_4 := B1.cell_ 4 rfl
  go_region
  have B2 : Blk (w2.alloc (.cells #[.float .f64 x, .float .f64 y, .float .f64 0, .float .f64 0, .int .u8 d] 133)) w2.heap.size 133 #[.float .f64 x, .float .f64 y, .float .f64 0, .float .f64 0, .int .u8 d] := Blk.new _ _ _
  replace B0 := B0.alloc (.cells #[.float .f64 x, .float .f64 y, .float .f64 0, .float .f64 0, .int .u8 d] 133)
  replace B1 := B1.alloc (.cells #[.float .f64 x, .float .f64 y, .float .f64 0, .float .f64 0, .int .u8 d] 133)
  replace HB : Below w.heap.size w (w2.alloc (.cells #[.float .f64 x, .float .f64 y, .float .f64 0, .float .f64 0, .int .u8 d] 133)) := (by (repeat (first | (with_reducible exact Below.refl _ _) | (with_reducible assumption) | (with_reducible refine Below.drew ?_) | (with_reducible refine below_drewN ?_ _) | ((with_reducible refine below_alloc' ?_ ?_); (focus (first | (simp; done) | omega | (simp; omega)))) | ((with_reducible refine below_set' ?_ ?_); (focus (first | (simp; done) | omega | (simp; omega)))) | (with_reducible refine below_step ?_ (by assumption)) | (with_reducible refine below_step_since ?_ (by assumption)) | ((with_reducible refine below_since' (by assumption) ?_ ?_); (focus (first | (simp; done) | omega | (simp; omega)))) | ((with_reducible refine below_trans' (by assumption) ?_ ?_); (focus (first | (simp; done) | omega | (simp; omega)))))))
  have hg1 : w.heap.size + 1 < w2.heap.size := l1
  clear had2
  generalize w2.heap.size = g at *
  clear c0_0 c0_1 c1_0 c1_1 c1_2 c1_3 c1_4 f0 f1
  generalize hW : World.drew _ = W; replace HB : Below w.heap.size w W := (by rw [← hW]; exact HB.drew); replace B0 := B0.drew; rw [hW] at B0; replace B1 := B1.drew; rw [hW] at B1; replace B2 := B2.drew; rw [hW] at B2; clear hW
  have l0 := B0.lt; have f0 := B0.frozen; have c0_0 := B0.cell_ 0 rfl; have c0_1 := B0.cell_ 1 rfl; have l1 := B1.lt; have f1 := B1.frozen; have c1_0 := B1.cell_ 0 rfl; have c1_1 := B1.cell_ 1 rfl; have c1_2 := B1.cell_ 2 rfl; have c1_3 := B1.cell_ 3 rfl; have c1_4 := B1.cell_ 4 rfl; have l2 := B2.lt; have f2 := B2.frozen; have c2_0 := B2.cell_ 0 rfl; have c2_1 := B2.cell_ 1 rfl; have c2_2 := B2.cell_ 2 rfl; have c2_3 := B2.cell_ 3 rfl; have c2_4 := B2.cell_ 4 rfl
  rcases HDD.out with rfl | rfl | rfl | rfl
  · simp at hz hm
    go_wp2
    have B1 := B1.set_ 0 (.float .f64 x); have B1 := B1.set_ 1 (.float .f64 y); have B1 := B1.set_ 2 (.float .f64 0); have B1 := B1.set_ 3 (.float .f64 0); have B1 := B1.set_ 4 (.int .u8 0); simp only [List.setIfInBounds_toArray, List.set_cons_zero, List.set_cons_succ] at B1; refine bodyPost_ret (results_cell_row Try.results114 _ _ _ _ _ (0, 0) _ rfl B1 Try.underlying133 rfl (by kernel_rfl)) rfl ⟨by rw [hz.out, hm.out], ?_⟩
    (repeat (first | (with_reducible exact Below.refl _ _) | (with_reducible assumption) | (with_reducible refine Below.drew ?_) | (with_reducible refine below_drewN ?_ _) | ((with_reducible refine below_alloc' ?_ ?_); (focus (first | (simp; done) | omega | (simp; omega)))) | ((with_reducible refine below_set' ?_ ?_); (focus (first | (simp; done) | omega | (simp; omega)))) | (with_reducible refine below_step ?_ (by assumption)) | (with_reducible refine below_step_since ?_ (by assumption)) | ((with_reducible refine below_since' (by assumption) ?_ ?_); (focus (first | (simp; done) | omega | (simp; omega)))) | ((with_reducible refine below_trans' (by assumption) ?_ ?_); (focus (first | (simp; done) | omega | (simp; omega))))))
  · simp at hz hm
    have f2 : W.cell? ⟨b, off + (j + 2), none⟩ = some (.float .f64 z) := ((bcell HB).1 _ _ had).trans (HE2.out (by omega))
    have q2 := HQ2.out (by omega)
    go_wp2
    have B1 := B1.far (p := ⟨g, 2, none⟩) (by simp; omega) (.float .f64 z)
    have B1 := B1.set_ 0 (.float .f64 x); have B1 := B1.set_ 1 (.float .f64 y); have B1 := B1.set_ 2 (.float .f64 z); have B1 := B1.set_ 3 (.float .f64 0); have B1 := B1.set_ 4 (.int .u8 1); simp only [List.setIfInBounds_toArray, List.set_cons_zero, List.set_cons_succ] at B1; refine bodyPost_ret (results_cell_row Try.results114 _ _ _ _ _ (0, 0) _ rfl B1 Try.underlying133 rfl (by kernel_rfl)) rfl ⟨by rw [hz.out, hm.out], ?_⟩
    (repeat (first | (with_reducible exact Below.refl _ _) | (with_reducible assumption) | (with_reducible refine Below.drew ?_) | (with_reducible refine below_drewN ?_ _) | ((with_reducible refine below_alloc' ?_ ?_); (focus (first | (simp; done) | omega | (simp; omega)))) | ((with_reducible refine below_set' ?_ ?_); (focus (first | (simp; done) | omega | (simp; omega)))) | (with_reducible refine below_step ?_ (by assumption)) | (with_reducible refine below_step_since ?_ (by assumption)) | ((with_reducible refine below_since' (by assumption) ?_ ?_); (focus (first | (simp; done) | omega | (simp; omega)))) | ((with_reducible refine below_trans' (by assumption) ?_ ?_); (focus (first | (simp; done) | omega | (simp; omega))))))
  · simp at hz hm
    have f2 : W.cell? ⟨b, off + (j + 2), none⟩ = some (.float .f64 z) := ((bcell HB).1 _ _ had).trans (HE2.out (by omega))
    have q2 := HQ2.out (by omega)
    go_wp2
    have B1 := B1.far (p := ⟨g, 3, none⟩) (by simp; omega) (.float .f64 z)
    have B1 := B1.set_ 0 (.float .f64 x); have B1 := B1.set_ 1 (.float .f64 y); have B1 := B1.set_ 2 (.float .f64 0); have B1 := B1.set_ 3 (.float .f64 z); have B1 := B1.set_ 4 (.int .u8 2); simp only [List.setIfInBounds_toArray, List.set_cons_zero, List.set_cons_succ] at B1; refine bodyPost_ret (results_cell_row Try.results114 _ _ _ _ _ (0, 0) _ rfl B1 Try.underlying133 rfl (by kernel_rfl)) rfl ⟨by rw [hz.out, hm.out], ?_⟩
    (repeat (first | (with_reducible exact Below.refl _ _) | (with_reducible assumption) | (with_reducible refine Below.drew ?_) | (with_reducible refine below_drewN ?_ _) | ((with_reducible refine below_alloc' ?_ ?_); (focus (first | (simp; done) | omega | (simp; omega)))) | ((with_reducible refine below_set' ?_ ?_); (focus (first | (simp; done) | omega | (simp; omega)))) | (with_reducible refine below_step ?_ (by assumption)) | (with_reducible refine below_step_since ?_ (by assumption)) | ((with_reducible refine below_since' (by assumption) ?_ ?_); (focus (first | (simp; done) | omega | (simp; omega)))) | ((with_reducible refine below_trans' (by assumption) ?_ ?_); (focus (first | (simp; done) | omega | (simp; omega))))))
  · simp at hz hm
    have f2 : W.cell? ⟨b, off + (j + 2), none⟩ = some (.float .f64 z) := ((bcell HB).1 _ _ had).trans (HE2.out (by omega))
    have q2 := HQ2.out (by omega)
    have f3 : W.cell? ⟨b, off + (j + 3), none⟩ = some (.float .f64 m) := ((bcell HB).1 _ _ had).trans (HE3.out rfl)
    have q3 := HQ3.out rfl
    go_wp2
    have B1 := B1.far (p := ⟨g, 2, none⟩) (by simp; omega) (.float .f64 z)
    have B1 := B1.far (p := ⟨g, 3, none⟩) (by simp; omega) (.float .f64 m)
    have B1 := B1.set_ 0 (.float .f64 x); have B1 := B1.set_ 1 (.float .f64 y); have B1 := B1.set_ 2 (.float .f64 z); have B1 := B1.set_ 3 (.float .f64 m); have B1 := B1.set_ 4 (.int .u8 3); simp only [List.setIfInBounds_toArray, List.set_cons_zero, List.set_cons_succ] at B1; refine bodyPost_ret (results_cell_row Try.results114 _ _ _ _ _ (0, 0) _ rfl B1 Try.underlying133 rfl (by kernel_rfl)) rfl ⟨by rw [hz.out, hm.out], ?_⟩
    (repeat (first | (with_reducible exact Below.refl _ _) | (with_reducible assumption) | (with_reducible refine Below.drew ?_) | (with_reducible refine below_drewN ?_ _) | ((with_reducible refine below_alloc' ?_ ?_); (focus (first | (simp; done) | omega | (simp; omega)))) | ((with_reducible refine below_set' ?_ ?_); (focus (first | (simp; done) | omega | (simp; omega)))) | (with_reducible refine below_step ?_ (by assumption)) | (with_reducible refine below_step_since ?_ (by assumption)) | ((with_reducible refine below_since' (by assumption) ?_ ?_); (focus (first | (simp; done) | omega | (simp; omega)))) | ((with_reducible refine below_trans' (by assumption) ?_ ?_); (focus (first | (simp; done) | omega | (simp; omega))))))
end Go.Proofs.Ytciblaabghiefaa
