/- Sequence.GetXY, and the doors that recover: NewSequence, SeqGetXY. -/
import Derived.Test.YtciblaabghiefaaPlain
import Derived.Test.YtciblaabghiefaaLine
import Derived.Test.YtciblaabghiefaaXy2
import Derived.Defers
import Derived.Recover
namespace Go.Proofs.Ytciblaabghiefaa
open Go.RowKit
attribute [local go_sem] run_store_float
set_option maxRecDepth 100000

set_option maxHeartbeats 2000000 in
theorem getXY_any (d : Int) (hd : d = 0 ∨ d = 1 ∨ d = 2 ∨ d = 3) (A : Option Addr) (c : Nat) (xs : List Nat) (i : Nat) (w : World) (h : Reads w w.heap.size 1 A xs.length (xs.map fl)) (hn : xs.length ≤ 2147483647) (hi : i * wd d + wd d ≤ xs.length) :
    Calls Try.prog 84 #[.agg #[.int .u8 d, .slice A xs.length c], .int .i64 i] w fun e w' =>
      e = .returned (.agg #[.float .f64 (nth xs (i * wd d)), .float .f64 (nth xs (i * wd d + 1))]) ∧ Below w.heap.size w w' := by
  have HD := fun W => Lib.hid (dimension_any d hd W)
  have h2 := wd_cases d hd
  obtain ⟨b, off, rfl, had, hcell⟩ := h.cellAt (by omega) (by omega)
  have e0 := hcell _ _ (nth_get (xs := xs) (j := i * wd d) (by omega))
  have e1 := hcell _ _ (nth_get (xs := xs) (j := i * wd d + 1) (by omega))
  have hij : ((i : Int) * (wd d : Int)) = ((i * wd d : Nat) : Int) := by simp
  have hj1 : i * wd d + 1 < xs.length := by omega
  clear hcell h hi hd
  generalize nth xs (i * wd d) = x at *
  generalize nth xs (i * wd d + 1) = y at *
  generalize xs.length = n at *
  generalize i * wd d = j at *
  generalize wd d = k at *
  have hw0 : IntKind.i64.wrap ((i : Int) * (k : Int)) = (j : Int) := by rw [hij]; exact IntWalk.i64_in _ (by omega)
  have hw1 : IntKind.i64.wrap ((j : Int) + 1) = (j : Int) + 1 := IntWalk.i64_in _ (by omega)
  have nn02 : w.heap.size < w.heap.size + 1 + 1 := (by omega); have nn03 : w.heap.size < w.heap.size + 1 + 1 + 1 := (by omega); have nn13 : w.heap.size + 1 < w.heap.size + 1 + 1 + 1 := (by omega); have nn04 : w.heap.size < w.heap.size + 1 + 1 + 1 + 1 := (by omega); have nn14 : w.heap.size + 1 < w.heap.size + 1 + 1 + 1 + 1 := (by omega); have nn24 : w.heap.size + 1 + 1 < w.heap.size + 1 + 1 + 1 + 1 := (by omega)
  have hj0 : j < n := by omega
  have hp1 : (0 : Int) ≤ (j : Int) + 1 := by omega
  have hq1 : (j : Int) + 1 < (n : Int) := by omega
  clear h2 hij
  go_enter Try.func84, Try.ntmps84
  go_wp2_with (go_at_call 98; (with_reducible refine Calls.mono ((HD _).out) ?_); rintro e w2 ⟨rfl, hb⟩; have HB : Below w.heap.size w w2 := (by (repeat (first | (with_reducible exact Below.refl _ _) | (with_reducible assumption) | (with_reducible refine Below.drew ?_) | (with_reducible refine below_drewN ?_ _) | ((with_reducible refine below_alloc' ?_ ?_); (focus (first | (simp; done) | omega | (simp; omega)))) | ((with_reducible refine below_set' ?_ ?_); (focus (first | (simp; done) | omega | (simp; omega)))) | (with_reducible refine below_step ?_ (by assumption)) | (with_reducible refine below_step_since ?_ (by assumption)) | ((with_reducible refine below_since' (by assumption) ?_ ?_); (focus (first | (simp; done) | omega | (simp; omega)))) | ((with_reducible refine below_trans' (by assumption) ?_ ?_); (focus (first | (simp; done) | omega | (simp; omega))))))); have B0 : Blk w2 w.heap.size 97 #[.int .u8 d, .slice (some ⟨b, off, none⟩) n c] := ((Blk.new _ _ _).alloc _).below hb (by first | (simp; done) | omega | (simp; omega)); have B1 : Blk w2 (w.heap.size + 1) 104 #[.float .f64 0, .float .f64 0] := (Blk.new' (by first | (simp; done) | omega | (simp; omega))).below hb (by first | (simp; done) | omega | (simp; omega)); clear hb)
  have f0 : w2.cell? ⟨b, off + j, none⟩ = some (.float .f64 x) := ((bcell HB).1 _ _ had).trans e0
  have f1 : w2.cell? ⟨b, off + (j + 1), none⟩ = some (.float .f64 y) := ((bcell HB).1 _ _ had).trans e1
  have had2 : b < w2.heap.size := Nat.lt_of_lt_of_le had HB.size
  have l0 := B0.lt; have f0 := B0.frozen; have c0_0 := B0.cell_ 0 rfl; have c0_1 := B0.cell_ 1 rfl; have l1 := B1.lt; have f1 := B1.frozen; have c1_0 := B1.cell_ 0 rfl; have c1_1 := B1.cell_ 1 rfl
  go_region
  go_wp2
  replace B1 := (B1.drew)
  have B1 := B1.set_ 0 (.float .f64 x); have B1 := B1.set_ 1 (.float .f64 y); simp only [List.setIfInBounds_toArray, List.set_cons_zero, List.set_cons_succ] at B1; refine bodyPost_ret (results_cell_row Try.results84 _ _ _ _ _ (0, 0) _ rfl B1 Try.underlying104 rfl (by kernel_rfl)) rfl ⟨rfl, ?_⟩
  (repeat (first | (with_reducible exact Below.refl _ _) | (with_reducible assumption) | (with_reducible refine Below.drew ?_) | (with_reducible refine below_drewN ?_ _) | ((with_reducible refine below_alloc' ?_ ?_); (focus (first | (simp; done) | omega | (simp; omega)))) | ((with_reducible refine below_set' ?_ ?_); (focus (first | (simp; done) | omega | (simp; omega)))) | (with_reducible refine below_step ?_ (by assumption)) | (with_reducible refine below_step_since ?_ (by assumption)) | ((with_reducible refine below_since' (by assumption) ?_ ?_); (focus (first | (simp; done) | omega | (simp; omega)))) | ((with_reducible refine below_trans' (by assumption) ?_ ?_); (focus (first | (simp; done) | omega | (simp; omega))))))

/-- The deferred closures find no panic. -/
theorem newSeqRec_idle (p q : Value) (w : World) : CallsD Try.prog 79 #[p, q] .returning w fun e u' w' => e = .returned (.tuple #[]) ∧ u' = .returning ∧ w' = w := by
  refine callsD_of_wpS Try.func79 rfl fun c₀ cs hu => ?_
  apply wpS_seq
  apply wpS_region
  simp [wpOpsS, go_sem, recoverD, hu, Try.ntmps79, Exit.thenS]
  refine wpS_cond (t := false) (by simp [Act.eval, Array.replicate]) ?_
  simp only [Bool.false_eq_true, if_false]
  refine wpS_of_wp (wp_skip ?_)
  cases c₀
  simp_all [bodyPostS, results, Try.results79]
theorem getXYRec_idle (p q : Value) (w : World) : CallsD Try.prog 83 #[p, q] .returning w fun e u' w' => e = .returned (.tuple #[]) ∧ u' = .returning ∧ w' = w := by
  refine callsD_of_wpS Try.func83 rfl fun c₀ cs hu => ?_
  apply wpS_seq
  apply wpS_region
  simp [wpOpsS, go_sem, recoverD, hu, Try.ntmps83, Exit.thenS]
  refine wpS_cond (t := false) (by simp [Act.eval, Array.replicate]) ?_
  simp only [Bool.false_eq_true, if_false]
  refine wpS_of_wp (wp_skip ?_)
  cases c₀
  simp_all [bodyPostS, results, Try.results83]
end Go.Proofs.Ytciblaabghiefaa
