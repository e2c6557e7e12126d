/- Envelopes over lists of places. -/
import Derived.Test.YtciblaabghiefaaEnv1
namespace Go.Proofs.Ytciblaabghiefaa
open Go.RowKit
attribute [local go_sem] run_store_float
set_option maxRecDepth 100000

def xyCells (p : Nat × Nat) : List Value := [.float .f64 p.1, .float .f64 p.2]
def envOf (ps : List (Nat × Nat)) : Env5 := ps.foldl (fun e p => e.addXY p.1 p.2) Env5.empty
theorem envOf_step {ps : List (Nat × Nat)} {k : Nat} (hk : k < ps.length) : envOf (ps.take (k + 1)) = (envOf (ps.take k)).addXY ps[k].1 ps[k].2 := by
  unfold envOf
  rw [List.take_succ_eq_append_getElem hk, List.foldl_append]
  rfl

set_option maxHeartbeats 1000000 in
theorem newEnv_any (A : Option Addr) (n c : Nat) (ps : List (Nat × Nat)) (w : World) (h : Reads w w.heap.size 2 A n (ps.flatMap xyCells)) (hn : n ≤ 140737488355328) :
    Calls Try.prog 108 #[.slice A n c] w fun e w' => e = .returned (.agg (envOf ps).cells) ∧ Below w.heap.size w w' := by
  have hl : ps.length = n := by have := h.1; rw [flat_length xyCells 2 (fun _ => rfl)] at this; omega
  go_enter Try.func108, Try.ntmps108
  go_wp2
  go_loopw [8] (fun i wr => ∃ k : Nat, k ≤ n ∧ i = .int .i64 k ∧ Below w.heap.size w wr ∧ Blk wr w.heap.size 121 Env5.empty.cells ∧ Blk wr (w.heap.size + 1) 121 (envOf (ps.take k)).cells) (fun i _ => n - (intOf i).toNat)
  case atStart => exact ⟨0, by omega, rfl, (by (repeat (first | (with_reducible exact Below.refl _ _) | (with_reducible assumption) | (with_reducible refine Below.drew ?_) | (with_reducible refine below_drewN ?_ _) | ((with_reducible refine below_alloc' ?_ ?_); (focus (first | (simp; done) | omega | (simp; omega)))) | ((with_reducible refine below_set' ?_ ?_); (focus (first | (simp; done) | omega | (simp; omega)))) | (with_reducible refine below_step ?_ (by assumption)) | (with_reducible refine below_step_since ?_ (by assumption)) | ((with_reducible refine below_since' (by assumption) ?_ ?_); (focus (first | (simp; done) | omega | (simp; omega)))) | ((with_reducible refine below_trans' (by assumption) ?_ ?_); (focus (first | (simp; done) | omega | (simp; omega))))))), (Blk.new w _ _).alloc _, Blk.new' (by first | (simp; done) | omega | (simp; omega))⟩
  case round =>
    obtain ⟨k, hk, rfl, HB, B0, B1⟩ := hrel
    by_cases hlt : k < n
    · have hkl : k < ps.length := by omega
      obtain ⟨b, off, rfl, had, hcell⟩ := h.cellAt (by omega) (by omega)
      have g0 := flat_get xyCells 2 (fun _ => rfl) ps k 0 hkl (by omega)
      have g1 := flat_get xyCells 2 (fun _ => rfl) ps k 1 hkl (by omega)
      have HV : Hid _ := envOf_step hkl
      generalize ps[k] = p at *
      obtain ⟨x, y⟩ := p
      have e0 : wr.cell? ⟨b, off + k * 2, none⟩ = some (.float .f64 x) := ((bcell HB).1 _ _ had).trans (hcell _ _ g0)
      have e1 : wr.cell? ⟨b, off + k * 2 + 1, none⟩ = some (.float .f64 y) := ((bcell HB).1 _ _ had).trans (hcell _ _ g1)
      clear g0 g1 hcell
      generalize envOf (ps.take k) = V at *
      obtain ⟨v0, v1, v2, v3, v4⟩ := V
      have HE := fun W => Lib.hid (expandXY_any v0 v1 v2 v3 v4 x y W)
      generalize Env5.addXY ⟨v0, v1, v2, v3, v4⟩ x y = V2 at *
      obtain ⟨z0, z1, z2, z3, z4⟩ := V2
      simp only [Env5.cells] at B1 HE
      have l1 := B1.lt; have f1 := B1.frozen; have c1_0 := B1.cell_ 0 rfl; have c1_1 := B1.cell_ 1 rfl; have c1_2 := B1.cell_ 2 rfl; have c1_3 := B1.cell_ 3 rfl; have c1_4 := B1.cell_ 4 rfl
      have l0 := B0.lt
      go_wp2_with (go_at_call 131; refine ((HE _).out).mono ?_; rintro e w2 ⟨rfl, hb⟩; have B0 := (B0.alloc _).below hb (by first | (simp; done) | omega | (simp; omega)); have B1 := (B1.alloc _).below hb (by first | (simp; done) | omega | (simp; omega)); have HB : Below w.heap.size w w2 := (by (repeat (first | (with_reducible exact Below.refl _ _) | (with_reducible assumption) | (with_reducible refine Below.drew ?_) | (with_reducible refine below_drewN ?_ _) | ((with_reducible refine below_alloc' ?_ ?_); (focus (first | (simp; done) | omega | (simp; omega)))) | ((with_reducible refine below_set' ?_ ?_); (focus (first | (simp; done) | omega | (simp; omega)))) | (with_reducible refine below_step ?_ (by assumption)) | (with_reducible refine below_step_since ?_ (by assumption)) | ((with_reducible refine below_since' (by assumption) ?_ ?_); (focus (first | (simp; done) | omega | (simp; omega)))) | ((with_reducible refine below_trans' (by assumption) ?_ ?_); (focus (first | (simp; done) | omega | (simp; omega))))))); clear c1_0 c1_1 c1_2 c1_3 c1_4 l1 l0; clear hb; have l1 := B1.lt; have f1 := B1.frozen; have c1_0 := B1.cell_ 0 rfl; have c1_1 := B1.cell_ 1 rfl; have c1_2 := B1.cell_ 2 rfl; have c1_3 := B1.cell_ 3 rfl; have c1_4 := B1.cell_ 4 rfl)
      go_roundw
      case rel =>
        refine ⟨k + 1, by omega, by go_num, (by (repeat (first | (with_reducible exact Below.refl _ _) | (with_reducible assumption) | (with_reducible refine Below.drew ?_) | (with_reducible refine below_drewN ?_ _) | ((with_reducible refine below_alloc' ?_ ?_); (focus (first | (simp; done) | omega | (simp; omega)))) | ((with_reducible refine below_set' ?_ ?_); (focus (first | (simp; done) | omega | (simp; omega)))) | (with_reducible refine below_step ?_ (by assumption)) | (with_reducible refine below_step_since ?_ (by assumption)) | ((with_reducible refine below_since' (by assumption) ?_ ?_); (focus (first | (simp; done) | omega | (simp; omega)))) | ((with_reducible refine below_trans' (by assumption) ?_ ?_); (focus (first | (simp; done) | omega | (simp; omega))))))), ?_, ?_⟩
        · exact Blk.far (Blk.far (Blk.far (Blk.far (Blk.far B0 (by simp) _) (by simp) _) (by simp) _) (by simp) _) (by simp) _
        · rw [HV.out]
          exact ((((B1.set_ 0 _).set_ 1 _).set_ 2 _).set_ 3 _).set_ 4 _
      case measure => simp [intOf]; omega
    · obtain rfl : k = n := by omega
      rw [List.take_of_length_le (by omega)] at B1
      generalize hV : envOf ps = V at B1
      obtain ⟨v0, v1, v2, v3, v4⟩ := V
      have HV := Lib.hid hV
      clear hV
      simp only [Env5.cells] at B1
      simp only [Env5.cells, Env5.empty] at B0
      have l0 := B0.lt; have f0 := B0.frozen; have c0_0 := B0.cell_ 0 rfl; have c0_1 := B0.cell_ 1 rfl; have c0_2 := B0.cell_ 2 rfl; have c0_3 := B0.cell_ 3 rfl; have c0_4 := B0.cell_ 4 rfl; have l1 := B1.lt; have f1 := B1.frozen; have c1_0 := B1.cell_ 0 rfl; have c1_1 := B1.cell_ 1 rfl; have c1_2 := B1.cell_ 2 rfl; have c1_3 := B1.cell_ 3 rfl; have c1_4 := B1.cell_ 4 rfl
      go_wp2
      have B0 := B0.set_ 0 (.float .f64 v0); have B0 := B0.set_ 1 (.float .f64 v1); have B0 := B0.set_ 2 (.float .f64 v2); have B0 := B0.set_ 3 (.float .f64 v3); have B0 := B0.set_ 4 (.bool v4); simp only [List.setIfInBounds_toArray, List.set_cons_zero, List.set_cons_succ] at B0; refine bodyPost_ret (results_cell_row Try.results108 _ _ _ _ _ (0, 0) _ rfl B0 Try.underlying121 rfl (by kernel_rfl)) rfl ⟨by rw [HV.out]; rfl, ?_⟩
      (repeat (first | (with_reducible exact Below.refl _ _) | (with_reducible assumption) | (with_reducible refine Below.drew ?_) | (with_reducible refine below_drewN ?_ _) | ((with_reducible refine below_alloc' ?_ ?_); (focus (first | (simp; done) | omega | (simp; omega)))) | ((with_reducible refine below_set' ?_ ?_); (focus (first | (simp; done) | omega | (simp; omega)))) | (with_reducible refine below_step ?_ (by assumption)) | (with_reducible refine below_step_since ?_ (by assumption)) | ((with_reducible refine below_since' (by assumption) ?_ ?_); (focus (first | (simp; done) | omega | (simp; omega)))) | ((with_reducible refine below_trans' (by assumption) ?_ ?_); (focus (first | (simp; done) | omega | (simp; omega))))))
end Go.Proofs.Ytciblaabghiefaa
