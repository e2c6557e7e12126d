/- gSmall: a list of geometries with at most 2000 parts and numbers. -/
import Derived.Test.YtciblaabghiefaaWeight
namespace Go.Proofs.Ytciblaabghiefaa
open Go.RowKit
set_option maxRecDepth 100000

set_option maxHeartbeats 1000000 in
theorem gSmall_any (f : Nat) (ks : List G) (xs : List GC) (A : Option Addr) (m c : Nat) (w : World) (hm : m = ks.length) (hmm : m ≤ 140737488355328) (hxs : xs.length = m) (hR : Reads w w.heap.size 4 A m (xs.flatMap GC.cells))
    (hkid : ∀ (i : Nat) (g : G) (y : GC), ks[i]? = some g → xs[i]? = some y → IsG w w.heap.size f g y) :
    Calls Try.prog 56 #[.slice A m c] w fun e w' => e = .returned (.bool (decide (wsum f ks m ≤ 2000))) ∧ Below w.heap.size w w' := by
  obtain ⟨M, hM0⟩ : ∃ M : Int, M = 2000 := ⟨_, rfl⟩
  have hM := Lib.hid hM0
  have hr : Hid (decide (wsum f ks m ≤ 2000) = decide (0 ≤ lft M (wsum f ks m))) := by
    show _ = _
    subst hM0
    unfold lft; split <;> simp <;> omega
  generalize decide (wsum f ks m ≤ 2000) = r at *
  have hm' := Lib.hid hm
  have hxs' := Lib.hid hxs
  have hv0 : (2000 : Int) = lft M (wsum f ks 0) := by subst hM0; exact (lft_zero (by omega)).symm
  have hbd : ∀ s, -1 ≤ lft M s ∧ lft M s ≤ 2000 := fun s => lft_bd (by omega)
  have HV := Lib.hid hv0
  clear hm hxs hv0 hM0
  go_enter Try.func56, Try.ntmps56
  go_wp2
  go_loopw [3, 4] (fun v i wr => ∃ k : Nat, k ≤ m ∧ i = .int .i64 k ∧ v = .int .i64 (lft M (wsum f ks k)) ∧ Below w.heap.size w wr) (fun _ i _ => m - (intOf i).toNat)
  case atStart => exact ⟨0, by omega, rfl, by rw [← HV.out], Below.refl _ _⟩
  case round =>
    obtain ⟨k, hk, rfl, rfl, HB⟩ := hrel
    have hv := hbd (wsum f ks k)
    by_cases hlt : k < m
    · by_cases hneg : lft M (wsum f ks k) < 0
      · have hr' : Hid (r = false) := by
          show _ = _
          rw [hr.out, lft_neg hneg (wsum_mono hk)]; rfl
        clear hR hkid hr HV hbd
        generalize lft M (wsum f ks k) = v at *
        go_wp2
        go_ret
        exact ⟨by rw [hr'.out]; first | rfl | (simp; omega), (by (repeat (first | (with_reducible exact Below.refl _ _) | (with_reducible assumption) | (with_reducible refine Below.drew ?_) | (with_reducible refine below_drewN ?_ _) | ((with_reducible refine below_alloc' ?_ ?_); (focus (first | (simp; done) | omega | (simp; omega)))) | ((with_reducible refine below_set' ?_ ?_); (focus (first | (simp; done) | omega | (simp; omega)))) | (with_reducible refine below_step ?_ (by assumption)) | (with_reducible refine below_step_since ?_ (by assumption)) | ((with_reducible refine below_since' (by assumption) ?_ ?_); (focus (first | (simp; done) | omega | (simp; omega)))) | ((with_reducible refine below_trans' (by assumption) ?_ ?_); (focus (first | (simp; done) | omega | (simp; omega)))))))⟩
      · have hkl : k < ks.length := by have := hm'.out; omega
        have hkx : k < xs.length := by have := hxs'.out; omega
        obtain ⟨b, off, rfl, had, hcell⟩ := hR.cellAt (by omega) (by omega)
        have g0 := flat_get GC.cells 4 (fun _ => rfl) xs k 0 hkx (by omega)
        have g1 := flat_get GC.cells 4 (fun _ => rfl) xs k 1 hkx (by omega)
        have g2 := flat_get GC.cells 4 (fun _ => rfl) xs k 2 hkx (by omega)
        have g3 := flat_get GC.cells 4 (fun _ => rfl) xs k 3 hkx (by omega)
        have HI := fun W (hW : Below w.heap.size w W) => Lib.hid (gWeight_any f ks[k] xs[k] (lft M (wsum f ks k)) W ((hkid k _ _ (List.getElem?_eq_getElem hkl) (List.getElem?_eq_getElem hkx)).on hW) hv.1 hv.2)
        rw [lft_step (by omega), ← wsum_succ hkl] at HI
        clear hkid hR
        generalize xs[k] = y at *
        obtain ⟨yk, yd, yA, yn, yc, yB, ym, ye⟩ := y
        have e0 : wr.cell? ⟨b, off + k * 4, none⟩ = some (.int .i64 yk) := ((bcell HB).1 _ _ had).trans (hcell _ _ g0)
        have e1 : wr.cell? ⟨b, off + k * 4 + 1, none⟩ = some (.int .i64 yd) := ((bcell HB).1 _ _ had).trans (hcell _ _ g1)
        have e2 : wr.cell? ⟨b, off + k * 4 + 2, none⟩ = some (.slice yA yn yc) := ((bcell HB).1 _ _ had).trans (hcell _ _ g2)
        have e3 : wr.cell? ⟨b, off + k * 4 + 3, none⟩ = some (.slice yB ym ye) := ((bcell HB).1 _ _ had).trans (hcell _ _ g3)
        clear g0 g1 g2 g3 hcell hr HV hbd
        generalize hv' : lft M (wsum f ks k) = v at *
        clear hv'
        generalize hv2 : lft M (wsum f ks (k + 1)) = v2 at *
        have HV2 := Lib.hid hv2
        clear hv2
        go_wp2_with (go_at_call 92; (with_reducible refine Calls.mono (HI _ HB).out ?_); rintro e w2 ⟨rfl, hb2⟩)
        replace HB := below_step HB hb2
        refine ⟨⟨k + 1, by omega, by go_num, by rw [HV2.out], HB⟩, by simp [intOf]; omega⟩
    · obtain rfl : k = m := by omega
      have hr' : Hid (r = decide (0 ≤ lft M (wsum f ks k))) := hr
      clear hR hkid hr HV hbd
      generalize lft M (wsum f ks k) = v at *
      go_wp2
      go_ret
      exact ⟨by rw [hr'.out]; first | rfl | (simp; done), (by (repeat (first | (with_reducible exact Below.refl _ _) | (with_reducible assumption) | (with_reducible refine Below.drew ?_) | (with_reducible refine below_drewN ?_ _) | ((with_reducible refine below_alloc' ?_ ?_); (focus (first | (simp; done) | omega | (simp; omega)))) | ((with_reducible refine below_set' ?_ ?_); (focus (first | (simp; done) | omega | (simp; omega)))) | (with_reducible refine below_step ?_ (by assumption)) | (with_reducible refine below_step_since ?_ (by assumption)) | ((with_reducible refine below_since' (by assumption) ?_ ?_); (focus (first | (simp; done) | omega | (simp; omega)))) | ((with_reducible refine below_trans' (by assumption) ?_ ?_); (focus (first | (simp; done) | omega | (simp; omega)))))))⟩

/-- One geometry. -/
theorem wsum_one (f : Nat) (g : G) : wsum f [g] 1 = weight f g := by simp [wsum]

/-- zzFits2: no list is longer than an int holds in 32 bits. -/
theorem zzFits2_any (x : GC) (w : World) : Calls Try.prog 17 #[.agg #[.int .i64 x.k, .int .i64 x.d, .slice x.A x.n x.c, .slice x.B x.m x.e]] w fun e w' => e = .returned (.bool (decide (x.n ≤ 2147483647) && decide (x.m ≤ 2147483647))) ∧ Below w.heap.size w w' := by
  obtain ⟨xk, xd, A, n, c, B, m, e⟩ := x
  simp only
  by_cases h1 : n ≤ 2147483647
  · by_cases h2 : m ≤ 2147483647
    · have hr : Hid ((decide (n ≤ 2147483647) && decide (m ≤ 2147483647)) = true) := by show _ = _; simp [h1, h2]
      generalize (decide (n ≤ 2147483647) && decide (m ≤ 2147483647)) = r at *
      go_enter Try.func17, Try.ntmps17
      go_wp2
      go_ret
      exact ⟨by rw [hr.out]; rfl, (by (repeat (first | (with_reducible exact Below.refl _ _) | (with_reducible assumption) | (with_reducible refine Below.drew ?_) | (with_reducible refine below_drewN ?_ _) | ((with_reducible refine below_alloc' ?_ ?_); (focus (first | (simp; done) | omega | (simp; omega)))) | ((with_reducible refine below_set' ?_ ?_); (focus (first | (simp; done) | omega | (simp; omega)))) | (with_reducible refine below_step ?_ (by assumption)) | (with_reducible refine below_step_since ?_ (by assumption)) | ((with_reducible refine below_since' (by assumption) ?_ ?_); (focus (first | (simp; done) | omega | (simp; omega)))) | ((with_reducible refine below_trans' (by assumption) ?_ ?_); (focus (first | (simp; done) | omega | (simp; omega)))))))⟩
    · have hr : Hid ((decide (n ≤ 2147483647) && decide (m ≤ 2147483647)) = false) := by show _ = _; simp [h2]
      generalize (decide (n ≤ 2147483647) && decide (m ≤ 2147483647)) = r at *
      go_enter Try.func17, Try.ntmps17
      go_wp2
      go_ret
      exact ⟨by rw [hr.out]; rfl, (by (repeat (first | (with_reducible exact Below.refl _ _) | (with_reducible assumption) | (with_reducible refine Below.drew ?_) | (with_reducible refine below_drewN ?_ _) | ((with_reducible refine below_alloc' ?_ ?_); (focus (first | (simp; done) | omega | (simp; omega)))) | ((with_reducible refine below_set' ?_ ?_); (focus (first | (simp; done) | omega | (simp; omega)))) | (with_reducible refine below_step ?_ (by assumption)) | (with_reducible refine below_step_since ?_ (by assumption)) | ((with_reducible refine below_since' (by assumption) ?_ ?_); (focus (first | (simp; done) | omega | (simp; omega)))) | ((with_reducible refine below_trans' (by assumption) ?_ ?_); (focus (first | (simp; done) | omega | (simp; omega)))))))⟩
  · have hr : Hid ((decide (n ≤ 2147483647) && decide (m ≤ 2147483647)) = false) := by show _ = _; simp [h1]
    generalize (decide (n ≤ 2147483647) && decide (m ≤ 2147483647)) = r at *
    go_enter Try.func17, Try.ntmps17
    go_wp2
    go_ret
    exact ⟨by rw [hr.out]; rfl, (by (repeat (first | (with_reducible exact Below.refl _ _) | (with_reducible assumption) | (with_reducible refine Below.drew ?_) | (with_reducible refine below_drewN ?_ _) | ((with_reducible refine below_alloc' ?_ ?_); (focus (first | (simp; done) | omega | (simp; omega)))) | ((with_reducible refine below_set' ?_ ?_); (focus (first | (simp; done) | omega | (simp; omega)))) | (with_reducible refine below_step ?_ (by assumption)) | (with_reducible refine below_step_since ?_ (by assumption)) | ((with_reducible refine below_since' (by assumption) ?_ ?_); (focus (first | (simp; done) | omega | (simp; omega)))) | ((with_reducible refine below_trans' (by assumption) ?_ ?_); (focus (first | (simp; done) | omega | (simp; omega)))))))⟩
end Go.Proofs.Ytciblaabghiefaa
