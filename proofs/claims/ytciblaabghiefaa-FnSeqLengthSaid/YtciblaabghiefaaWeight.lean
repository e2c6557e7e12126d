/- gWeight and gSmall: how many parts and numbers there are. -/
import Derived.Test.YtciblaabghiefaaTree
import Derived.Test.YtciblaabghiefaaRegion
namespace Go.Proofs.Ytciblaabghiefaa
open Go.RowKit
set_option maxRecDepth 100000

/-- What is left of L when s is taken away; -1 if that is too much. -/
def lft (L : Int) (s : Nat) : Int := if (s : Int) ≤ L then L - s else -1
theorem lft_zero {L : Int} (h : -1 ≤ L) : lft L 0 = L := by unfold lft; split <;> omega
theorem lft_step {L : Int} {s t : Nat} (h : 0 ≤ lft L s) : lft (lft L s) t = lft L (s + t) := by unfold lft at *; split at h <;> split <;> split <;> omega
theorem lft_neg {L : Int} {s t : Nat} (h : lft L s < 0) (hst : s ≤ t) : lft L t = -1 := by unfold lft at *; split at h <;> split <;> omega
theorem lft_bd {L : Int} {s : Nat} (h : L ≤ 2000) : -1 ≤ lft L s ∧ lft L s ≤ 2000 := by unfold lft; split <;> omega

/-- The weight of the first k parts. -/
def wsum (f : Nat) (ks : List G) (k : Nat) : Nat := ((ks.take k).map (weight f)).sum
theorem wsum_succ {f : Nat} {ks : List G} {k : Nat} (h : k < ks.length) : wsum f ks (k + 1) = wsum f ks k + weight f ks[k] := by
  unfold wsum; rw [List.take_succ_eq_append_getElem h, List.map_append, List.sum_append]; simp
theorem wsum_mono {f : Nat} {ks : List G} {k m : Nat} (h : k ≤ m) : wsum f ks k ≤ wsum f ks m := by
  induction h with
  | refl => exact Nat.le_refl _
  | @step m _ ih =>
    rcases Nat.lt_or_ge m ks.length with hm | hm
    · rw [Nat.succ_eq_add_one, wsum_succ hm]; omega
    · unfold wsum at *; rw [List.take_of_length_le (i := m.succ) (by omega)]; rwa [List.take_of_length_le (i := m) (by omega)] at ih
theorem weight_pos {w : World} {b : Nat} : ∀ {f : Nat} {g : G} {x : GC}, IsG w b f g x → 1 + x.n ≤ weight f g
  | 0, _, _, h => h.elim
  | f + 1, .mk k d ns ks, x, h => by rw [h.2.1.1]; unfold weight; omega
theorem wsum_ge {w : World} {b f : Nat} {ks : List G} {xs : List GC} (hl : xs.length = ks.length) (h : ∀ (i : Nat) (g : G) (y : GC), ks[i]? = some g → xs[i]? = some y → IsG w b f g y) : ∀ k, k ≤ ks.length → k ≤ wsum f ks k
  | 0, _ => Nat.zero_le _
  | k + 1, hk => by
    have := wsum_ge hl h k (by omega)
    have := weight_pos (h k _ _ (List.getElem?_eq_getElem (by omega)) (List.getElem?_eq_getElem (by omega)))
    rw [wsum_succ (by omega)]; omega

set_option maxHeartbeats 1000000 in
theorem gWeight_any : ∀ (f : Nat) (g : G) (x : GC) (L : Int) (w : World), IsG w w.heap.size f g x → -1 ≤ L → L ≤ 2000 →
    Calls Try.prog 92 #[.agg #[.int .i64 x.k, .int .i64 x.d, .slice x.A x.n x.c, .slice x.B x.m x.e], .int .i64 L] w fun e w' => e = .returned (.int .i64 (lft L (weight f g))) ∧ Below w.heap.size w w' := by
  intro f
  induction f with
  | zero => intro g x L w h; exact h.elim
  | succ f ih =>
  intro g x L w h hL hL2
  obtain ⟨k, d, ns, ks⟩ := g
  obtain ⟨xk, xd, A, n, c, B, m, e⟩ := x
  obtain ⟨⟨rfl, rfl, _, _⟩, ⟨hn, _, _, _, _⟩, hm, hmm, xs, hxs, hR, hkid⟩ := h
  simp only at hn hm hmm hxs hR hkid
  have hW : Hid (weight (f + 1) (.mk xk xd ns ks) = 1 + n + wsum f ks m) := by
    show _ = _
    rw [hn, hm]; unfold weight wsum; rw [List.take_length]
  have hge : m ≤ wsum f ks m := wsum_ge (by omega) hkid m (by omega)
  have hm' := Lib.hid hm
  have hxs' := Lib.hid hxs
  generalize weight (f + 1) (.mk xk xd ns ks) = W at *
  clear hn hm hxs
  by_cases h1 : L < 1
  · have hr : Hid (lft L W = -1) := by show _ = _; rw [hW.out]; unfold lft; split <;> omega
    clear hW hR hkid ih hge
    generalize lft L W = r at *
    go_enter Try.func92, Try.ntmps92
    go_wp2
    go_ret
    exact ⟨by rw [hr.out]; rfl, (by (repeat (first | (with_reducible exact Below.refl _ _) | (with_reducible assumption) | (with_reducible refine Below.drew ?_) | (with_reducible refine below_drewN ?_ _) | ((with_reducible refine below_alloc' ?_ ?_); (focus (first | (simp; done) | omega | (simp; omega)))) | ((with_reducible refine below_set' ?_ ?_); (focus (first | (simp; done) | omega | (simp; omega)))) | (with_reducible refine below_step ?_ (by assumption)) | (with_reducible refine below_step_since ?_ (by assumption)) | ((with_reducible refine below_since' (by assumption) ?_ ?_); (focus (first | (simp; done) | omega | (simp; omega)))) | ((with_reducible refine below_trans' (by assumption) ?_ ?_); (focus (first | (simp; done) | omega | (simp; omega)))))))⟩
  · by_cases h2 : (n : Int) > L ∨ (m : Int) > L
    · have hr : Hid (lft L W = -1) := by show _ = _; rw [hW.out]; unfold lft; split <;> omega
      clear hW hR hkid ih hge
      generalize lft L W = r at *
      by_cases h3 : (n : Int) > L
      · clear h2
        go_enter Try.func92, Try.ntmps92
        go_wp2
        go_ret
        exact ⟨by rw [hr.out]; rfl, (by (repeat (first | (with_reducible exact Below.refl _ _) | (with_reducible assumption) | (with_reducible refine Below.drew ?_) | (with_reducible refine below_drewN ?_ _) | ((with_reducible refine below_alloc' ?_ ?_); (focus (first | (simp; done) | omega | (simp; omega)))) | ((with_reducible refine below_set' ?_ ?_); (focus (first | (simp; done) | omega | (simp; omega)))) | (with_reducible refine below_step ?_ (by assumption)) | (with_reducible refine below_step_since ?_ (by assumption)) | ((with_reducible refine below_since' (by assumption) ?_ ?_); (focus (first | (simp; done) | omega | (simp; omega)))) | ((with_reducible refine below_trans' (by assumption) ?_ ?_); (focus (first | (simp; done) | omega | (simp; omega)))))))⟩
      · have h4 : (m : Int) > L := by omega
        clear h2
        go_enter Try.func92, Try.ntmps92
        go_wp2
        go_ret
        exact ⟨by rw [hr.out]; rfl, (by (repeat (first | (with_reducible exact Below.refl _ _) | (with_reducible assumption) | (with_reducible refine Below.drew ?_) | (with_reducible refine below_drewN ?_ _) | ((with_reducible refine below_alloc' ?_ ?_); (focus (first | (simp; done) | omega | (simp; omega)))) | ((with_reducible refine below_set' ?_ ?_); (focus (first | (simp; done) | omega | (simp; omega)))) | (with_reducible refine below_step ?_ (by assumption)) | (with_reducible refine below_step_since ?_ (by assumption)) | ((with_reducible refine below_since' (by assumption) ?_ ?_); (focus (first | (simp; done) | omega | (simp; omega)))) | ((with_reducible refine below_trans' (by assumption) ?_ ?_); (focus (first | (simp; done) | omega | (simp; omega)))))))⟩
    · have h3 : ¬ (n : Int) > L := by omega
      have h4 : ¬ (m : Int) > L := by omega
      have h5 : IntKind.i64.wrap (L - 1) = L - 1 := IntWalk.i64_in _ (by omega)
      have h6 : IntKind.i64.wrap (L - 1 - n) = L - 1 - n := IntWalk.i64_in _ (by omega)
      clear h2
      have hr : Hid (lft L W = lft (L - 1 - n) (wsum f ks m)) := by show _ = _; rw [hW.out]; unfold lft; split <;> split <;> omega
      generalize hv : lft L W = r at *
      clear hv hW
      have hv0 : L - 1 - n = lft (L - 1 - n) (wsum f ks 0) := (lft_zero (by omega)).symm
      have hbd : ∀ s, -1 ≤ lft (L - 1 - n) s ∧ lft (L - 1 - n) s ≤ 2000 := fun s => lft_bd (by omega)
      have HV := Lib.hid hv0
      clear hv0
      go_enter Try.func92, Try.ntmps92
      go_wp2
      generalize hL' : L - 1 - (n : Int) = L' at *
      go_loopw [1, 5] (fun v i wr => ∃ k : Nat, k ≤ m ∧ i = .int .i64 k ∧ v = .int .i64 (lft L' (wsum f ks k)) ∧ Below (w.heap.size + 1) (w.alloc (.cells #[.int .i64 xk, .int .i64 xd, .slice A n c, .slice B m e] 28)) wr) (fun _ i _ => m - (intOf i).toNat)
      case atStart => exact ⟨0, by omega, rfl, by rw [← HV.out], Below.refl _ _⟩
      case round =>
        obtain ⟨k, hk, rfl, rfl, hb⟩ := hrel
        have B0 : Blk wr w.heap.size 28 #[.int .i64 xk, .int .i64 xd, .slice A n c, .slice B m e] := (Blk.new w _ _).below hb (by omega)
        have hz : w.heap.size + 1 ≤ wr.heap.size := by have := hb.size; simpa using this
        have HB : Below w.heap.size w wr := ((Below.refl _ _).alloc (Nat.le_refl _) _).trans (hb.mono (by omega))
        have l0 := B0.lt; have f0 := B0.frozen; have c0_0 := B0.cell_ 0 rfl; have c0_1 := B0.cell_ 1 rfl; have c0_2 := B0.cell_ 2 rfl; have c0_3 := B0.cell_ 3 rfl
        have hv := hbd (wsum f ks k)
        by_cases hlt : k < m
        · by_cases hneg : lft L' (wsum f ks k) < 0
          · have hr' : Hid (r = lft L' (wsum f ks k)) := by
              show _ = _
              rw [hr.out, lft_neg hneg (wsum_mono hk)]; omega
            clear hR hkid ih hr HV hbd
            generalize lft L' (wsum f ks k) = v at *
            go_wp2
            go_ret
            exact ⟨by rw [hr'.out]; rfl, (by (repeat (first | (with_reducible exact Below.refl _ _) | (with_reducible assumption) | (with_reducible refine Below.drew ?_) | (with_reducible refine below_drewN ?_ _) | ((with_reducible refine below_alloc' ?_ ?_); (focus (first | (simp; done) | omega | (simp; omega)))) | ((with_reducible refine below_set' ?_ ?_); (focus (first | (simp; done) | omega | (simp; omega)))) | (with_reducible refine below_step ?_ (by assumption)) | (with_reducible refine below_step_since ?_ (by assumption)) | ((with_reducible refine below_since' (by assumption) ?_ ?_); (focus (first | (simp; done) | omega | (simp; omega)))) | ((with_reducible refine below_trans' (by assumption) ?_ ?_); (focus (first | (simp; done) | omega | (simp; omega)))))))⟩
          · have hkl : k < ks.length := by have := hm'.out; omega
            have hkx : k < xs.length := by have := hxs'.out; omega
            obtain ⟨b, off, rfl, had, hcell⟩ := hR.cellAt (by omega) (by omega)
            have g0 := flat_get GC.cells 4 (fun _ => rfl) xs k 0 hkx (by omega)
            have g1 := flat_get GC.cells 4 (fun _ => rfl) xs k 1 hkx (by omega)
            have g2 := flat_get GC.cells 4 (fun _ => rfl) xs k 2 hkx (by omega)
            have g3 := flat_get GC.cells 4 (fun _ => rfl) xs k 3 hkx (by omega)
            have HI := fun W (hW : Below w.heap.size w W) => Lib.hid (ih ks[k] xs[k] (lft L' (wsum f ks k)) W ((hkid k _ _ (List.getElem?_eq_getElem hkl) (List.getElem?_eq_getElem hkx)).on hW) hv.1 hv.2)
            rw [lft_step (by omega), ← wsum_succ hkl] at HI
            clear ih hkid hR
            generalize xs[k] = y at *
            obtain ⟨yk, yd, yA, yn, yc, yB, ym, ye⟩ := y
            have e0 : wr.cell? ⟨b, off + k * 4, none⟩ = some (.int .i64 yk) := ((bcell HB).1 _ _ had).trans (hcell _ _ g0)
            have e1 : wr.cell? ⟨b, off + k * 4 + 1, none⟩ = some (.int .i64 yd) := ((bcell HB).1 _ _ had).trans (hcell _ _ g1)
            have e2 : wr.cell? ⟨b, off + k * 4 + 2, none⟩ = some (.slice yA yn yc) := ((bcell HB).1 _ _ had).trans (hcell _ _ g2)
            have e3 : wr.cell? ⟨b, off + k * 4 + 3, none⟩ = some (.slice yB ym ye) := ((bcell HB).1 _ _ had).trans (hcell _ _ g3)
            clear g0 g1 g2 g3 hcell hr HV hbd
            generalize hv' : lft L' (wsum f ks k) = v at *
            clear hv'
            generalize hv2 : lft L' (wsum f ks (k + 1)) = v2 at *
            have HV2 := Lib.hid hv2
            clear hv2
            go_wp2_with (go_at_call 92; (with_reducible refine Calls.mono (HI _ HB).out ?_); rintro e w2 ⟨rfl, hb2⟩)
            replace HB := below_step HB hb2
            refine ⟨⟨k + 1, by omega, by go_num, by rw [HV2.out], hb.trans (hb2.mono (by omega))⟩, by simp [intOf]; omega⟩
        · obtain rfl : k = m := by omega
          have hr' : Hid (r = lft L' (wsum f ks k)) := hr
          clear hR hkid ih hr HV hbd
          generalize lft L' (wsum f ks k) = v at *
          go_wp2
          go_ret
          exact ⟨by rw [hr'.out]; rfl, (by (repeat (first | (with_reducible exact Below.refl _ _) | (with_reducible assumption) | (with_reducible refine Below.drew ?_) | (with_reducible refine below_drewN ?_ _) | ((with_reducible refine below_alloc' ?_ ?_); (focus (first | (simp; done) | omega | (simp; omega)))) | ((with_reducible refine below_set' ?_ ?_); (focus (first | (simp; done) | omega | (simp; omega)))) | (with_reducible refine below_step ?_ (by assumption)) | (with_reducible refine below_step_since ?_ (by assumption)) | ((with_reducible refine below_since' (by assumption) ?_ ?_); (focus (first | (simp; done) | omega | (simp; omega)))) | ((with_reducible refine below_trans' (by assumption) ?_ ?_); (focus (first | (simp; done) | omega | (simp; omega)))))))⟩
end Go.Proofs.Ytciblaabghiefaa
