/- gLine: the places of a small line string. -/
import Derived.Test.YtciblaabghiefaaPlaces
import Derived.Test.YtciblaabghiefaaSmall
import Derived.Test.YtciblaabghiefaaLine
namespace Go.Proofs.Ytciblaabghiefaa
open Go.RowKit
set_option maxRecDepth 100000

/-- One geometry as a list of one. -/
theorem gSmall_one (f : Nat) (g : G) (x : GC) (w : World) (b : Nat) (h : IsG w w.heap.size f g x) (hb : b = w.heap.size) :
    Calls Try.prog 56 #[.slice (some ⟨b, 0, none⟩) 1 1] (w.alloc (.cells #[.int .i64 x.k, .int .i64 x.d, .slice x.A x.n x.c, .slice x.B x.m x.e] 28)) fun e w' => e = .returned (.bool (decide (weight f g ≤ 2000))) ∧ Below w.heap.size w w' := by
  have hR := reads_new' w b hb x.cells 28 4 1 rfl (by omega)
  have hG : IsG (w.alloc (.cells #[.int .i64 x.k, .int .i64 x.d, .slice x.A x.n x.c, .slice x.B x.m x.e] 28)) (w.alloc (.cells #[.int .i64 x.k, .int .i64 x.d, .slice x.A x.n x.c, .slice x.B x.m x.e] 28)).heap.size f g x := h.on (by (repeat (first | (with_reducible exact Below.refl _ _) | (with_reducible assumption) | (with_reducible refine Below.drew ?_) | (with_reducible refine below_drewN ?_ _) | ((with_reducible refine below_alloc' ?_ ?_); (focus (first | (simp; done) | omega | (simp; omega)))) | ((with_reducible refine below_set' ?_ ?_); (focus (first | (simp; done) | omega | (simp; omega)))) | (with_reducible refine below_step ?_ (by assumption)) | (with_reducible refine below_step_since ?_ (by assumption)) | ((with_reducible refine below_since' (by assumption) ?_ ?_); (focus (first | (simp; done) | omega | (simp; omega)))) | ((with_reducible refine below_trans' (by assumption) ?_ ?_); (focus (first | (simp; done) | omega | (simp; omega)))))))
  have := gSmall_any f [g] [x] (some ⟨b, 0, none⟩) 1 1 _ rfl (by omega) rfl (by rw [show [x].flatMap GC.cells = x.cells from by simp]; exact hR) (fun i g' y hg hy => by
    cases i with
    | zero => simp at hg hy; subst hg hy; exact hG
    | succ i => simp at hg)
  rw [wsum_one] at this
  refine this.mono ?_
  rintro e w' ⟨rfl, hb⟩
  exact ⟨rfl, (by (repeat (first | (with_reducible exact Below.refl _ _) | (with_reducible assumption) | (with_reducible refine Below.drew ?_) | (with_reducible refine below_drewN ?_ _) | ((with_reducible refine below_alloc' ?_ ?_); (focus (first | (simp; done) | omega | (simp; omega)))) | ((with_reducible refine below_set' ?_ ?_); (focus (first | (simp; done) | omega | (simp; omega)))) | (with_reducible refine below_step ?_ (by assumption)) | (with_reducible refine below_step_since ?_ (by assumption)) | ((with_reducible refine below_since' (by assumption) ?_ ?_); (focus (first | (simp; done) | omega | (simp; omega)))) | ((with_reducible refine below_trans' (by assumption) ?_ ?_); (focus (first | (simp; done) | omega | (simp; omega)))))))⟩

set_option maxHeartbeats 1000000 in
theorem gLine_line (f : Nat) (g : G) (x : GC) (xs : List Nat) (w : World) (h : IsG w w.heap.size f g x) (hk : x.k = 2) (hw : weight f g ≤ 2000) (hxs : x.n = xs.length) (hR : Reads w w.heap.size 1 x.A xs.length (xs.map fl)) (hc : x.n ≤ x.c) (hn : xs.length ≤ 2147483647) :
    Calls Try.prog 18 #[.agg #[.int .i64 x.k, .int .i64 x.d, .slice x.A x.n x.c, .slice x.B x.m x.e]] w fun e w' =>
      (∃ A' c', e = .returned (.tuple #[.slice A' (kept xs.length (x.d % 4) / wd (x.d % 4)) c', .bool true]) ∧ Reads w' w'.heap.size 4 A' (kept xs.length (x.d % 4) / wd (x.d % 4)) (plcs (x.d % 4) (xs.take (kept xs.length (x.d % 4))) (kept xs.length (x.d % 4) / wd (x.d % 4)))) ∧ Below w.heap.size w w' := by
  have HS := fun (W : World) (b : Nat) (hW : Below w.heap.size w W) (hb : b = W.heap.size) => Lib.hid (gSmall_one f g x W b (h.on hW) hb)
  rw [show decide (weight f g ≤ 2000) = true by simpa using hw] at HS
  obtain ⟨xk, xd, A, n, c, B, m, e⟩ := x
  simp only at hk hxs hR hc HS ⊢
  subst hk
  subst hxs
  have HN := fun (W : World) (hW : Below w.heap.size w W) => Lib.hid (newLine_any xd A c B m e xs W ((hR.below hW).more hW.size) hc hn)
  have hkl := kept_le xs.length (xd % 4)
  have hlt : (xs.take (kept xs.length (xd % 4))).length = kept xs.length (xd % 4) := by simp; omega
  have HP := fun (A' : Option Addr) (c' : Nat) (W : World) (hr : Reads W W.heap.size 1 A' (kept xs.length (xd % 4)) ((xs.take (kept xs.length (xd % 4))).map fl)) => Lib.hid (places_any (xd % 4) (d4 xd) A' c' (xs.take (kept xs.length (xd % 4))) W (by rw [hlt]; exact hr) (by omega))
  rw [hlt] at HP
  clear h hw hR hlt hkl
  generalize plcs (xd % 4) (xs.take (kept xs.length (xd % 4))) (kept xs.length (xd % 4) / wd (xd % 4)) = pl at *
  generalize kept xs.length (xd % 4) / wd (xd % 4) = q at *
  generalize (xs.take (kept xs.length (xd % 4))).map fl = cs at *
  generalize kept xs.length (xd % 4) = k at *
  generalize xs.length = n at *
  generalize xd % 4 = dd at *
  go_enter Try.func18, Try.ntmps18
  go_wp2_with (first | (go_at_call 56; (with_reducible refine Calls.mono (HS _ _ (by (repeat (first | (with_reducible exact Below.refl _ _) | (with_reducible assumption) | (with_reducible refine Below.drew ?_) | (with_reducible refine below_drewN ?_ _) | ((with_reducible refine below_alloc' ?_ ?_); (focus (first | (simp; done) | omega | (simp; omega)))) | ((with_reducible refine below_set' ?_ ?_); (focus (first | (simp; done) | omega | (simp; omega)))) | (with_reducible refine below_step ?_ (by assumption)) | (with_reducible refine below_step_since ?_ (by assumption)) | ((with_reducible refine below_since' (by assumption) ?_ ?_); (focus (first | (simp; done) | omega | (simp; omega)))) | ((with_reducible refine below_trans' (by assumption) ?_ ?_); (focus (first | (simp; done) | omega | (simp; omega))))))) (by simp)).out ?_); rintro e w2 ⟨rfl, hb⟩; have HB : Below w.heap.size w w2 := (by (repeat (first | (with_reducible exact Below.refl _ _) | (with_reducible assumption) | (with_reducible refine Below.drew ?_) | (with_reducible refine below_drewN ?_ _) | ((with_reducible refine below_alloc' ?_ ?_); (focus (first | (simp; done) | omega | (simp; omega)))) | ((with_reducible refine below_set' ?_ ?_); (focus (first | (simp; done) | omega | (simp; omega)))) | (with_reducible refine below_step ?_ (by assumption)) | (with_reducible refine below_step_since ?_ (by assumption)) | ((with_reducible refine below_since' (by assumption) ?_ ?_); (focus (first | (simp; done) | omega | (simp; omega)))) | ((with_reducible refine below_trans' (by assumption) ?_ ?_); (focus (first | (simp; done) | omega | (simp; omega))))))); have B0 : Blk w2 w.heap.size 28 #[.int .i64 2, .int .i64 xd, .slice A n c, .slice B m e] := (Blk.new _ _ _).below hb (by simp); clear hb; have l0 := B0.lt; have f0 := B0.frozen; have c0_0 := B0.cell_ 0 rfl; have c0_1 := B0.cell_ 1 rfl; have c0_2 := B0.cell_ 2 rfl; have c0_3 := B0.cell_ 3 rfl) | (go_at_call 57; (with_reducible refine Calls.mono (HN _ (by (repeat (first | (with_reducible exact Below.refl _ _) | (with_reducible assumption) | (with_reducible refine Below.drew ?_) | (with_reducible refine below_drewN ?_ _) | ((with_reducible refine below_alloc' ?_ ?_); (focus (first | (simp; done) | omega | (simp; omega)))) | ((with_reducible refine below_set' ?_ ?_); (focus (first | (simp; done) | omega | (simp; omega)))) | (with_reducible refine below_step ?_ (by assumption)) | (with_reducible refine below_step_since ?_ (by assumption)) | ((with_reducible refine below_since' (by assumption) ?_ ?_); (focus (first | (simp; done) | omega | (simp; omega)))) | ((with_reducible refine below_trans' (by assumption) ?_ ?_); (focus (first | (simp; done) | omega | (simp; omega)))))))).out ?_); rintro e w3 ⟨⟨A', c', rfl, hr⟩, hb⟩; have HB : Below w.heap.size w w3 := (by (repeat (first | (with_reducible exact Below.refl _ _) | (with_reducible assumption) | (with_reducible refine Below.drew ?_) | (with_reducible refine below_drewN ?_ _) | ((with_reducible refine below_alloc' ?_ ?_); (focus (first | (simp; done) | omega | (simp; omega)))) | ((with_reducible refine below_set' ?_ ?_); (focus (first | (simp; done) | omega | (simp; omega)))) | (with_reducible refine below_step ?_ (by assumption)) | (with_reducible refine below_step_since ?_ (by assumption)) | ((with_reducible refine below_since' (by assumption) ?_ ?_); (focus (first | (simp; done) | omega | (simp; omega)))) | ((with_reducible refine below_trans' (by assumption) ?_ ?_); (focus (first | (simp; done) | omega | (simp; omega))))))); clear hb; have hz3 := HB.size) | (go_at_call 58; (with_reducible refine Calls.mono (HP A' c' _ (by exact (hr.below (below_alloc' (Nat.le_refl _) (Below.refl _ _))).more (by simp))).out ?_); rintro e w4 ⟨⟨A2, c2, rfl, hr2⟩, hb⟩; have HB : Below w.heap.size w w4 := (by (repeat (first | (with_reducible exact Below.refl _ _) | (with_reducible assumption) | (with_reducible refine Below.drew ?_) | (with_reducible refine below_drewN ?_ _) | ((with_reducible refine below_alloc' ?_ ?_); (focus (first | (simp; done) | omega | (simp; omega)))) | ((with_reducible refine below_set' ?_ ?_); (focus (first | (simp; done) | omega | (simp; omega)))) | (with_reducible refine below_step ?_ (by assumption)) | (with_reducible refine below_step_since ?_ (by assumption)) | ((with_reducible refine below_since' (by assumption) ?_ ?_); (focus (first | (simp; done) | omega | (simp; omega)))) | ((with_reducible refine below_trans' (by assumption) ?_ ?_); (focus (first | (simp; done) | omega | (simp; omega))))))); clear hb))
  go_ret2
  exact ⟨⟨A2, c2, rfl, hr2⟩, HB⟩

theorem gLine_not (f : Nat) (g : G) (x : GC) (w : World) (h : IsG w w.heap.size f g x) (hno : ¬ (x.k = 2 ∧ weight f g ≤ 2000)) :
    Calls Try.prog 18 #[.agg #[.int .i64 x.k, .int .i64 x.d, .slice x.A x.n x.c, .slice x.B x.m x.e]] w fun e w' =>
      e = .returned (.tuple #[.slice none 0 0, .bool false]) ∧ Below w.heap.size w w' := by
  have HS := fun (W : World) (b : Nat) (hW : Below w.heap.size w W) (hb : b = W.heap.size) => Lib.hid (gSmall_one f g x W b (h.on hW) hb)
  obtain ⟨xk, xd, A, n, c, B, m, e⟩ := x
  simp only at hno HS ⊢
  clear h
  by_cases hw : weight f g ≤ 2000
  · have hk : ¬ xk = 2 := fun e => hno ⟨e, hw⟩
    rw [show decide (weight f g ≤ 2000) = true by simpa using hw] at HS
    clear hw hno
    go_enter Try.func18, Try.ntmps18
    go_wp2_with (go_at_call 56; (with_reducible refine Calls.mono (HS _ _ (by (repeat (first | (with_reducible exact Below.refl _ _) | (with_reducible assumption) | (with_reducible refine Below.drew ?_) | (with_reducible refine below_drewN ?_ _) | ((with_reducible refine below_alloc' ?_ ?_); (focus (first | (simp; done) | omega | (simp; omega)))) | ((with_reducible refine below_set' ?_ ?_); (focus (first | (simp; done) | omega | (simp; omega)))) | (with_reducible refine below_step ?_ (by assumption)) | (with_reducible refine below_step_since ?_ (by assumption)) | ((with_reducible refine below_since' (by assumption) ?_ ?_); (focus (first | (simp; done) | omega | (simp; omega)))) | ((with_reducible refine below_trans' (by assumption) ?_ ?_); (focus (first | (simp; done) | omega | (simp; omega))))))) (by simp)).out ?_); rintro e w2 ⟨rfl, hb⟩; have HB : Below w.heap.size w w2 := (by (repeat (first | (with_reducible exact Below.refl _ _) | (with_reducible assumption) | (with_reducible refine Below.drew ?_) | (with_reducible refine below_drewN ?_ _) | ((with_reducible refine below_alloc' ?_ ?_); (focus (first | (simp; done) | omega | (simp; omega)))) | ((with_reducible refine below_set' ?_ ?_); (focus (first | (simp; done) | omega | (simp; omega)))) | (with_reducible refine below_step ?_ (by assumption)) | (with_reducible refine below_step_since ?_ (by assumption)) | ((with_reducible refine below_since' (by assumption) ?_ ?_); (focus (first | (simp; done) | omega | (simp; omega)))) | ((with_reducible refine below_trans' (by assumption) ?_ ?_); (focus (first | (simp; done) | omega | (simp; omega))))))); have B0 : Blk w2 w.heap.size 28 #[.int .i64 xk, .int .i64 xd, .slice A n c, .slice B m e] := (Blk.new _ _ _).below hb (by simp); clear hb; have l0 := B0.lt; have f0 := B0.frozen; have c0_0 := B0.cell_ 0 rfl; have c0_1 := B0.cell_ 1 rfl; have c0_2 := B0.cell_ 2 rfl; have c0_3 := B0.cell_ 3 rfl)
    go_ret2
    exact ⟨rfl, HB⟩
  · rw [show decide (weight f g ≤ 2000) = false by simpa using hw] at HS
    clear hw hno
    go_enter Try.func18, Try.ntmps18
    go_wp2_with (go_at_call 56; (with_reducible refine Calls.mono (HS _ _ (by (repeat (first | (with_reducible exact Below.refl _ _) | (with_reducible assumption) | (with_reducible refine Below.drew ?_) | (with_reducible refine below_drewN ?_ _) | ((with_reducible refine below_alloc' ?_ ?_); (focus (first | (simp; done) | omega | (simp; omega)))) | ((with_reducible refine below_set' ?_ ?_); (focus (first | (simp; done) | omega | (simp; omega)))) | (with_reducible refine below_step ?_ (by assumption)) | (with_reducible refine below_step_since ?_ (by assumption)) | ((with_reducible refine below_since' (by assumption) ?_ ?_); (focus (first | (simp; done) | omega | (simp; omega)))) | ((with_reducible refine below_trans' (by assumption) ?_ ?_); (focus (first | (simp; done) | omega | (simp; omega))))))) (by simp)).out ?_); rintro e w2 ⟨rfl, hb⟩; have HB : Below w.heap.size w w2 := (by (repeat (first | (with_reducible exact Below.refl _ _) | (with_reducible assumption) | (with_reducible refine Below.drew ?_) | (with_reducible refine below_drewN ?_ _) | ((with_reducible refine below_alloc' ?_ ?_); (focus (first | (simp; done) | omega | (simp; omega)))) | ((with_reducible refine below_set' ?_ ?_); (focus (first | (simp; done) | omega | (simp; omega)))) | (with_reducible refine below_step ?_ (by assumption)) | (with_reducible refine below_step_since ?_ (by assumption)) | ((with_reducible refine below_since' (by assumption) ?_ ?_); (focus (first | (simp; done) | omega | (simp; omega)))) | ((with_reducible refine below_trans' (by assumption) ?_ ?_); (focus (first | (simp; done) | omega | (simp; omega))))))); clear hb)
    go_ret2
    exact ⟨rfl, HB⟩
end Go.Proofs.Ytciblaabghiefaa
