/- FnSeqLength. -/
import Derived.Test.YtciblaabghiefaaGLine
namespace Go.Proofs.Ytciblaabghiefaa.fnSeqLength
open Go.RowKit
set_option maxRecDepth 100000

theorem seqLength_any (d : Int) (A : Option Addr) (c : Nat) (B : Option Addr) (m e : Nat) (xs : List Nat) (w : World) (h : Reads w w.heap.size 1 A xs.length (xs.map fl)) (hn : xs.length ≤ 2147483647) :
    Calls Try.prog 19 #[.agg #[.int .i64 2, .int .i64 d, .slice A xs.length c, .slice B m e]] w fun en w' => en = .returned (.int .i64 (kept xs.length (d % 4) / wd (d % 4) : Nat)) ∧ Below w.heap.size w w' := by
  have HS := fun W hW => Lib.hid (line_any d A c B m e xs W ((h.below hW).more hW.size) hn)
  unfold IsSeq at HS
  have HL := fun (A : Option Addr) (c : Nat) W => Lib.hid (length_any (d % 4) (d4 d) A (kept xs.length (d % 4)) c (by have := kept_le xs.length (d % 4); omega) W)
  have hq : Hid (((kept xs.length (d % 4) / wd (d % 4) : Nat) : Int) = (kept xs.length (d % 4) : Int) / (wd (d % 4) : Int)) := by show _ = _; simp
  clear h
  generalize ((xs.take (kept xs.length (d % 4))).map fl).toArray = cs at *
  generalize kept xs.length (d % 4) / wd (d % 4) = q at *
  generalize (kept xs.length (d % 4) : Int) / (wd (d % 4) : Int) = q' at *
  generalize kept xs.length (d % 4) = k at *
  generalize xs.length = n at *
  generalize d % 4 = dd at *
  go_enter Try.func19, Try.ntmps19
  go_wp2_with (first | (go_at_call 59; (with_reducible refine Calls.mono (HS _ (by (repeat (first | (with_reducible exact Below.refl _ _) | (with_reducible assumption) | (with_reducible refine Below.drew ?_) | (with_reducible refine below_drewN ?_ _) | ((with_reducible refine below_alloc' ?_ ?_); (focus (first | (simp; done) | omega | (simp; omega)))) | ((with_reducible refine below_set' ?_ ?_); (focus (first | (simp; done) | omega | (simp; omega)))) | (with_reducible refine below_step ?_ (by assumption)) | (with_reducible refine below_step_since ?_ (by assumption)) | ((with_reducible refine below_since' (by assumption) ?_ ?_); (focus (first | (simp; done) | omega | (simp; omega)))) | ((with_reducible refine below_trans' (by assumption) ?_ ?_); (focus (first | (simp; done) | omega | (simp; omega)))))))).out ?_); rintro e w2 ⟨g, hg, rfl, BS, hb⟩; have HB : Below w.heap.size w w2 := (by (repeat (first | (with_reducible exact Below.refl _ _) | (with_reducible assumption) | (with_reducible refine Below.drew ?_) | (with_reducible refine below_drewN ?_ _) | ((with_reducible refine below_alloc' ?_ ?_); (focus (first | (simp; done) | omega | (simp; omega)))) | ((with_reducible refine below_set' ?_ ?_); (focus (first | (simp; done) | omega | (simp; omega)))) | (with_reducible refine below_step ?_ (by assumption)) | (with_reducible refine below_step_since ?_ (by assumption)) | ((with_reducible refine below_since' (by assumption) ?_ ?_); (focus (first | (simp; done) | omega | (simp; omega)))) | ((with_reducible refine below_trans' (by assumption) ?_ ?_); (focus (first | (simp; done) | omega | (simp; omega))))))); clear hb) | (go_at_call 60; (with_reducible refine Calls.mono (lineCoords_any _ _ _ _ _) ?_); rintro e w2 ⟨rfl, hb⟩; replace HB : Below w.heap.size w w2 := (by (repeat (first | (with_reducible exact Below.refl _ _) | (with_reducible assumption) | (with_reducible refine Below.drew ?_) | (with_reducible refine below_drewN ?_ _) | ((with_reducible refine below_alloc' ?_ ?_); (focus (first | (simp; done) | omega | (simp; omega)))) | ((with_reducible refine below_set' ?_ ?_); (focus (first | (simp; done) | omega | (simp; omega)))) | (with_reducible refine below_step ?_ (by assumption)) | (with_reducible refine below_step_since ?_ (by assumption)) | ((with_reducible refine below_since' (by assumption) ?_ ?_); (focus (first | (simp; done) | omega | (simp; omega)))) | ((with_reducible refine below_trans' (by assumption) ?_ ?_); (focus (first | (simp; done) | omega | (simp; omega))))))); clear hb) | (go_at_call 61; (with_reducible refine Calls.mono ((HL _ _ _).out) ?_); rintro e w2 ⟨rfl, hb⟩))
  go_ret
  exact ⟨by rw [hq.out]; rfl, (by (repeat (first | (with_reducible exact Below.refl _ _) | (with_reducible assumption) | (with_reducible refine Below.drew ?_) | (with_reducible refine below_drewN ?_ _) | ((with_reducible refine below_alloc' ?_ ?_); (focus (first | (simp; done) | omega | (simp; omega)))) | ((with_reducible refine below_set' ?_ ?_); (focus (first | (simp; done) | omega | (simp; omega)))) | (with_reducible refine below_step ?_ (by assumption)) | (with_reducible refine below_step_since ?_ (by assumption)) | ((with_reducible refine below_since' (by assumption) ?_ ?_); (focus (first | (simp; done) | omega | (simp; omega)))) | ((with_reducible refine below_trans' (by assumption) ?_ ?_); (focus (first | (simp; done) | omega | (simp; omega)))))))⟩

theorem law_any (f : Nat) (g : G) (x : GC) (w : World) (h : IsG w w.heap.size f g x) :
    Calls Try.prog 4 #[.agg #[.int .i64 x.k, .int .i64 x.d, .slice x.A x.n x.c, .slice x.B x.m x.e]] w fun e w' => e = .returned (.bool true) ∧ Below w.heap.size w w' := by
  have HZ := fun W => Lib.hid (zzFits2_any x W)
  by_cases hz : (decide (x.n ≤ 2147483647) && decide (x.m ≤ 2147483647)) = true
  · rw [hz] at HZ
    by_cases hy : x.k = 2 ∧ weight f g ≤ 2000
    · obtain ⟨f', xs, hxs, hR, hc⟩ : ∃ (f' : Nat) (xs : List Nat), x.n = xs.length ∧ Reads w w.heap.size 1 x.A xs.length (xs.map fl) ∧ x.n ≤ x.c := by
        cases f with
        | zero => exact h.elim
        | succ f =>
          obtain ⟨k, d, ns, ks⟩ := g
          obtain ⟨_, ⟨h1, h2, _, _, h3⟩, _⟩ := h
          exact ⟨f, ns, h1, by rw [← h1]; exact h3, h2⟩
      have hn : xs.length ≤ 2147483647 := by simp at hz; omega
      have HG := fun W hW => Lib.hid (gLine_line f g x xs W (h.on hW) hy.1 hy.2 hxs ((hR.below hW).more hW.size) hc hn)
      obtain ⟨hk, _⟩ := hy
      clear hz
      obtain ⟨xk, xd, A, n, c, B, m, e⟩ := x
      simp only at *
      subst hk
      subst hxs
      have HQ := fun W hW => Lib.hid (seqLength_any xd A c B m e xs W ((hR.below hW).more hW.size) hn)
      clear h hR hn
      generalize plcs (xd % 4) (xs.take (kept xs.length (xd % 4))) (kept xs.length (xd % 4) / wd (xd % 4)) = pl at *
      generalize kept xs.length (xd % 4) / wd (xd % 4) = q at *
      generalize xs.length = n at *
      go_enter Try.func4, Try.ntmps4
      go_wp2_with (first | (go_at_call 17; (with_reducible refine Calls.mono ((HZ _).out) ?_); rintro e w2 ⟨rfl, hb⟩; have HB : Below w.heap.size w w2 := (by (repeat (first | (with_reducible exact Below.refl _ _) | (with_reducible assumption) | (with_reducible refine Below.drew ?_) | (with_reducible refine below_drewN ?_ _) | ((with_reducible refine below_alloc' ?_ ?_); (focus (first | (simp; done) | omega | (simp; omega)))) | ((with_reducible refine below_set' ?_ ?_); (focus (first | (simp; done) | omega | (simp; omega)))) | (with_reducible refine below_step ?_ (by assumption)) | (with_reducible refine below_step_since ?_ (by assumption)) | ((with_reducible refine below_since' (by assumption) ?_ ?_); (focus (first | (simp; done) | omega | (simp; omega)))) | ((with_reducible refine below_trans' (by assumption) ?_ ?_); (focus (first | (simp; done) | omega | (simp; omega))))))); have B0 : Blk w2 w.heap.size 28 #[.int .i64 2, .int .i64 xd, .slice A n c, .slice B m e] := (Blk.new _ _ _).below hb (by simp); clear hb; have l0 := B0.lt; have f0 := B0.frozen; have c0_0 := B0.cell_ 0 rfl; have c0_1 := B0.cell_ 1 rfl; have c0_2 := B0.cell_ 2 rfl; have c0_3 := B0.cell_ 3 rfl) | (go_at_call 18; (with_reducible refine Calls.mono (HG _ (by (repeat (first | (with_reducible exact Below.refl _ _) | (with_reducible assumption) | (with_reducible refine Below.drew ?_) | (with_reducible refine below_drewN ?_ _) | ((with_reducible refine below_alloc' ?_ ?_); (focus (first | (simp; done) | omega | (simp; omega)))) | ((with_reducible refine below_set' ?_ ?_); (focus (first | (simp; done) | omega | (simp; omega)))) | (with_reducible refine below_step ?_ (by assumption)) | (with_reducible refine below_step_since ?_ (by assumption)) | ((with_reducible refine below_since' (by assumption) ?_ ?_); (focus (first | (simp; done) | omega | (simp; omega)))) | ((with_reducible refine below_trans' (by assumption) ?_ ?_); (focus (first | (simp; done) | omega | (simp; omega)))))))).out ?_); rintro e w3 ⟨⟨A', c', rfl, hr⟩, hb⟩; replace HB : Below w.heap.size w w3 := (by (repeat (first | (with_reducible exact Below.refl _ _) | (with_reducible assumption) | (with_reducible refine Below.drew ?_) | (with_reducible refine below_drewN ?_ _) | ((with_reducible refine below_alloc' ?_ ?_); (focus (first | (simp; done) | omega | (simp; omega)))) | ((with_reducible refine below_set' ?_ ?_); (focus (first | (simp; done) | omega | (simp; omega)))) | (with_reducible refine below_step ?_ (by assumption)) | (with_reducible refine below_step_since ?_ (by assumption)) | ((with_reducible refine below_since' (by assumption) ?_ ?_); (focus (first | (simp; done) | omega | (simp; omega)))) | ((with_reducible refine below_trans' (by assumption) ?_ ?_); (focus (first | (simp; done) | omega | (simp; omega))))))); replace B0 := B0.below hb B0.lt; clear hb; clear l0 f0 c0_0 c0_1 c0_2 c0_3; have l0 := B0.lt; have f0 := B0.frozen; have c0_0 := B0.cell_ 0 rfl; have c0_1 := B0.cell_ 1 rfl; have c0_2 := B0.cell_ 2 rfl; have c0_3 := B0.cell_ 3 rfl) | (go_at_call 19; (with_reducible refine Calls.mono ((HQ _ (by (repeat (first | (with_reducible exact Below.refl _ _) | (with_reducible assumption) | (with_reducible refine Below.drew ?_) | (with_reducible refine below_drewN ?_ _) | ((with_reducible refine below_alloc' ?_ ?_); (focus (first | (simp; done) | omega | (simp; omega)))) | ((with_reducible refine below_set' ?_ ?_); (focus (first | (simp; done) | omega | (simp; omega)))) | (with_reducible refine below_step ?_ (by assumption)) | (with_reducible refine below_step_since ?_ (by assumption)) | ((with_reducible refine below_since' (by assumption) ?_ ?_); (focus (first | (simp; done) | omega | (simp; omega)))) | ((with_reducible refine below_trans' (by assumption) ?_ ?_); (focus (first | (simp; done) | omega | (simp; omega)))))))).out) ?_); rintro e w2 ⟨rfl, hb⟩))
      go_ret
      exact ⟨by simp, (by (repeat (first | (with_reducible exact Below.refl _ _) | (with_reducible assumption) | (with_reducible refine Below.drew ?_) | (with_reducible refine below_drewN ?_ _) | ((with_reducible refine below_alloc' ?_ ?_); (focus (first | (simp; done) | omega | (simp; omega)))) | ((with_reducible refine below_set' ?_ ?_); (focus (first | (simp; done) | omega | (simp; omega)))) | (with_reducible refine below_step ?_ (by assumption)) | (with_reducible refine below_step_since ?_ (by assumption)) | ((with_reducible refine below_since' (by assumption) ?_ ?_); (focus (first | (simp; done) | omega | (simp; omega)))) | ((with_reducible refine below_trans' (by assumption) ?_ ?_); (focus (first | (simp; done) | omega | (simp; omega)))))))⟩
    · have HG := fun W hW => Lib.hid (gLine_not f g x W (h.on hW) hy)
      obtain ⟨xk, xd, A, n, c, B, m, e⟩ := x
      simp only at *
      clear h hz hy
      go_enter Try.func4, Try.ntmps4
      go_wp2_with (first | (go_at_call 17; (with_reducible refine Calls.mono ((HZ _).out) ?_); rintro e w2 ⟨rfl, hb⟩; have HB : Below w.heap.size w w2 := (by (repeat (first | (with_reducible exact Below.refl _ _) | (with_reducible assumption) | (with_reducible refine Below.drew ?_) | (with_reducible refine below_drewN ?_ _) | ((with_reducible refine below_alloc' ?_ ?_); (focus (first | (simp; done) | omega | (simp; omega)))) | ((with_reducible refine below_set' ?_ ?_); (focus (first | (simp; done) | omega | (simp; omega)))) | (with_reducible refine below_step ?_ (by assumption)) | (with_reducible refine below_step_since ?_ (by assumption)) | ((with_reducible refine below_since' (by assumption) ?_ ?_); (focus (first | (simp; done) | omega | (simp; omega)))) | ((with_reducible refine below_trans' (by assumption) ?_ ?_); (focus (first | (simp; done) | omega | (simp; omega))))))); have B0 : Blk w2 w.heap.size 28 #[.int .i64 xk, .int .i64 xd, .slice A n c, .slice B m e] := (Blk.new _ _ _).below hb (by simp); clear hb; have l0 := B0.lt; have f0 := B0.frozen; have c0_0 := B0.cell_ 0 rfl; have c0_1 := B0.cell_ 1 rfl; have c0_2 := B0.cell_ 2 rfl; have c0_3 := B0.cell_ 3 rfl) | (go_at_call 18; (with_reducible refine Calls.mono ((HG _ (by (repeat (first | (with_reducible exact Below.refl _ _) | (with_reducible assumption) | (with_reducible refine Below.drew ?_) | (with_reducible refine below_drewN ?_ _) | ((with_reducible refine below_alloc' ?_ ?_); (focus (first | (simp; done) | omega | (simp; omega)))) | ((with_reducible refine below_set' ?_ ?_); (focus (first | (simp; done) | omega | (simp; omega)))) | (with_reducible refine below_step ?_ (by assumption)) | (with_reducible refine below_step_since ?_ (by assumption)) | ((with_reducible refine below_since' (by assumption) ?_ ?_); (focus (first | (simp; done) | omega | (simp; omega)))) | ((with_reducible refine below_trans' (by assumption) ?_ ?_); (focus (first | (simp; done) | omega | (simp; omega)))))))).out) ?_); rintro e w2 ⟨rfl, hb⟩; replace HB : Below w.heap.size w w2 := (by (repeat (first | (with_reducible exact Below.refl _ _) | (with_reducible assumption) | (with_reducible refine Below.drew ?_) | (with_reducible refine below_drewN ?_ _) | ((with_reducible refine below_alloc' ?_ ?_); (focus (first | (simp; done) | omega | (simp; omega)))) | ((with_reducible refine below_set' ?_ ?_); (focus (first | (simp; done) | omega | (simp; omega)))) | (with_reducible refine below_step ?_ (by assumption)) | (with_reducible refine below_step_since ?_ (by assumption)) | ((with_reducible refine below_since' (by assumption) ?_ ?_); (focus (first | (simp; done) | omega | (simp; omega)))) | ((with_reducible refine below_trans' (by assumption) ?_ ?_); (focus (first | (simp; done) | omega | (simp; omega))))))); replace B0 := B0.below hb B0.lt; clear hb))
      go_ret
      exact ⟨rfl, (by (repeat (first | (with_reducible exact Below.refl _ _) | (with_reducible assumption) | (with_reducible refine Below.drew ?_) | (with_reducible refine below_drewN ?_ _) | ((with_reducible refine below_alloc' ?_ ?_); (focus (first | (simp; done) | omega | (simp; omega)))) | ((with_reducible refine below_set' ?_ ?_); (focus (first | (simp; done) | omega | (simp; omega)))) | (with_reducible refine below_step ?_ (by assumption)) | (with_reducible refine below_step_since ?_ (by assumption)) | ((with_reducible refine below_since' (by assumption) ?_ ?_); (focus (first | (simp; done) | omega | (simp; omega)))) | ((with_reducible refine below_trans' (by assumption) ?_ ?_); (focus (first | (simp; done) | omega | (simp; omega)))))))⟩
  · rw [Bool.not_eq_true] at hz
    rw [hz] at HZ
    obtain ⟨xk, xd, A, n, c, B, m, e⟩ := x
    simp only at *
    clear h hz
    go_enter Try.func4, Try.ntmps4
    go_wp2_with (go_at_call 17; (with_reducible refine Calls.mono ((HZ _).out) ?_); rintro e w2 ⟨rfl, hb⟩)
    go_ret
    exact ⟨rfl, (by (repeat (first | (with_reducible exact Below.refl _ _) | (with_reducible assumption) | (with_reducible refine Below.drew ?_) | (with_reducible refine below_drewN ?_ _) | ((with_reducible refine below_alloc' ?_ ?_); (focus (first | (simp; done) | omega | (simp; omega)))) | ((with_reducible refine below_set' ?_ ?_); (focus (first | (simp; done) | omega | (simp; omega)))) | (with_reducible refine below_step ?_ (by assumption)) | (with_reducible refine below_step_since ?_ (by assumption)) | ((with_reducible refine below_since' (by assumption) ?_ ?_); (focus (first | (simp; done) | omega | (simp; omega)))) | ((with_reducible refine below_trans' (by assumption) ?_ ?_); (focus (first | (simp; done) | omega | (simp; omega)))))))⟩

open Go.ChangeShapes Go.WideShapes Go.ChangeAt
set_option maxRecDepth 100000 in
theorem lifted (os : Os) (started : os.Started) (H : Type) (enc : TypeId × Value → H) :
    ReturnsInHanded {} Try.checked os 4 .any (Rows.fnSeqLengthSpec.pre6 enc Try.prog Try.f4 Rows.fnSeqLengthRow.domain false) (Rows.fnSeqLengthSpec.post enc Try.prog Try.f4 false true false false) := by
  refine returnsInHanded_of_change (C := Try.checked) own started (by kernel_rfl) Try.func4
    (ChangeSpec.witness6 (enc := enc) (C := Try.checked) false ⟨#[], #[.agg #[.int .i64 0, .int .i64 0, .slice none 0 0, .slice none 0 0]], []⟩ 8 (by kernel_rfl) (by kernel_rfl) (by kernel_rfl) (by kernel_rfl)) ?_
  intro W base args ds gs before hval0 hW hcnd _
  have hval : ∀ (j : Nat) t v, Try.f4.params[j]? = some t → args[j]? = some v → Value.okWide Try.prog W .any base t v := hval0
  have hW' := hW
  obtain ⟨p, q, hA0, hV, rfl, hfz, hnd⟩ := hW
  have hA : DataW.TrodAll enc Try.prog W 0 (fun _ => true) true Try.f4.params.toList args.toList ds p := hA0
  rw [Try.params4] at hA hval
  obtain ⟨v0, vs0, d0, ds0, p0, q0, hargs, rfl, rfl, h0, r0⟩ := trodAll_cons hA
  obtain ⟨rfl, rfl, rfl⟩ := trodAll_nil r0
  obtain rfl : args = #[v0] := by cases args; simp_all
  obtain ⟨rfl, rfl⟩ := trodVars_none hV
  have k0 := h0
  have lt0 : ∀ x ∈ p0, x.block < W.heap.size := by obtain ⟨m, hm⟩ := k0; exact DataW.trod_lt m _ _ _ hm
  obtain ⟨x0, g0, m0, rfl, IG0⟩ := open_Geom (hval 0 28 v0 rfl rfl) h0
  clear hA0 hval0
  refine (law_any m0 g0 x0 W IG0).mono fun e W' ⟨he, bel⟩ => ?_
  subst he
  exact ⟨_, rfl, _, _, _, [], _, [], hW', trodAll_mk1 (shut_bool Try.underlying4 _), (trodAll_cons_mk (Below.trod laidOut (by kernel_rfl) (of_decide_eq_true (by kernel_rfl)) k0 bel lt0) trodAll_mk0), rfl, bel.frame _, fun h => by cases h⟩

theorem over : Rows.fnSeqLengthRow.holds Try.pinned (OpenSpec.ofChange Rows.fnSeqLengthSpec) :=
  OpenClaim.holds_of_wide 4 Try.f4 rfl rfl rfl rfl rfl rfl rfl ⟨rfl, rfl, rfl, rfl, rfl⟩ rfl rfl rfl rfl rfl (by kernel_rfl) Try.func4 (by kernel_rfl)
    (of_decide_eq_true (by kernel_rfl)) (by unfold Func.isWrapper; first | (rw [if_pos (by decide +kernel)]; kernel_rfl) | (rw [if_neg (by decide +kernel)]; exact ⟨rfl, rfl⟩))
    (fun os started H enc _ => lifted os started H enc)

theorem proved : Rows.FnSeqLengthSaid := over
#print axioms proved
end Go.Proofs.Ytciblaabghiefaa.fnSeqLength
