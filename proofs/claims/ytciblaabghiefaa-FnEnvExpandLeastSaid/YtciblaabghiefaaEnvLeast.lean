/- FnEnvExpandLeast. -/
import Derived.Test.YtciblaabghiefaaEnvPl
import Derived.Test.YtciblaabghiefaaOpen
namespace Go.Proofs.Ytciblaabghiefaa.fnEnvExpandLeast
open Go.RowKit
attribute [local go_sem] run_store_float
set_option maxRecDepth 100000

theorem xy_info : (Try.prog.info? 36).map (fun i => (i.zero, i.size, i.bytes)) = some (some (.agg #[.float .f64 0, .float .f64 0]), 2, 16) := by kernel_rfl

set_option maxHeartbeats 3000000 in
theorem main_any (a b c d a' b' c' d' : Nat) (bf : Bool) (A B C D : Nat) (ha : Fl.fin a = true) (hb0 : Fl.fin b = true) (hc0 : Fl.fin c = true) (hd : Fl.fin d = true) (ha' : Fl.fin a' = true) (hb' : Fl.fin b' = true) (hc' : Fl.fin c' = true) (hd' : Fl.fin d' = true) (hB : EB.fits ⟨bf, A, B, C, D⟩ = true)
    (hw : ∀ e ∈ [(⟨true, a, b, c, d⟩ : EB), ⟨true, a', b', c', d'⟩, ⟨bf, A, B, C, D⟩], W64 e.a ∧ W64 e.b ∧ W64 e.c ∧ W64 e.d) (w : World) :
    Calls Try.prog 11 #[.agg #[.bool true, .float .f64 a, .float .f64 b, .float .f64 c, .float .f64 d], .agg #[.bool true, .float .f64 a', .float .f64 b', .float .f64 c', .float .f64 d'], .agg #[.bool bf, .float .f64 A, .float .f64 B, .float .f64 C, .float .f64 D]] w fun e w' => e = .returned (.bool true) ∧ Below w.heap.size w w' := by
  have hfit : [(⟨true, a, b, c, d⟩ : EB), ⟨true, a', b', c', d'⟩, ⟨bf, A, B, C, D⟩].all EB.fits = true := by simp [hB]; simp [EB.fits, ha, hb0, hc0, hd, ha', hb', hc', hd']
  have HF := fun (W : World) (g : Nat) (hg : g = W.heap.size) => Lib.hid (eFits_any (some ⟨g, 0, none⟩) 3 3 _ _ (reads_new' W g hg ([(⟨true, a, b, c, d⟩ : EB), ⟨true, a', b', c', d'⟩, ⟨bf, A, B, C, D⟩].flatMap EB.list) 71 5 3 rfl (by omega)) (by omega) hw)
  rw [hfit] at HF
  replace HF : ∀ (W : World) (g : Nat), g = W.heap.size → Hid (Calls Try.prog 39 #[.slice (some ⟨g, 0, none⟩) 3 3] (W.alloc (.cells #[.bool true, .float .f64 a, .float .f64 b, .float .f64 c, .float .f64 d, .bool true, .float .f64 a', .float .f64 b', .float .f64 c', .float .f64 d', .bool bf, .float .f64 A, .float .f64 B, .float .f64 C, .float .f64 D] 71)) fun e w' => e = .returned (.bool true) ∧ Below W.heap.size W w') := fun W g hg => Lib.hid ((HF W g hg).out.mono fun e w' ⟨h1, h2⟩ => ⟨h1, by have h2 : Below (W.alloc (.cells #[.bool true, .float .f64 a, .float .f64 b, .float .f64 c, .float .f64 d, .bool true, .float .f64 a', .float .f64 b', .float .f64 c', .float .f64 d', .bool bf, .float .f64 A, .float .f64 B, .float .f64 C, .float .f64 D] 71)).heap.size _ _ := h2; (repeat (first | (with_reducible exact Below.refl _ _) | (with_reducible assumption) | (with_reducible refine Below.drew ?_) | (with_reducible refine below_drewN ?_ _) | ((with_reducible refine below_alloc' ?_ ?_); (focus (first | (simp; done) | omega | (simp; omega)))) | ((with_reducible refine below_set' ?_ ?_); (focus (first | (simp; done) | omega | (simp; omega)))) | (with_reducible refine below_step ?_ (by assumption)) | (with_reducible refine below_step_since ?_ (by assumption)) | ((with_reducible refine below_since' (by assumption) ?_ ?_); (focus (first | (simp; done) | omega | (simp; omega)))) | ((with_reducible refine below_trans' (by assumption) ?_ ?_); (focus (first | (simp; done) | omega | (simp; omega))))))⟩)
  have HP := Lib.hid (least_plain ha hb0 hc0 hd ha' hb' hc' hd' ⟨bf, A, B, C, D⟩ hB)
  have HC1 := fun W => Lib.hid (eCorners_full a b c d W)
  have HC2 := fun W => Lib.hid (eCorners_full a' b' c' d' W)
  have HM := fun W => Lib.hid (eMade_any bf A B C D W)
  clear hfit hw ha hb0 hc0 hd ha' hb' hc' hd' hB
  obtain ⟨i0, hi0, hz0, hz1, hz2⟩ := info_parts xy_info
  have HI := Lib.hid hi0; have HZ0 := Lib.hid hz0; have HZ1 := Lib.hid hz1; have HZ2 := Lib.hid hz2
  clear hi0 hz0 hz1 hz2
  go_enter Try.func11, Try.ntmps11
  go_wp2_with (go_at_call 39; (with_reducible refine Calls.mono ((HF _ _ (by simp)).out) ?_); rintro e w2 ⟨rfl, hb⟩; have HB : Below w.heap.size w w2 := (by (repeat (first | (with_reducible exact Below.refl _ _) | (with_reducible assumption) | (with_reducible refine Below.drew ?_) | (with_reducible refine below_drewN ?_ _) | ((with_reducible refine below_alloc' ?_ ?_); (focus (first | (simp; done) | omega | (simp; omega)))) | ((with_reducible refine below_set' ?_ ?_); (focus (first | (simp; done) | omega | (simp; omega)))) | (with_reducible refine below_step ?_ (by assumption)) | (with_reducible refine below_step_since ?_ (by assumption)) | ((with_reducible refine below_since' (by assumption) ?_ ?_); (focus (first | (simp; done) | omega | (simp; omega)))) | ((with_reducible refine below_trans' (by assumption) ?_ ?_); (focus (first | (simp; done) | omega | (simp; omega))))))); have B0 : Blk w2 w.heap.size 71 #[.bool true, .float .f64 a, .float .f64 b, .float .f64 c, .float .f64 d] := (((Blk.new w _ _).alloc _).alloc _).below hb (by simp; omega); have B1 : Blk w2 (w.heap.size + 1) 71 #[.bool true, .float .f64 a', .float .f64 b', .float .f64 c', .float .f64 d'] := ((Blk.new' (by simp)).alloc _).below hb (by simp); have B2 : Blk w2 (w.heap.size + 1 + 1) 71 #[.bool bf, .float .f64 A, .float .f64 B, .float .f64 C, .float .f64 D] := (Blk.new' (by simp)).below hb (by simp); clear hb; have l0 := B0.lt; have f0 := B0.frozen; have c0_0 := B0.cell_ 0 rfl; have c0_1 := B0.cell_ 1 rfl; have c0_2 := B0.cell_ 2 rfl; have c0_3 := B0.cell_ 3 rfl; have c0_4 := B0.cell_ 4 rfl; have l1 := B1.lt; have f1 := B1.frozen; have c1_0 := B1.cell_ 0 rfl; have c1_1 := B1.cell_ 1 rfl; have c1_2 := B1.cell_ 2 rfl; have c1_3 := B1.cell_ 3 rfl; have c1_4 := B1.cell_ 4 rfl; have l2 := B2.lt; have f2 := B2.frozen; have c2_0 := B2.cell_ 0 rfl; have c2_1 := B2.cell_ 1 rfl; have c2_2 := B2.cell_ 2 rfl; have c2_3 := B2.cell_ 3 rfl; have c2_4 := B2.cell_ 4 rfl)
  clear l0 f0 c0_0 c0_1 c0_2 c0_3 c0_4 l1 f1 c1_0 c1_1 c1_2 c1_3 c1_4 l2 f2 c2_0 c2_1 c2_2 c2_3 c2_4
  (refine left_startS (by kernel_rfl) ?_)
  generalize hW : World.drew _ = W; replace HB : Below w.heap.size w W := (by rw [← hW]; exact HB.drew); replace B0 := B0.drew; rw [hW] at B0; replace B1 := B1.drew; rw [hW] at B1; replace B2 := B2.drew; rw [hW] at B2; clear hW
  have l0 := B0.lt; have f0 := B0.frozen; have c0_0 := B0.cell_ 0 rfl; have c0_1 := B0.cell_ 1 rfl; have c0_2 := B0.cell_ 2 rfl; have c0_3 := B0.cell_ 3 rfl; have c0_4 := B0.cell_ 4 rfl; have l1 := B1.lt; have f1 := B1.frozen; have c1_0 := B1.cell_ 0 rfl; have c1_1 := B1.cell_ 1 rfl; have c1_2 := B1.cell_ 2 rfl; have c1_3 := B1.cell_ 3 rfl; have c1_4 := B1.cell_ 4 rfl
  have HS0 := Since.refl W
  (refine left_look 0 rfl (by kernel_rfl) HS0 ⟨?_, ?_, ?_, ?_⟩; rotate_left 2; (intro w1 hS K hK; have hc := Since.cell hS; have hf := Since.frz hS; have hz := Since.size hS; go_simp; (first | done | exact hK)); rotate_left 1; rfl); (refine left_look 2 rfl (by kernel_rfl) HS0 ⟨?_, ?_, ?_, ?_⟩; rotate_left 2; (intro w1 hS K hK; have hc := Since.cell hS; have hf := Since.frz hS; have hz := Since.size hS; go_simp; (first | done | exact hK)); rotate_left 1; rfl); (refine left_look 6 rfl (by kernel_rfl) HS0 ⟨?_, ?_, ?_, ?_⟩; rotate_left 2; (intro w1 hS K hK; have hc := Since.cell hS; have hf := Since.frz hS; have hz := Since.size hS; go_simp; (first | done | exact hK)); rotate_left 1; rfl)
  (refine left_only 1 rfl (by kernel_rfl) fun K hK => ?_; go_simp; go_at_call 40; (with_reducible refine Calls.mono (HC1 _).out ?_); rintro e w3 ⟨⟨g1, hg1, rfl, own1⟩, hb⟩; (try go_simp); refine hK _ _ rfl (HS0.then hb) ?_; clear hK K; replace HS0 := (HS0.then hb))
  (refine left_only 3 rfl (by kernel_rfl) fun K hK => ?_; go_simp; go_at_call 40; (with_reducible refine Calls.mono (HC2 _).out ?_); rintro e w4 ⟨⟨g2, hg2, rfl, own2⟩, hb⟩; replace own1 := own_below own1 hb (Nat.le_refl _); (try go_simp); refine hK _ _ rfl (HS0.then hb) ?_; clear hK K; replace HS0 := (HS0.then hb))
  refine left_only 4 rfl (by kernel_rfl) fun K hK => ?_
  refine step_append_any _ rfl (.tmp 30) (.tmp 32) 73 rfl W.heap.size 36 i0 _ 2 16 Try.underlying73 HI.out HZ0.out HZ1.out HZ2.out rfl (by omega) _ _ _ rfl own1 _ _ 2 2 _ rfl (Reads.of_own own2) (by simp [xyCells, Value.oneCell']) (by simp [maxLen]) (by omega) (Since.size HS0) ?_
  intro v' w5 hown hg hat
  have HS1 : Since W w5 := Below.grown HS0 hg (Since.size HS0) (fun k hk => (own1.lt k hk).1)
  refine hK _ _ rfl HS1 ?_
  obtain ⟨A5, c5, rfl, hR⟩ := own_form hown
  clear hK K hg hat hown own1 own2
  replace HS0 := HS1
  clear HS1
  (refine left_only 5 rfl (by kernel_rfl) fun K hK => ?_; go_simp; (try go_simp); refine hK _ _ rfl (HS0) ?_; clear hK K; replace HS0 := (HS0))
  (refine left_end (by kernel_rfl) ?_)
  replace HB := below_step_since HB HS0
  replace B0 := B0.below HS0 B0.lt
  replace B1 := B1.below HS0 B1.lt
  replace B2 := B2.below HS0 B2.lt
  clear l0 f0 c0_0 c0_1 c0_2 c0_3 c0_4 l1 f1 c1_0 c1_1 c1_2 c1_3 c1_4
  clear HS0
  rename_i w5' _ _
  replace hR : Reads w5 w5.heap.size 2 A5 4 ([(a, b), (c, d), (a', b'), (c', d')].flatMap xyCells) := hR
  go_wp2
  generalize hps : [(a, b), (c, d), (a', b'), (c', d')] = ps at *
  have hlen : ps.length = 4 := by rw [← hps]; rfl
  have HLEN := Lib.hid hlen
  have HPS := Lib.hid hps
  clear hlen hps
  go_loopw [7, 35] (fun v i wr => ∃ k : Nat, k ≤ 4 ∧ i = .int .i64 k ∧ v = .bool (bf && (ps.take k).all (fun p => (ebMade ⟨bf, A, B, C, D⟩).has p.1 p.2)) ∧ Below w5.heap.size w5 wr) (fun _ i _ => 4 - (intOf i).toNat)
  case atStart => exact ⟨0, by omega, rfl, by simp, Below.refl _ _⟩
  case round =>
    obtain ⟨k, hk, rfl, rfl, hbl⟩ := hrel
    replace HB := below_step HB hbl
    replace B0 := B0.below hbl B0.lt
    replace B1 := B1.below hbl B1.lt
    replace B2 := B2.below hbl B2.lt
    by_cases hlt : k < 4
    · have hkl : k < ps.length := by rw [HLEN.out]; exact hlt
      obtain ⟨bb, off, rfl, had, hcell⟩ := hR.cellAt (by omega) (by omega)
      have g0 := flat_get xyCells 2 (fun _ => rfl) ps k 0 hkl (by omega)
      have g1 := flat_get xyCells 2 (fun _ => rfl) ps k 1 hkl (by omega)
      have HV : Hid ((bf && (ps.take (k + 1)).all (fun p => (ebMade ⟨bf, A, B, C, D⟩).has p.1 p.2)) = ((bf && (ps.take k).all (fun p => (ebMade ⟨bf, A, B, C, D⟩).has p.1 p.2)) && (ebMade ⟨bf, A, B, C, D⟩).has ps[k].1 ps[k].2)) := by
        show _ = _
        rw [List.take_succ_eq_append_getElem hkl, List.all_append]; simp [Bool.and_assoc]
      generalize ps[k] = p at *
      obtain ⟨x, y⟩ := p
      have e0 : wr.cell? ⟨bb, off + k * 2, none⟩ = some (.float .f64 x) := ((bcell hbl).1 _ _ had).trans (hcell _ _ g0)
      have e1 : wr.cell? ⟨bb, off + k * 2 + 1, none⟩ = some (.float .f64 y) := ((bcell hbl).1 _ _ had).trans (hcell _ _ g1)
      have lbb : bb < wr.heap.size := Nat.lt_of_lt_of_le had hbl.size
      clear g0 g1 hcell
      generalize (bf && (ps.take k).all (fun p => (ebMade ⟨bf, A, B, C, D⟩).has p.1 p.2)) = v at *
      generalize hM : ebMade ⟨bf, A, B, C, D⟩ = M at *
      have HMM := Lib.hid hM
      clear hM
      obtain ⟨mf, m0, m1, m2, m3⟩ := M
      unfold EB.cells at HM
      have HH := fun W => Lib.hid (eHas_any mf m0 m1 m2 m3 x y W)
      generalize EB.has ⟨mf, m0, m1, m2, m3⟩ x y = hs at *
      have hzr := hbl.size
      go_upto_region 7 with (fail)
      have B9 := Blk.new wr 36 #[.float .f64 x, .float .f64 y]
      have HBw : Below w5.heap.size w5 (wr.alloc (.cells #[.float .f64 x, .float .f64 y] 36)) := (by (repeat (first | (with_reducible exact Below.refl _ _) | (with_reducible assumption) | (with_reducible refine Below.drew ?_) | (with_reducible refine below_drewN ?_ _) | ((with_reducible refine below_alloc' ?_ ?_); (focus (first | (simp; done) | omega | (simp; omega)))) | ((with_reducible refine below_set' ?_ ?_); (focus (first | (simp; done) | omega | (simp; omega)))) | (with_reducible refine below_step ?_ (by assumption)) | (with_reducible refine below_step_since ?_ (by assumption)) | ((with_reducible refine below_since' (by assumption) ?_ ?_); (focus (first | (simp; done) | omega | (simp; omega)))) | ((with_reducible refine below_trans' (by assumption) ?_ ?_); (focus (first | (simp; done) | omega | (simp; omega)))))))
      replace B2 := B2.alloc (.cells #[.float .f64 x, .float .f64 y] 36)
      generalize wr.alloc (.cells #[.float .f64 x, .float .f64 y] 36) = W9 at *
      generalize wr.heap.size = g9 at *
      (refine left_startS (by kernel_rfl) ?_)
      generalize hW : World.drew W9 = Wd
      replace HBw : Below w5.heap.size w5 Wd := by rw [← hW]; exact HBw.drew
      replace B9 := B9.drew; rw [hW] at B9
      replace B2 := B2.drew; rw [hW] at B2
      clear hW
      have l9 := B9.lt; have f9 := B9.frozen; have c9_0 := B9.cell_ 0 rfl; have c9_1 := B9.cell_ 1 rfl; have l2 := B2.lt; have f2 := B2.frozen; have c2_0 := B2.cell_ 0 rfl; have c2_1 := B2.cell_ 1 rfl; have c2_2 := B2.cell_ 2 rfl; have c2_3 := B2.cell_ 3 rfl; have c2_4 := B2.cell_ 4 rfl
      have HS0 := Since.refl Wd
      cases v with
      | true =>
        (refine left_look 0 rfl (by kernel_rfl) HS0 ⟨?_, ?_, ?_, ?_⟩; rotate_left 2; (intro w1 hS K hK; have hc := Since.cell hS; have hf := Since.frz hS; have hz := Since.size hS; go_simp; (first | done | exact hK)); rotate_left 1; rfl); (refine left_look 1 rfl (by kernel_rfl) HS0 ⟨?_, ?_, ?_, ?_⟩; rotate_left 2; (intro w1 hS K hK; have hc := Since.cell hS; have hf := Since.frz hS; have hz := Since.size hS; go_simp; (first | done | exact hK)); rotate_left 1; rfl); (refine left_look 2 rfl (by kernel_rfl) HS0 ⟨?_, ?_, ?_, ?_⟩; rotate_left 2; (intro w1 hS K hK; have hc := Since.cell hS; have hf := Since.frz hS; have hz := Since.size hS; go_simp; (first | done | exact hK)); rotate_left 1; rfl); (refine left_look 4 rfl (by kernel_rfl) HS0 ⟨?_, ?_, ?_, ?_⟩; rotate_left 2; (intro w1 hS K hK; have hc := Since.cell hS; have hf := Since.frz hS; have hz := Since.size hS; go_simp; (first | done | exact hK)); rotate_left 1; rfl)
        (refine left_only 3 rfl (by kernel_rfl) fun K hK => ?_; go_simp; go_at_call 42; (with_reducible refine Calls.mono ((HM _).out) ?_); rintro e w2 ⟨rfl, hb⟩; (try go_simp); refine hK _ _ rfl (HS0.then hb) ?_; clear hK K; replace HS0 := (HS0.then hb))
        (refine left_only 5 rfl (by kernel_rfl) fun K hK => ?_; go_simp; go_at_call 41; (with_reducible refine Calls.mono ((HH _).out) ?_); rintro e w2 ⟨rfl, hb⟩; (try go_simp); refine hK _ _ rfl (HS0.then hb) ?_; clear hK K; replace HS0 := (HS0.then hb))
        (refine left_look 6 rfl (by kernel_rfl) HS0 ⟨?_, ?_, ?_, ?_⟩; rotate_left 2; (intro w1 hS K hK; have hc := Since.cell hS; have hf := Since.frz hS; have hz := Since.size hS; go_simp; (first | done | exact hK)); rotate_left 1; rfl); (refine left_look 7 rfl (by kernel_rfl) HS0 ⟨?_, ?_, ?_, ?_⟩; rotate_left 2; (intro w1 hS K hK; have hc := Since.cell hS; have hf := Since.frz hS; have hz := Since.size hS; go_simp; (first | done | exact hK)); rotate_left 1; rfl)
        (refine left_end (by kernel_rfl) ?_)
        replace HBw := HBw.trans (Below.mono HS0 HBw.size)
        clear HS0
        go_wp2
        refine ⟨⟨k + 1, by omega, by go_num, by rw [HV.out]; rfl, HBw⟩, by simp [intOf]; omega⟩
      | false =>
        (refine left_look 0 rfl (by kernel_rfl) HS0 ⟨?_, ?_, ?_, ?_⟩; rotate_left 2; (intro w1 hS K hK; have hc := Since.cell hS; have hf := Since.frz hS; have hz := Since.size hS; go_simp; (first | done | exact hK)); rotate_left 1; rfl); (refine left_look 1 rfl (by kernel_rfl) HS0 ⟨?_, ?_, ?_, ?_⟩; rotate_left 2; (intro w1 hS K hK; have hc := Since.cell hS; have hf := Since.frz hS; have hz := Since.size hS; go_simp; (first | done | exact hK)); rotate_left 1; rfl); (refine left_look 2 rfl (by kernel_rfl) HS0 ⟨?_, ?_, ?_, ?_⟩; rotate_left 2; (intro w1 hS K hK; have hc := Since.cell hS; have hf := Since.frz hS; have hz := Since.size hS; go_simp; (first | done | exact hK)); rotate_left 1; rfl); (refine left_look 4 rfl (by kernel_rfl) HS0 ⟨?_, ?_, ?_, ?_⟩; rotate_left 2; (intro w1 hS K hK; have hc := Since.cell hS; have hf := Since.frz hS; have hz := Since.size hS; go_simp; (first | done | exact hK)); rotate_left 1; rfl); (refine left_look 3 rfl (by kernel_rfl) HS0 ⟨?_, ?_, ?_, ?_⟩; rotate_left 2; (intro w1 hS K hK; have hc := Since.cell hS; have hf := Since.frz hS; have hz := Since.size hS; go_simp; (first | done | exact hK)); rotate_left 1; rfl); (refine left_look 5 rfl (by kernel_rfl) HS0 ⟨?_, ?_, ?_, ?_⟩; rotate_left 2; (intro w1 hS K hK; have hc := Since.cell hS; have hf := Since.frz hS; have hz := Since.size hS; go_simp; (first | done | exact hK)); rotate_left 1; rfl); (refine left_look 6 rfl (by kernel_rfl) HS0 ⟨?_, ?_, ?_, ?_⟩; rotate_left 2; (intro w1 hS K hK; have hc := Since.cell hS; have hf := Since.frz hS; have hz := Since.size hS; go_simp; (first | done | exact hK)); rotate_left 1; rfl); (refine left_look 7 rfl (by kernel_rfl) HS0 ⟨?_, ?_, ?_, ?_⟩; rotate_left 2; (intro w1 hS K hK; have hc := Since.cell hS; have hf := Since.frz hS; have hz := Since.size hS; go_simp; (first | done | exact hK)); rotate_left 1; rfl)
        (refine left_end (by kernel_rfl) ?_)
        clear HS0
        go_wp2
        refine ⟨⟨k + 1, by omega, by go_num, by rw [HV.out]; rfl, HBw⟩, by simp [intOf]; omega⟩
    · obtain rfl : k = 4 := by omega
      have ht : ps.take 4 = ps := List.take_of_length_le (by rw [HLEN.out]; exact Nat.le_refl _)
      rw [ht]
      obtain ⟨E, O, j0, j1, j2, j3, q, F, G, hE, hO, hEf, hOf, k0, k1, k2, k3, hq, hqf0, q0, q1, q2, q3, hF, hG, hGf, hcov⟩ := HP.out
      have hqf : q.f = true := hqf0
      clear hqf0
      have HJ := fun W => Lib.hid (implJoin_any E O true true a b c d a' b' c' d' hE hO hEf hOf W)
      simp only [k0, k1, k2, k3] at HJ
      have HCV := fun W => Lib.hid (implCovers_any F G bf true A B C D j0 j1 j2 j3 hF hG hGf W)
      rw [hcov] at HCV
      have HO4 := fun (A6 : Option Addr) (c6 : Nat) (W : World) (hr : Reads W W.heap.size 2 A6 4 (ps.flatMap xyCells)) => Lib.hid (eOf_any A6 4 c6 ps W hr (by omega))
      rw [hq] at HO4
      obtain ⟨qf, qa, qb, qc, qd⟩ := q
      have hqf' : qf = true := hqf
      subst hqf'
      unfold EB.cells at HO4
      have HEQ := fun W => Lib.hid (eEqual_full j0 j1 j2 j3 qa qb qc qd W q0 q1 q2 q3)
      clear ht hE hO hEf hOf k0 k1 k2 k3 hq hqf q0 q1 q2 q3 hF hG hGf hcov HP hlt hk hR
      generalize (bf && ps.all (fun p => (ebMade ⟨bf, A, B, C, D⟩).has p.1 p.2)) = v at *
      have l0 := B0.lt; have f0 := B0.frozen; have c0_0 := B0.cell_ 0 rfl; have c0_1 := B0.cell_ 1 rfl; have c0_2 := B0.cell_ 2 rfl; have c0_3 := B0.cell_ 3 rfl; have c0_4 := B0.cell_ 4 rfl; have l1 := B1.lt; have f1 := B1.frozen; have c1_0 := B1.cell_ 0 rfl; have c1_1 := B1.cell_ 1 rfl; have c1_2 := B1.cell_ 2 rfl; have c1_3 := B1.cell_ 3 rfl; have c1_4 := B1.cell_ 4 rfl
      go_upto_region 10 with (go_at_call 43; (with_reducible refine Calls.mono ((HJ _).out) ?_); rintro e w2 ⟨rfl, hb⟩; replace HB := below_step HB hb; replace B0 := B0.below hb B0.lt; replace B1 := B1.below hb B1.lt; replace B2 := B2.below hb B2.lt; clear hb; clear l0 f0 c0_0 c0_1 c0_2 c0_3 c0_4 l1 f1 c1_0 c1_1 c1_2 c1_3 c1_4; have hz2 := HB.size)
      have BT : Blk (w2.alloc (.cells #[.bool true, .float .f64 j0, .float .f64 j1, .float .f64 j2, .float .f64 j3] 71)) w2.heap.size 71 #[.bool true, .float .f64 j0, .float .f64 j1, .float .f64 j2, .float .f64 j3] := Blk.new _ _ _
      replace HB : Below w.heap.size w (w2.alloc (.cells #[.bool true, .float .f64 j0, .float .f64 j1, .float .f64 j2, .float .f64 j3] 71)) := (by (repeat (first | (with_reducible exact Below.refl _ _) | (with_reducible assumption) | (with_reducible refine Below.drew ?_) | (with_reducible refine below_drewN ?_ _) | ((with_reducible refine below_alloc' ?_ ?_); (focus (first | (simp; done) | omega | (simp; omega)))) | ((with_reducible refine below_set' ?_ ?_); (focus (first | (simp; done) | omega | (simp; omega)))) | (with_reducible refine below_step ?_ (by assumption)) | (with_reducible refine below_step_since ?_ (by assumption)) | ((with_reducible refine below_since' (by assumption) ?_ ?_); (focus (first | (simp; done) | omega | (simp; omega)))) | ((with_reducible refine below_trans' (by assumption) ?_ ?_); (focus (first | (simp; done) | omega | (simp; omega)))))))
      replace B0 := B0.alloc (.cells #[.bool true, .float .f64 j0, .float .f64 j1, .float .f64 j2, .float .f64 j3] 71)
      replace B1 := B1.alloc (.cells #[.bool true, .float .f64 j0, .float .f64 j1, .float .f64 j2, .float .f64 j3] 71)
      replace B2 := B2.alloc (.cells #[.bool true, .float .f64 j0, .float .f64 j1, .float .f64 j2, .float .f64 j3] 71)
      generalize w2.alloc (.cells #[.bool true, .float .f64 j0, .float .f64 j1, .float .f64 j2, .float .f64 j3] 71) = W6 at *
      generalize w2.heap.size = gt at *
      (refine left_startS (by kernel_rfl) ?_)
      generalize hW : World.drew _ = Wz; replace HB : Below w.heap.size w Wz := (by rw [← hW]; exact HB.drew); replace B0 := B0.drew; rw [hW] at B0; replace B1 := B1.drew; rw [hW] at B1; replace B2 := B2.drew; rw [hW] at B2; replace BT := BT.drew; rw [hW] at BT; clear hW
      have l0 := B0.lt; have f0 := B0.frozen; have c0_0 := B0.cell_ 0 rfl; have c0_1 := B0.cell_ 1 rfl; have c0_2 := B0.cell_ 2 rfl; have c0_3 := B0.cell_ 3 rfl; have c0_4 := B0.cell_ 4 rfl; have l1 := B1.lt; have f1 := B1.frozen; have c1_0 := B1.cell_ 0 rfl; have c1_1 := B1.cell_ 1 rfl; have c1_2 := B1.cell_ 2 rfl; have c1_3 := B1.cell_ 3 rfl; have c1_4 := B1.cell_ 4 rfl; have l2 := B2.lt; have f2 := B2.frozen; have c2_0 := B2.cell_ 0 rfl; have c2_1 := B2.cell_ 1 rfl; have c2_2 := B2.cell_ 2 rfl; have c2_3 := B2.cell_ 3 rfl; have c2_4 := B2.cell_ 4 rfl; have lT := BT.lt; have fT := BT.frozen; have cT_0 := BT.cell_ 0 rfl; have cT_1 := BT.cell_ 1 rfl; have cT_2 := BT.cell_ 2 rfl; have cT_3 := BT.cell_ 3 rfl; have cT_4 := BT.cell_ 4 rfl
      have HS0 := Since.refl Wz
      (refine left_look 0 rfl (by kernel_rfl) HS0 ⟨?_, ?_, ?_, ?_⟩; rotate_left 2; (intro w1 hS K hK; have hc := Since.cell hS; have hf := Since.frz hS; have hz := Since.size hS; go_simp; (first | done | exact hK)); rotate_left 1; rfl); (refine left_look 1 rfl (by kernel_rfl) HS0 ⟨?_, ?_, ?_, ?_⟩; rotate_left 2; (intro w1 hS K hK; have hc := Since.cell hS; have hf := Since.frz hS; have hz := Since.size hS; go_simp; (first | done | exact hK)); rotate_left 1; rfl); (refine left_look 3 rfl (by kernel_rfl) HS0 ⟨?_, ?_, ?_, ?_⟩; rotate_left 2; (intro w1 hS K hK; have hc := Since.cell hS; have hf := Since.frz hS; have hz := Since.size hS; go_simp; (first | done | exact hK)); rotate_left 1; rfl)
      (refine left_only 2 rfl (by kernel_rfl) fun K hK => ?_; go_simp; go_at_call 40; (with_reducible refine Calls.mono (HC1 _).out ?_); rintro e w3 ⟨⟨g3, hg3, rfl, own1⟩, hb⟩; (try go_simp); refine hK _ _ rfl (HS0.then hb) ?_; clear hK K; replace HS0 := (HS0.then hb))
      (refine left_only 4 rfl (by kernel_rfl) fun K hK => ?_; go_simp; go_at_call 40; (with_reducible refine Calls.mono (HC2 _).out ?_); rintro e w4 ⟨⟨g4, hg4, rfl, own2⟩, hb⟩; replace own1 := own_below own1 hb (Nat.le_refl _); (try go_simp); refine hK _ _ rfl (HS0.then hb) ?_; clear hK K; replace HS0 := (HS0.then hb))
      refine left_only 5 rfl (by kernel_rfl) fun K hK => ?_
      refine step_append_any _ rfl (.tmp 52) (.tmp 54) 73 rfl Wz.heap.size 36 i0 _ 2 16 Try.underlying73 HI.out HZ0.out HZ1.out HZ2.out rfl (by omega) _ _ _ rfl own1 _ _ 2 2 _ rfl (Reads.of_own own2) (by simp [xyCells, Value.oneCell']) (by simp [maxLen]) (by omega) (Since.size HS0) ?_
      intro v' w7 hown hg hat
      have HS1 : Since Wz w7 := Below.grown HS0 hg (Since.size HS0) (fun k hk => (own1.lt k hk).1)
      refine hK _ _ rfl HS1 ?_
      obtain ⟨A7, c7, rfl, hR⟩ := own_form hown
      clear hK K hg hat hown own1 own2
      replace HS0 := HS1
      clear HS1
      replace hR : Reads w7 w7.heap.size 2 A7 4 ([(a, b), (c, d), (a', b'), (c', d')].flatMap xyCells) := hR
      rw [HPS.out] at hR
      (refine left_only 6 rfl (by kernel_rfl) fun K hK => ?_; go_simp; go_at_call 45; (with_reducible refine Calls.mono ((HO4 _ _ _ hR).out) ?_); rintro e w2 ⟨rfl, hb⟩; (try go_simp); refine hK _ _ rfl (HS0.then hb) ?_; clear hK K; replace HS0 := (HS0.then hb))
      (refine left_only 7 rfl (by kernel_rfl) fun K hK => ?_; go_simp; go_at_call 44; (with_reducible refine Calls.mono ((HEQ _).out) ?_); rintro e w2 ⟨rfl, hb⟩; (try go_simp); refine hK _ _ rfl (HS0.then hb) ?_; clear hK K; replace HS0 := (HS0.then hb))
      (refine left_look 8 rfl (by kernel_rfl) HS0 ⟨?_, ?_, ?_, ?_⟩; rotate_left 2; (intro w1 hS K hK; have hc := Since.cell hS; have hf := Since.frz hS; have hz := Since.size hS; go_simp; (first | done | exact hK)); rotate_left 1; rfl); (refine left_look 9 rfl (by kernel_rfl) HS0 ⟨?_, ?_, ?_, ?_⟩; rotate_left 2; (intro w1 hS K hK; have hc := Since.cell hS; have hf := Since.frz hS; have hz := Since.size hS; go_simp; (first | done | exact hK)); rotate_left 1; rfl); (refine left_look 10 rfl (by kernel_rfl) HS0 ⟨?_, ?_, ?_, ?_⟩; rotate_left 2; (intro w1 hS K hK; have hc := Since.cell hS; have hf := Since.frz hS; have hz := Since.size hS; go_simp; (first | done | exact hK)); rotate_left 1; rfl); (refine left_look 12 rfl (by kernel_rfl) HS0 ⟨?_, ?_, ?_, ?_⟩; rotate_left 2; (intro w1 hS K hK; have hc := Since.cell hS; have hf := Since.frz hS; have hz := Since.size hS; go_simp; (first | done | exact hK)); rotate_left 1; rfl)
      (refine left_only 11 rfl (by kernel_rfl) fun K hK => ?_; go_simp; go_at_call 46; (with_reducible refine Calls.mono ((HCV _).out) ?_); rintro e w2 ⟨rfl, hb⟩; (try go_simp); refine hK _ _ rfl (HS0.then hb) ?_; clear hK K; replace HS0 := (HS0.then hb))
      (refine left_look 13 rfl (by kernel_rfl) HS0 ⟨?_, ?_, ?_, ?_⟩; rotate_left 2; (intro w1 hS K hK; have hc := Since.cell hS; have hf := Since.frz hS; have hz := Since.size hS; go_simp; (first | done | exact hK)); rotate_left 1; rfl); (refine left_look 14 rfl (by kernel_rfl) HS0 ⟨?_, ?_, ?_, ?_⟩; rotate_left 2; (intro w1 hS K hK; have hc := Since.cell hS; have hf := Since.frz hS; have hz := Since.size hS; go_simp; (first | done | exact hK)); rotate_left 1; rfl); (refine left_look 15 rfl (by kernel_rfl) HS0 ⟨?_, ?_, ?_, ?_⟩; rotate_left 2; (intro w1 hS K hK; have hc := Since.cell hS; have hf := Since.frz hS; have hz := Since.size hS; go_simp; (first | done | exact hK)); rotate_left 1; rfl)
      (refine left_end (by kernel_rfl) ?_)
      go_wp2
      go_ret
      exact ⟨by simp, below_step_since HB HS0⟩

theorem three {p : EB → Prop} {x y z e : EB} (h : e ∈ [x, y, z]) (hx : p x) (hy : p y) (hz : p z) : p e := by
  simp only [List.mem_cons, List.not_mem_nil, or_false] at h
  rcases h with rfl | rfl | rfl <;> assumption

theorem law_any (f : Bool) (a b c d : Nat) (f' : Bool) (a' b' c' d' : Nat) (bf : Bool) (A B C D : Nat)
    (hw : ∀ e ∈ [(⟨f, a, b, c, d⟩ : EB), ⟨f', a', b', c', d'⟩, ⟨bf, A, B, C, D⟩], W64 e.a ∧ W64 e.b ∧ W64 e.c ∧ W64 e.d) (w : World) :
    Calls Try.prog 11 #[.agg #[.bool f, .float .f64 a, .float .f64 b, .float .f64 c, .float .f64 d], .agg #[.bool f', .float .f64 a', .float .f64 b', .float .f64 c', .float .f64 d'], .agg #[.bool bf, .float .f64 A, .float .f64 B, .float .f64 C, .float .f64 D]] w fun e w' => e = .returned (.bool true) ∧ Below w.heap.size w w' := by
  by_cases hgo : [(⟨f, a, b, c, d⟩ : EB), ⟨f', a', b', c', d'⟩, ⟨bf, A, B, C, D⟩].all EB.fits = true ∧ f = true ∧ f' = true
  · obtain ⟨h, rfl, rfl⟩ := hgo
    simp only [List.all_cons, List.all_nil, Bool.and_true, Bool.and_eq_true] at h
    obtain ⟨h1, h2, h3⟩ := h
    simp only [EB.fits, Bool.not_true, Bool.false_or, Bool.and_eq_true] at h1 h2
    exact main_any a b c d a' b' c' d' bf A B C D h1.1 h1.2.1 h1.2.2.1 h1.2.2.2 h2.1 h2.2.1 h2.2.2.1 h2.2.2.2 h3 hw w
  · have HF := fun (W : World) (g : Nat) (hg : g = W.heap.size) => Lib.hid (eFits_any (some ⟨g, 0, none⟩) 3 3 _ _ (reads_new' W g hg ([(⟨f, a, b, c, d⟩ : EB), ⟨f', a', b', c', d'⟩, ⟨bf, A, B, C, D⟩].flatMap EB.list) 71 5 3 rfl (by omega)) (by omega) hw)
    generalize [(⟨f, a, b, c, d⟩ : EB), ⟨f', a', b', c', d'⟩, ⟨bf, A, B, C, D⟩].all EB.fits = r at *
    replace HF : ∀ (W : World) (g : Nat), g = W.heap.size → Hid (Calls Try.prog 39 #[.slice (some ⟨g, 0, none⟩) 3 3] (W.alloc (.cells #[.bool f, .float .f64 a, .float .f64 b, .float .f64 c, .float .f64 d, .bool f', .float .f64 a', .float .f64 b', .float .f64 c', .float .f64 d', .bool bf, .float .f64 A, .float .f64 B, .float .f64 C, .float .f64 D] 71)) fun e w' => e = .returned (.bool r) ∧ Below W.heap.size W w') := fun W g hg => Lib.hid ((HF W g hg).out.mono fun e w' ⟨h1, h2⟩ => ⟨h1, by have h2 : Below (W.alloc (.cells #[.bool f, .float .f64 a, .float .f64 b, .float .f64 c, .float .f64 d, .bool f', .float .f64 a', .float .f64 b', .float .f64 c', .float .f64 d', .bool bf, .float .f64 A, .float .f64 B, .float .f64 C, .float .f64 D] 71)).heap.size _ _ := h2; (repeat (first | (with_reducible exact Below.refl _ _) | (with_reducible assumption) | (with_reducible refine Below.drew ?_) | (with_reducible refine below_drewN ?_ _) | ((with_reducible refine below_alloc' ?_ ?_); (focus (first | (simp; done) | omega | (simp; omega)))) | ((with_reducible refine below_set' ?_ ?_); (focus (first | (simp; done) | omega | (simp; omega)))) | (with_reducible refine below_step ?_ (by assumption)) | (with_reducible refine below_step_since ?_ (by assumption)) | ((with_reducible refine below_since' (by assumption) ?_ ?_); (focus (first | (simp; done) | omega | (simp; omega)))) | ((with_reducible refine below_trans' (by assumption) ?_ ?_); (focus (first | (simp; done) | omega | (simp; omega))))))⟩)
    clear hw
    cases r <;> cases f <;> cases f' <;> first
      | (exfalso; simp at hgo; done)
      | (clear hgo
         go_enter Try.func11, Try.ntmps11
         go_wp2_with (go_at_call 39; (with_reducible refine Calls.mono ((HF _ _ (by simp)).out) ?_); rintro e w2 ⟨rfl, hb⟩; have HB : Below w.heap.size w w2 := (by (repeat (first | (with_reducible exact Below.refl _ _) | (with_reducible assumption) | (with_reducible refine Below.drew ?_) | (with_reducible refine below_drewN ?_ _) | ((with_reducible refine below_alloc' ?_ ?_); (focus (first | (simp; done) | omega | (simp; omega)))) | ((with_reducible refine below_set' ?_ ?_); (focus (first | (simp; done) | omega | (simp; omega)))) | (with_reducible refine below_step ?_ (by assumption)) | (with_reducible refine below_step_since ?_ (by assumption)) | ((with_reducible refine below_since' (by assumption) ?_ ?_); (focus (first | (simp; done) | omega | (simp; omega)))) | ((with_reducible refine below_trans' (by assumption) ?_ ?_); (focus (first | (simp; done) | omega | (simp; omega))))))); have B0 : Blk w2 w.heap.size 71 #[.bool _, .float .f64 a, .float .f64 b, .float .f64 c, .float .f64 d] := (((Blk.new w _ _).alloc _).alloc _).below hb (by simp; omega); have B1 : Blk w2 (w.heap.size + 1) 71 #[.bool _, .float .f64 a', .float .f64 b', .float .f64 c', .float .f64 d'] := ((Blk.new' (by simp)).alloc _).below hb (by simp); clear hb; have l0 := B0.lt; have f0 := B0.frozen; have c0_0 := B0.cell_ 0 rfl; have c0_1 := B0.cell_ 1 rfl; have c0_2 := B0.cell_ 2 rfl; have c0_3 := B0.cell_ 3 rfl; have c0_4 := B0.cell_ 4 rfl; have l1 := B1.lt; have f1 := B1.frozen; have c1_0 := B1.cell_ 0 rfl; have c1_1 := B1.cell_ 1 rfl; have c1_2 := B1.cell_ 2 rfl; have c1_3 := B1.cell_ 3 rfl; have c1_4 := B1.cell_ 4 rfl)
         go_ret
         exact ⟨rfl, HB⟩)

open Go.ChangeShapes Go.WideShapes Go.ChangeAt
set_option maxRecDepth 100000 in
theorem lifted (os : Os) (started : os.Started) (H : Type) (enc : TypeId × Value → H) :
    ReturnsInHanded {} Try.checked os 11 .any (Rows.fnEnvExpandLeastSpec.pre6 enc Try.prog Try.f11 Rows.fnEnvExpandLeastRow.domain false) (Rows.fnEnvExpandLeastSpec.post enc Try.prog Try.f11 false true false false) := by
  refine returnsInHanded_of_change (C := Try.checked) own started (by kernel_rfl) Try.func11
    (ChangeSpec.witness6 (enc := enc) (C := Try.checked) false ⟨#[], #[.agg #[.bool false, .float .f64 0, .float .f64 0, .float .f64 0, .float .f64 0], .agg #[.bool false, .float .f64 0, .float .f64 0, .float .f64 0, .float .f64 0], .agg #[.bool false, .float .f64 0, .float .f64 0, .float .f64 0, .float .f64 0]], []⟩ 8 (by kernel_rfl) (by kernel_rfl) (by kernel_rfl) (by kernel_rfl)) ?_
  intro W base args ds gs before hval0 hW hcnd _
  have hval : ∀ (j : Nat) t v, Try.f11.params[j]? = some t → args[j]? = some v → Value.okWide Try.prog W .any base t v := hval0
  have hW' := hW
  obtain ⟨p, q, hA0, hV, rfl, hfz, hnd⟩ := hW
  have hA : DataW.TrodAll enc Try.prog W 0 (fun _ => true) true Try.f11.params.toList args.toList ds p := hA0
  rw [Try.params11] at hA hval
  obtain ⟨v0, vs0, d0, ds0, p0, q0, hargs, rfl, rfl, h0, r0⟩ := trodAll_cons hA
  obtain ⟨v1, vs1, d1, ds1, p1, q1, rfl, rfl, rfl, h1, r1⟩ := trodAll_cons r0
  obtain ⟨v2, vs2, d2, ds2, p2, q2, rfl, rfl, rfl, h2, r2⟩ := trodAll_cons r1
  obtain ⟨rfl, rfl, rfl⟩ := trodAll_nil r2
  obtain rfl : args = #[v0, v1, v2] := by cases args; simp_all
  obtain ⟨rfl, rfl⟩ := trodVars_none hV
  have k0 := h0
  have lt0 : ∀ x ∈ p0, x.block < W.heap.size := by obtain ⟨m, hm⟩ := k0; exact DataW.trod_lt m _ _ _ hm
  have k1 := h1
  have lt1 : ∀ x ∈ p1, x.block < W.heap.size := by obtain ⟨m, hm⟩ := k1; exact DataW.trod_lt m _ _ _ hm
  have k2 := h2
  have lt2 : ∀ x ∈ p2, x.block < W.heap.size := by obtain ⟨m, hm⟩ := k2; exact DataW.trod_lt m _ _ _ hm
  obtain ⟨f0, a0, b0, c0, e0, rfl, ⟨ua0, ub0⟩, uc0, ue0⟩ := open_Env (hval 0 71 v0 rfl rfl) h0
  obtain ⟨f1, a1, b1, c1, e1, rfl, ⟨ua1, ub1⟩, uc1, ue1⟩ := open_Env (hval 1 71 v1 rfl rfl) h1
  obtain ⟨f2, a2, b2, c2, e2, rfl, ⟨ua2, ub2⟩, uc2, ue2⟩ := open_Env (hval 2 71 v2 rfl rfl) h2
  clear hA0 hval0
  refine (law_any f0 a0 b0 c0 e0 f1 a1 b1 c1 e1 f2 a2 b2 c2 e2 (fun e he => three (p := fun e : EB => W64 e.a ∧ W64 e.b ∧ W64 e.c ∧ W64 e.d) he ⟨ua0, ub0, uc0, ue0⟩ ⟨ua1, ub1, uc1, ue1⟩ ⟨ua2, ub2, uc2, ue2⟩) W).mono fun e W' ⟨he, bel⟩ => ?_
  subst he
  exact ⟨_, rfl, _, _, _, [], _, [], hW', trodAll_mk1 (shut_bool Try.underlying4 _), (trodAll_cons_mk (Below.trod laidOut (by kernel_rfl) (of_decide_eq_true (by kernel_rfl)) k0 bel lt0) (trodAll_cons_mk (Below.trod laidOut (by kernel_rfl) (of_decide_eq_true (by kernel_rfl)) k1 bel lt1) (trodAll_cons_mk (Below.trod laidOut (by kernel_rfl) (of_decide_eq_true (by kernel_rfl)) k2 bel lt2) trodAll_mk0))), rfl, bel.frame _, fun h => by cases h⟩

theorem over : Rows.fnEnvExpandLeastRow.holds Try.pinned (OpenSpec.ofChange Rows.fnEnvExpandLeastSpec) :=
  OpenClaim.holds_of_wide 11 Try.f11 rfl rfl rfl rfl rfl rfl rfl ⟨rfl, rfl, rfl, rfl, rfl⟩ rfl rfl rfl rfl rfl (by kernel_rfl) Try.func11 (by kernel_rfl)
    (of_decide_eq_true (by kernel_rfl)) (by unfold Func.isWrapper; first | (rw [if_pos (by decide +kernel)]; kernel_rfl) | (rw [if_neg (by decide +kernel)]; exact ⟨rfl, rfl⟩))
    (fun os started H enc _ => lifted os started H enc)

theorem proved : Rows.FnEnvExpandLeastSaid := over
#print axioms proved
end Go.Proofs.Ytciblaabghiefaa.fnEnvExpandLeast
