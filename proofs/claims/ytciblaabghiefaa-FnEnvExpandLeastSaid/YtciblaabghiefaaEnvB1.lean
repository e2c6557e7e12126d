/- The checker's envelopes: eCorners, eOf, eMade, eHas, eEqual, eFits. -/
import Derived.Test.YtciblaabghiefaaPlain
import Derived.Test.YtciblaabghiefaaEnv3
import Derived.Test.YtciblaabghiefaaRegionB
import Derived.Deep.Cut
import Derived.Deep.CutRange
import Derived.Deep.LoopGhost
namespace Go.Proofs.Ytciblaabghiefaa
open Go.RowKit
attribute [local go_sem] run_store_float
set_option maxRecDepth 100000

/-- An envelope of the thin package: full, least X, Y, greatest X, Y. -/
structure EB where
  f : Bool
  (a b c d : Nat)
def EB.cells (e : EB) : Array Value := #[.bool e.f, .float .f64 e.a, .float .f64 e.b, .float .f64 e.c, .float .f64 e.d]
def EB.add (e : EB) (x y : Nat) : EB := if e.f then ⟨true, if Fl.ltB x e.a then x else e.a, if Fl.ltB y e.b then y else e.b, if Fl.gtB x e.c then x else e.c, if Fl.gtB y e.d then y else e.d⟩ else ⟨true, x, y, x, y⟩
def ebOf (ps : List (Nat × Nat)) : EB := ps.foldl (fun e p => e.add p.1 p.2) ⟨false, 0, 0, 0, 0⟩
theorem ebOf_step {ps : List (Nat × Nat)} {k : Nat} (hk : k < ps.length) : ebOf (ps.take (k + 1)) = (ebOf (ps.take k)).add ps[k].1 ps[k].2 := by
  unfold ebOf
  rw [List.take_succ_eq_append_getElem hk, List.foldl_append]
  rfl

theorem blk_to {w : World} {g : Nat} {t : TypeId} {cs cs' : Array Value} (he : cs = cs') (h : Blk w g t cs) : Blk w g t cs' := he ▸ h

theorem own_litX (w : World) (g base n size : Nat) (e : TypeId) (cs : Array Value) (hg : g = w.heap.size) (hb : base ≤ w.heap.size) (hm : n ≤ maxLen) (hs : cs.size = n * size) :
    (w.alloc (.cells cs e)).ownsRow base e size (.slice (some ⟨g, 0, none⟩) n n) n cs.toList := by subst hg; exact World.ownsRow_lit w cs n hb hm hs

theorem eCorners_full (a b c d : Nat) (w : World) : Calls Try.prog 40 #[.agg #[.bool true, .float .f64 a, .float .f64 b, .float .f64 c, .float .f64 d]] w fun e w' =>
    (∃ g, w.heap.size ≤ g ∧ e = .returned (.slice (some ⟨g, 0, none⟩) 2 2) ∧ w'.ownsRow w.heap.size 36 2 (.slice (some ⟨g, 0, none⟩) 2 2) 2 ([(a, b), (c, d)].flatMap xyCells)) ∧ Below w.heap.size w w' := by
  go_enter Try.func40, Try.ntmps40
  go_wp2
  go_ret
  exact ⟨⟨w.heap.size + 1, by omega, rfl, by exact own_litX _ _ _ _ _ _ _ (by simp) (by simp) (by simp [maxLen]) rfl⟩, (by (repeat (first | (with_reducible exact Below.refl _ _) | (with_reducible assumption) | (with_reducible refine Below.drew ?_) | (with_reducible refine below_drewN ?_ _) | ((with_reducible refine below_alloc' ?_ ?_); (focus (first | (simp; done) | omega | (simp; omega)))) | ((with_reducible refine below_set' ?_ ?_); (focus (first | (simp; done) | omega | (simp; omega)))) | (with_reducible refine below_step ?_ (by assumption)) | (with_reducible refine below_step_since ?_ (by assumption)) | ((with_reducible refine below_since' (by assumption) ?_ ?_); (focus (first | (simp; done) | omega | (simp; omega)))) | ((with_reducible refine below_trans' (by assumption) ?_ ?_); (focus (first | (simp; done) | omega | (simp; omega)))))))⟩

theorem eCorners_none (a b c d : Nat) (w : World) : Calls Try.prog 40 #[.agg #[.bool false, .float .f64 a, .float .f64 b, .float .f64 c, .float .f64 d]] w fun e w' =>
    e = .returned (.slice none 0 0) ∧ Below w.heap.size w w' := by
  go_enter Try.func40, Try.ntmps40
  go_wp2
  go_ret
  exact ⟨rfl, (by (repeat (first | (with_reducible exact Below.refl _ _) | (with_reducible assumption) | (with_reducible refine Below.drew ?_) | (with_reducible refine below_drewN ?_ _) | ((with_reducible refine below_alloc' ?_ ?_); (focus (first | (simp; done) | omega | (simp; omega)))) | ((with_reducible refine below_set' ?_ ?_); (focus (first | (simp; done) | omega | (simp; omega)))) | (with_reducible refine below_step ?_ (by assumption)) | (with_reducible refine below_step_since ?_ (by assumption)) | ((with_reducible refine below_since' (by assumption) ?_ ?_); (focus (first | (simp; done) | omega | (simp; omega)))) | ((with_reducible refine below_trans' (by assumption) ?_ ?_); (focus (first | (simp; done) | omega | (simp; omega)))))))⟩

/-- The state inside a round of eOf. -/
structure EoS (w : World) (g x y a b c d : Nat) (W : World) : Prop where
  HB : Below w.heap.size w W
  B0 : Blk W w.heap.size 71 #[.bool false, .float .f64 0, .float .f64 0, .float .f64 0, .float .f64 0]
  B1 : Blk W (w.heap.size + 1) 71 #[.bool true, .float .f64 a, .float .f64 b, .float .f64 c, .float .f64 d]
  B5 : Blk W g 36 #[.float .f64 x, .float .f64 y]

set_option maxHeartbeats 3000000 in
theorem eOf_any (A : Option Addr) (n c : Nat) (ps : List (Nat × Nat)) (w : World) (h : Reads w w.heap.size 2 A n (ps.flatMap xyCells)) (hn : n ≤ 140737488355328) :
    Calls Try.prog 45 #[.slice A n c] w fun e w' => e = .returned (.agg (ebOf ps).cells) ∧ Below w.heap.size w w' := by
  have hl : ps.length = n := by have := h.1; rw [flat_length xyCells 2 (fun _ => rfl)] at this; omega
  unfold EB.cells
  go_enter Try.func45, Try.ntmps45
  go_wp2
  go_loopg [8] n (fun gk i wr => ∃ k : Nat, k ≤ n ∧ gk = n - k ∧ i = .int .i64 k ∧ Below w.heap.size w wr ∧ Blk wr w.heap.size 71 #[.bool false, .float .f64 0, .float .f64 0, .float .f64 0, .float .f64 0] ∧ Blk wr (w.heap.size + 1) 71 (ebOf (ps.take k)).cells)
  case atStart => exact ⟨0, by omega, by omega, rfl, (by (repeat (first | (with_reducible exact Below.refl _ _) | (with_reducible assumption) | (with_reducible refine Below.drew ?_) | (with_reducible refine below_drewN ?_ _) | ((with_reducible refine below_alloc' ?_ ?_); (focus (first | (simp; done) | omega | (simp; omega)))) | ((with_reducible refine below_set' ?_ ?_); (focus (first | (simp; done) | omega | (simp; omega)))) | (with_reducible refine below_step ?_ (by assumption)) | (with_reducible refine below_step_since ?_ (by assumption)) | ((with_reducible refine below_since' (by assumption) ?_ ?_); (focus (first | (simp; done) | omega | (simp; omega)))) | ((with_reducible refine below_trans' (by assumption) ?_ ?_); (focus (first | (simp; done) | omega | (simp; omega))))))), (Blk.new w _ _).alloc _, Blk.new' (by first | (simp; done) | omega | (simp; omega))⟩
  case round =>
    obtain ⟨k, hk, rfl, rfl, HB, B0, B1⟩ := hrel
    by_cases hlt : k < n
    · have hkl : k < ps.length := by omega
      obtain ⟨b, off, rfl, had, hcell⟩ := h.cellAt (by omega) (by omega)
      have g0 := flat_get xyCells 2 (fun _ => rfl) ps k 0 hkl (by omega)
      have g1 := flat_get xyCells 2 (fun _ => rfl) ps k 1 hkl (by omega)
      have HV : Hid _ := ebOf_step hkl
      generalize ps[k] = p at *
      obtain ⟨x, y⟩ := p
      have e0 : wr.cell? ⟨b, off + k * 2, none⟩ = some (.float .f64 x) := ((bcell HB).1 _ _ had).trans (hcell _ _ g0)
      have e1 : wr.cell? ⟨b, off + k * 2 + 1, none⟩ = some (.float .f64 y) := ((bcell HB).1 _ _ had).trans (hcell _ _ g1)
      clear g0 g1 hcell
      generalize ebOf (ps.take k) = V at *
      obtain ⟨v4, v0, v1, v2, v3⟩ := V
      have l0 := B0.lt
      have had2 : b < wr.heap.size := Nat.lt_of_lt_of_le had HB.size
      have hzw := HB.size
      cases v4 with
      | false =>
        replace HV : Hid (ebOf (ps.take (k + 1)) = ⟨true, x, y, x, y⟩) := HV
        simp only [EB.cells] at B1
        have l1 := B1.lt; have f1 := B1.frozen; have c1_0 := B1.cell_ 0 rfl; have c1_1 := B1.cell_ 1 rfl; have c1_2 := B1.cell_ 2 rfl; have c1_3 := B1.cell_ 3 rfl; have c1_4 := B1.cell_ 4 rfl
        go_wp2
        go_roundg (n - (k + 1))
        case measure => omega
        case rel =>
          refine ⟨k + 1, by omega, rfl, by go_num, (by (repeat (first | (with_reducible exact Below.refl _ _) | (with_reducible assumption) | (with_reducible refine Below.drew ?_) | (with_reducible refine below_drewN ?_ _) | ((with_reducible refine below_alloc' ?_ ?_); (focus (first | (simp; done) | omega | (simp; omega)))) | ((with_reducible refine below_set' ?_ ?_); (focus (first | (simp; done) | omega | (simp; omega)))) | (with_reducible refine below_step ?_ (by assumption)) | (with_reducible refine below_step_since ?_ (by assumption)) | ((with_reducible refine below_since' (by assumption) ?_ ?_); (focus (first | (simp; done) | omega | (simp; omega)))) | ((with_reducible refine below_trans' (by assumption) ?_ ?_); (focus (first | (simp; done) | omega | (simp; omega))))))), ?_, ?_⟩
          · exact (((((B0.far (by simp) _).far (by simp) _).far (by simp) _).far (by simp) _).far (by simp) _).alloc _
          · rw [HV.out]
            exact (((((B1.set_ 0 _).set_ 1 _).set_ 2 _).set_ 3 _).set_ 4 _).alloc _
      | true =>
        simp only [EB.cells] at B1
        have hv : Hid (ebOf (ps.take (k + 1)) = ⟨true, if Fl.ltB x v0 then x else v0, if Fl.ltB y v1 then y else v1, if Fl.gtB x v2 then x else v2, if Fl.gtB y v3 then y else v3⟩) := HV
        clear HV
        have l1 := B1.lt; have f1 := B1.frozen; have c1_0 := B1.cell_ 0 rfl; have c1_1 := B1.cell_ 1 rfl; have c1_2 := B1.cell_ 2 rfl; have c1_3 := B1.cell_ 3 rfl; have c1_4 := B1.cell_ 4 rfl
        have S0 : EoS w wr.heap.size x y v0 v1 v2 v3 (wr.alloc (.cells #[.float .f64 x, .float .f64 y] 36)) := ⟨(by (repeat (first | (with_reducible exact Below.refl _ _) | (with_reducible assumption) | (with_reducible refine Below.drew ?_) | (with_reducible refine below_drewN ?_ _) | ((with_reducible refine below_alloc' ?_ ?_); (focus (first | (simp; done) | omega | (simp; omega)))) | ((with_reducible refine below_set' ?_ ?_); (focus (first | (simp; done) | omega | (simp; omega)))) | (with_reducible refine below_step ?_ (by assumption)) | (with_reducible refine below_step_since ?_ (by assumption)) | ((with_reducible refine below_since' (by assumption) ?_ ?_); (focus (first | (simp; done) | omega | (simp; omega)))) | ((with_reducible refine below_trans' (by assumption) ?_ ?_); (focus (first | (simp; done) | omega | (simp; omega))))))), B0.alloc _, B1.alloc _, Blk.new _ _ _⟩
        go_upto_if 30 with (fail)
        generalize wr.alloc (.cells #[.float .f64 x, .float .f64 y] 36) = W1 at S0 ⊢
        have lg5 : w.heap.size + 1 < wr.heap.size := l1
        generalize wr.heap.size = g5 at *
        clear l1 f1 c1_0 c1_1 c1_2 c1_3 c1_4
        clear B0 B1 HB e0 e1 l0 had2 hzw
        have T1 := S0.B1
        have T5 := S0.B5
        have l1 := T1.lt; have f1 := T1.frozen; have c1_0 := T1.cell_ 0 rfl; have c1_1 := T1.cell_ 1 rfl; have c1_2 := T1.cell_ 2 rfl; have c1_3 := T1.cell_ 3 rfl; have c1_4 := T1.cell_ 4 rfl; have l5 := T5.lt; have f5 := T5.frozen; have c5_0 := T5.cell_ 0 rfl; have c5_1 := T5.cell_ 1 rfl
        go_cut [8] from 8 to 65 (fun i wx => i = .int .i64 k ∧ EoS w g5 x y (if Fl.ltB x v0 then x else v0) v1 v2 v3 wx)
        case first =>
          go_wp2
          · rename_i hc
            go_meet
            case rel => rw [show Fl.ltB x v0 = true from hc]; exact ⟨rfl, S0.HB.setCell (by simp) _, S0.B0.far (by simp) _, S0.B1.set_ 1 _, S0.B5.far (by simp; omega) _⟩
          · rename_i hc
            go_meet
            case rel => rw [show Fl.ltB x v0 = false from hc]; exact ⟨rfl, S0⟩
        case rest =>
          obtain ⟨rfl, S1⟩ := hcut
          clear l1 f1 c1_0 c1_1 c1_2 c1_3 c1_4 l5 f5 c5_0 c5_1
          clear T1 T5 S0
          generalize hz1 : (if Fl.ltB x v0 then x else v0) = z1 at *
          have HZ1 := Lib.hid hz1
          clear hz1
          have T1 := S1.B1
          have T5 := S1.B5
          have l1 := T1.lt; have f1 := T1.frozen; have c1_0 := T1.cell_ 0 rfl; have c1_1 := T1.cell_ 1 rfl; have c1_2 := T1.cell_ 2 rfl; have c1_3 := T1.cell_ 3 rfl; have c1_4 := T1.cell_ 4 rfl; have l5 := T5.lt; have f5 := T5.frozen; have c5_0 := T5.cell_ 0 rfl; have c5_1 := T5.cell_ 1 rfl
          go_upto_if 40 with (fail)
          go_cut [8] from 8 to 65 (fun i wx => i = .int .i64 k ∧ EoS w g5 x y z1 v1 (if Fl.gtB x v2 then x else v2) v3 wx)
          case first =>
            go_wp2
            · rename_i hc
              go_meet
              case rel => rw [show Fl.gtB x v2 = true from hc]; exact ⟨rfl, S1.HB.setCell (by simp) _, S1.B0.far (by simp) _, S1.B1.set_ 3 _, S1.B5.far (by simp; omega) _⟩
            · rename_i hc
              go_meet
              case rel => rw [show Fl.gtB x v2 = false from hc]; exact ⟨rfl, S1⟩
          case rest =>
            obtain ⟨rfl, S2⟩ := hcut
            clear l1 f1 c1_0 c1_1 c1_2 c1_3 c1_4 l5 f5 c5_0 c5_1
            clear T1 T5 S1
            generalize hz2 : (if Fl.gtB x v2 then x else v2) = z2 at *
            have HZ2 := Lib.hid hz2
            clear hz2
            have T1 := S2.B1
            have T5 := S2.B5
            have l1 := T1.lt; have f1 := T1.frozen; have c1_0 := T1.cell_ 0 rfl; have c1_1 := T1.cell_ 1 rfl; have c1_2 := T1.cell_ 2 rfl; have c1_3 := T1.cell_ 3 rfl; have c1_4 := T1.cell_ 4 rfl; have l5 := T5.lt; have f5 := T5.frozen; have c5_0 := T5.cell_ 0 rfl; have c5_1 := T5.cell_ 1 rfl
            go_upto_if 50 with (fail)
            go_cut [8] from 8 to 65 (fun i wx => i = .int .i64 k ∧ EoS w g5 x y z1 (if Fl.ltB y v1 then y else v1) z2 v3 wx)
            case first =>
              go_wp2
              · rename_i hc
                go_meet
                case rel => rw [show Fl.ltB y v1 = true from hc]; exact ⟨rfl, S2.HB.setCell (by simp) _, S2.B0.far (by simp) _, S2.B1.set_ 2 _, S2.B5.far (by simp; omega) _⟩
              · rename_i hc
                go_meet
                case rel => rw [show Fl.ltB y v1 = false from hc]; exact ⟨rfl, S2⟩
            case rest =>
              obtain ⟨rfl, S3⟩ := hcut
              clear l1 f1 c1_0 c1_1 c1_2 c1_3 c1_4 l5 f5 c5_0 c5_1
              clear T1 T5 S2
              generalize hz3 : (if Fl.ltB y v1 then y else v1) = z3 at *
              have HZ3 := Lib.hid hz3
              clear hz3
              have T1 := S3.B1
              have T5 := S3.B5
              have l1 := T1.lt; have f1 := T1.frozen; have c1_0 := T1.cell_ 0 rfl; have c1_1 := T1.cell_ 1 rfl; have c1_2 := T1.cell_ 2 rfl; have c1_3 := T1.cell_ 3 rfl; have c1_4 := T1.cell_ 4 rfl; have l5 := T5.lt; have f5 := T5.frozen; have c5_0 := T5.cell_ 0 rfl; have c5_1 := T5.cell_ 1 rfl
              go_wp2
              · rename_i hc
                go_roundg (n - (k + 1))
                case measure => omega
                case rel =>
                  refine ⟨k + 1, by omega, rfl, by go_num, S3.HB.setCell (by simp) _, S3.B0.far (by simp) _, ?_⟩
                  rw [hv.out, show Fl.gtB y v3 = true from hc]
                  exact S3.B1.set_ 4 _
              · rename_i hc
                go_roundg (n - (k + 1))
                case measure => omega
                case rel =>
                  refine ⟨k + 1, by omega, rfl, by go_num, S3.HB, S3.B0, ?_⟩
                  rw [hv.out, show Fl.gtB y v3 = false from hc]
                  exact S3.B1
    · obtain rfl : k = n := by omega
      rw [List.take_of_length_le (by omega)] at B1
      generalize hV : ebOf ps = V at B1
      obtain ⟨v4, v0, v1, v2, v3⟩ := V
      have HV := Lib.hid hV
      clear hV
      simp only [EB.cells] at B1
      have l0 := B0.lt; have f0 := B0.frozen; have c0_0 := B0.cell_ 0 rfl; have c0_1 := B0.cell_ 1 rfl; have c0_2 := B0.cell_ 2 rfl; have c0_3 := B0.cell_ 3 rfl; have c0_4 := B0.cell_ 4 rfl; have l1 := B1.lt; have f1 := B1.frozen; have c1_0 := B1.cell_ 0 rfl; have c1_1 := B1.cell_ 1 rfl; have c1_2 := B1.cell_ 2 rfl; have c1_3 := B1.cell_ 3 rfl; have c1_4 := B1.cell_ 4 rfl
      go_wp2
      have B0 := B0.set_ 0 (.bool v4); have B0 := B0.set_ 1 (.float .f64 v0); have B0 := B0.set_ 2 (.float .f64 v1); have B0 := B0.set_ 3 (.float .f64 v2); have B0 := B0.set_ 4 (.float .f64 v3); simp only [List.setIfInBounds_toArray, List.set_cons_zero, List.set_cons_succ] at B0; refine bodyPost_ret (results_cell_row Try.results45 _ _ _ _ _ (0, 0) _ rfl B0 Try.underlying71 rfl (by kernel_rfl)) rfl ⟨by rw [HV.out], ?_⟩
      (repeat (first | (with_reducible exact Below.refl _ _) | (with_reducible assumption) | (with_reducible refine Below.drew ?_) | (with_reducible refine below_drewN ?_ _) | ((with_reducible refine below_alloc' ?_ ?_); (focus (first | (simp; done) | omega | (simp; omega)))) | ((with_reducible refine below_set' ?_ ?_); (focus (first | (simp; done) | omega | (simp; omega)))) | (with_reducible refine below_step ?_ (by assumption)) | (with_reducible refine below_step_since ?_ (by assumption)) | ((with_reducible refine below_since' (by assumption) ?_ ?_); (focus (first | (simp; done) | omega | (simp; omega)))) | ((with_reducible refine below_trans' (by assumption) ?_ ?_); (focus (first | (simp; done) | omega | (simp; omega))))))

/-- The envelope that two corners stand for. -/
def ebMade (e : EB) : EB := if e.f then ebOf [(e.a, e.b), (e.c, e.d)] else ⟨false, 0, 0, 0, 0⟩

theorem eMade_any (f : Bool) (a b c d : Nat) (w : World) : Calls Try.prog 42 #[.agg #[.bool f, .float .f64 a, .float .f64 b, .float .f64 c, .float .f64 d]] w fun e w' => e = .returned (.agg (ebMade ⟨f, a, b, c, d⟩).cells) ∧ Below w.heap.size w w' := by
  cases f with
  | false =>
    have HO := fun W => Lib.hid (eOf_any none 0 0 [] W ⟨by simp, fun h => absurd h (by omega)⟩ (by omega))
    rw [show ebOf [] = ⟨false, 0, 0, 0, 0⟩ from rfl] at HO
    show Calls _ _ _ _ fun e w' => e = .returned (.agg (EB.cells ⟨false, 0, 0, 0, 0⟩)) ∧ _
    unfold EB.cells at HO ⊢
    go_enter Try.func42, Try.ntmps42
    go_wp2_with (first | (go_at_call 40; (with_reducible refine Calls.mono (eCorners_none _ _ _ _ _) ?_); rintro e w2 ⟨rfl, hb⟩; have HB : Below w.heap.size w w2 := (by (repeat (first | (with_reducible exact Below.refl _ _) | (with_reducible assumption) | (with_reducible refine Below.drew ?_) | (with_reducible refine below_drewN ?_ _) | ((with_reducible refine below_alloc' ?_ ?_); (focus (first | (simp; done) | omega | (simp; omega)))) | ((with_reducible refine below_set' ?_ ?_); (focus (first | (simp; done) | omega | (simp; omega)))) | (with_reducible refine below_step ?_ (by assumption)) | (with_reducible refine below_step_since ?_ (by assumption)) | ((with_reducible refine below_since' (by assumption) ?_ ?_); (focus (first | (simp; done) | omega | (simp; omega)))) | ((with_reducible refine below_trans' (by assumption) ?_ ?_); (focus (first | (simp; done) | omega | (simp; omega))))))); have B1 : Blk w2 (w.heap.size + 1) 71 #[.bool false, .float .f64 0, .float .f64 0, .float .f64 0, .float .f64 0] := (Blk.new' (by simp)).below hb (by simp); clear hb) | (go_at_call 45; (with_reducible refine Calls.mono ((HO _).out) ?_); rintro e w2 ⟨rfl, hb⟩; replace HB := below_step HB hb; replace B1 := B1.below hb B1.lt; clear hb; have l1 := B1.lt; have f1 := B1.frozen; have c1_0 := B1.cell_ 0 rfl; have c1_1 := B1.cell_ 1 rfl; have c1_2 := B1.cell_ 2 rfl; have c1_3 := B1.cell_ 3 rfl; have c1_4 := B1.cell_ 4 rfl))
    have B1 := B1.set_ 0 (.bool false); have B1 := B1.set_ 1 (.float .f64 0); have B1 := B1.set_ 2 (.float .f64 0); have B1 := B1.set_ 3 (.float .f64 0); have B1 := B1.set_ 4 (.float .f64 0); simp only [List.setIfInBounds_toArray, List.set_cons_zero, List.set_cons_succ] at B1; refine bodyPost_ret (results_cell_row Try.results42 _ _ _ _ _ (0, 0) _ rfl B1 Try.underlying71 rfl (by kernel_rfl)) rfl ⟨rfl, ?_⟩
    (repeat (first | (with_reducible exact Below.refl _ _) | (with_reducible assumption) | (with_reducible refine Below.drew ?_) | (with_reducible refine below_drewN ?_ _) | ((with_reducible refine below_alloc' ?_ ?_); (focus (first | (simp; done) | omega | (simp; omega)))) | ((with_reducible refine below_set' ?_ ?_); (focus (first | (simp; done) | omega | (simp; omega)))) | (with_reducible refine below_step ?_ (by assumption)) | (with_reducible refine below_step_since ?_ (by assumption)) | ((with_reducible refine below_since' (by assumption) ?_ ?_); (focus (first | (simp; done) | omega | (simp; omega)))) | ((with_reducible refine below_trans' (by assumption) ?_ ?_); (focus (first | (simp; done) | omega | (simp; omega))))))
  | true =>
    have HO := fun (A : Option Addr) (W : World) (hr : Reads W W.heap.size 2 A 2 ([(a, b), (c, d)].flatMap xyCells)) => Lib.hid (eOf_any A 2 2 [(a, b), (c, d)] W hr (by omega))
    have HC := fun W => Lib.hid (eCorners_full a b c d W)
    show Calls _ _ _ _ fun e w' => e = .returned (.agg (EB.cells (ebOf [(a, b), (c, d)]))) ∧ _
    generalize ebOf [(a, b), (c, d)] = V at *
    obtain ⟨v4, v0, v1, v2, v3⟩ := V
    unfold EB.cells at HO ⊢
    generalize [(a, b), (c, d)].flatMap xyCells = cs at *
    go_enter Try.func42, Try.ntmps42
    go_wp2_with (first | (go_at_call 40; (with_reducible refine Calls.mono (HC _).out ?_); rintro e w2 ⟨⟨g, hg, rfl, own⟩, hb⟩; have HB : Below w.heap.size w w2 := (by (repeat (first | (with_reducible exact Below.refl _ _) | (with_reducible assumption) | (with_reducible refine Below.drew ?_) | (with_reducible refine below_drewN ?_ _) | ((with_reducible refine below_alloc' ?_ ?_); (focus (first | (simp; done) | omega | (simp; omega)))) | ((with_reducible refine below_set' ?_ ?_); (focus (first | (simp; done) | omega | (simp; omega)))) | (with_reducible refine below_step ?_ (by assumption)) | (with_reducible refine below_step_since ?_ (by assumption)) | ((with_reducible refine below_since' (by assumption) ?_ ?_); (focus (first | (simp; done) | omega | (simp; omega)))) | ((with_reducible refine below_trans' (by assumption) ?_ ?_); (focus (first | (simp; done) | omega | (simp; omega))))))); have B1 : Blk w2 (w.heap.size + 1) 71 #[.bool false, .float .f64 0, .float .f64 0, .float .f64 0, .float .f64 0] := (Blk.new' (by simp)).below hb (by simp); clear hb) | (go_at_call 45; (with_reducible refine Calls.mono ((HO _ _ (Reads.of_own own)).out) ?_); rintro e w2 ⟨rfl, hb⟩; replace HB := below_step HB hb; replace B1 := B1.below hb B1.lt; clear hb; have l1 := B1.lt; have f1 := B1.frozen; have c1_0 := B1.cell_ 0 rfl; have c1_1 := B1.cell_ 1 rfl; have c1_2 := B1.cell_ 2 rfl; have c1_3 := B1.cell_ 3 rfl; have c1_4 := B1.cell_ 4 rfl))
    have B1 := B1.set_ 0 (.bool v4); have B1 := B1.set_ 1 (.float .f64 v0); have B1 := B1.set_ 2 (.float .f64 v1); have B1 := B1.set_ 3 (.float .f64 v2); have B1 := B1.set_ 4 (.float .f64 v3); simp only [List.setIfInBounds_toArray, List.set_cons_zero, List.set_cons_succ] at B1; refine bodyPost_ret (results_cell_row Try.results42 _ _ _ _ _ (0, 0) _ rfl B1 Try.underlying71 rfl (by kernel_rfl)) rfl ⟨rfl, ?_⟩
    (repeat (first | (with_reducible exact Below.refl _ _) | (with_reducible assumption) | (with_reducible refine Below.drew ?_) | (with_reducible refine below_drewN ?_ _) | ((with_reducible refine below_alloc' ?_ ?_); (focus (first | (simp; done) | omega | (simp; omega)))) | ((with_reducible refine below_set' ?_ ?_); (focus (first | (simp; done) | omega | (simp; omega)))) | (with_reducible refine below_step ?_ (by assumption)) | (with_reducible refine below_step_since ?_ (by assumption)) | ((with_reducible refine below_since' (by assumption) ?_ ?_); (focus (first | (simp; done) | omega | (simp; omega)))) | ((with_reducible refine below_trans' (by assumption) ?_ ?_); (focus (first | (simp; done) | omega | (simp; omega))))))

def EB.has (e : EB) (x y : Nat) : Bool := e.f && (Fl.leB e.a x && (Fl.leB x e.c && (Fl.leB e.b y && Fl.leB y e.d)))
theorem eHas_any (f : Bool) (a b c d x y : Nat) (w : World) : Calls Try.prog 41 #[.agg #[.bool f, .float .f64 a, .float .f64 b, .float .f64 c, .float .f64 d], .agg #[.float .f64 x, .float .f64 y]] w fun e w' => e = .returned (.bool (EB.has ⟨f, a, b, c, d⟩ x y)) ∧ Below w.heap.size w w' := by
  have hr : Hid (EB.has ⟨f, a, b, c, d⟩ x y = (f && (Fl.leB a x && (Fl.leB x c && (Fl.leB b y && Fl.leB y d))))) := rfl
  generalize EB.has ⟨f, a, b, c, d⟩ x y = r at *
  have e1 : (FloatKind.f64.format.order a x == some .lt || FloatKind.f64.format.order a x == some .eq) = Fl.leB a x := rfl
  have e2 : (FloatKind.f64.format.order x c == some .lt || FloatKind.f64.format.order x c == some .eq) = Fl.leB x c := rfl
  have e3 : (FloatKind.f64.format.order b y == some .lt || FloatKind.f64.format.order b y == some .eq) = Fl.leB b y := rfl
  have e4 : (FloatKind.f64.format.order y d == some .lt || FloatKind.f64.format.order y d == some .eq) = Fl.leB y d := rfl
  generalize Fl.leB a x = q1 at *
  generalize Fl.leB x c = q2 at *
  generalize Fl.leB b y = q3 at *
  generalize Fl.leB y d = q4 at *
  cases f with
  | false =>
    clear e1 e2 e3 e4
    go_enter Try.func41, Try.ntmps41
    go_wp2
    go_ret
    exact ⟨by rw [hr.out]; rfl, (by (repeat (first | (with_reducible exact Below.refl _ _) | (with_reducible assumption) | (with_reducible refine Below.drew ?_) | (with_reducible refine below_drewN ?_ _) | ((with_reducible refine below_alloc' ?_ ?_); (focus (first | (simp; done) | omega | (simp; omega)))) | ((with_reducible refine below_set' ?_ ?_); (focus (first | (simp; done) | omega | (simp; omega)))) | (with_reducible refine below_step ?_ (by assumption)) | (with_reducible refine below_step_since ?_ (by assumption)) | ((with_reducible refine below_since' (by assumption) ?_ ?_); (focus (first | (simp; done) | omega | (simp; omega)))) | ((with_reducible refine below_trans' (by assumption) ?_ ?_); (focus (first | (simp; done) | omega | (simp; omega)))))))⟩
  | true =>
    cases q1 <;> cases q2 <;> cases q3 <;> cases q4
    all_goals
      go_enter Try.func41, Try.ntmps41
      go_wp2
      go_ret
      exact ⟨by rw [hr.out]; rfl, (by (repeat (first | (with_reducible exact Below.refl _ _) | (with_reducible assumption) | (with_reducible refine Below.drew ?_) | (with_reducible refine below_drewN ?_ _) | ((with_reducible refine below_alloc' ?_ ?_); (focus (first | (simp; done) | omega | (simp; omega)))) | ((with_reducible refine below_set' ?_ ?_); (focus (first | (simp; done) | omega | (simp; omega)))) | (with_reducible refine below_step ?_ (by assumption)) | (with_reducible refine below_step_since ?_ (by assumption)) | ((with_reducible refine below_since' (by assumption) ?_ ?_); (focus (first | (simp; done) | omega | (simp; omega)))) | ((with_reducible refine below_trans' (by assumption) ?_ ?_); (focus (first | (simp; done) | omega | (simp; omega)))))))⟩

end Go.Proofs.Ytciblaabghiefaa
