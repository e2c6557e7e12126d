/- plainSequence: a sequence as a LineString of the thin package. -/
import Derived.Test.YtciblaabghiefaaPlaces
namespace Go.Proofs.Ytciblaabghiefaa
open Go.RowKit
attribute [local go_sem] run_store_float
set_option maxRecDepth 100000

theorem own_below {w w' : World} {base B : Nat} {e : TypeId} {size n : Nat} {v : Value} {xs : List Value} (h : w.ownsRow base e size v n xs) (hb : Below B w w') (hB : w.heap.size ≤ B) : w'.ownsRow base e size v n xs := by
  refine ⟨h.1, ?_⟩
  rcases h.2 with hn | ⟨g, cap, cur, rfl, hb', hgg, rest⟩
  · exact .inl hn
  · exact .inr ⟨g, cap, cur, rfl, hb', (hb.block g (Nat.lt_of_lt_of_le (Array.getElem?_eq_some_iff.1 hgg).1 hB)).trans hgg, rest⟩
theorem take_one {xs : List Nat} {i : Nat} (h : i + 1 ≤ xs.length) : xs.take (i + 1) = xs.take i ++ [nth xs i] := by
  rw [List.take_succ_eq_append_getElem (by omega)]; simp [nth, List.getElem?_eq_getElem (show i < xs.length by omega)]
theorem take_two {xs : List Nat} {i : Nat} (h : i + 2 ≤ xs.length) : xs.take (i + 2) = xs.take i ++ [nth xs i, nth xs (i + 1)] := by
  rw [show i + 2 = i + 1 + 1 from rfl, take_one (by omega), take_one (by omega)]; simp

theorem is3D_any (d : Int) (hd : d = 0 ∨ d = 1 ∨ d = 2 ∨ d = 3) (w : World) : Calls Try.prog 115 #[.int .u8 d] w fun e w' => e = .returned (.bool (d == 1 || d == 3)) ∧ Below w.heap.size w w' := by
  have b0 : bits .and .u8 0 1 = 0 := by decide
  have b1 : bits .and .u8 1 1 = 1 := by decide
  have b2 : bits .and .u8 2 1 = 0 := by decide
  have b3 : bits .and .u8 3 1 = 1 := by decide
  rcases hd with rfl | rfl | rfl | rfl
  all_goals
    go_enter Try.func115, Try.ntmps115
    go_wp2
    go_ret
    exact ⟨rfl, (by (repeat (first | (with_reducible exact Below.refl _ _) | (with_reducible assumption) | (with_reducible refine Below.drew ?_) | (with_reducible refine below_drewN ?_ _) | ((with_reducible refine below_alloc' ?_ ?_); (focus (first | (simp; done) | omega | (simp; omega)))) | ((with_reducible refine below_set' ?_ ?_); (focus (first | (simp; done) | omega | (simp; omega)))) | (with_reducible refine below_step ?_ (by assumption)) | (with_reducible refine below_step_since ?_ (by assumption)) | ((with_reducible refine below_since' (by assumption) ?_ ?_); (focus (first | (simp; done) | omega | (simp; omega)))) | ((with_reducible refine below_trans' (by assumption) ?_ ?_); (focus (first | (simp; done) | omega | (simp; omega)))))))⟩
theorem isMeasured_any (d : Int) (hd : d = 0 ∨ d = 1 ∨ d = 2 ∨ d = 3) (w : World) : Calls Try.prog 116 #[.int .u8 d] w fun e w' => e = .returned (.bool (d == 2 || d == 3)) ∧ Below w.heap.size w w' := by
  have b0 : bits .and .u8 0 2 = 0 := by decide
  have b1 : bits .and .u8 1 2 = 0 := by decide
  have b2 : bits .and .u8 2 2 = 2 := by decide
  have b3 : bits .and .u8 3 2 = 2 := by decide
  rcases hd with rfl | rfl | rfl | rfl
  all_goals
    go_enter Try.func116, Try.ntmps116
    go_wp2
    go_ret
    exact ⟨rfl, (by (repeat (first | (with_reducible exact Below.refl _ _) | (with_reducible assumption) | (with_reducible refine Below.drew ?_) | (with_reducible refine below_drewN ?_ _) | ((with_reducible refine below_alloc' ?_ ?_); (focus (first | (simp; done) | omega | (simp; omega)))) | ((with_reducible refine below_set' ?_ ?_); (focus (first | (simp; done) | omega | (simp; omega)))) | (with_reducible refine below_step ?_ (by assumption)) | (with_reducible refine below_step_since ?_ (by assumption)) | ((with_reducible refine below_since' (by assumption) ?_ ?_); (focus (first | (simp; done) | omega | (simp; omega)))) | ((with_reducible refine below_trans' (by assumption) ?_ ?_); (focus (first | (simp; done) | omega | (simp; omega)))))))⟩
theorem seqType_any (d : Int) (A : Option Addr) (n c : Nat) (w : World) : Calls Try.prog 113 #[.agg #[.int .u8 d, .slice A n c]] w fun e w' => e = .returned (.int .u8 d) ∧ Below w.heap.size w w' := by
  go_enter Try.func113, Try.ntmps113
  go_wp2
  go_ret
  exact ⟨rfl, (by (repeat (first | (with_reducible exact Below.refl _ _) | (with_reducible assumption) | (with_reducible refine Below.drew ?_) | (with_reducible refine below_drewN ?_ _) | ((with_reducible refine below_alloc' ?_ ?_); (focus (first | (simp; done) | omega | (simp; omega)))) | ((with_reducible refine below_set' ?_ ?_); (focus (first | (simp; done) | omega | (simp; omega)))) | (with_reducible refine below_step ?_ (by assumption)) | (with_reducible refine below_step_since ?_ (by assumption)) | ((with_reducible refine below_since' (by assumption) ?_ ?_); (focus (first | (simp; done) | omega | (simp; omega)))) | ((with_reducible refine below_trans' (by assumption) ?_ ?_); (focus (first | (simp; done) | omega | (simp; omega)))))))⟩

/-- The slice lies in memory that was not there. -/
def Fresh (w : World) (A : Option Addr) : Prop := ∀ ad, A = some ad → w.heap.size ≤ ad.block

theorem stop_ {p : Prop} (h : Hid p) : p := h
theorem go_on_ {p : Prop} (h : p) : Hid p := h

/-- The state inside a round: the boxed sequence, the result, the geometry under way with its row of numbers, the coordinates. -/
structure PSt (w : World) (d : Int) (A : Option Addr) (n c g3 g5 x y z m : Nat) (V : Option Addr) (i cv : Nat) (cur : List Value) (W : World) : Prop where
  hg3 : w.heap.size + 1 < g3
  B0 : Blk W w.heap.size 97 #[.int .u8 d, .slice A n c]
  B1 : Blk W (w.heap.size + 1) 28 #[.int .i64 0, .int .i64 0, .slice none 0 0, .slice none 0 0]
  B3 : Blk W g3 28 #[.int .i64 2, .int .i64 d, .slice V i cv, .slice none 0 0]
  B5 : Blk W g5 133 #[.float .f64 x, .float .f64 y, .float .f64 z, .float .f64 m, .int .u8 d]
  own : W.ownsRow w.heap.size 34 1 (.slice V i cv) i cur
  HB : Below w.heap.size w W

section
variable {w : World} {d : Int} {A : Option Addr} {n c g3 g5 x y z m : Nat} {V : Option Addr} {i cv : Nat} {cur : List Value} {W W' : World}
theorem PSt.on (h : PSt w d A n c g3 g5 x y z m V i cv cur W) (hb : Below W.heap.size W W') : PSt w d A n c g3 g5 x y z m V i cv cur W' :=
  ⟨h.hg3, h.B0.below hb h.B0.lt, h.B1.below hb h.B1.lt, h.B3.below hb h.B3.lt, h.B5.below hb h.B5.lt, own_below h.own hb (Nat.le_refl _), below_step h.HB hb⟩
theorem PSt.app (h : PSt w d A n c g3 g5 x y z m V i cv cur W) {l : Obj} {V' : Option Addr} {i' cv' : Nat} {cur' : List Value} (hg : (W.alloc l).grownBy W' (Value.slice V i cv).ownBlock)
    (ho : W'.ownsRow w.heap.size 34 1 (.slice V' i' cv') i' cur') : PSt w d A n c g3 g5 x y z m V' i' cv' cur' (W'.setCell ⟨g3, 2, none⟩ (.slice V' i' cv')) ∧ Blk W' g3 28 #[.int .i64 2, .int .i64 d, .slice V i cv, .slice none 0 0] ∧ Blk W' g5 133 #[.float .f64 x, .float .f64 y, .float .f64 z, .float .f64 m, .int .u8 d] := by
  obtain ⟨hg3, B0, B1, B3, B5, own, HB⟩ := h
  have k0 := (B0.alloc l).grown hg (own_blk_ne own B0 (by decide)).symm
  have k1 := (B1.alloc l).grown hg (own_blk_ne own B1 (by decide)).symm
  have k3 := (B3.alloc l).grown hg (own_blk_ne own B3 (by decide)).symm
  have k5 := (B5.alloc l).grown hg (own_blk_ne own B5 (by decide)).symm
  have hz := HB.size
  have kb : Below w.heap.size w W' := Below.grown (w := W.alloc l) (by (repeat (first | (with_reducible exact Below.refl _ _) | (with_reducible assumption) | (with_reducible refine Below.drew ?_) | (with_reducible refine below_drewN ?_ _) | ((with_reducible refine below_alloc' ?_ ?_); (focus (first | (simp; done) | omega | (simp; omega)))) | ((with_reducible refine below_set' ?_ ?_); (focus (first | (simp; done) | omega | (simp; omega)))) | (with_reducible refine below_step ?_ (by assumption)) | (with_reducible refine below_step_since ?_ (by assumption)) | ((with_reducible refine below_since' (by assumption) ?_ ?_); (focus (first | (simp; done) | omega | (simp; omega)))) | ((with_reducible refine below_trans' (by assumption) ?_ ?_); (focus (first | (simp; done) | omega | (simp; omega))))))) hg (by simp; omega) (fun k hk => (own.lt k hk).1)
  exact ⟨⟨hg3, k0.far (by simp; omega) _, k1.far (by simp; omega) _, k3.set_ 2 _, k5.far (Blk.ne_ k5 k3 (by decide)) _, own_far ho (own_blk_ne ho k3 (by decide)) _, kb.setCell (by show w.heap.size ≤ g3; omega) _⟩, k3, k5⟩
end

set_option maxHeartbeats 2000000 in
theorem plainSeq_any (d : Int) (hd : d = 0 ∨ d = 1 ∨ d = 2 ∨ d = 3) (A : Option Addr) (c : Nat) (xs : List Nat) (w : World) (h : Reads w w.heap.size 1 A xs.length (xs.map fl)) (hm : xs.length % wd d = 0) (hn : xs.length ≤ 2147483647) :
    Calls Try.prog 80 #[.agg #[.int .u8 d, .slice A xs.length c]] w fun e w' =>
      (∃ A' c', e = .returned (.agg #[.int .i64 2, .int .i64 d, .slice A' xs.length c', .slice none 0 0]) ∧ Reads w' w'.heap.size 1 A' xs.length (xs.map fl) ∧ Fresh w A') ∧ Below w.heap.size w w' := by
  have HT := fun W => Lib.hid (seqType_any d A xs.length c W)
  have HL := fun W => Lib.hid (length_any d hd A xs.length c (by omega) W)
  have HG := fun (j : Nat) (hj : j * wd d + wd d ≤ xs.length) (W : World) (hW : Below w.heap.size w W) => Lib.hid (get_any d hd A c xs j W ((h.below hW).more hW.size) hn hj)
  unfold coords at HG
  have H3 := fun W => Lib.hid (is3D_any d hd W)
  have HM := fun W => Lib.hid (isMeasured_any d hd W)
  have h2 := wd_cases d hd
  have hq : xs.length = xs.length / wd d * wd d := (Nat.div_mul_cancel (Nat.dvd_of_mod_eq_zero hm)).symm
  have hqI : ((xs.length : Int) / (wd d : Int)) = ((xs.length / wd d : Nat) : Int) := by simp
  have hqn : xs.length / wd d ≤ xs.length := Nat.div_le_self _ _
  have hd' : Hid ((d = 0 ∧ wd d = 2) ∨ (d = 1 ∧ wd d = 3) ∨ (d = 2 ∧ wd d = 3) ∨ (d = 3 ∧ wd d = 4)) := by
    rcases hd with rfl | rfl | rfl | rfl <;> simp [Hid, wd]
  have hcv : IntKind.i64.wrap d = d := IntWalk.i64_in _ (by omega)
  simp only [hqI] at HL
  have HQ := Lib.hid hq
  clear hq h
  generalize hxq : xs.length / wd d = q at *
  clear hxq
  generalize hnl : xs.length = n at *
  have HNL := Lib.hid hnl
  clear hnl hd hm
  go_enter Try.func80, Try.ntmps80
  go_wp2_with (go_at_call 113; (with_reducible refine Calls.mono ((HT _).out) ?_); rintro e w2 ⟨rfl, hb⟩; have HB : Below w.heap.size w w2 := (by (repeat (first | (with_reducible exact Below.refl _ _) | (with_reducible assumption) | (with_reducible refine Below.drew ?_) | (with_reducible refine below_drewN ?_ _) | ((with_reducible refine below_alloc' ?_ ?_); (focus (first | (simp; done) | omega | (simp; omega)))) | ((with_reducible refine below_set' ?_ ?_); (focus (first | (simp; done) | omega | (simp; omega)))) | (with_reducible refine below_step ?_ (by assumption)) | (with_reducible refine below_step_since ?_ (by assumption)) | ((with_reducible refine below_since' (by assumption) ?_ ?_); (focus (first | (simp; done) | omega | (simp; omega)))) | ((with_reducible refine below_trans' (by assumption) ?_ ?_); (focus (first | (simp; done) | omega | (simp; omega))))))); have B0 : Blk w2 w.heap.size 97 #[.int .u8 d, .slice A n c] := ((Blk.new _ _ _).alloc _).below hb (by first | (simp; done) | omega | (simp; omega)); have B1 : Blk w2 (w.heap.size + 1) 28 #[.int .i64 0, .int .i64 0, .slice none 0 0, .slice none 0 0] := (Blk.new' (by first | (simp; done) | omega | (simp; omega))).below hb (by first | (simp; done) | omega | (simp; omega)); clear hb)
  have hg3 : w.heap.size + 1 < w2.heap.size := B1.lt
  have B3 := Blk.new w2 28 #[.int .i64 2, .int .i64 d, .slice none 0 0, .slice none 0 0]
  replace HB : Below w.heap.size w (w2.alloc (.cells #[.int .i64 2, .int .i64 d, .slice none 0 0, .slice none 0 0] 28)) := by have := HB.size; (repeat (first | (with_reducible exact Below.refl _ _) | (with_reducible assumption) | (with_reducible refine Below.drew ?_) | (with_reducible refine below_drewN ?_ _) | ((with_reducible refine below_alloc' ?_ ?_); (focus (first | (simp; done) | omega | (simp; omega)))) | ((with_reducible refine below_set' ?_ ?_); (focus (first | (simp; done) | omega | (simp; omega)))) | (with_reducible refine below_step ?_ (by assumption)) | (with_reducible refine below_step_since ?_ (by assumption)) | ((with_reducible refine below_since' (by assumption) ?_ ?_); (focus (first | (simp; done) | omega | (simp; omega)))) | ((with_reducible refine below_trans' (by assumption) ?_ ?_); (focus (first | (simp; done) | omega | (simp; omega))))))
  replace B0 := B0.alloc (.cells #[.int .i64 2, .int .i64 d, .slice none 0 0, .slice none 0 0] 28)
  replace B1 := B1.alloc (.cells #[.int .i64 2, .int .i64 d, .slice none 0 0, .slice none 0 0] 28)
  generalize w2.alloc (.cells #[.int .i64 2, .int .i64 d, .slice none 0 0, .slice none 0 0] 28) = W0 at *
  generalize w2.heap.size = g3 at *
  go_loopw [4] (fun i wr => ∃ (j : Nat) (V : Option Addr) (cv : Nat), j ≤ q ∧ i = .int .i64 j ∧ Blk wr g3 28 #[.int .i64 2, .int .i64 d, .slice V (j * wd d) cv, .slice none 0 0] ∧ wr.ownsRow w.heap.size 34 1 (.slice V (j * wd d) cv) (j * wd d) ((xs.take (j * wd d)).map fl) ∧ Below w.heap.size w wr ∧ Blk wr w.heap.size 97 #[.int .u8 d, .slice A n c] ∧ Blk wr (w.heap.size + 1) 28 #[.int .i64 0, .int .i64 0, .slice none 0 0, .slice none 0 0]) (fun i _ => q - (intOf i).toNat)
  case atStart => exact ⟨0, none, 0, by omega, rfl, by simpa using B3, ⟨by simp, .inl ⟨by simp, by simp⟩⟩, HB, B0, B1⟩
  case round =>
    clear HB B0 B1 B3
    obtain ⟨j, V, cv, hj, rfl, B3, hown, HB, B0, B1⟩ := hrel
    by_cases hlt : j < q
    · have hi : j * wd d + wd d ≤ n := by
        rw [HQ.out]
        have := Nat.mul_le_mul_right (wd d) (show j + 1 ≤ q from hlt)
        rw [Nat.add_mul] at this; omega
      have HGj := HG j hi
      clear HG
      have HXX := Lib.hid (rfl : (xs.take (j * wd d)).map fl = (xs.take (j * wd d)).map fl)
      generalize hxs : (xs.take (j * wd d)).map fl = cur at *
      have HCUR := Lib.hid hxs
      clear HXX hxs
      have hN : j * wd d ≤ 2147483647 := by omega
      generalize hx : nth xs (j * wd d) = x at *
      generalize hy : nth xs (j * wd d + 1) = y at *
      generalize hz : zOf d xs (j * wd d) = z at *
      generalize hmm : mOf d xs (j * wd d) = m at *
      have HX := Lib.hid hx; have HY := Lib.hid hy; have HZ := Lib.hid hz; have HMM := Lib.hid hmm
      clear hx hy hz hmm
      have HN := Lib.hid (show (j + 1) * wd d = j * wd d + wd d by rw [Nat.add_mul]; omega)
      generalize hii : j * wd d = i at *
      have HII := Lib.hid hii
      clear hii
      obtain ⟨i0, hi0, hz0, hz1, hz2⟩ := info_parts f64_info
      have HI := Lib.hid hi0; have HZ0 := Lib.hid hz0; have HZ1 := Lib.hid hz1; have HZ2 := Lib.hid hz2
      clear hi0 hz0 hz1 hz2
      have l0 := B0.lt; have f0 := B0.frozen; have c0_0 := B0.cell_ 0 rfl; have c0_1 := B0.cell_ 1 rfl
      go_wp2_with (first
        | (go_at_call 61; (with_reducible refine Calls.mono ((HL _).out) ?_); rintro e w2 ⟨rfl, hb⟩; replace B0 := B0.below hb B0.lt; replace B1 := B1.below hb B1.lt; replace B3 := B3.below hb B3.lt; replace hown := own_below hown hb (Nat.le_refl _); replace HB := below_step HB hb; clear hb; clear l0 f0 c0_0 c0_1; have l0 := B0.lt; have f0 := B0.frozen; have c0_0 := B0.cell_ 0 rfl; have c0_1 := B0.cell_ 1 rfl)
        | (go_at_call 114; (with_reducible refine Calls.mono ((HGj _ HB).out) ?_); rintro e w2 ⟨rfl, hb⟩; replace B0 := B0.below hb B0.lt; replace B1 := B1.below hb B1.lt; replace B3 := B3.below hb B3.lt; replace hown := own_below hown hb (Nat.le_refl _); replace HB := below_step HB hb; clear hb; clear l0 f0 c0_0 c0_1; have hz := HB.size; have S : PSt w d A n c g3 w2.heap.size x y z m V i cv cur (w2.alloc (.cells #[.float .f64 x, .float .f64 y, .float .f64 z, .float .f64 m, .int .u8 d] 133)) := ⟨hg3, B0.alloc _, B1.alloc _, B3.alloc _, Blk.new _ _ _, hown.alloc _, by (repeat (first | (with_reducible exact Below.refl _ _) | (with_reducible assumption) | (with_reducible refine Below.drew ?_) | (with_reducible refine below_drewN ?_ _) | ((with_reducible refine below_alloc' ?_ ?_); (focus (first | (simp; done) | omega | (simp; omega)))) | ((with_reducible refine below_set' ?_ ?_); (focus (first | (simp; done) | omega | (simp; omega)))) | (with_reducible refine below_step ?_ (by assumption)) | (with_reducible refine below_step_since ?_ (by assumption)) | ((with_reducible refine below_since' (by assumption) ?_ ?_); (focus (first | (simp; done) | omega | (simp; omega)))) | ((with_reducible refine below_trans' (by assumption) ?_ ?_); (focus (first | (simp; done) | omega | (simp; omega))))))⟩; have l35 := B3.lt; have l3 := B3.lt; have f3 := B3.frozen; have c3_0 := B3.cell_ 0 rfl; have c3_1 := B3.cell_ 1 rfl; have c3_2 := B3.cell_ 2 rfl; have c3_3 := B3.cell_ 3 rfl)
        | (at_builtin; refine wpList_append_any _ rfl (.tmp 20) (.tmp 27) _ rfl w.heap.size 34 i0 _ 1 8 Try.underlying25 HI.out HZ0.out HZ1.out HZ2.out rfl (by omega) _ _ _ rfl (S.own.alloc _) _ _ 2 2 [fl x, fl y] rfl (reads_new' _ _ (by simp) _ _ 1 2 rfl (by omega)) (by simp [fl, Value.oneCell']) (by simp only [maxLen]; omega) (by omega) (by have := S.HB.size; simp; omega) ?_; intro v1 w5 hown1 hg1 hat1; obtain ⟨V1, cv1, rfl, hrr⟩ := own_form hown1; obtain ⟨S', K3, K5⟩ := S.app hg1 hown1; replace S := S'; clear S' hown1 hg1 hat1 hrr; clear l3 f3 c3_0 c3_1 c3_2 c3_3; have l3 := K3.lt; have f3 := K3.frozen; have c3_0 := K3.cell_ 0 rfl; have c3_1 := K3.cell_ 1 rfl; have c3_2 := K3.cell_ 2 rfl; have c3_3 := K3.cell_ 3 rfl; have l5 := K5.lt; have f5 := K5.frozen; have c5_0 := K5.cell_ 0 rfl; have c5_1 := K5.cell_ 1 rfl; have c5_2 := K5.cell_ 2 rfl; have c5_3 := K5.cell_ 3 rfl; have c5_4 := K5.cell_ 4 rfl)
        | (go_at_call 115; refine stop_ ?_))
      clear l3 f3 c3_0 c3_1 c3_2 c3_3 l5 f5 c5_0 c5_1 c5_2 c5_3 c5_4
      clear K3 K5 B0 B1 B3 hown hz
      generalize w2.heap.size = g5 at *
      clear HB
      refine go_on_ ?_
      rcases hd'.out with ⟨hdd, hk⟩ | ⟨hdd, hk⟩ | ⟨hdd, hk⟩ | ⟨hdd, hk⟩
      · have HNX : Hid _ := show (j + 1) * wd d = i + 2 by rw [HN.out, hk]
        have HLX : Hid _ := show (xs.take ((j + 1) * wd d)).map fl = cur ++ [fl x, fl y] by rw [HNX.out, take_two (by rw [HNL.out]; omega), List.map_append, HCUR.out, HX.out, HY.out]; simp [fl]
        subst hdd
        refine Calls.mono (H3 _).out ?_
        rintro e w6 ⟨rfl, hb⟩
        replace S := S.on hb; clear hb; have T3 := S.B3; have T5 := S.B5; have l3 := T3.lt; have f3 := T3.frozen; have c3_0 := T3.cell_ 0 rfl; have c3_1 := T3.cell_ 1 rfl; have c3_2 := T3.cell_ 2 rfl; have c3_3 := T3.cell_ 3 rfl; have l5 := T5.lt; have f5 := T5.frozen; have c5_0 := T5.cell_ 0 rfl; have c5_1 := T5.cell_ 1 rfl; have c5_2 := T5.cell_ 2 rfl; have c5_3 := T5.cell_ 3 rfl; have c5_4 := T5.cell_ 4 rfl
        go_wp2_with (first | (go_at_call 116; (with_reducible refine Calls.mono (HM _).out ?_); rintro e w6 ⟨rfl, hb⟩; clear l3 f3 c3_0 c3_1 c3_2 c3_3 l5 f5 c5_0 c5_1 c5_2 c5_3 c5_4; clear T3 T5; replace S := S.on hb; clear hb; have T3 := S.B3; have T5 := S.B5; have l3 := T3.lt; have f3 := T3.frozen; have c3_0 := T3.cell_ 0 rfl; have c3_1 := T3.cell_ 1 rfl; have c3_2 := T3.cell_ 2 rfl; have c3_3 := T3.cell_ 3 rfl; have l5 := T5.lt; have f5 := T5.frozen; have c5_0 := T5.cell_ 0 rfl; have c5_1 := T5.cell_ 1 rfl; have c5_2 := T5.cell_ 2 rfl; have c5_3 := T5.cell_ 3 rfl; have c5_4 := T5.cell_ 4 rfl))
        refine ⟨⟨j + 1, _, _, by omega, by go_num, by rw [HNX.out]; exact S.B3, by rw [HLX.out, HNX.out]; simpa using S.own, S.HB, S.B0, S.B1⟩, by simp [intOf]; omega⟩
      · have HNX : Hid _ := show (j + 1) * wd d = i + 3 by rw [HN.out, hk]
        have HLX : Hid _ := show (xs.take ((j + 1) * wd d)).map fl = cur ++ [fl x, fl y] ++ [fl z] by rw [HNX.out, show i + 3 = i + 2 + 1 from rfl, take_one (by rw [HNL.out]; omega), take_two (by rw [HNL.out]; omega), List.map_append, List.map_append, HCUR.out, HX.out, HY.out, ← HZ.out, zOf, if_pos (by omega)]; simp [fl]
        subst hdd
        refine Calls.mono (H3 _).out ?_
        rintro e w6 ⟨rfl, hb⟩
        replace S := S.on hb; clear hb; have T3 := S.B3; have T5 := S.B5; have l3 := T3.lt; have f3 := T3.frozen; have c3_0 := T3.cell_ 0 rfl; have c3_1 := T3.cell_ 1 rfl; have c3_2 := T3.cell_ 2 rfl; have c3_3 := T3.cell_ 3 rfl; have l5 := T5.lt; have f5 := T5.frozen; have c5_0 := T5.cell_ 0 rfl; have c5_1 := T5.cell_ 1 rfl; have c5_2 := T5.cell_ 2 rfl; have c5_3 := T5.cell_ 3 rfl; have c5_4 := T5.cell_ 4 rfl
        go_wp2_with (first | (at_builtin; refine wpList_append_any _ rfl (.tmp 34) (.tmp 37) _ rfl w.heap.size 34 i0 _ 1 8 Try.underlying25 HI.out HZ0.out HZ1.out HZ2.out rfl (by omega) _ _ _ rfl (S.own.alloc _) _ _ 1 1 [fl z] rfl (reads_new' _ _ (by simp) _ _ 1 1 rfl (by omega)) (by simp [fl, Value.oneCell']) (by simp only [maxLen]; omega) (by omega) (by have := S.HB.size; simp; omega) ?_; intro v1 w5 hown1 hg1 hat1; obtain ⟨V1, cv1, rfl, hrr⟩ := own_form hown1; obtain ⟨S', K3, K5⟩ := S.app hg1 hown1; replace S := S'; clear S' hown1 hg1 hat1 hrr; clear l3 f3 c3_0 c3_1 c3_2 c3_3 l5 f5 c5_0 c5_1 c5_2 c5_3 c5_4; clear T3 T5; have l3 := K3.lt; have f3 := K3.frozen; have c3_0 := K3.cell_ 0 rfl; have c3_1 := K3.cell_ 1 rfl; have c3_2 := K3.cell_ 2 rfl; have c3_3 := K3.cell_ 3 rfl; have l5 := K5.lt; have f5 := K5.frozen; have c5_0 := K5.cell_ 0 rfl; have c5_1 := K5.cell_ 1 rfl; have c5_2 := K5.cell_ 2 rfl; have c5_3 := K5.cell_ 3 rfl; have c5_4 := K5.cell_ 4 rfl) | (go_at_call 116; (with_reducible refine Calls.mono (HM _).out ?_); rintro e w6 ⟨rfl, hb⟩; clear l3 f3 c3_0 c3_1 c3_2 c3_3 l5 f5 c5_0 c5_1 c5_2 c5_3 c5_4; clear K3 K5; replace S := S.on hb; clear hb; have T3 := S.B3; have T5 := S.B5; have l3 := T3.lt; have f3 := T3.frozen; have c3_0 := T3.cell_ 0 rfl; have c3_1 := T3.cell_ 1 rfl; have c3_2 := T3.cell_ 2 rfl; have c3_3 := T3.cell_ 3 rfl; have l5 := T5.lt; have f5 := T5.frozen; have c5_0 := T5.cell_ 0 rfl; have c5_1 := T5.cell_ 1 rfl; have c5_2 := T5.cell_ 2 rfl; have c5_3 := T5.cell_ 3 rfl; have c5_4 := T5.cell_ 4 rfl))
        refine ⟨⟨j + 1, _, _, by omega, by go_num, by rw [HNX.out]; exact S.B3, by rw [HLX.out, HNX.out]; simpa using S.own, S.HB, S.B0, S.B1⟩, by simp [intOf]; omega⟩
      · have HNX : Hid _ := show (j + 1) * wd d = i + 3 by rw [HN.out, hk]
        have HLX : Hid _ := show (xs.take ((j + 1) * wd d)).map fl = cur ++ [fl x, fl y] ++ [fl m] by rw [HNX.out, show i + 3 = i + 2 + 1 from rfl, take_one (by rw [HNL.out]; omega), take_two (by rw [HNL.out]; omega), List.map_append, List.map_append, HCUR.out, HX.out, HY.out, ← HMM.out, mOf, if_pos (by omega)]; simp [fl]
        subst hdd
        refine Calls.mono (H3 _).out ?_
        rintro e w6 ⟨rfl, hb⟩
        replace S := S.on hb; clear hb; have T3 := S.B3; have T5 := S.B5; have l3 := T3.lt; have f3 := T3.frozen; have c3_0 := T3.cell_ 0 rfl; have c3_1 := T3.cell_ 1 rfl; have c3_2 := T3.cell_ 2 rfl; have c3_3 := T3.cell_ 3 rfl; have l5 := T5.lt; have f5 := T5.frozen; have c5_0 := T5.cell_ 0 rfl; have c5_1 := T5.cell_ 1 rfl; have c5_2 := T5.cell_ 2 rfl; have c5_3 := T5.cell_ 3 rfl; have c5_4 := T5.cell_ 4 rfl
        go_wp2_with (first | (go_at_call 116; (with_reducible refine Calls.mono (HM _).out ?_); rintro e w6 ⟨rfl, hb⟩; clear l3 f3 c3_0 c3_1 c3_2 c3_3 l5 f5 c5_0 c5_1 c5_2 c5_3 c5_4; clear T3 T5; replace S := S.on hb; clear hb; have T3 := S.B3; have T5 := S.B5; have l3 := T3.lt; have f3 := T3.frozen; have c3_0 := T3.cell_ 0 rfl; have c3_1 := T3.cell_ 1 rfl; have c3_2 := T3.cell_ 2 rfl; have c3_3 := T3.cell_ 3 rfl; have l5 := T5.lt; have f5 := T5.frozen; have c5_0 := T5.cell_ 0 rfl; have c5_1 := T5.cell_ 1 rfl; have c5_2 := T5.cell_ 2 rfl; have c5_3 := T5.cell_ 3 rfl; have c5_4 := T5.cell_ 4 rfl) | (at_builtin; refine wpList_append_any _ rfl (.tmp 44) (.tmp 47) _ rfl w.heap.size 34 i0 _ 1 8 Try.underlying25 HI.out HZ0.out HZ1.out HZ2.out rfl (by omega) _ _ _ rfl (S.own.alloc _) _ _ 1 1 [fl m] rfl (reads_new' _ _ (by simp) _ _ 1 1 rfl (by omega)) (by simp [fl, Value.oneCell']) (by simp only [maxLen]; omega) (by omega) (by have := S.HB.size; simp; omega) ?_; intro v1 w5 hown1 hg1 hat1; obtain ⟨V1, cv1, rfl, hrr⟩ := own_form hown1; obtain ⟨S', K3, K5⟩ := S.app hg1 hown1; replace S := S'; clear S' hown1 hg1 hat1 hrr; clear l3 f3 c3_0 c3_1 c3_2 c3_3 l5 f5 c5_0 c5_1 c5_2 c5_3 c5_4; clear T3 T5; have l3 := K3.lt; have f3 := K3.frozen; have c3_0 := K3.cell_ 0 rfl; have c3_1 := K3.cell_ 1 rfl; have c3_2 := K3.cell_ 2 rfl; have c3_3 := K3.cell_ 3 rfl; have l5 := K5.lt; have f5 := K5.frozen; have c5_0 := K5.cell_ 0 rfl; have c5_1 := K5.cell_ 1 rfl; have c5_2 := K5.cell_ 2 rfl; have c5_3 := K5.cell_ 3 rfl; have c5_4 := K5.cell_ 4 rfl))
        refine ⟨⟨j + 1, _, _, by omega, by go_num, by rw [HNX.out]; exact S.B3, by rw [HLX.out, HNX.out]; simpa using S.own, S.HB, S.B0, S.B1⟩, by simp [intOf]; omega⟩
      · have HNX : Hid _ := show (j + 1) * wd d = i + 4 by rw [HN.out, hk]
        have HLX : Hid _ := show (xs.take ((j + 1) * wd d)).map fl = cur ++ [fl x, fl y] ++ [fl z] ++ [fl m] by rw [HNX.out, show i + 4 = i + 2 + 1 + 1 from rfl, take_one (by rw [HNL.out]; omega), take_one (by rw [HNL.out]; omega), take_two (by rw [HNL.out]; omega), List.map_append, List.map_append, List.map_append, HCUR.out, HX.out, HY.out, ← HZ.out, ← HMM.out, zOf, mOf, if_pos (by omega), if_neg (by omega), if_pos (by omega)]; simp [fl]
        subst hdd
        refine Calls.mono (H3 _).out ?_
        rintro e w6 ⟨rfl, hb⟩
        replace S := S.on hb; clear hb; have T3 := S.B3; have T5 := S.B5; have l3 := T3.lt; have f3 := T3.frozen; have c3_0 := T3.cell_ 0 rfl; have c3_1 := T3.cell_ 1 rfl; have c3_2 := T3.cell_ 2 rfl; have c3_3 := T3.cell_ 3 rfl; have l5 := T5.lt; have f5 := T5.frozen; have c5_0 := T5.cell_ 0 rfl; have c5_1 := T5.cell_ 1 rfl; have c5_2 := T5.cell_ 2 rfl; have c5_3 := T5.cell_ 3 rfl; have c5_4 := T5.cell_ 4 rfl
        go_wp2_with (first | (at_builtin; refine wpList_append_any _ rfl (.tmp 34) (.tmp 37) _ rfl w.heap.size 34 i0 _ 1 8 Try.underlying25 HI.out HZ0.out HZ1.out HZ2.out rfl (by omega) _ _ _ rfl (S.own.alloc _) _ _ 1 1 [fl z] rfl (reads_new' _ _ (by simp) _ _ 1 1 rfl (by omega)) (by simp [fl, Value.oneCell']) (by simp only [maxLen]; omega) (by omega) (by have := S.HB.size; simp; omega) ?_; intro v1 w5 hown1 hg1 hat1; obtain ⟨V1, cv1, rfl, hrr⟩ := own_form hown1; obtain ⟨S', K3, K5⟩ := S.app hg1 hown1; replace S := S'; clear S' hown1 hg1 hat1 hrr; clear l3 f3 c3_0 c3_1 c3_2 c3_3 l5 f5 c5_0 c5_1 c5_2 c5_3 c5_4; clear T3 T5; have l3 := K3.lt; have f3 := K3.frozen; have c3_0 := K3.cell_ 0 rfl; have c3_1 := K3.cell_ 1 rfl; have c3_2 := K3.cell_ 2 rfl; have c3_3 := K3.cell_ 3 rfl; have l5 := K5.lt; have f5 := K5.frozen; have c5_0 := K5.cell_ 0 rfl; have c5_1 := K5.cell_ 1 rfl; have c5_2 := K5.cell_ 2 rfl; have c5_3 := K5.cell_ 3 rfl; have c5_4 := K5.cell_ 4 rfl) | (go_at_call 116; (with_reducible refine Calls.mono (HM _).out ?_); rintro e w6 ⟨rfl, hb⟩; clear l3 f3 c3_0 c3_1 c3_2 c3_3 l5 f5 c5_0 c5_1 c5_2 c5_3 c5_4; clear K3 K5; replace S := S.on hb; clear hb; have T3 := S.B3; have T5 := S.B5; have l3 := T3.lt; have f3 := T3.frozen; have c3_0 := T3.cell_ 0 rfl; have c3_1 := T3.cell_ 1 rfl; have c3_2 := T3.cell_ 2 rfl; have c3_3 := T3.cell_ 3 rfl; have l5 := T5.lt; have f5 := T5.frozen; have c5_0 := T5.cell_ 0 rfl; have c5_1 := T5.cell_ 1 rfl; have c5_2 := T5.cell_ 2 rfl; have c5_3 := T5.cell_ 3 rfl; have c5_4 := T5.cell_ 4 rfl) | (at_builtin; refine wpList_append_any _ rfl (.tmp 44) (.tmp 47) _ rfl w.heap.size 34 i0 _ 1 8 Try.underlying25 HI.out HZ0.out HZ1.out HZ2.out rfl (by omega) _ _ _ rfl (S.own.alloc _) _ _ 1 1 [fl m] rfl (reads_new' _ _ (by simp) _ _ 1 1 rfl (by omega)) (by simp [fl, Value.oneCell']) (by simp only [maxLen]; omega) (by omega) (by have := S.HB.size; simp; omega) ?_; intro v1 w5 hown1 hg1 hat1; obtain ⟨V1, cv1, rfl, hrr⟩ := own_form hown1; obtain ⟨S', K3, K5⟩ := S.app hg1 hown1; replace S := S'; clear S' hown1 hg1 hat1 hrr; clear l3 f3 c3_0 c3_1 c3_2 c3_3 l5 f5 c5_0 c5_1 c5_2 c5_3 c5_4; clear T3 T5; have l3 := K3.lt; have f3 := K3.frozen; have c3_0 := K3.cell_ 0 rfl; have c3_1 := K3.cell_ 1 rfl; have c3_2 := K3.cell_ 2 rfl; have c3_3 := K3.cell_ 3 rfl; have l5 := K5.lt; have f5 := K5.frozen; have c5_0 := K5.cell_ 0 rfl; have c5_1 := K5.cell_ 1 rfl; have c5_2 := K5.cell_ 2 rfl; have c5_3 := K5.cell_ 3 rfl; have c5_4 := K5.cell_ 4 rfl))
        refine ⟨⟨j + 1, _, _, by omega, by go_num, by rw [HNX.out]; exact S.B3, by rw [HLX.out, HNX.out]; simpa using S.own, S.HB, S.B0, S.B1⟩, by simp [intOf]; omega⟩
    · obtain rfl : j = q := by omega
      have hjj : Hid _ := HQ.out
      rw [← HQ.out] at B3 hown
      have hR := (own_form hown)
      have HXS : Hid _ := show (xs.take n).map fl = xs.map fl by rw [List.take_of_length_le (by rw [HNL.out]; omega)]
      rw [HXS.out] at hown
      have hne : (Value.slice V n cv).ownBlock ≠ some (w.heap.size + 1) := own_blk_ne hown B1 (by decide)
      have hr := Reads.of_own hown
      have hA : ∀ ad, V = some ad → ad.block ≠ w.heap.size + 1 := by rintro ad rfl e; exact hne (by rw [← e]; rfl)
      have HA := Lib.hid hA
      have hF : Fresh w V := by rintro ad rfl; exact (hown.lt _ rfl).1
      clear hR hne hA hown HG HXS
      generalize j * wd d = jj at *
      have l0 := B0.lt; have f0 := B0.frozen; have c0_0 := B0.cell_ 0 rfl; have c0_1 := B0.cell_ 1 rfl; have l1 := B1.lt; have f1 := B1.frozen; have c1_0 := B1.cell_ 0 rfl; have c1_1 := B1.cell_ 1 rfl; have c1_2 := B1.cell_ 2 rfl; have c1_3 := B1.cell_ 3 rfl; have l3 := B3.lt; have f3 := B3.frozen; have c3_0 := B3.cell_ 0 rfl; have c3_1 := B3.cell_ 1 rfl; have c3_2 := B3.cell_ 2 rfl; have c3_3 := B3.cell_ 3 rfl
      go_wp2_with (go_at_call 61; (with_reducible refine Calls.mono ((HL _).out) ?_); rintro e w2 ⟨rfl, hb⟩; replace B0 := B0.below hb B0.lt; replace B1 := B1.below hb B1.lt; replace B3 := B3.below hb B3.lt; replace hr := hr.below hb; replace HB := below_step HB hb; have hzz := hb.size; clear hb; clear l0 f0 c0_0 c0_1 l1 f1 c1_0 c1_1 c1_2 c1_3 l3 f3 c3_0 c3_1 c3_2 c3_3; have l0 := B0.lt; have f0 := B0.frozen; have c0_0 := B0.cell_ 0 rfl; have c0_1 := B0.cell_ 1 rfl; have l1 := B1.lt; have f1 := B1.frozen; have c1_0 := B1.cell_ 0 rfl; have c1_1 := B1.cell_ 1 rfl; have c1_2 := B1.cell_ 2 rfl; have c1_3 := B1.cell_ 3 rfl; have l3 := B3.lt; have f3 := B3.frozen; have c3_0 := B3.cell_ 0 rfl; have c3_1 := B3.cell_ 1 rfl; have c3_2 := B3.cell_ 2 rfl; have c3_3 := B3.cell_ 3 rfl)
      have B1 := B1.set_ 0 (.int .i64 2); have B1 := B1.set_ 1 (.int .i64 d); have B1 := B1.set_ 2 (.slice V n cv); have B1 := B1.set_ 3 (.slice none 0 0); simp only [List.setIfInBounds_toArray, List.set_cons_zero, List.set_cons_succ] at B1; refine bodyPost_ret (results_cell_row Try.results80 _ _ _ _ _ (0, 0) _ rfl B1 Try.underlying28 rfl (by kernel_rfl)) rfl ⟨⟨V, cv, rfl, ?_, hF⟩, ?_⟩
      · have := (((((hr.more hzz).far (p := ⟨w.heap.size + 1, 0, none⟩) HA.out (.int .i64 2)).far (p := ⟨w.heap.size + 1, 1, none⟩) HA.out (.int .i64 d)).far (p := ⟨w.heap.size + 1, 2, none⟩) HA.out (.slice V n cv)).far (p := ⟨w.heap.size + 1, 3, none⟩) HA.out (.slice none 0 0))
        simpa using this
      · (repeat (first | (with_reducible exact Below.refl _ _) | (with_reducible assumption) | (with_reducible refine Below.drew ?_) | (with_reducible refine below_drewN ?_ _) | ((with_reducible refine below_alloc' ?_ ?_); (focus (first | (simp; done) | omega | (simp; omega)))) | ((with_reducible refine below_set' ?_ ?_); (focus (first | (simp; done) | omega | (simp; omega)))) | (with_reducible refine below_step ?_ (by assumption)) | (with_reducible refine below_step_since ?_ (by assumption)) | ((with_reducible refine below_since' (by assumption) ?_ ?_); (focus (first | (simp; done) | omega | (simp; omega)))) | ((with_reducible refine below_trans' (by assumption) ?_ ?_); (focus (first | (simp; done) | omega | (simp; omega))))))
end Go.Proofs.Ytciblaabghiefaa
