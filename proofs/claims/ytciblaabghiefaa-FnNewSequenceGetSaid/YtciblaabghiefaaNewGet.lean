/- FnNewSequenceGet. -/
import Derived.Test.YtciblaabghiefaaNewSeq
import Derived.Test.YtciblaabghiefaaSame
import Derived.Test.YtciblaabghiefaaRegionA
import Derived.Test.YtciblaabghiefaaOpenS
namespace Go.Proofs.Ytciblaabghiefaa.fnNewSequenceGet
open Go.RowKit
attribute [local go_sem] run_store_float
set_option maxRecDepth 100000

/-- A part of a slice. -/
theorem slice_mid (A : Option Addr) (n c lo hi : Nat) (h1 : lo ≤ hi) (h2 : hi ≤ c) (w : World) : (Instr.slice 25 (.slice A n c) (some (.int .i64 lo)) (some (.int .i64 hi)) none).run Try.prog w = .ok (.slice (if c = lo then A else A.map (·.add (lo * 1))) (hi - lo) (c - lo)) w := by
  rw [run_slice_lh (ht := Try.underlying25) (h0 := by omega) (h1 := by omega) (h2 := by omega)]
  have hs : (sizeOf (Try.prog.elem 25)).run Try.prog w = .ok 1 w := by kernel_rfl
  rw [hs]
  simp [Result.andThen, sliced]
theorem slice_two (A : Option Addr) (n c lo : Nat) (h2 : lo + 2 ≤ c) (w : World) : (Instr.slice 25 (.slice A n c) (some (.int .i64 lo)) (some (.int .i64 ((lo : Int) + 2))) none).run Try.prog w = .ok (.slice (if c = lo then A else A.map (·.add (lo * 1))) 2 (c - lo)) w := by
  have := slice_mid A n c lo (lo + 2) (by omega) h2 w
  rw [show lo + 2 - lo = 2 by omega] at this
  simpa using this
theorem reads_two {w : World} {B n c lo : Nat} {A : Option Addr} {xs : List Nat} (h : Reads w B 1 A n (xs.map fl)) (hl : xs.length = n) (hlo : lo + 2 ≤ n) (hc : n ≤ c) : Reads w B 1 (if c = lo then A else A.map (·.add (lo * 1))) 2 ([nth xs lo, nth xs (lo + 1)].map fl) := by
  have := h.cut (k := lo) (by omega) hc
  refine ⟨rfl, fun h0 => ?_⟩
  obtain ⟨ad, hA, hb, hcell⟩ := this.2 (by omega)
  refine ⟨ad, hA, hb, fun j u hu => hcell j u ?_⟩
  rw [Nat.mul_one, List.getElem?_drop]
  match j, hu with
  | 0, hu => rw [← hu]; exact nth_get (by omega)
  | 1, hu => rw [← hu]; exact nth_get (by omega)
  | j + 2, hu => simp at hu

section
open Go.ChangeShapes Go.WideShapes Go.ChangeAt
variable {H : Type} {enc : TypeId × Value → H} {w : World} {base : Nat} {spare : Nat → Bool} {held : Bool}
theorem open_floatsc {r : Reach} {b0 : Nat} {v : Value} {d : DataW H} {p : List MemPlace} (hv : Value.okWide Try.prog w r b0 25 v) (h : DataW.Trod enc Try.prog w base spare held 25 v d p) :
    ∃ (A : Option Addr) (c : Nat) (xs : List Nat), v = .slice A xs.length c ∧ Reads w w.heap.size 1 A xs.length (xs.map (Value.float .f64)) ∧ xs.length ≤ maxLen ∧ (∀ x ∈ xs, x < 18446744073709551616) ∧ xs.length ≤ c := by
  obtain ⟨a1, len, cap, rfl⟩ := okWide_slice Try.underlying25 hv
  obtain ⟨fuel, hf⟩ := h
  obtain ⟨A, len', cap', xs, hcs, hl, hlc, hcm, hR, hg⟩ := open_list (fun x : Nat => [Value.float .f64 x]) 1 (fun _ => rfl) (fun x => x < 18446744073709551616) Try.underlying25 (by kernel_rfl) (by omega) (fun n cs' y hy => by
    obtain ⟨b, hb, _, wb⟩ := trod_float Try.underlying34 hy
    exact ⟨b, hb, f64_lt wb⟩) hf
  simp [Value.cells] at hcs
  obtain ⟨rfl, rfl, rfl⟩ := hcs
  subst hl
  refine ⟨_, _, xs, rfl, ?_, by omega, hg, hlc⟩
  rwa [show xs.flatMap (fun x : Nat => [Value.float .f64 x]) = xs.map (Value.float .f64) from flat_single _ xs] at hR
end

set_option maxHeartbeats 1000000 in
theorem in_any (d : Int) (hd : d = 0 ∨ d = 1 ∨ d = 2 ∨ d = 3) (A : Option Addr) (c : Nat) (xs : List Nat) (j : Nat) (w : World) (h : Reads w w.heap.size 1 A xs.length (xs.map fl)) (hc : xs.length ≤ c) (hm : xs.length % wd d = 0) (hn : xs.length ≤ 2000) (hj : j < xs.length / wd d) :
    Calls Try.prog 12 #[.slice A xs.length c, .int .i64 d, .int .i64 j] w fun e w' => e = .returned (.bool true) ∧ Below w.heap.size w w' := by
  have hd4 : d % 4 = d := by omega
  have hkept : kept xs.length d = xs.length := by unfold kept; omega
  have h2 := wd_cases d hd
  have hjk : j * wd d + wd d ≤ xs.length := by
    have := Nat.mul_le_mul_right (wd d) (show j + 1 ≤ xs.length / wd d from hj)
    have h3 := Nat.div_mul_le_self xs.length (wd d)
    rw [Nat.add_mul] at this; omega
  have HW := fun W => Lib.hid (spWidth_any d hd W)
  have HN := fun (W : World) (hW : Below w.heap.size w W) => Lib.hid (implNewSeq_any d hd A c xs W ((h.below hW).more hW.size) hm (by omega))
  have HG := fun (A : Option Addr) (c : Nat) (W : World) (hr : Reads W W.heap.size 1 A xs.length (xs.map fl)) => Lib.hid (implGetXY_any d A c none 0 0 xs j W hr (by omega) (by rw [hd4, hkept]; exact hjk))
  rw [hd4] at HG
  have HSL := slice_two A xs.length c (j * wd d) (by omega)
  have HR2 := fun (W : World) (hW : Below w.heap.size w W) => Lib.hid ((((reads_two (lo := j * wd d) h rfl (by omega) hc).below hW).more hW.size))
  have HS := fun (g c' : Nat) (A' : Option Addr) (W : World) (h1 : Reads W W.heap.size 1 (some ⟨g, 0, none⟩) 2 ([nth xs (j * wd d), nth xs (j * wd d + 1)].map fl)) (h2 : Reads W W.heap.size 1 A' 2 ([nth xs (j * wd d), nth xs (j * wd d + 1)].map fl)) => Lib.hid (sameNums_any (some ⟨g, 0, none⟩) A' 2 c' [nth xs (j * wd d), nth xs (j * wd d + 1)] [nth xs (j * wd d), nth xs (j * wd d + 1)] W h1 h2 (by simp))
  have hmI : ((xs.length : Int) % (wd d : Int)) = 0 := by omega
  have hqI : ((xs.length : Int) / (wd d : Int)) = ((xs.length / wd d : Nat) : Int) := by simp
  have hij : ((wd d : Int) * (j : Int)) = ((j * wd d : Nat) : Int) := by simp [Int.mul_comm]
  clear h hm
  generalize (if c = j * wd d then A else A.map (·.add (j * wd d * 1))) = A2 at *
  generalize c - j * wd d = c2 at *
  generalize nth xs (j * wd d) = x at *
  generalize nth xs (j * wd d + 1) = y at *
  generalize xs.map fl = cs at *
  generalize xs.length = n at *
  generalize hi : j * wd d = i at *
  generalize wd d = k at *
  have hqn : n / k ≤ n := Nat.div_le_self n k
  generalize n / k = q at *
  have hk0 : ¬ k = 0 := by omega
  have hw0 : IntKind.i64.wrap (i : Int) = (i : Int) := IntWalk.i64_in _ (by omega)
  have hw1 : IntKind.i64.wrap ((i : Int) + 2) = (i : Int) + 2 := IntWalk.i64_in _ (by omega)
  have g1 : ¬ (2147483647 : Int) < (n : Int) := by omega
  have g2 : ¬ (2000 : Int) < (n : Int) := by omega
  have g6 : ¬ (j : Int) < 0 := by omega
  have g7 : IntKind.i64.wrap (q : Int) = (q : Int) := IntWalk.i64_in _ (by omega)
  have g3 : ¬ d < 0 := by omega
  have g4 : ¬ 3 < d := by omega
  have g5 : ¬ (q : Int) ≤ (j : Int) := by omega
  clear hd hd4 hkept hjk h2 hc hn hi hqn
  go_enter Try.func12, Try.ntmps12
  go_wp2_with (first
    | (go_at_call 47; (with_reducible refine Calls.mono ((HW _).out) ?_); rintro e w2 ⟨rfl, hb⟩; have HB : Below w.heap.size w w2 := (by (repeat (first | (with_reducible exact Below.refl _ _) | (with_reducible assumption) | (with_reducible refine Below.drew ?_) | (with_reducible refine below_drewN ?_ _) | ((with_reducible refine below_alloc' ?_ ?_); (focus (first | (simp; done) | omega | (simp; omega)))) | ((with_reducible refine below_set' ?_ ?_); (focus (first | (simp; done) | omega | (simp; omega)))) | (with_reducible refine below_step ?_ (by assumption)) | (with_reducible refine below_step_since ?_ (by assumption)) | ((with_reducible refine below_since' (by assumption) ?_ ?_); (focus (first | (simp; done) | omega | (simp; omega)))) | ((with_reducible refine below_trans' (by assumption) ?_ ?_); (focus (first | (simp; done) | omega | (simp; omega))))))); clear hb)
    | (go_at_call 48; (with_reducible refine Calls.mono (HN _ (by (repeat (first | (with_reducible exact Below.refl _ _) | (with_reducible assumption) | (with_reducible refine Below.drew ?_) | (with_reducible refine below_drewN ?_ _) | ((with_reducible refine below_alloc' ?_ ?_); (focus (first | (simp; done) | omega | (simp; omega)))) | ((with_reducible refine below_set' ?_ ?_); (focus (first | (simp; done) | omega | (simp; omega)))) | (with_reducible refine below_step ?_ (by assumption)) | (with_reducible refine below_step_since ?_ (by assumption)) | ((with_reducible refine below_since' (by assumption) ?_ ?_); (focus (first | (simp; done) | omega | (simp; omega)))) | ((with_reducible refine below_trans' (by assumption) ?_ ?_); (focus (first | (simp; done) | omega | (simp; omega)))))))).out ?_); rintro e w3 ⟨⟨A', c', rfl, hr⟩, hb⟩; replace HB : Below w.heap.size w w3 := below_step HB hb; have hz3 := HB.size; clear hb)
    | (go_at_call 49; (with_reducible refine Calls.mono (HG A' c' _ (by exact (hr.below (below_alloc' (Nat.le_refl _) (Below.refl _ _))).more (by simp))).out ?_); rintro e w4 ⟨rfl, hb⟩; replace HB : Below w.heap.size w w4 := (by (repeat (first | (with_reducible exact Below.refl _ _) | (with_reducible assumption) | (with_reducible refine Below.drew ?_) | (with_reducible refine below_drewN ?_ _) | ((with_reducible refine below_alloc' ?_ ?_); (focus (first | (simp; done) | omega | (simp; omega)))) | ((with_reducible refine below_set' ?_ ?_); (focus (first | (simp; done) | omega | (simp; omega)))) | (with_reducible refine below_step ?_ (by assumption)) | (with_reducible refine below_step_since ?_ (by assumption)) | ((with_reducible refine below_since' (by assumption) ?_ ?_); (focus (first | (simp; done) | omega | (simp; omega)))) | ((with_reducible refine below_trans' (by assumption) ?_ ?_); (focus (first | (simp; done) | omega | (simp; omega))))))); have hz4 := HB.size; clear hb))
  (refine region_start (by kernel_rfl) ?_)
  have hz5 : w.heap.size ≤ w4.heap.size := HB.size
  generalize hW : World.drew (w4.alloc (Obj.cells #[.float .f64 x, .float .f64 y] 36)) = W
  have BX : Blk W w4.heap.size 36 #[.float .f64 x, .float .f64 y] := by rw [← hW]; exact (Blk.new' rfl).drew
  replace HB : Below w.heap.size w W := by rw [← hW]; (repeat (first | (with_reducible exact Below.refl _ _) | (with_reducible assumption) | (with_reducible refine Below.drew ?_) | (with_reducible refine below_drewN ?_ _) | ((with_reducible refine below_alloc' ?_ ?_); (focus (first | (simp; done) | omega | (simp; omega)))) | ((with_reducible refine below_set' ?_ ?_); (focus (first | (simp; done) | omega | (simp; omega)))) | (with_reducible refine below_step ?_ (by assumption)) | (with_reducible refine below_step_since ?_ (by assumption)) | ((with_reducible refine below_since' (by assumption) ?_ ?_); (focus (first | (simp; done) | omega | (simp; omega)))) | ((with_reducible refine below_trans' (by assumption) ?_ ?_); (focus (first | (simp; done) | omega | (simp; omega))))))
  generalize w4.heap.size = g at *
  clear hW hr hz3 hz4 hz5
  have lX := BX.lt; have fX := BX.frozen; have cX_0 := BX.cell_ 0 rfl; have cX_1 := BX.cell_ 1 rfl
  have HL2 : ∀ W : World, Hid (Reads (W.alloc (.cells #[.float .f64 x, .float .f64 y] 34)) (W.alloc (.cells #[.float .f64 x, .float .f64 y] 34)).heap.size 1 (some ⟨W.heap.size, 0, none⟩) 2 ([x, y].map fl)) := fun W => reads_new W [fl x, fl y] _ 1 2 rfl (by omega)
  (refine from_turn (W) (W.alloc (.cells #[.float .f64 x, .float .f64 y] 34)) 0 16 6 (by kernel_rfl) (by kernel_rfl) ?_; simp only [List.take_succ_cons, List.take_zero, List.drop_zero]; (iterate 6 (refine turn_step (by kernel_rfl) ⟨?_, ?_, ?_, ?_, ?_⟩; rotate_left 2; (intro K hK; go_simp; (first | done | exact hK)); (intro K hK; go_simp; (first | done | exact hK)); rotate_left 1; rfl)); (refine turn_turn ⟨?_, ?_, ?_, ?_⟩; rotate_left 2; (intro K hK; go_simp; (first | done | exact hK)); rotate_left 1; rfl); (iterate 9 (refine turn_step (by kernel_rfl) ⟨?_, ?_, ?_, ?_, ?_⟩; rotate_left 2; (intro K hK; go_simp; (first | done | exact hK)); (intro K hK; go_simp; (first | done | exact hK)); rotate_left 1; rfl)); refine wpStayF_nil ?_)
  (refine from_one rfl (by kernel_rfl) fun K hK => ?_; go_simp; (first | with_reducible refine hK _ _ ?_ | (go_at_call 50; (with_reducible refine Calls.mono (HS _ _ _ _ (by exact (HL2 W).out) (by exact (HR2 _ (by have := HB.size; (repeat (first | (with_reducible exact Below.refl _ _) | (with_reducible assumption) | (with_reducible refine Below.drew ?_) | (with_reducible refine below_drewN ?_ _) | ((with_reducible refine below_alloc' ?_ ?_); (focus (first | (simp; done) | omega | (simp; omega)))) | ((with_reducible refine below_set' ?_ ?_); (focus (first | (simp; done) | omega | (simp; omega)))) | (with_reducible refine below_step ?_ (by assumption)) | (with_reducible refine below_step_since ?_ (by assumption)) | ((with_reducible refine below_since' (by assumption) ?_ ?_); (focus (first | (simp; done) | omega | (simp; omega)))) | ((with_reducible refine below_trans' (by assumption) ?_ ?_); (focus (first | (simp; done) | omega | (simp; omega)))))))).out)).out ?_); rintro e w5 ⟨rfl, hb⟩; (try go_simp); refine hK _ _ ?_)); clear hK K)
  (refine from_list (by kernel_rfl) ?_; simp only [List.drop_succ_cons, List.drop_zero])
  go_wp2
  go_ret
  exact ⟨by simp, by have := HB.size; (repeat (first | (with_reducible exact Below.refl _ _) | (with_reducible assumption) | (with_reducible refine Below.drew ?_) | (with_reducible refine below_drewN ?_ _) | ((with_reducible refine below_alloc' ?_ ?_); (focus (first | (simp; done) | omega | (simp; omega)))) | ((with_reducible refine below_set' ?_ ?_); (focus (first | (simp; done) | omega | (simp; omega)))) | (with_reducible refine below_step ?_ (by assumption)) | (with_reducible refine below_step_since ?_ (by assumption)) | ((with_reducible refine below_since' (by assumption) ?_ ?_); (focus (first | (simp; done) | omega | (simp; omega)))) | ((with_reducible refine below_trans' (by assumption) ?_ ?_); (focus (first | (simp; done) | omega | (simp; omega))))))⟩

set_option maxHeartbeats 1000000 in
/-- No place of that number. -/
theorem off_any (d : Int) (hd : d = 0 ∨ d = 1 ∨ d = 2 ∨ d = 3) (A : Option Addr) (c : Nat) (xs : List Nat) (j : Int) (w : World) (h : Reads w w.heap.size 1 A xs.length (xs.map fl)) (hm : xs.length % wd d = 0) (hn : xs.length ≤ 2000) (hj : j < 0 ∨ (xs.length / wd d : Nat) ≤ j) :
    Calls Try.prog 12 #[.slice A xs.length c, .int .i64 d, .int .i64 j] w fun e w' => e = .returned (.bool true) ∧ Below w.heap.size w w' := by
  have h2 := wd_cases d hd
  have HW := fun W => Lib.hid (spWidth_any d hd W)
  have HN := fun (W : World) (hW : Below w.heap.size w W) => Lib.hid (implNewSeq_any d hd A c xs W ((h.below hW).more hW.size) hm (by omega))
  have hmI : ((xs.length : Int) % (wd d : Int)) = 0 := by omega
  have hqI : ((xs.length : Int) / (wd d : Int)) = ((xs.length / wd d : Nat) : Int) := by simp
  clear h hm
  generalize xs.map fl = cs at *
  generalize xs.length = n at *
  generalize wd d = k at *
  have hqn : n / k ≤ n := Nat.div_le_self n k
  generalize n / k = q at *
  have hk0 : ¬ k = 0 := by omega
  have g1 : ¬ (2147483647 : Int) < (n : Int) := by omega
  have g2 : ¬ (2000 : Int) < (n : Int) := by omega
  have g7 : IntKind.i64.wrap (q : Int) = (q : Int) := IntWalk.i64_in _ (by omega)
  have g3 : ¬ d < 0 := by omega
  have g4 : ¬ 3 < d := by omega
  clear hd h2 hn hqn
  by_cases g6 : j < 0
  · clear hj
    go_enter Try.func12, Try.ntmps12
    go_wp2_with (first
      | (go_at_call 47; (with_reducible refine Calls.mono ((HW _).out) ?_); rintro e w2 ⟨rfl, hb⟩; have HB : Below w.heap.size w w2 := (by (repeat (first | (with_reducible exact Below.refl _ _) | (with_reducible assumption) | (with_reducible refine Below.drew ?_) | (with_reducible refine below_drewN ?_ _) | ((with_reducible refine below_alloc' ?_ ?_); (focus (first | (simp; done) | omega | (simp; omega)))) | ((with_reducible refine below_set' ?_ ?_); (focus (first | (simp; done) | omega | (simp; omega)))) | (with_reducible refine below_step ?_ (by assumption)) | (with_reducible refine below_step_since ?_ (by assumption)) | ((with_reducible refine below_since' (by assumption) ?_ ?_); (focus (first | (simp; done) | omega | (simp; omega)))) | ((with_reducible refine below_trans' (by assumption) ?_ ?_); (focus (first | (simp; done) | omega | (simp; omega))))))); clear hb)
      | (go_at_call 48; (with_reducible refine Calls.mono (HN _ (by (repeat (first | (with_reducible exact Below.refl _ _) | (with_reducible assumption) | (with_reducible refine Below.drew ?_) | (with_reducible refine below_drewN ?_ _) | ((with_reducible refine below_alloc' ?_ ?_); (focus (first | (simp; done) | omega | (simp; omega)))) | ((with_reducible refine below_set' ?_ ?_); (focus (first | (simp; done) | omega | (simp; omega)))) | (with_reducible refine below_step ?_ (by assumption)) | (with_reducible refine below_step_since ?_ (by assumption)) | ((with_reducible refine below_since' (by assumption) ?_ ?_); (focus (first | (simp; done) | omega | (simp; omega)))) | ((with_reducible refine below_trans' (by assumption) ?_ ?_); (focus (first | (simp; done) | omega | (simp; omega)))))))).out ?_); rintro e w3 ⟨⟨A', c', rfl, hr⟩, hb⟩; replace HB : Below w.heap.size w w3 := below_step HB hb; have hz3 := HB.size; clear hb))
    go_ret
    exact ⟨rfl, (by (repeat (first | (with_reducible exact Below.refl _ _) | (with_reducible assumption) | (with_reducible refine Below.drew ?_) | (with_reducible refine below_drewN ?_ _) | ((with_reducible refine below_alloc' ?_ ?_); (focus (first | (simp; done) | omega | (simp; omega)))) | ((with_reducible refine below_set' ?_ ?_); (focus (first | (simp; done) | omega | (simp; omega)))) | (with_reducible refine below_step ?_ (by assumption)) | (with_reducible refine below_step_since ?_ (by assumption)) | ((with_reducible refine below_since' (by assumption) ?_ ?_); (focus (first | (simp; done) | omega | (simp; omega)))) | ((with_reducible refine below_trans' (by assumption) ?_ ?_); (focus (first | (simp; done) | omega | (simp; omega)))))))⟩
  · have g8 : (q : Int) ≤ j := by omega
    clear hj
    go_enter Try.func12, Try.ntmps12
    go_wp2_with (first
      | (go_at_call 47; (with_reducible refine Calls.mono ((HW _).out) ?_); rintro e w2 ⟨rfl, hb⟩; have HB : Below w.heap.size w w2 := (by (repeat (first | (with_reducible exact Below.refl _ _) | (with_reducible assumption) | (with_reducible refine Below.drew ?_) | (with_reducible refine below_drewN ?_ _) | ((with_reducible refine below_alloc' ?_ ?_); (focus (first | (simp; done) | omega | (simp; omega)))) | ((with_reducible refine below_set' ?_ ?_); (focus (first | (simp; done) | omega | (simp; omega)))) | (with_reducible refine below_step ?_ (by assumption)) | (with_reducible refine below_step_since ?_ (by assumption)) | ((with_reducible refine below_since' (by assumption) ?_ ?_); (focus (first | (simp; done) | omega | (simp; omega)))) | ((with_reducible refine below_trans' (by assumption) ?_ ?_); (focus (first | (simp; done) | omega | (simp; omega))))))); clear hb)
      | (go_at_call 48; (with_reducible refine Calls.mono (HN _ (by (repeat (first | (with_reducible exact Below.refl _ _) | (with_reducible assumption) | (with_reducible refine Below.drew ?_) | (with_reducible refine below_drewN ?_ _) | ((with_reducible refine below_alloc' ?_ ?_); (focus (first | (simp; done) | omega | (simp; omega)))) | ((with_reducible refine below_set' ?_ ?_); (focus (first | (simp; done) | omega | (simp; omega)))) | (with_reducible refine below_step ?_ (by assumption)) | (with_reducible refine below_step_since ?_ (by assumption)) | ((with_reducible refine below_since' (by assumption) ?_ ?_); (focus (first | (simp; done) | omega | (simp; omega)))) | ((with_reducible refine below_trans' (by assumption) ?_ ?_); (focus (first | (simp; done) | omega | (simp; omega)))))))).out ?_); rintro e w3 ⟨⟨A', c', rfl, hr⟩, hb⟩; replace HB : Below w.heap.size w w3 := below_step HB hb; have hz3 := HB.size; clear hb))
    go_ret
    exact ⟨rfl, (by (repeat (first | (with_reducible exact Below.refl _ _) | (with_reducible assumption) | (with_reducible refine Below.drew ?_) | (with_reducible refine below_drewN ?_ _) | ((with_reducible refine below_alloc' ?_ ?_); (focus (first | (simp; done) | omega | (simp; omega)))) | ((with_reducible refine below_set' ?_ ?_); (focus (first | (simp; done) | omega | (simp; omega)))) | (with_reducible refine below_step ?_ (by assumption)) | (with_reducible refine below_step_since ?_ (by assumption)) | ((with_reducible refine below_since' (by assumption) ?_ ?_); (focus (first | (simp; done) | omega | (simp; omega)))) | ((with_reducible refine below_trans' (by assumption) ?_ ?_); (focus (first | (simp; done) | omega | (simp; omega)))))))⟩

theorem law_any (A : Option Addr) (c : Nat) (xs : List Nat) (d i : Int) (w : World) (h : Reads w w.heap.size 1 A xs.length (xs.map fl)) (hc : xs.length ≤ c) :
    Calls Try.prog 12 #[.slice A xs.length c, .int .i64 d, .int .i64 i] w fun e w' => e = .returned (.bool true) ∧ Below w.heap.size w w' := by
  by_cases hn : xs.length ≤ 2000
  · by_cases hd : d = 0 ∨ d = 1 ∨ d = 2 ∨ d = 3
    · by_cases hm : xs.length % wd d = 0
      · by_cases hi : i < 0 ∨ (xs.length / wd d : Nat) ≤ i
        · exact off_any d hd A c xs i w h hm hn hi
        · obtain ⟨j, rfl⟩ : ∃ j : Nat, i = j := ⟨i.toNat, by omega⟩
          exact in_any d hd A c xs j w h hc hm hn (by omega)
      · have HW := fun W => Lib.hid (spWidth_any d hd W)
        have h2 := wd_cases d hd
        have hmI : ((xs.length : Int) % (wd d : Int) != 0) = true := by simp; omega
        clear h hm hc
        generalize xs.length = n at *
        generalize wd d = k at *
        have hk0 : ¬ k = 0 := by omega
        have hwr : IntKind.i64.wrap ((n : Int) % (k : Int)) = (n : Int) % (k : Int) := by
          have h0 : (0 : Int) ≤ (n : Int) % (k : Int) := Int.emod_nonneg _ (by omega)
          have h1 : (n : Int) % (k : Int) < k := Int.emod_lt_of_pos _ (by omega)
          exact IntWalk.i64_in _ (by omega)
        have g1 : ¬ (2147483647 : Int) < (n : Int) := by omega
        have g2 : ¬ (2000 : Int) < (n : Int) := by omega
        have g3 : ¬ d < 0 := by omega
        have g4 : ¬ 3 < d := by omega
        clear hd h2 hn
        go_enter Try.func12, Try.ntmps12
        go_wp2_with (go_at_call 47; (with_reducible refine Calls.mono ((HW _).out) ?_); rintro e w2 ⟨rfl, hb⟩)
        go_ret
        exact ⟨rfl, (by (repeat (first | (with_reducible exact Below.refl _ _) | (with_reducible assumption) | (with_reducible refine Below.drew ?_) | (with_reducible refine below_drewN ?_ _) | ((with_reducible refine below_alloc' ?_ ?_); (focus (first | (simp; done) | omega | (simp; omega)))) | ((with_reducible refine below_set' ?_ ?_); (focus (first | (simp; done) | omega | (simp; omega)))) | (with_reducible refine below_step ?_ (by assumption)) | (with_reducible refine below_step_since ?_ (by assumption)) | ((with_reducible refine below_since' (by assumption) ?_ ?_); (focus (first | (simp; done) | omega | (simp; omega)))) | ((with_reducible refine below_trans' (by assumption) ?_ ?_); (focus (first | (simp; done) | omega | (simp; omega)))))))⟩
    · have g1 : ¬ (2147483647 : Int) < (xs.length : Int) := by omega
      have g2 : ¬ (2000 : Int) < (xs.length : Int) := by omega
      clear h hc
      generalize xs.length = n at *
      by_cases g3 : d < 0
      · clear hd
        go_enter Try.func12, Try.ntmps12
        go_wp2
        go_ret
        exact ⟨rfl, (by (repeat (first | (with_reducible exact Below.refl _ _) | (with_reducible assumption) | (with_reducible refine Below.drew ?_) | (with_reducible refine below_drewN ?_ _) | ((with_reducible refine below_alloc' ?_ ?_); (focus (first | (simp; done) | omega | (simp; omega)))) | ((with_reducible refine below_set' ?_ ?_); (focus (first | (simp; done) | omega | (simp; omega)))) | (with_reducible refine below_step ?_ (by assumption)) | (with_reducible refine below_step_since ?_ (by assumption)) | ((with_reducible refine below_since' (by assumption) ?_ ?_); (focus (first | (simp; done) | omega | (simp; omega)))) | ((with_reducible refine below_trans' (by assumption) ?_ ?_); (focus (first | (simp; done) | omega | (simp; omega)))))))⟩
      · have g4 : 3 < d := by omega
        clear hd
        go_enter Try.func12, Try.ntmps12
        go_wp2
        go_ret
        exact ⟨rfl, (by (repeat (first | (with_reducible exact Below.refl _ _) | (with_reducible assumption) | (with_reducible refine Below.drew ?_) | (with_reducible refine below_drewN ?_ _) | ((with_reducible refine below_alloc' ?_ ?_); (focus (first | (simp; done) | omega | (simp; omega)))) | ((with_reducible refine below_set' ?_ ?_); (focus (first | (simp; done) | omega | (simp; omega)))) | (with_reducible refine below_step ?_ (by assumption)) | (with_reducible refine below_step_since ?_ (by assumption)) | ((with_reducible refine below_since' (by assumption) ?_ ?_); (focus (first | (simp; done) | omega | (simp; omega)))) | ((with_reducible refine below_trans' (by assumption) ?_ ?_); (focus (first | (simp; done) | omega | (simp; omega)))))))⟩
  · clear h hc
    generalize xs.length = n at *
    have g2 : (2000 : Int) < (n : Int) := by omega
    by_cases g1 : (2147483647 : Int) < (n : Int)
    · go_enter Try.func12, Try.ntmps12
      go_wp2
      go_ret
      exact ⟨rfl, (by (repeat (first | (with_reducible exact Below.refl _ _) | (with_reducible assumption) | (with_reducible refine Below.drew ?_) | (with_reducible refine below_drewN ?_ _) | ((with_reducible refine below_alloc' ?_ ?_); (focus (first | (simp; done) | omega | (simp; omega)))) | ((with_reducible refine below_set' ?_ ?_); (focus (first | (simp; done) | omega | (simp; omega)))) | (with_reducible refine below_step ?_ (by assumption)) | (with_reducible refine below_step_since ?_ (by assumption)) | ((with_reducible refine below_since' (by assumption) ?_ ?_); (focus (first | (simp; done) | omega | (simp; omega)))) | ((with_reducible refine below_trans' (by assumption) ?_ ?_); (focus (first | (simp; done) | omega | (simp; omega)))))))⟩
    · go_enter Try.func12, Try.ntmps12
      go_wp2
      go_ret
      exact ⟨rfl, (by (repeat (first | (with_reducible exact Below.refl _ _) | (with_reducible assumption) | (with_reducible refine Below.drew ?_) | (with_reducible refine below_drewN ?_ _) | ((with_reducible refine below_alloc' ?_ ?_); (focus (first | (simp; done) | omega | (simp; omega)))) | ((with_reducible refine below_set' ?_ ?_); (focus (first | (simp; done) | omega | (simp; omega)))) | (with_reducible refine below_step ?_ (by assumption)) | (with_reducible refine below_step_since ?_ (by assumption)) | ((with_reducible refine below_since' (by assumption) ?_ ?_); (focus (first | (simp; done) | omega | (simp; omega)))) | ((with_reducible refine below_trans' (by assumption) ?_ ?_); (focus (first | (simp; done) | omega | (simp; omega)))))))⟩

open Go.ChangeShapes Go.WideShapes Go.ChangeAt
set_option maxRecDepth 100000 in
theorem lifted (os : Os) (started : os.Started) (H : Type) (enc : TypeId × Value → H) :
    ReturnsInHanded {} Try.checked os 12 .any (Rows.fnNewSequenceGetSpec.pre6 enc Try.prog Try.f12 Rows.fnNewSequenceGetRow.domain false) (Rows.fnNewSequenceGetSpec.post enc Try.prog Try.f12 false true false false) := by
  refine returnsInHanded_of_change (C := Try.checked) own started (by kernel_rfl) Try.func12
    (ChangeSpec.witness6 (enc := enc) (C := Try.checked) false ⟨#[], #[.slice none 0 0, .int .i64 0, .int .i64 0], []⟩ 8 (by kernel_rfl) (by kernel_rfl) (by kernel_rfl) (by kernel_rfl)) ?_
  intro W base args ds gs before hval0 hW hcnd _
  have hval : ∀ (j : Nat) t v, Try.f12.params[j]? = some t → args[j]? = some v → Value.okWide Try.prog W .any base t v := hval0
  have hW' := hW
  obtain ⟨p, q, hA0, hV, rfl, hfz, hnd⟩ := hW
  have hA : DataW.TrodAll enc Try.prog W 0 (fun _ => true) true Try.f12.params.toList args.toList ds p := hA0
  rw [Try.params12] at hA hval
  obtain ⟨v0, vs0, d0, ds0, p0, q0, hargs, rfl, rfl, h0, r0⟩ := trodAll_cons hA
  obtain ⟨v1, vs1, d1, ds1, p1, q1, rfl, rfl, rfl, h1, r1⟩ := trodAll_cons r0
  obtain ⟨v2, vs2, d2, ds2, p2, q2, rfl, rfl, rfl, h2, r2⟩ := trodAll_cons r1
  obtain ⟨rfl, rfl, rfl⟩ := trodAll_nil r2
  obtain rfl : args = #[v0, v1, v2] := by cases args; simp_all
  obtain ⟨rfl, rfl⟩ := trodVars_none hV
  have k0 := h0
  have lt0 : ∀ x ∈ p0, x.block < W.heap.size := by obtain ⟨m, hm⟩ := k0; exact DataW.trod_lt m _ _ _ hm
  have k1 := h1
  have lt1 : ∀ x ∈ p1, x.block < W.heap.size := by obtain ⟨m, hm⟩ := k1; exact DataW.trod_lt m _ _ _ hm
  have k2 := h2
  have lt2 : ∀ x ∈ p2, x.block < W.heap.size := by obtain ⟨m, hm⟩ := k2; exact DataW.trod_lt m _ _ _ hm
  obtain ⟨A0, c0, xs0, rfl, R0, ml0, wf0, hc0⟩ := open_floatsc (hval 0 25 v0 rfl rfl) h0
  obtain ⟨a1, rfl, rfl, rfl, u1⟩ := open_int Try.underlying3 (hval 1 3 v1 rfl rfl) h1
  obtain ⟨a2, rfl, rfl, rfl, u2⟩ := open_int Try.underlying3 (hval 2 3 v2 rfl rfl) h2
  clear hA0 hval0
  refine (law_any A0 c0 xs0 a1 a2 W R0 hc0).mono fun e W' ⟨he, bel⟩ => ?_
  subst he
  exact ⟨_, rfl, _, _, _, [], _, [], hW', trodAll_mk1 (shut_bool Try.underlying4 _), (trodAll_cons_mk (Below.trod laidOut (by kernel_rfl) (of_decide_eq_true (by kernel_rfl)) k0 bel lt0) (trodAll_cons_mk (Below.trod laidOut (by kernel_rfl) (of_decide_eq_true (by kernel_rfl)) k1 bel lt1) (trodAll_cons_mk (Below.trod laidOut (by kernel_rfl) (of_decide_eq_true (by kernel_rfl)) k2 bel lt2) trodAll_mk0))), rfl, bel.frame _, fun h => by cases h⟩

theorem over : Rows.fnNewSequenceGetRow.holds Try.pinned (OpenSpec.ofChange Rows.fnNewSequenceGetSpec) :=
  OpenClaim.holds_of_wide 12 Try.f12 rfl rfl rfl rfl rfl rfl rfl ⟨rfl, rfl, rfl, rfl, rfl⟩ rfl rfl rfl rfl rfl (by kernel_rfl) Try.func12 (by kernel_rfl)
    (of_decide_eq_true (by kernel_rfl)) (by unfold Func.isWrapper; first | (rw [if_pos (by decide +kernel)]; kernel_rfl) | (rw [if_neg (by decide +kernel)]; exact ⟨rfl, rfl⟩))
    (fun os started H enc _ => lifted os started H enc)

theorem proved : Rows.FnNewSequenceGetSaid := over
#print axioms proved
end Go.Proofs.Ytciblaabghiefaa.fnNewSequenceGet
