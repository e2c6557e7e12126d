/- spec.New of a line string or a point: a whole number of places, the type's last two bits. -/
import Derived.Test.YtciblaabghiefaaWidth
import Derived.Test.YtciblaabghiefaaTree
namespace Go.Proofs.Ytciblaabghiefaa
open Go.RowKit
attribute [local go_sem] run_store_float
set_option maxRecDepth 100000

theorem kept_mul (n : Nat) (d : Int) : kept n d = n / wd d * wd d := by unfold kept; rw [Nat.div_mul_self_eq_mod_sub_self]

/-- The first m elements of a slice. -/
theorem slice_to (A : Option Addr) (n c m : Nat) (hm : m ≤ c) (w : World) : (Instr.slice 25 (.slice A n c) none (some (.int .i64 m)) none).run Try.prog w = .ok (.slice A m c) w := by
  rw [run_slice_h (ht := Try.underlying25) (h0 := by omega) (h2 := by omega)]
  have hs : (sizeOf (Try.prog.elem 25)).run Try.prog w = .ok 1 w := by kernel_rfl
  rw [hs]
  have ha : (fun x : Addr => x.add 0) = id := by funext x; rfl
  simp [Result.andThen, sliced, ha]

theorem reads_take {w : World} {B m : Nat} {A : Option Addr} {xs : List Nat} (h : Reads w B 1 A xs.length (xs.map fl)) (hm : m ≤ xs.length) : Reads w B 1 A m ((xs.take m).map fl) := by
  refine ⟨by simp; omega, fun h0 => ?_⟩
  obtain ⟨ad, hA, hb, hc⟩ := h.2 (by omega)
  refine ⟨ad, hA, hb, fun j u hu => hc j u ?_⟩
  rw [List.getElem?_map] at hu ⊢
  rw [List.getElem?_take] at hu
  split at hu
  · exact hu
  · simp at hu

theorem f64_info : (Try.prog.info? 34).map (fun i => (i.zero, i.size, i.bytes)) = some (some (.float .f64 0), 1, 8) := by kernel_rfl
theorem Reads.far {w : World} {B size n : Nat} {A : Option Addr} {xs : List Value} (h : Reads w B size A n xs) {p : Addr} (hA : ∀ ad, A = some ad → ad.block ≠ p.block) (u : Value) : Reads (w.setCell p u) B size A n xs :=
  ⟨h.1, fun hn => by
    obtain ⟨ad, e, hb, hc⟩ := h.2 hn
    exact ⟨ad, e, hb, fun j u hu => (World.cell?_setCell_other w p _ _ (fun e' => by subst e'; rw [block_of_add] at hA; exact hA _ e rfl)).trans (hc j u hu)⟩⟩
/-- A row of the call's own is a slice that reads so. -/
theorem own_form {w : World} {base : Nat} {e : TypeId} {size n : Nat} {v : Value} {xs : List Value} (h : w.ownsRow base e size v n xs) : ∃ A c, v = .slice A n c ∧ Reads w w.heap.size size A n xs := by
  rcases h.2 with ⟨rfl, rfl⟩ | ⟨g, cap, cur, rfl, _⟩
  · exact ⟨none, 0, rfl, Reads.of_own h⟩
  · exact ⟨_, _, rfl, Reads.of_own h⟩

set_option maxHeartbeats 1000000 in
theorem newLine_any (d : Int) (A : Option Addr) (c : Nat) (B : Option Addr) (m e : Nat) (xs : List Nat) (w : World) (h : Reads w w.heap.size 1 A xs.length (xs.map fl)) (hnc : xs.length ≤ c) (hn : xs.length ≤ 2147483647) :
    Calls Try.prog 57 #[.agg #[.int .i64 2, .int .i64 d, .slice A xs.length c, .slice B m e]] w fun en w' =>
      (∃ A' c', en = .returned (.agg #[.int .i64 2, .int .i64 (d % 4), .slice A' (kept xs.length (d % 4)) c', .slice none 0 0]) ∧
        Reads w' w'.heap.size 1 A' (kept xs.length (d % 4)) ((xs.take (kept xs.length (d % 4))).map fl)) ∧ Below w.heap.size w w' := by
  have HL := fun W => Lib.hid (leaf_any 2 W)
  have HW := fun W => Lib.hid (spWidth_any (d % 4) (d4 d) W)
  have hb := i64_and3 d
  have hk := kept_mul xs.length (d % 4)
  have hkl := kept_le xs.length (d % 4)
  have h2 := wd_cases _ (d4 d)
  have hd4 := d4 d
  have hcs : ((xs.take (kept xs.length (d % 4))).map fl).length = kept xs.length (d % 4) * 1 := by simp; omega
  have hsl := slice_to A xs.length c (kept xs.length (d % 4)) (by omega)
  have hR := reads_take h hkl
  have h1 : ∀ v ∈ (xs.take (kept xs.length (d % 4))).map fl, v.oneCell' = true := by
    intro v hv
    obtain ⟨x, _, rfl⟩ := List.mem_map.1 hv
    rfl
  clear h
  generalize (xs.take (kept xs.length (d % 4))).map fl = cs at *
  generalize hmm : kept xs.length (d % 4) = mm at *
  generalize xs.length = n at *
  generalize d % 4 = dd at *
  generalize wd dd = k at *
  have hk0 : ¬ k = 0 := by omega
  have hnk : ((n : Int) / (k : Int)) = ((n / k : Nat) : Int) := by simp
  have hw0 : IntKind.i64.wrap ((n / k : Nat) : Int) = ((n / k : Nat) : Int) := IntWalk.i64_in _ (by have := Nat.div_le_self n k; generalize n / k = q at *; omega)
  have hqk : (((n / k : Nat) : Int) * (k : Int)) = (mm : Int) := by rw [hk]; simp
  have hw1 : IntKind.i64.wrap (mm : Int) = (mm : Int) := IntWalk.i64_in _ (by omega)
  generalize n / k = q at *
  clear hmm hd4 hk
  go_enter Try.func57, Try.ntmps57
  go_wp2_with (go_at_call 93; (with_reducible refine Calls.mono ((HL _).out) ?_); rintro e w2 ⟨rfl, hb⟩; have HB : Below w.heap.size w w2 := (by (repeat (first | (with_reducible exact Below.refl _ _) | (with_reducible assumption) | (with_reducible refine Below.drew ?_) | (with_reducible refine below_drewN ?_ _) | ((with_reducible refine below_alloc' ?_ ?_); (focus (first | (simp; done) | omega | (simp; omega)))) | ((with_reducible refine below_set' ?_ ?_); (focus (first | (simp; done) | omega | (simp; omega)))) | (with_reducible refine below_step ?_ (by assumption)) | (with_reducible refine below_step_since ?_ (by assumption)) | ((with_reducible refine below_since' (by assumption) ?_ ?_); (focus (first | (simp; done) | omega | (simp; omega)))) | ((with_reducible refine below_trans' (by assumption) ?_ ?_); (focus (first | (simp; done) | omega | (simp; omega))))))); have B0 : Blk w2 w.heap.size 28 #[.int .i64 2, .int .i64 d, .slice A n c, .slice B m e] := (((Blk.new w _ _).alloc _).alloc _).below hb (by simp; omega); have B1 : Blk w2 (w.heap.size + 1) 28 #[.int .i64 0, .int .i64 0, .slice none 0 0, .slice none 0 0] := ((Blk.new' (by simp)).alloc _).below hb (by simp); have B2 : Blk w2 (w.heap.size + 1 + 1) 28 #[.int .i64 2, .int .i64 dd, .slice none 0 0, .slice none 0 0] := (Blk.new' (by simp)).below hb (by simp); clear hb)
  (refine region_start (by kernel_rfl) ?_)
  generalize hW : World.drew _ = W; replace HB : Below w.heap.size w W := (by rw [← hW]; exact HB.drew); replace B0 := B0.drew; rw [hW] at B0; replace B1 := B1.drew; rw [hW] at B1; replace B2 := B2.drew; rw [hW] at B2; clear hW
  have l0 := B0.lt; have f0 := B0.frozen; have c0_0 := B0.cell_ 0 rfl; have c0_1 := B0.cell_ 1 rfl; have c0_2 := B0.cell_ 2 rfl; have c0_3 := B0.cell_ 3 rfl; have l2 := B2.lt; have f2 := B2.frozen; have c2_0 := B2.cell_ 0 rfl; have c2_1 := B2.cell_ 1 rfl; have c2_2 := B2.cell_ 2 rfl; have c2_3 := B2.cell_ 3 rfl
  (refine from_stretch (Since _) 0 8 (by kernel_rfl) (Since.refl _) ?_; simp only [List.take_succ_cons, List.take_zero, List.drop_zero]; (iterate 8 (refine wpStay_step (Since.ne _) ⟨?_, ?_, ?_, ?_⟩; rotate_left 2; (intro w1 hS K hK; have hc := Since.cell hS; have hf := Since.frz hS; have hz := Since.size hS; go_simp; (first | exact hK _ hS | (go_at_call 47; (with_reducible refine Calls.mono ((HW _).out) ?_); rintro e w2 ⟨rfl, hb⟩; (try go_simp); exact hK _ (hS.then hb)))); rotate_left 1; rfl)); refine wpStay_nil ?_; intro w1 hS; have hc := Since.cell hS; have hf := Since.frz hS; have hz := Since.size hS)
  have HB := below_step HB hS; have B0 := B0.below hS B0.lt; have B1 := B1.below hS B1.lt; have B2 := B2.below hS B2.lt
  clear l0 f0 c0_0 c0_1 c0_2 c0_3 l2 f2 c2_0 c2_1 c2_2 c2_3
  clear hc hf hz hS
  (refine from_end (by kernel_rfl) ?_)
  have l0 := B0.lt; have f0 := B0.frozen; have c0_0 := B0.cell_ 0 rfl; have c0_1 := B0.cell_ 1 rfl; have c0_2 := B0.cell_ 2 rfl; have c0_3 := B0.cell_ 3 rfl; have l2 := B2.lt; have f2 := B2.frozen; have c2_0 := B2.cell_ 0 rfl; have c2_1 := B2.cell_ 1 rfl; have c2_2 := B2.cell_ 2 rfl; have c2_3 := B2.cell_ 3 rfl
  go_wp2
  clear l0 f0 c0_0 c0_1 c0_2 c0_3 l2 f2 c2_0 c2_1 c2_2 c2_3
  (refine region_start (by kernel_rfl) ?_)
  generalize hW : World.drew _ = W2; replace HB : Below w.heap.size w W2 := (by rw [← hW]; exact HB.drew); replace B0 := B0.drew; rw [hW] at B0; replace B1 := B1.drew; rw [hW] at B1; replace B2 := B2.drew; rw [hW] at B2; clear hW
  have l0 := B0.lt; have f0 := B0.frozen; have c0_0 := B0.cell_ 0 rfl; have c0_1 := B0.cell_ 1 rfl; have c0_2 := B0.cell_ 2 rfl; have c0_3 := B0.cell_ 3 rfl; have l2 := B2.lt; have f2 := B2.frozen; have c2_0 := B2.cell_ 0 rfl; have c2_1 := B2.cell_ 1 rfl; have c2_2 := B2.cell_ 2 rfl; have c2_3 := B2.cell_ 3 rfl
  (refine from_stretch (Since _) 0 10 (by kernel_rfl) (Since.refl _) ?_; simp only [List.take_succ_cons, List.take_zero, List.drop_zero]; (iterate 10 (refine wpStay_step (Since.ne _) ⟨?_, ?_, ?_, ?_⟩; rotate_left 2; (intro w1 hS K hK; have hc := Since.cell hS; have hf := Since.frz hS; have hz := Since.size hS; go_simp; (first | exact hK _ hS | (go_at_call 47; (with_reducible refine Calls.mono ((HW _).out) ?_); rintro e w2 ⟨rfl, hb⟩; (try go_simp); exact hK _ (hS.then hb)))); rotate_left 1; rfl)); refine wpStay_nil ?_; intro w1 hS; have hc := Since.cell hS; have hf := Since.frz hS; have hz := Since.size hS)
  have HB := below_step HB hS; have B0 := B0.below hS B0.lt; have B1 := B1.below hS B1.lt; have B2 := B2.below hS B2.lt
  clear hc hf hz hS
  clear l0 f0 c0_0 c0_1 c0_2 c0_3 l2 f2 c2_0 c2_1 c2_2 c2_3
  have l0 := B0.lt; have f0 := B0.frozen; have c0_0 := B0.cell_ 0 rfl; have c0_1 := B0.cell_ 1 rfl; have c0_2 := B0.cell_ 2 rfl; have c0_3 := B0.cell_ 3 rfl; have l2 := B2.lt; have f2 := B2.frozen; have c2_0 := B2.cell_ 0 rfl; have c2_1 := B2.cell_ 1 rfl; have c2_2 := B2.cell_ 2 rfl; have c2_3 := B2.cell_ 3 rfl
  refine from_one rfl (by kernel_rfl) fun K hK => ?_
  obtain ⟨i0, hi0, hz0, hz1, hz2⟩ := info_parts f64_info
  refine step_append_any _ rfl (.tmp 40) (.tmp 48) 25 rfl w.heap.size 34 i0 _ 1 8 Try.underlying25 hi0 hz0 hz1 hz2 rfl (by omega) (.slice none 0 0) 0 [] rfl
         ⟨by simp, .inl ⟨rfl, rfl⟩⟩ w.heap.size A mm c cs rfl (hR.below HB) h1 (by simp only [maxLen]; omega) (by omega) HB.size ?_
  intro v' w4 hown hg hat
  have hl2 := B2.lt
  refine hK _ _ ?_
  clear hK K hi0 hz0 hz1 hz2
  rw [List.nil_append, Nat.zero_add] at hown
  obtain ⟨A', c', rfl, hRd⟩ := own_form hown
  have hA' : ∀ ad, A' = some ad → ad.block = w1.heap.size := by
    rintro ad rfl
    rcases hat with h | h
    · simp [Value.ownBlock] at h
    · simpa [Value.ownBlock] using h
  clear hat hown
  have HA := Lib.hid hA'
  clear hA'
  replace HB := HB.grown hg HB.size (by simp [Value.ownBlock])
  replace B0 := B0.grown hg (by simp [Value.ownBlock])
  replace B1 := B1.grown hg (by simp [Value.ownBlock])
  replace B2 := B2.grown hg (by simp [Value.ownBlock])
  clear l0 f0 c0_0 c0_1 c0_2 c0_3 l2 f2 c2_0 c2_1 c2_2 c2_3
  clear hg
  have l0 := B0.lt; have f0 := B0.frozen; have c0_0 := B0.cell_ 0 rfl; have c0_1 := B0.cell_ 1 rfl; have c0_2 := B0.cell_ 2 rfl; have c0_3 := B0.cell_ 3 rfl; have l1 := B1.lt; have f1 := B1.frozen; have c1_0 := B1.cell_ 0 rfl; have c1_1 := B1.cell_ 1 rfl; have c1_2 := B1.cell_ 2 rfl; have c1_3 := B1.cell_ 3 rfl; have l2 := B2.lt; have f2 := B2.frozen; have c2_0 := B2.cell_ 0 rfl; have c2_1 := B2.cell_ 1 rfl; have c2_2 := B2.cell_ 2 rfl; have c2_3 := B2.cell_ 3 rfl
  (refine from_list (by kernel_rfl) ?_; simp only [List.drop_succ_cons, List.drop_zero])
  go_wp2
  replace B1 := B1.far (p := ⟨w.heap.size + 1 + 1, 2, none⟩) (by simp) (.slice A' mm c')
  have B1 := B1.set_ 0 (.int .i64 2); have B1 := B1.set_ 1 (.int .i64 dd); have B1 := B1.set_ 2 (.slice A' mm c'); have B1 := B1.set_ 3 (.slice none 0 0); simp only [List.setIfInBounds_toArray, List.set_cons_zero, List.set_cons_succ] at B1; refine bodyPost_ret (results_cell_row Try.results57 _ _ _ _ _ (0, 0) _ rfl B1 Try.underlying28 rfl (by kernel_rfl)) rfl ⟨⟨A', c', rfl, ?_⟩, ?_⟩
  · have hp : ∀ g, g < w1.heap.size → ∀ ad, A' = some ad → ad.block ≠ g := fun g hg ad e => by rw [HA.out ad e]; omega
    have := ((((hRd.far (p := ⟨w.heap.size + 1 + 1, 2, none⟩) (hp _ (by simpa using hl2)) (.slice A' mm c')).far (p := ⟨w.heap.size + 1, 0, none⟩) (hp _ (by simp; omega)) (.int .i64 2)).far (p := ⟨w.heap.size + 1, 1, none⟩) (hp _ (by simp; omega)) (.int .i64 dd)).far (p := ⟨w.heap.size + 1, 2, none⟩) (hp _ (by simp; omega)) (.slice A' mm c')).far (p := ⟨w.heap.size + 1, 3, none⟩) (hp _ (by simp; omega)) (.slice none 0 0)
    simpa using this
  · (repeat (first | (with_reducible exact Below.refl _ _) | (with_reducible assumption) | (with_reducible refine Below.drew ?_) | (with_reducible refine below_drewN ?_ _) | ((with_reducible refine below_alloc' ?_ ?_); (focus (first | (simp; done) | omega | (simp; omega)))) | ((with_reducible refine below_set' ?_ ?_); (focus (first | (simp; done) | omega | (simp; omega)))) | (with_reducible refine below_step ?_ (by assumption)) | (with_reducible refine below_step_since ?_ (by assumption)) | ((with_reducible refine below_since' (by assumption) ?_ ?_); (focus (first | (simp; done) | omega | (simp; omega)))) | ((with_reducible refine below_trans' (by assumption) ?_ ?_); (focus (first | (simp; done) | omega | (simp; omega))))))
end Go.Proofs.Ytciblaabghiefaa
