/- spec.Places: the places of a list of numbers. -/
import Derived.Test.YtciblaabghiefaaNew
namespace Go.Proofs.Ytciblaabghiefaa
open Go.RowKit
attribute [local go_sem] run_store_float
set_option maxRecDepth 100000

/-- The four cells of place j. -/
def plc (d : Int) (xs : List Nat) (j : Nat) : List Value := [fl (nth xs (j * wd d)), fl (nth xs (j * wd d + 1)), fl (zOf d xs (j * wd d)), fl (mOf d xs (j * wd d))]
theorem plc_length (d : Int) (xs : List Nat) (j : Nat) : (plc d xs j).length = 4 := rfl
def plcs (d : Int) (xs : List Nat) (j : Nat) : List Value := (List.range j).flatMap (plc d xs)
theorem plcs_succ (d : Int) (xs : List Nat) (j : Nat) : plcs d xs (j + 1) = plcs d xs j ++ plc d xs j := by
  unfold plcs; rw [List.range_succ, List.flatMap_append]; simp

theorem place_info : (Try.prog.info? 142).map (fun i => (i.zero, i.size, i.bytes)) = some (some (.agg #[.float .f64 0, .float .f64 0, .float .f64 0, .float .f64 0]), 4, 32) := by kernel_rfl

theorem own_far {w : World} {base : Nat} {e : TypeId} {size n : Nat} {v : Value} {xs : List Value} (h : w.ownsRow base e size v n xs) {p : Addr} (hp : v.ownBlock ≠ some p.block) (u : Value) : (w.setCell p u).ownsRow base e size v n xs := by
  refine ⟨h.1, ?_⟩
  rcases h.2 with hn | ⟨g, cap, cur, rfl, hb, hgg, rest⟩
  · exact .inl hn
  · exact .inr ⟨g, cap, cur, rfl, hb, (Below.heap_setCell w p u g (fun e => hp (by rw [← e]; rfl))).trans hgg, rest⟩

set_option maxHeartbeats 2000000 in
theorem places_any (d : Int) (hd : d = 0 ∨ d = 1 ∨ d = 2 ∨ d = 3) (A : Option Addr) (c : Nat) (xs : List Nat) (w : World) (h : Reads w w.heap.size 1 A xs.length (xs.map fl)) (hn : xs.length ≤ 2147483647) :
    Calls Try.prog 58 #[.slice A xs.length c, .int .i64 d] w fun e w' =>
      (∃ A' c', e = .returned (.slice A' (xs.length / wd d) c') ∧ Reads w' w'.heap.size 4 A' (xs.length / wd d) (plcs d xs (xs.length / wd d))) ∧ Below w.heap.size w w' := by
  have HW := fun W => Lib.hid (spWidth_any d hd W)
  have hPL := plcs_succ d xs
  have hin : Hid (∀ j, j < xs.length → (xs.map fl)[j]? = some (fl (nth xs j))) := fun j hj => nth_get hj
  have h2 := wd_cases d hd
  have hd' : Hid ((d = 0 ∧ wd d = 2) ∨ (d = 1 ∧ wd d = 3) ∨ (d = 2 ∧ wd d = 3) ∨ (d = 3 ∧ wd d = 4)) := by
    rcases hd with rfl | rfl | rfl | rfl <;> simp [Hid, wd]
  have hpl : Hid (∀ j, plc d xs j = [fl (nth xs (j * wd d)), fl (nth xs (j * wd d + 1)), fl (if d = 1 ∨ d = 3 then nth xs (j * wd d + 2) else 0), fl (if d = 2 then nth xs (j * wd d + 2) else if d = 3 then nth xs (j * wd d + 3) else 0)]) := fun j => rfl
  clear hd
  generalize hxl : (xs.map fl) = cs at *
  generalize xs.length = n at *
  generalize wd d = k at *
  clear hxl
  have hmul : ∀ j, j < n / k → j * k + k ≤ n := fun j hj => by
    have := Nat.mul_le_mul_right k (show j + 1 ≤ n / k from hj)
    have := Nat.div_mul_le_self n k
    rw [Nat.add_mul] at *; omega
  have hend : n < n / k * k + k ∧ n / k * k ≤ n := ⟨Nat.lt_div_mul_add (by omega), Nat.div_mul_le_self n k⟩
  have hqn : n / k ≤ n := Nat.div_le_self n k
  have HM := Lib.hid hmul
  have HE := Lib.hid hend
  clear hmul hend
  generalize n / k = q at *
  go_enter Try.func58, Try.ntmps58
  go_wp2_with (go_at_call 47; (with_reducible refine Calls.mono ((HW _).out) ?_); rintro e w2 ⟨rfl, hb⟩)
  go_loopw [5, 7] (fun v i wr => ∃ j : Nat, j ≤ q ∧ i = .int .i64 (j * k : Nat) ∧ wr.ownsRow w.heap.size 142 4 v j (plcs d xs j) ∧ Below w.heap.size w wr) (fun _ i _ => n - (intOf i).toNat)
  case atStart => exact ⟨0, by omega, by simp, ⟨by simp [plcs], .inl ⟨rfl, rfl⟩⟩, hb⟩
  case round =>
    obtain ⟨j, hj, rfl, hown, HB⟩ := hrel
    by_cases hlt : j < q
    · have hi := HM.out j hlt
      have hp := hpl.out j
      have hP := Lib.hid (hPL j)
      clear hPL hpl HE HM
      generalize plc d xs j = pc at *
      have hin' := hin.out
      clear hin
      have HN := Lib.hid (show (j + 1) * k = j * k + k by rw [Nat.add_mul]; omega)
      generalize j * k = i at *
      obtain ⟨b, off, rfl, had, hcell⟩ := h.cellAt (by omega) (by omega)
      have x0 := hcell _ _ (hin' i (by omega))
      have x1 := hcell _ _ (hin' (i + 1) (by omega))
      generalize nth xs i = v0 at *
      generalize nth xs (i + 1) = v1 at *
      have f0 : wr.cell? ⟨b, off + i, none⟩ = some (.float .f64 v0) := ((bcell HB).1 _ _ had).trans x0
      have f1 : wr.cell? ⟨b, off + (i + 1), none⟩ = some (.float .f64 v1) := ((bcell HB).1 _ _ had).trans x1
      have had2 : b < wr.heap.size := Nat.lt_of_lt_of_le had HB.size
      have q0 : i < n := by omega
      have q1 : (i : Int) + 1 < n := by omega
      have q2 : (0 : Int) ≤ (i : Int) + 1 := by omega
      have q3 : IntKind.i64.wrap ((i : Int) + 1) = (i : Int) + 1 := IntWalk.i64_in _ (by omega)
      have q4 : (i : Int) + k ≤ n := by omega
      have q5 : IntKind.i64.wrap ((i : Int) + k) = (i : Int) + k := IntWalk.i64_in _ (by omega)
      go_upto_region 6 with (fail)
      go_region
      have hz := HB.size
      have hl := HB.size
      have hown2 : ((wr.alloc (Obj.cells #[.float .f64 v0, .float .f64 v1, .float .f64 0, .float .f64 0] 142)).drew).ownsRow w.heap.size 142 4 u5 j (plcs d xs j) := hown.alloc _
      have hob : u5.ownBlock ≠ some wr.heap.size := fun e => by have := (hown.lt _ e).2; omega
      have HOB := Lib.hid hob
      have HBA := Lib.hid fun k hk => (hown.lt k hk).1
      generalize hW : World.drew (wr.alloc _) = W at hown2 ⊢
      replace HB : Below w.heap.size w W := by rw [← hW]; (repeat (first | (with_reducible exact Below.refl _ _) | (with_reducible assumption) | (with_reducible refine Below.drew ?_) | (with_reducible refine below_drewN ?_ _) | ((with_reducible refine below_alloc' ?_ ?_); (focus (first | (simp; done) | omega | (simp; omega)))) | ((with_reducible refine below_set' ?_ ?_); (focus (first | (simp; done) | omega | (simp; omega)))) | (with_reducible refine below_step ?_ (by assumption)) | (with_reducible refine below_step_since ?_ (by assumption)) | ((with_reducible refine below_since' (by assumption) ?_ ?_); (focus (first | (simp; done) | omega | (simp; omega)))) | ((with_reducible refine below_trans' (by assumption) ?_ ?_); (focus (first | (simp; done) | omega | (simp; omega))))))
      have B8 : Blk W wr.heap.size 142 #[.float .f64 v0, .float .f64 v1, .float .f64 0, .float .f64 0] := by rw [← hW]; exact (Blk.new' rfl).drew
      clear hW hob
      have b01 : bits .and .i64 0 1 = 0 := by decide
      have b11 : bits .and .i64 1 1 = 1 := by decide
      have b21 : bits .and .i64 2 1 = 0 := by decide
      have b31 : bits .and .i64 3 1 = 1 := by decide
      have b02 : bits .and .i64 0 2 = 0 := by decide
      have b12 : bits .and .i64 1 2 = 0 := by decide
      have b22 : bits .and .i64 2 2 = 2 := by decide
      have b32 : bits .and .i64 3 2 = 2 := by decide
      obtain ⟨i0, hi0, hz0, hz1, hz2⟩ := info_parts place_info
      have HI := Lib.hid hi0; have HZ0 := Lib.hid hz0; have HZ1 := Lib.hid hz1; have HZ2 := Lib.hid hz2
      clear hi0 hz0 hz1 hz2 hown f0 f1
      generalize wr.heap.size = g at *
      have lg := B8.lt
      have l8 := B8.lt; have f8 := B8.frozen; have c8_0 := B8.cell_ 0 rfl; have c8_1 := B8.cell_ 1 rfl; have c8_2 := B8.cell_ 2 rfl; have c8_3 := B8.cell_ 3 rfl
      rcases hd'.out with ⟨rfl, rfl⟩ | ⟨rfl, rfl⟩ | ⟨rfl, rfl⟩ | ⟨rfl, rfl⟩
      · simp at hp
        go_wp2_with (at_builtin; refine wpList_append_any _ rfl (.tmp 50) (.tmp 52) _ rfl w.heap.size 142 i0 _ 4 32 Try.underlying30 HI.out HZ0.out HZ1.out HZ2.out rfl (by omega) u5 j (plcs 0 xs j) rfl ((hown2).alloc _) _ _ 1 1 [fl v0, fl v1, fl 0, fl 0] rfl (reads_new' _ _ (by simp) _ _ 4 1 rfl (by omega)) (by simp [fl, Value.oneCell']) (by simp only [maxLen]; omega) (by omega) (by have := HB.size; simp; omega) ?_; intro v' w4 hown4 hg4 hat)
        have HB4 : Below w.heap.size w w4 := Below.grown (w := World.alloc _ _) (by (repeat (first | (with_reducible exact Below.refl _ _) | (with_reducible assumption) | (with_reducible refine Below.drew ?_) | (with_reducible refine below_drewN ?_ _) | ((with_reducible refine below_alloc' ?_ ?_); (focus (first | (simp; done) | omega | (simp; omega)))) | ((with_reducible refine below_set' ?_ ?_); (focus (first | (simp; done) | omega | (simp; omega)))) | (with_reducible refine below_step ?_ (by assumption)) | (with_reducible refine below_step_since ?_ (by assumption)) | ((with_reducible refine below_since' (by assumption) ?_ ?_); (focus (first | (simp; done) | omega | (simp; omega)))) | ((with_reducible refine below_trans' (by assumption) ?_ ?_); (focus (first | (simp; done) | omega | (simp; omega))))))) hg4 (by have := HB.size; simp; omega) HBA.out
        refine ⟨⟨j + 1, by omega, by have hh := HN.out; omega, by rw [hP.out, hp]; exact hown4, HB4⟩, by simp [intOf]; omega⟩
      · simp at hp
        have x2 := hcell _ _ (hin' (i + 2) (by omega))
        generalize nth xs (i + 2) = v2 at *
        have f2 : W.cell? ⟨b, off + (i + 2), none⟩ = some (.float .f64 v2) := ((bcell HB).1 _ _ had).trans x2
        have q6 : (i : Int) + 2 < n := by omega
        have q7 : IntKind.i64.wrap ((i : Int) + 2) = (i : Int) + 2 := IntWalk.i64_in _ (by omega)
        have q8 : (0 : Int) ≤ (i : Int) + 2 := by omega
        go_wp2_with (at_builtin; refine wpList_append_any _ rfl (.tmp 50) (.tmp 52) _ rfl w.heap.size 142 i0 _ 4 32 Try.underlying30 HI.out HZ0.out HZ1.out HZ2.out rfl (by omega) u5 j (plcs 1 xs j) rfl ((own_far (p := ⟨g, 2, none⟩) (hown2) HOB.out _).alloc _) _ _ 1 1 [fl v0, fl v1, fl v2, fl 0] rfl (reads_new' _ _ (by simp) _ _ 4 1 rfl (by omega)) (by simp [fl, Value.oneCell']) (by simp only [maxLen]; omega) (by omega) (by have := HB.size; simp; omega) ?_; intro v' w4 hown4 hg4 hat)
        have HB4 : Below w.heap.size w w4 := Below.grown (w := World.alloc _ _) (by (repeat (first | (with_reducible exact Below.refl _ _) | (with_reducible assumption) | (with_reducible refine Below.drew ?_) | (with_reducible refine below_drewN ?_ _) | ((with_reducible refine below_alloc' ?_ ?_); (focus (first | (simp; done) | omega | (simp; omega)))) | ((with_reducible refine below_set' ?_ ?_); (focus (first | (simp; done) | omega | (simp; omega)))) | (with_reducible refine below_step ?_ (by assumption)) | (with_reducible refine below_step_since ?_ (by assumption)) | ((with_reducible refine below_since' (by assumption) ?_ ?_); (focus (first | (simp; done) | omega | (simp; omega)))) | ((with_reducible refine below_trans' (by assumption) ?_ ?_); (focus (first | (simp; done) | omega | (simp; omega))))))) hg4 (by have := HB.size; simp; omega) HBA.out
        refine ⟨⟨j + 1, by omega, by have hh := HN.out; omega, by rw [hP.out, hp]; exact hown4, HB4⟩, by simp [intOf]; omega⟩
      · simp at hp
        have x2 := hcell _ _ (hin' (i + 2) (by omega))
        generalize nth xs (i + 2) = v2 at *
        have f2 : W.cell? ⟨b, off + (i + 2), none⟩ = some (.float .f64 v2) := ((bcell HB).1 _ _ had).trans x2
        have q6 : (i : Int) + 2 < n := by omega
        have q7 : IntKind.i64.wrap ((i : Int) + 2) = (i : Int) + 2 := IntWalk.i64_in _ (by omega)
        have q8 : (0 : Int) ≤ (i : Int) + 2 := by omega
        have q9 : IntKind.i64.wrap ((i : Int) + 3) = (i : Int) + 3 := IntWalk.i64_in _ (by omega)
        have qa : (i : Int) + 3 - 1 = (i : Int) + 2 := by omega
        go_wp2_with (at_builtin; refine wpList_append_any _ rfl (.tmp 50) (.tmp 52) _ rfl w.heap.size 142 i0 _ 4 32 Try.underlying30 HI.out HZ0.out HZ1.out HZ2.out rfl (by omega) u5 j (plcs 2 xs j) rfl ((own_far (p := ⟨g, 3, none⟩) (hown2) HOB.out _).alloc _) _ _ 1 1 [fl v0, fl v1, fl 0, fl v2] rfl (reads_new' _ _ (by simp) _ _ 4 1 rfl (by omega)) (by simp [fl, Value.oneCell']) (by simp only [maxLen]; omega) (by omega) (by have := HB.size; simp; omega) ?_; intro v' w4 hown4 hg4 hat)
        have HB4 : Below w.heap.size w w4 := Below.grown (w := World.alloc _ _) (by (repeat (first | (with_reducible exact Below.refl _ _) | (with_reducible assumption) | (with_reducible refine Below.drew ?_) | (with_reducible refine below_drewN ?_ _) | ((with_reducible refine below_alloc' ?_ ?_); (focus (first | (simp; done) | omega | (simp; omega)))) | ((with_reducible refine below_set' ?_ ?_); (focus (first | (simp; done) | omega | (simp; omega)))) | (with_reducible refine below_step ?_ (by assumption)) | (with_reducible refine below_step_since ?_ (by assumption)) | ((with_reducible refine below_since' (by assumption) ?_ ?_); (focus (first | (simp; done) | omega | (simp; omega)))) | ((with_reducible refine below_trans' (by assumption) ?_ ?_); (focus (first | (simp; done) | omega | (simp; omega))))))) hg4 (by have := HB.size; simp; omega) HBA.out
        refine ⟨⟨j + 1, by omega, by have hh := HN.out; omega, by rw [hP.out, hp]; exact hown4, HB4⟩, by simp [intOf]; omega⟩
      · simp at hp
        have x2 := hcell _ _ (hin' (i + 2) (by omega))
        generalize nth xs (i + 2) = v2 at *
        have f2 : W.cell? ⟨b, off + (i + 2), none⟩ = some (.float .f64 v2) := ((bcell HB).1 _ _ had).trans x2
        have q6 : (i : Int) + 2 < n := by omega
        have q7 : IntKind.i64.wrap ((i : Int) + 2) = (i : Int) + 2 := IntWalk.i64_in _ (by omega)
        have q8 : (0 : Int) ≤ (i : Int) + 2 := by omega
        have x3 := hcell _ _ (hin' (i + 3) (by omega))
        generalize nth xs (i + 3) = v3 at *
        have f3 : W.cell? ⟨b, off + (i + 3), none⟩ = some (.float .f64 v3) := ((bcell HB).1 _ _ had).trans x3
        have qb : (i : Int) + 3 < n := by omega
        have qc : IntKind.i64.wrap ((i : Int) + 3) = (i : Int) + 3 := IntWalk.i64_in _ (by omega)
        have qd : (0 : Int) ≤ (i : Int) + 3 := by omega
        have qe : IntKind.i64.wrap ((i : Int) + 4) = (i : Int) + 4 := IntWalk.i64_in _ (by omega)
        have qf : (i : Int) + 4 - 1 = (i : Int) + 3 := by omega
        go_wp2_with (at_builtin; refine wpList_append_any _ rfl (.tmp 50) (.tmp 52) _ rfl w.heap.size 142 i0 _ 4 32 Try.underlying30 HI.out HZ0.out HZ1.out HZ2.out rfl (by omega) u5 j (plcs 3 xs j) rfl ((own_far (p := ⟨g, 3, none⟩) (own_far (p := ⟨g, 2, none⟩) (hown2) HOB.out _) HOB.out _).alloc _) _ _ 1 1 [fl v0, fl v1, fl v2, fl v3] rfl (reads_new' _ _ (by simp) _ _ 4 1 rfl (by omega)) (by simp [fl, Value.oneCell']) (by simp only [maxLen]; omega) (by omega) (by have := HB.size; simp; omega) ?_; intro v' w4 hown4 hg4 hat)
        have HB4 : Below w.heap.size w w4 := Below.grown (w := World.alloc _ _) (by (repeat (first | (with_reducible exact Below.refl _ _) | (with_reducible assumption) | (with_reducible refine Below.drew ?_) | (with_reducible refine below_drewN ?_ _) | ((with_reducible refine below_alloc' ?_ ?_); (focus (first | (simp; done) | omega | (simp; omega)))) | ((with_reducible refine below_set' ?_ ?_); (focus (first | (simp; done) | omega | (simp; omega)))) | (with_reducible refine below_step ?_ (by assumption)) | (with_reducible refine below_step_since ?_ (by assumption)) | ((with_reducible refine below_since' (by assumption) ?_ ?_); (focus (first | (simp; done) | omega | (simp; omega)))) | ((with_reducible refine below_trans' (by assumption) ?_ ?_); (focus (first | (simp; done) | omega | (simp; omega))))))) hg4 (by have := HB.size; simp; omega) HBA.out
        refine ⟨⟨j + 1, by omega, by have hh := HN.out; omega, by rw [hP.out, hp]; exact hown4, HB4⟩, by simp [intOf]; omega⟩
    · obtain rfl : j = q := by omega
      have hi := HE.out
      obtain ⟨A', c', rfl, hRd⟩ := own_form hown
      clear hin HM HE hpl hPL hown h
      generalize j * k = i at *
      have q4 : ¬ (i : Int) + k ≤ n := by omega
      have q5 : IntKind.i64.wrap ((i : Int) + k) = (i : Int) + k := IntWalk.i64_in _ (by omega)
      go_wp2
      go_ret
      exact ⟨⟨A', ⟨c', rfl⟩, hRd⟩, HB⟩
end Go.Proofs.Ytciblaabghiefaa
