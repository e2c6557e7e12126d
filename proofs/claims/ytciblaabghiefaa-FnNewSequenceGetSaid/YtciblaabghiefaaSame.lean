/- spec.SameNums: two lists of numbers are the same bit by bit. -/
import Derived.Test.YtciblaabghiefaaFin
import Derived.Test.YtciblaabghiefaaSeq3
namespace Go.Proofs.Ytciblaabghiefaa
open Go.RowKit
set_option maxRecDepth 100000

theorem same_prefix {xs ys : List Nat} {k : Nat} (hk : k < xs.length) (h : xs.length = ys.length) (hp : xs.take k = ys.take k) : (nth xs k = nth ys k ↔ xs.take (k + 1) = ys.take (k + 1)) := by
  have e1 : xs.take (k + 1) = xs.take k ++ [nth xs k] := by rw [List.take_succ_eq_append_getElem hk]; simp [nth, List.getElem?_eq_getElem hk]
  have e2 : ys.take (k + 1) = ys.take k ++ [nth ys k] := by
    have hk' : k < ys.length := by omega
    rw [List.take_succ_eq_append_getElem hk']; simp [nth, List.getElem?_eq_getElem hk']
  rw [e1, e2, hp]
  simp

set_option maxHeartbeats 1000000 in
theorem sameNums_any (A B : Option Addr) (c e : Nat) (xs ys : List Nat) (w : World) (h : Reads w w.heap.size 1 A xs.length (xs.map fl)) (h' : Reads w w.heap.size 1 B ys.length (ys.map fl)) (hn : xs.length ≤ 2147483647) :
    Calls Try.prog 50 #[.slice A xs.length c, .slice B ys.length e] w fun en w' => en = .returned (.bool (decide (xs = ys))) ∧ Below w.heap.size w w' := by
  by_cases hl : xs.length = ys.length
  · have hin : Hid (∀ j, j < xs.length → (xs.map fl)[j]? = some (fl (nth xs j))) := fun j hj => nth_get hj
    have hin' : Hid (∀ j, j < ys.length → (ys.map fl)[j]? = some (fl (nth ys j))) := fun j hj => nth_get hj
    have hst : Hid (∀ k, k < xs.length → xs.take k = ys.take k → (nth xs k = nth ys k ↔ xs.take (k + 1) = ys.take (k + 1))) := fun k hk hp => same_prefix hk hl hp
    have hend : Hid (xs.take xs.length = ys.take xs.length → decide (xs = ys) = true) := by
      intro hp
      rw [List.take_length, hl, List.take_length] at hp
      simpa using hp
    have hbad : Hid (∀ k, xs.take k ≠ ys.take k → decide (xs = ys) = false) := by
      intro k hk
      simp
      rintro rfl
      exact hk rfl
    have hb : ∀ x (w : World), (callFunc 85 #[.float .f64 x]).run Try.prog w = .ok (.value (.int .u64 x)) w := run_bits
    generalize decide (xs = ys) = r at *
    generalize hxs : xs.map fl = cs at *
    generalize hys : ys.map fl = ds at *
    rw [← hl] at h' hin' ⊢
    generalize hxl : xs.length = n at *
    clear hxs hys hxl hl
    go_enter Try.func50, Try.ntmps50
    go_wp2
    go_loopw [14] (fun i wr => ∃ k : Nat, k ≤ n ∧ i = .int .i64 k ∧ Hid (xs.take k = ys.take k) ∧ Below w.heap.size w wr) (fun i _ => n - (intOf i).toNat)
    case atStart => exact ⟨0, by omega, rfl, by simp [Hid], Below.refl _ _⟩
    case round =>
      obtain ⟨k, hk, rfl, hp, HB⟩ := hrel
      by_cases hlt : k < n
      · have hs := hst.out k hlt hp.out
        have x0 := hin.out k hlt
        have y0 := hin'.out k hlt
        have hbk := hbad.out (k + 1)
        clear hin hin' hst hend hbad
        obtain ⟨b, off, rfl, had, hcell⟩ := h.cellAt (by omega) (by omega)
        obtain ⟨b', off', rfl, had', hcell'⟩ := h'.cellAt (by omega) (by omega)
        have HS := Lib.hid hs
        have HBK := Lib.hid hbk
        clear hs hbk
        generalize nth xs k = x at *
        generalize nth ys k = y at *
        have f0 : wr.cell? ⟨b, off + k, none⟩ = some (.float .f64 x) := ((bcell HB).1 _ _ had).trans (hcell _ _ x0)
        have f1 : wr.cell? ⟨b', off' + k, none⟩ = some (.float .f64 y) := ((bcell HB).1 _ _ had').trans (hcell' _ _ y0)
        have l0 : b < wr.heap.size := Nat.lt_of_lt_of_le had HB.size
        have l1 : b' < wr.heap.size := Nat.lt_of_lt_of_le had' HB.size
        clear x0 y0 hcell hcell'
        go_upto_region 6 with (fail)
        (refine region_start (by kernel_rfl) ?_)
        generalize hW : World.drew wr = W
        replace HB : Below w.heap.size w W := by rw [← hW]; exact HB.drew
        have f1 : W.cell? ⟨b', off' + k, none⟩ = some (.float .f64 y) := by rw [← hW]; exact f1
        have l1 : b' < W.heap.size := by rw [← hW]; exact l1
        clear hW f0
        by_cases hxy : x = y
        · have e1 : ((x : Int) != (y : Int)) = false := by simp [hxy]
          have hp' : Hid (xs.take (k + 1) = ys.take (k + 1)) := HS.out.1 hxy
          clear hxy HS HBK
          (refine from_stretch (Since _) 0 8 (by kernel_rfl) (Since.refl _) ?_; simp only [List.take_succ_cons, List.take_zero, List.drop_zero]; (iterate 8 (refine wpStay_step (Since.ne _) ⟨?_, ?_, ?_, ?_⟩; rotate_left 2; (intro w1 hS K hK; have hc := Since.cell hS; have hf := Since.frz hS; have hz := Since.size hS; go_simp; (first | exact hK _ hS)); rotate_left 1; rfl)); refine wpStay_nil ?_; intro w1 hS; have hc := Since.cell hS; have hf := Since.frz hS; have hz := Since.size hS)
          replace HB := below_step_since HB hS
          clear hc hf hz hS f1
          (refine from_end (by kernel_rfl) ?_)
          go_wp2
          exact ⟨⟨k + 1, by omega, by go_num, hp', HB⟩, by simp [intOf]; omega⟩
        · have e1 : ((x : Int) != (y : Int)) = true := by simp; omega
          have hr : Hid (r = false) := HBK.out fun h => hxy (HS.out.2 h)
          clear hxy HS HBK
          (refine from_stretch (Since _) 0 8 (by kernel_rfl) (Since.refl _) ?_; simp only [List.take_succ_cons, List.take_zero, List.drop_zero]; (iterate 8 (refine wpStay_step (Since.ne _) ⟨?_, ?_, ?_, ?_⟩; rotate_left 2; (intro w1 hS K hK; have hc := Since.cell hS; have hf := Since.frz hS; have hz := Since.size hS; go_simp; (first | exact hK _ hS)); rotate_left 1; rfl)); refine wpStay_nil ?_; intro w1 hS; have hc := Since.cell hS; have hf := Since.frz hS; have hz := Since.size hS)
          replace HB := below_step_since HB hS
          clear hc hf hz hS f1
          (refine from_end (by kernel_rfl) ?_)
          go_wp2
          go_ret
          exact ⟨by rw [hr.out]; rfl, HB⟩
      · obtain rfl : k = n := by omega
        have hr : Hid (r = true) := hend.out hp.out
        clear hin hin' hst hend hbad hp h h'
        go_wp2
        go_ret
        exact ⟨by rw [hr.out]; rfl, HB⟩
  · have hr : Hid (decide (xs = ys) = false) := by
      show _ = _
      simp
      rintro rfl
      exact hl rfl
    generalize decide (xs = ys) = r at *
    clear h h'
    generalize xs.length = n at *
    generalize ys.length = m at *
    have e1 : ((n : Int) != (m : Int)) = true := by simp; omega
    clear hl
    go_enter Try.func50, Try.ntmps50
    go_wp2
    go_ret
    exact ⟨by rw [hr.out]; rfl, (by (repeat (first | (with_reducible exact Below.refl _ _) | (with_reducible assumption) | (with_reducible refine Below.drew ?_) | (with_reducible refine below_drewN ?_ _) | ((with_reducible refine below_alloc' ?_ ?_); (focus (first | (simp; done) | omega | (simp; omega)))) | ((with_reducible refine below_set' ?_ ?_); (focus (first | (simp; done) | omega | (simp; omega)))) | (with_reducible refine below_step ?_ (by assumption)) | (with_reducible refine below_step_since ?_ (by assumption)) | ((with_reducible refine below_since' (by assumption) ?_ ?_); (focus (first | (simp; done) | omega | (simp; omega)))) | ((with_reducible refine below_trans' (by assumption) ?_ ?_); (focus (first | (simp; done) | omega | (simp; omega)))))))⟩
end Go.Proofs.Ytciblaabghiefaa
