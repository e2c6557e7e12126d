/- Places with whole coordinates: 'formed' of a line of them. -/
import Derived.Test.YtciblaabghiefaaRegion
namespace Go.Proofs.Ytciblaabghiefaa
open Go.RowKit

def ptCells (p : Int × Int) : List Value := [.int .i64 p.1, .int .i64 p.2]
/-- No coordinate is beyond m. -/
def inB (m : Int) (ps : List (Int × Int)) : Bool := ps.all fun p => !(decide (min p.1 p.2 < -m) || decide (m < max p.1 p.2))

theorem inB_false {m : Int} {ps : List (Int × Int)} {k : Nat} (h : inB m (ps.take k) = false) : inB m ps = false := by
  unfold inB at *
  rw [List.all_eq_false] at *
  obtain ⟨p, hp, h⟩ := h
  exact ⟨p, List.mem_of_mem_take hp, h⟩
theorem inB_step {m : Int} {ps : List (Int × Int)} {k : Nat} (hk : k < ps.length) : inB m (ps.take (k + 1)) = (inB m (ps.take k) && !(decide (min ps[k].1 ps[k].2 < -m) || decide (m < max ps[k].1 ps[k].2))) := by
  unfold inB
  rw [List.take_succ_eq_append_getElem hk, List.all_append]
  simp

theorem formedBelow_line (A : Option Addr) (n c : Nat) (m d : Int) (ps : List (Int × Int)) (w : World) (h : Reads w w.heap.size 2 A n (ps.flatMap ptCells)) (hn : n ≤ 140737488355328) (hm : 0 ≤ m) (hm2 : m ≤ 9223372036854775807) (hd : 0 ≤ d) :
    Calls Try.prog 100 #[.agg #[.int .i64 2, .slice A n c, .slice none 0 0], .int .i64 m, .int .i64 d] w fun e w' => e = .returned (.bool (inB m ps)) ∧ Below w.heap.size w w' := by
  have hl : ps.length = n := by have := h.1; rw [flat_length ptCells 2 (fun _ => rfl)] at this; omega
  go_enter Try.func100, Try.ntmps100
  go_wp2
  go_loopw [17] (fun i wr => ∃ k : Nat, k ≤ n ∧ i = .int .i64 k ∧ Hid (inB m (ps.take k) = true) ∧ Below (w.heap.size + 1) (w.alloc (.cells #[.int .i64 2, .slice A n c, .slice none 0 0] 63)) wr) (fun i _ => n - (intOf i).toNat)
  case atStart => exact ⟨0, by omega, rfl, rfl, Below.refl _ _⟩
  case round =>
    obtain ⟨k, hk, rfl, hv, hb⟩ := hrel
    have B0 : Blk wr w.heap.size 63 #[.int .i64 2, .slice A n c, .slice none 0 0] := (Blk.new w _ _).below hb (by omega)
    have hz : w.heap.size + 1 ≤ wr.heap.size := by have := hb.size; simpa using this
    have HB : Below w.heap.size w wr := ((Below.refl _ _).alloc (Nat.le_refl _) _).trans (hb.mono (by omega))
    have l0 := B0.lt; have f0 := B0.frozen; have c0_0 := B0.cell_ 0 rfl; have c0_1 := B0.cell_ 1 rfl; have c0_2 := B0.cell_ 2 rfl
    by_cases hlt : k < n
    · have hkl : k < ps.length := by omega
      obtain ⟨b, off, rfl, had, hcell⟩ := h.cellAt (by omega) (by omega)
      have g0 := flat_get ptCells 2 (fun _ => rfl) ps k 0 hkl (by omega)
      have g1 := flat_get ptCells 2 (fun _ => rfl) ps k 1 hkl (by omega)
      have HV : Hid _ := inB_step (m := m) hkl
      generalize ps[k] = p at *
      obtain ⟨x, y⟩ := p
      have e0 : wr.cell? ⟨b, off + k * 2, none⟩ = some (.int .i64 x) := ((bcell HB).1 _ _ had).trans (hcell _ _ g0)
      have e1 : wr.cell? ⟨b, off + k * 2 + 1, none⟩ = some (.int .i64 y) := ((bcell HB).1 _ _ had).trans (hcell _ _ g1)
      clear g0 g1 hcell
      go_wp2
      all_goals first
        | (go_ret
           have hf : inB m ps = false := inB_false (k := k + 1) (by rw [HV.out, hv.out]; simp; omega)
           exact ⟨by rw [hf]; rfl, (by (repeat (first | (with_reducible exact Below.refl _ _) | (with_reducible assumption) | (with_reducible refine Below.drew ?_) | (with_reducible refine below_drewN ?_ _) | ((with_reducible refine below_alloc' ?_ ?_); (focus (first | (simp; done) | omega | (simp; omega)))) | ((with_reducible refine below_set' ?_ ?_); (focus (first | (simp; done) | omega | (simp; omega)))) | (with_reducible refine below_step ?_ (by assumption)) | (with_reducible refine below_step_since ?_ (by assumption)) | ((with_reducible refine below_since' (by assumption) ?_ ?_); (focus (first | (simp; done) | omega | (simp; omega)))) | ((with_reducible refine below_trans' (by assumption) ?_ ?_); (focus (first | (simp; done) | omega | (simp; omega)))))))⟩)
        | (refine ⟨⟨k + 1, by omega, by go_num, ?_, (by (repeat (first | (with_reducible exact Below.refl _ _) | (with_reducible assumption) | (with_reducible refine Below.drew ?_) | (with_reducible refine below_drewN ?_ _) | ((with_reducible refine below_alloc' ?_ ?_); (focus (first | (simp; done) | omega | (simp; omega)))) | ((with_reducible refine below_set' ?_ ?_); (focus (first | (simp; done) | omega | (simp; omega)))) | (with_reducible refine below_step ?_ (by assumption)) | (with_reducible refine below_step_since ?_ (by assumption)) | ((with_reducible refine below_since' (by assumption) ?_ ?_); (focus (first | (simp; done) | omega | (simp; omega)))) | ((with_reducible refine below_trans' (by assumption) ?_ ?_); (focus (first | (simp; done) | omega | (simp; omega)))))))⟩, by simp [intOf]; omega⟩
           show _ = true
           rw [HV.out, hv.out]; simp; omega)
    · obtain rfl : k = n := by omega
      have hp : inB m ps = true := by have := hv.out; rwa [List.take_of_length_le (by omega)] at this
      have HP := Lib.hid hp
      clear hp hv
      go_wp2
      go_ret
      exact ⟨by rw [HP.out]; rfl, (by (repeat (first | (with_reducible exact Below.refl _ _) | (with_reducible assumption) | (with_reducible refine Below.drew ?_) | (with_reducible refine below_drewN ?_ _) | ((with_reducible refine below_alloc' ?_ ?_); (focus (first | (simp; done) | omega | (simp; omega)))) | ((with_reducible refine below_set' ?_ ?_); (focus (first | (simp; done) | omega | (simp; omega)))) | (with_reducible refine below_step ?_ (by assumption)) | (with_reducible refine below_step_since ?_ (by assumption)) | ((with_reducible refine below_since' (by assumption) ?_ ?_); (focus (first | (simp; done) | omega | (simp; omega)))) | ((with_reducible refine below_trans' (by assumption) ?_ ?_); (focus (first | (simp; done) | omega | (simp; omega)))))))⟩

theorem formed_line (A : Option Addr) (n c : Nat) (m : Int) (ps : List (Int × Int)) (w : World) (h : Reads w w.heap.size 2 A n (ps.flatMap ptCells)) (hn : n ≤ 140737488355328) (hm : 0 ≤ m) (hm2 : m ≤ 9223372036854775807) :
    Calls Try.prog 66 #[.agg #[.int .i64 2, .slice A n c, .slice none 0 0], .int .i64 m] w fun e w' => e = .returned (.bool (inB m ps)) ∧ Below w.heap.size w w' := by
  go_enter Try.func66, Try.ntmps66
  have H := Lib.hid h
  clear h
  go_wp2_with (go_at_call 100; refine (formedBelow_line _ _ _ _ _ ps _ (by have := (H.out.alloc (Nat.le_refl _) (.cells #[.int .i64 2, .slice A n c, .slice none 0 0] 63)).more (B' := w.heap.size + 1) (by omega); simpa using this) hn hm hm2 (by omega)).mono ?_; rintro e w2 ⟨rfl, hb⟩)
  go_ret
  exact ⟨rfl, (by (repeat (first | (with_reducible exact Below.refl _ _) | (with_reducible assumption) | (with_reducible refine Below.drew ?_) | (with_reducible refine below_drewN ?_ _) | ((with_reducible refine below_alloc' ?_ ?_); (focus (first | (simp; done) | omega | (simp; omega)))) | ((with_reducible refine below_set' ?_ ?_); (focus (first | (simp; done) | omega | (simp; omega)))) | (with_reducible refine below_step ?_ (by assumption)) | (with_reducible refine below_step_since ?_ (by assumption)) | ((with_reducible refine below_since' (by assumption) ?_ ?_); (focus (first | (simp; done) | omega | (simp; omega)))) | ((with_reducible refine below_trans' (by assumption) ?_ ?_); (focus (first | (simp; done) | omega | (simp; omega)))))))⟩

theorem dPlaces_any (A : Option Addr) (n c : Nat) (m : Int) (ps : List (Int × Int)) (v : Bool) (w : World) (hv : inB m ps = v) (h : Reads w w.heap.size 2 A n (ps.flatMap ptCells)) (hn : n ≤ 200) (hm : 0 ≤ m) (hm2 : m ≤ 9223372036854775807) :
    Calls Try.prog 23 #[.int .i64 m, .slice A n c] w fun e w' => e = .returned (.bool v) ∧ Below w.heap.size w w' := by
  have H := Lib.hid h
  have HV := Lib.hid hv
  clear h hv
  go_enter Try.func23, Try.ntmps23
  go_wp2_with (go_at_call 66; refine (formed_line _ _ _ _ ps _ H.out (by omega) hm hm2).mono ?_; rintro e w2 ⟨rfl, hb⟩)
  go_ret
  exact ⟨by rw [← HV.out]; rfl, hb⟩
end Go.Proofs.Ytciblaabghiefaa
