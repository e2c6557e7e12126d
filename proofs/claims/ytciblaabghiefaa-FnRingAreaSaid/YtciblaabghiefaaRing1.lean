/- spec.Area2: the sum of the cross products. -/
import Derived.Test.YtciblaabghiefaaPts
import Derived.Test.YtciblaabghiefaaRegionB
namespace Go.Proofs.Ytciblaabghiefaa
open Go.RowKit
set_option maxRecDepth 100000

theorem mul_bd {a b m k : Int} (ha : -m ≤ a ∧ a ≤ m) (hb : -k ≤ b ∧ b ≤ k) : -(m * k) ≤ a * b ∧ a * b ≤ m * k := by
  have h1 : a.natAbs ≤ m.toNat := by omega
  have h2 : b.natAbs ≤ k.toNat := by omega
  have h3 : (a * b).natAbs ≤ m.toNat * k.toNat := by rw [Int.natAbs_mul]; exact Nat.mul_le_mul h1 h2
  have h4 : ((m.toNat * k.toNat : Nat) : Int) = m * k := by
    rw [Int.natCast_mul, Int.toNat_of_nonneg (by omega), Int.toNat_of_nonneg (by omega)]
  omega

theorem drew_cell {w : World} {p : Addr} {v : Option Value} (h : w.cell? p = v) : w.drew.cell? p = v := h

def px (ps : List (Int × Int)) (i : Nat) : Int := (ps[i]?.getD (0, 0)).1
def py (ps : List (Int × Int)) (i : Nat) : Int := (ps[i]?.getD (0, 0)).2
/-- The sum of the first k - 1 cross products. -/
def cr (ps : List (Int × Int)) : Nat → Int
  | 0 => 0
  | k + 1 => if k = 0 then 0 else cr ps k + (px ps (k - 1) * py ps k - px ps k * py ps (k - 1))
theorem cr_step (ps : List (Int × Int)) {k : Nat} (hk : 0 < k) : cr ps (k + 1) = cr ps k + (px ps (k - 1) * py ps k - px ps k * py ps (k - 1)) := by
  rw [cr, if_neg (by omega)]

def inP (ps : List (Int × Int)) : Prop := ∀ i, (-1048576 ≤ px ps i ∧ px ps i ≤ 1048576) ∧ (-1048576 ≤ py ps i ∧ py ps i ≤ 1048576)
theorem cross_bd {ps : List (Int × Int)} (h : inP ps) (i j : Nat) : -1099511627776 ≤ px ps i * py ps j ∧ px ps i * py ps j ≤ 1099511627776 := mul_bd (m := 1048576) (k := 1048576) (h i).1 (h j).2
theorem cr_bd {ps : List (Int × Int)} (h : inP ps) : ∀ k : Nat, -(2199023255552 * (k : Int)) ≤ cr ps k ∧ cr ps k ≤ 2199023255552 * (k : Int)
  | 0 => by simp [cr]
  | k + 1 => by
    have := cr_bd h k
    have h1 := cross_bd h (k - 1) k
    have h2 := cross_bd h k (k - 1)
    rw [cr]
    split <;> omega

theorem pts_cells {ps : List (Int × Int)} {i : Nat} (hi : i < ps.length) : (ps.flatMap ptCells)[i * 2]? = some (.int .i64 (px ps i)) ∧ (ps.flatMap ptCells)[i * 2 + 1]? = some (.int .i64 (py ps i)) := by
  have g0 := flat_get ptCells 2 (fun _ => rfl) ps i 0 hi (by omega)
  have g1 := flat_get ptCells 2 (fun _ => rfl) ps i 1 hi (by omega)
  have e : ps[i]?.getD (0, 0) = ps[i] := by rw [List.getElem?_eq_getElem hi]; rfl
  unfold px py
  rw [e]
  exact ⟨g0, g1⟩

set_option maxHeartbeats 1000000 in
theorem area2_any (A : Option Addr) (n c : Nat) (ps : List (Int × Int)) (w : World) (h : Reads w w.heap.size 2 A n (ps.flatMap ptCells)) (hn : n ≤ 200) (h0 : 0 < n) (hp : inP ps) :
    Calls Try.prog 35 #[.slice A n c] w fun e w' => e = .returned (.int .i64 (cr ps n)) ∧ Below w.heap.size w w' := by
  have hl : ps.length = n := by have := h.1; rw [flat_length ptCells 2 (fun _ => rfl)] at this; omega
  obtain ⟨b, off, rfl, had, hcell⟩ := h.cellAt (by omega) (by omega)
  have HP := Lib.hid hp
  clear hp
  go_enter Try.func35, Try.ntmps35
  go_wp2
  go_loopw [3, 4] (fun v i wr => ∃ k : Nat, 1 ≤ k ∧ k ≤ n ∧ i = .int .i64 k ∧ v = .int .i64 (cr ps k) ∧ Below w.heap.size w wr) (fun _ i _ => n - (intOf i).toNat)
  case atStart => exact ⟨1, by omega, by omega, rfl, by simp [cr], Below.refl _ _⟩
  case round =>
    obtain ⟨k, h1, hk, rfl, rfl, HB⟩ := hrel
    by_cases hlt : k < n
    · obtain ⟨x1, y1⟩ := pts_cells (ps := ps) (i := k) (by omega)
      obtain ⟨x0, y0⟩ := pts_cells (ps := ps) (i := k - 1) (by omega)
      have e1 : wr.cell? ⟨b, off + k * 2, none⟩ = some (.int .i64 (px ps k)) := ((bcell HB).1 _ _ had).trans (hcell _ _ x1)
      have e2 : wr.cell? ⟨b, off + k * 2 + 1, none⟩ = some (.int .i64 (py ps k)) := ((bcell HB).1 _ _ had).trans (hcell _ _ y1)
      have e3 : wr.cell? ⟨b, off + (k - 1) * 2, none⟩ = some (.int .i64 (px ps (k - 1))) := ((bcell HB).1 _ _ had).trans (hcell _ _ x0)
      have e4 : wr.cell? ⟨b, off + (k - 1) * 2 + 1, none⟩ = some (.int .i64 (py ps (k - 1))) := ((bcell HB).1 _ _ had).trans (hcell _ _ y0)
      have lb : b < wr.heap.size := Nat.lt_of_lt_of_le had HB.size
      have c1 := cross_bd HP.out (k - 1) k
      have c2 := cross_bd HP.out k (k - 1)
      have c3 := cr_bd HP.out k
      have HV : Hid _ := cr_step ps (show 0 < k by omega)
      clear x0 x1 y0 y1
      generalize px ps k = u1 at *
      generalize py ps k = v1 at *
      generalize px ps (k - 1) = u0 at *
      generalize py ps (k - 1) = v0 at *
      generalize cr ps k = s at *
      have w1 : IntKind.i64.wrap (u0 * v1) = u0 * v1 := IntWalk.i64_in _ (by omega)
      have w2 : IntKind.i64.wrap (u1 * v0) = u1 * v0 := IntWalk.i64_in _ (by omega)
      have w3 : IntKind.i64.wrap (u0 * v1 - u1 * v0) = u0 * v1 - u1 * v0 := IntWalk.i64_in _ (by omega)
      have w4 : IntKind.i64.wrap (s + (u0 * v1 - u1 * v0)) = s + (u0 * v1 - u1 * v0) := IntWalk.i64_in _ (by omega)
      have w5 : IntKind.i64.wrap ((k - 1 : Nat) : Int) = ((k - 1 : Nat) : Int) := IntWalk.i64_in _ (by omega)
      have w6 : (k : Int) - 1 = ((k - 1 : Nat) : Int) := by omega
      have q1 : k - 1 < n := by omega
      go_upto_region 5 with (fail)
      (refine left_startS (by kernel_rfl) ?_)
      replace e1 := drew_cell e1; replace e2 := drew_cell e2; replace e3 := drew_cell e3; replace e4 := drew_cell e4
      replace HB := HB.drew
      replace lb : b < (World.drew wr).heap.size := lb
      generalize World.drew wr = W at *
      have HS0 := Since.refl W
      (refine left_look 0 rfl (by kernel_rfl) HS0 ⟨?_, ?_, ?_, ?_⟩; rotate_left 2; (intro w1 hS K hK; have hc := Since.cell hS; have hf := Since.frz hS; have hz := Since.size hS; go_simp; (first | done | exact hK)); rotate_left 1; rfl); (refine left_look 1 rfl (by kernel_rfl) HS0 ⟨?_, ?_, ?_, ?_⟩; rotate_left 2; (intro w1 hS K hK; have hc := Since.cell hS; have hf := Since.frz hS; have hz := Since.size hS; go_simp; (first | done | exact hK)); rotate_left 1; rfl); (refine left_look 2 rfl (by kernel_rfl) HS0 ⟨?_, ?_, ?_, ?_⟩; rotate_left 2; (intro w1 hS K hK; have hc := Since.cell hS; have hf := Since.frz hS; have hz := Since.size hS; go_simp; (first | done | exact hK)); rotate_left 1; rfl); (refine left_look 3 rfl (by kernel_rfl) HS0 ⟨?_, ?_, ?_, ?_⟩; rotate_left 2; (intro w1 hS K hK; have hc := Since.cell hS; have hf := Since.frz hS; have hz := Since.size hS; go_simp; (first | done | exact hK)); rotate_left 1; rfl); (refine left_look 4 rfl (by kernel_rfl) HS0 ⟨?_, ?_, ?_, ?_⟩; rotate_left 2; (intro w1 hS K hK; have hc := Since.cell hS; have hf := Since.frz hS; have hz := Since.size hS; go_simp; (first | done | exact hK)); rotate_left 1; rfl); (refine left_look 5 rfl (by kernel_rfl) HS0 ⟨?_, ?_, ?_, ?_⟩; rotate_left 2; (intro w1 hS K hK; have hc := Since.cell hS; have hf := Since.frz hS; have hz := Since.size hS; go_simp; (first | done | exact hK)); rotate_left 1; rfl); (refine left_look 6 rfl (by kernel_rfl) HS0 ⟨?_, ?_, ?_, ?_⟩; rotate_left 2; (intro w1 hS K hK; have hc := Since.cell hS; have hf := Since.frz hS; have hz := Since.size hS; go_simp; (first | done | exact hK)); rotate_left 1; rfl); (refine left_look 7 rfl (by kernel_rfl) HS0 ⟨?_, ?_, ?_, ?_⟩; rotate_left 2; (intro w1 hS K hK; have hc := Since.cell hS; have hf := Since.frz hS; have hz := Since.size hS; go_simp; (first | done | exact hK)); rotate_left 1; rfl); (refine left_look 8 rfl (by kernel_rfl) HS0 ⟨?_, ?_, ?_, ?_⟩; rotate_left 2; (intro w1 hS K hK; have hc := Since.cell hS; have hf := Since.frz hS; have hz := Since.size hS; go_simp; (first | done | exact hK)); rotate_left 1; rfl); (refine left_look 9 rfl (by kernel_rfl) HS0 ⟨?_, ?_, ?_, ?_⟩; rotate_left 2; (intro w1 hS K hK; have hc := Since.cell hS; have hf := Since.frz hS; have hz := Since.size hS; go_simp; (first | done | exact hK)); rotate_left 1; rfl); (refine left_look 10 rfl (by kernel_rfl) HS0 ⟨?_, ?_, ?_, ?_⟩; rotate_left 2; (intro w1 hS K hK; have hc := Since.cell hS; have hf := Since.frz hS; have hz := Since.size hS; go_simp; (first | done | exact hK)); rotate_left 1; rfl); (refine left_look 11 rfl (by kernel_rfl) HS0 ⟨?_, ?_, ?_, ?_⟩; rotate_left 2; (intro w1 hS K hK; have hc := Since.cell hS; have hf := Since.frz hS; have hz := Since.size hS; go_simp; (first | done | exact hK)); rotate_left 1; rfl); (refine left_look 12 rfl (by kernel_rfl) HS0 ⟨?_, ?_, ?_, ?_⟩; rotate_left 2; (intro w1 hS K hK; have hc := Since.cell hS; have hf := Since.frz hS; have hz := Since.size hS; go_simp; (first | done | exact hK)); rotate_left 1; rfl); (refine left_look 13 rfl (by kernel_rfl) HS0 ⟨?_, ?_, ?_, ?_⟩; rotate_left 2; (intro w1 hS K hK; have hc := Since.cell hS; have hf := Since.frz hS; have hz := Since.size hS; go_simp; (first | done | exact hK)); rotate_left 1; rfl); (refine left_look 14 rfl (by kernel_rfl) HS0 ⟨?_, ?_, ?_, ?_⟩; rotate_left 2; (intro w1 hS K hK; have hc := Since.cell hS; have hf := Since.frz hS; have hz := Since.size hS; go_simp; (first | done | exact hK)); rotate_left 1; rfl); (refine left_look 15 rfl (by kernel_rfl) HS0 ⟨?_, ?_, ?_, ?_⟩; rotate_left 2; (intro w1 hS K hK; have hc := Since.cell hS; have hf := Since.frz hS; have hz := Since.size hS; go_simp; (first | done | exact hK)); rotate_left 1; rfl); (refine left_look 16 rfl (by kernel_rfl) HS0 ⟨?_, ?_, ?_, ?_⟩; rotate_left 2; (intro w1 hS K hK; have hc := Since.cell hS; have hf := Since.frz hS; have hz := Since.size hS; go_simp; (first | done | exact hK)); rotate_left 1; rfl); (refine left_look 17 rfl (by kernel_rfl) HS0 ⟨?_, ?_, ?_, ?_⟩; rotate_left 2; (intro w1 hS K hK; have hc := Since.cell hS; have hf := Since.frz hS; have hz := Since.size hS; go_simp; (first | done | exact hK)); rotate_left 1; rfl); (refine left_look 18 rfl (by kernel_rfl) HS0 ⟨?_, ?_, ?_, ?_⟩; rotate_left 2; (intro w1 hS K hK; have hc := Since.cell hS; have hf := Since.frz hS; have hz := Since.size hS; go_simp; (first | done | exact hK)); rotate_left 1; rfl); (refine left_look 19 rfl (by kernel_rfl) HS0 ⟨?_, ?_, ?_, ?_⟩; rotate_left 2; (intro w1 hS K hK; have hc := Since.cell hS; have hf := Since.frz hS; have hz := Since.size hS; go_simp; (first | done | exact hK)); rotate_left 1; rfl); (refine left_look 20 rfl (by kernel_rfl) HS0 ⟨?_, ?_, ?_, ?_⟩; rotate_left 2; (intro w1 hS K hK; have hc := Since.cell hS; have hf := Since.frz hS; have hz := Since.size hS; go_simp; (first | done | exact hK)); rotate_left 1; rfl); (refine left_look 21 rfl (by kernel_rfl) HS0 ⟨?_, ?_, ?_, ?_⟩; rotate_left 2; (intro w1 hS K hK; have hc := Since.cell hS; have hf := Since.frz hS; have hz := Since.size hS; go_simp; (first | done | exact hK)); rotate_left 1; rfl); (refine left_look 22 rfl (by kernel_rfl) HS0 ⟨?_, ?_, ?_, ?_⟩; rotate_left 2; (intro w1 hS K hK; have hc := Since.cell hS; have hf := Since.frz hS; have hz := Since.size hS; go_simp; (first | done | exact hK)); rotate_left 1; rfl); (refine left_look 23 rfl (by kernel_rfl) HS0 ⟨?_, ?_, ?_, ?_⟩; rotate_left 2; (intro w1 hS K hK; have hc := Since.cell hS; have hf := Since.frz hS; have hz := Since.size hS; go_simp; (first | done | exact hK)); rotate_left 1; rfl); (refine left_look 24 rfl (by kernel_rfl) HS0 ⟨?_, ?_, ?_, ?_⟩; rotate_left 2; (intro w1 hS K hK; have hc := Since.cell hS; have hf := Since.frz hS; have hz := Since.size hS; go_simp; (first | done | exact hK)); rotate_left 1; rfl); (refine left_look 25 rfl (by kernel_rfl) HS0 ⟨?_, ?_, ?_, ?_⟩; rotate_left 2; (intro w1 hS K hK; have hc := Since.cell hS; have hf := Since.frz hS; have hz := Since.size hS; go_simp; (first | done | exact hK)); rotate_left 1; rfl); (refine left_look 26 rfl (by kernel_rfl) HS0 ⟨?_, ?_, ?_, ?_⟩; rotate_left 2; (intro w1 hS K hK; have hc := Since.cell hS; have hf := Since.frz hS; have hz := Since.size hS; go_simp; (first | done | exact hK)); rotate_left 1; rfl); (refine left_look 27 rfl (by kernel_rfl) HS0 ⟨?_, ?_, ?_, ?_⟩; rotate_left 2; (intro w1 hS K hK; have hc := Since.cell hS; have hf := Since.frz hS; have hz := Since.size hS; go_simp; (first | done | exact hK)); rotate_left 1; rfl)
      (refine left_end (by kernel_rfl) ?_)
      clear HS0
      go_wp2
      refine ⟨⟨k + 1, by omega, by omega, by go_num, by rw [HV.out], HB⟩, by simp [intOf]; omega⟩
    · obtain rfl : k = n := by omega
      clear h HP hcell
      generalize hs : cr ps k = s at *
      have HSS := Lib.hid hs
      clear hs
      go_wp2
      go_ret
      exact ⟨by rw [HSS.out]; rfl, HB⟩
end Go.Proofs.Ytciblaabghiefaa
