/- Sequences of numbers. -/
import Derived.Test.YtciblaabghiefaaEnv1
import Derived.Laws.CopyOwn
import Derived.Deep.OwnRows
import Derived.Laws.BitsAllLaws
import Derived.Laws.Bits128
namespace Go.Proofs.Ytciblaabghiefaa
open Go.RowKit
attribute [local go_sem] run_store_float
set_option maxRecDepth 100000

theorem i64_and3 (n : Int) : bits .and .i64 n 3 = n % 4 := by
  have h3 : (BitVec.ofInt 64 3).toNat = 2 ^ 2 - 1 := by decide
  have key : (BitVec.ofInt 64 n &&& BitVec.ofInt 64 3).toNat = (n % ((2 ^ 64 : Nat) : Int)).toNat % 2 ^ 2 := by
    rw [BitVec.toNat_and, BitVec.toNat_ofInt, h3, Nat.and_two_pow_sub_one_eq_mod]
  show IntKind.i64.wrap ((BitVec.ofInt 64 n &&& BitVec.ofInt 64 3).toNat : Nat) = n % 4
  rw [key, IntKind.wrap_i64]
  omega
/-- The numbers of a place of a type of coordinates. -/
def wd (d : Int) : Nat := if d = 0 then 2 else if d = 3 then 4 else 3
theorem mod4_cases (n : Int) : n % 4 = 0 ∨ n % 4 = 1 ∨ n % 4 = 2 ∨ n % 4 = 3 := by omega

theorem dimOf_any (n : Int) (w : World) : Calls Try.prog 82 #[.int .i64 n] w fun e w' => e = .returned (.int .u8 (n % 4)) ∧ Below w.heap.size w w' := by
  have h := i64_and3 n
  have h' := mod4_cases n
  generalize hm : n % 4 = m at *
  rcases h' with rfl | rfl | rfl | rfl
  all_goals
    clear hm
    go_enter Try.func82, Try.ntmps82
    go_wp2
    go_ret
    exact ⟨rfl, (by (repeat (first | (with_reducible exact Below.refl _ _) | (with_reducible assumption) | (with_reducible refine Below.drew ?_) | (with_reducible refine below_drewN ?_ _) | ((with_reducible refine below_alloc' ?_ ?_); (focus (first | (simp; done) | omega | (simp; omega)))) | ((with_reducible refine below_set' ?_ ?_); (focus (first | (simp; done) | omega | (simp; omega)))) | (with_reducible refine below_step ?_ (by assumption)) | (with_reducible refine below_step_since ?_ (by assumption)) | ((with_reducible refine below_since' (by assumption) ?_ ?_); (focus (first | (simp; done) | omega | (simp; omega)))) | ((with_reducible refine below_trans' (by assumption) ?_ ?_); (focus (first | (simp; done) | omega | (simp; omega)))))))⟩

theorem dimension_any (d : Int) (hd : d = 0 ∨ d = 1 ∨ d = 2 ∨ d = 3) (w : World) : Calls Try.prog 98 #[.int .u8 d] w fun e w' => e = .returned (.int .i64 (wd d)) ∧ Below w.heap.size w w' := by
  have hi : ∀ d : Int, (d = 0 ∨ d = 1 ∨ d = 2 ∨ d = 3) → ∀ w, (Instr.index 169 (.agg #[.int .i64 2, .int .i64 3, .int .i64 3, .int .i64 4]) (.int .u8 d)).run Try.prog w = .ok (.int .i64 (wd d)) w := by
    intro d hd w
    rcases hd with rfl | rfl | rfl | rfl <;> kernel_rfl
  have hi := hi d hd
  rcases hd with rfl | rfl | rfl | rfl
  all_goals
    go_enter Try.func98, Try.ntmps98
    go_wp2
    go_ret
    exact ⟨rfl, (by (repeat (first | (with_reducible exact Below.refl _ _) | (with_reducible assumption) | (with_reducible refine Below.drew ?_) | (with_reducible refine below_drewN ?_ _) | ((with_reducible refine below_alloc' ?_ ?_); (focus (first | (simp; done) | omega | (simp; omega)))) | ((with_reducible refine below_set' ?_ ?_); (focus (first | (simp; done) | omega | (simp; omega)))) | (with_reducible refine below_step ?_ (by assumption)) | (with_reducible refine below_step_since ?_ (by assumption)) | ((with_reducible refine below_since' (by assumption) ?_ ?_); (focus (first | (simp; done) | omega | (simp; omega)))) | ((with_reducible refine below_trans' (by assumption) ?_ ?_); (focus (first | (simp; done) | omega | (simp; omega)))))))⟩

theorem wd_cases (d : Int) (hd : d = 0 ∨ d = 1 ∨ d = 2 ∨ d = 3) : wd d = 2 ∨ wd d = 3 ∨ wd d = 4 := by rcases hd with rfl | rfl | rfl | rfl <;> simp [wd]

theorem length_any (d : Int) (hd : d = 0 ∨ d = 1 ∨ d = 2 ∨ d = 3) (A : Option Addr) (n c : Nat) (hn : n ≤ 140737488355328) (w : World) :
    Calls Try.prog 61 #[.agg #[.int .u8 d, .slice A n c]] w fun e w' => e = .returned (.int .i64 ((n : Int) / (wd d : Int))) ∧ Below w.heap.size w w' := by
  have HD := fun W => Lib.hid (dimension_any d hd W)
  have h2 := wd_cases d hd
  generalize wd d = k at *
  have hk0 : ¬ k = 0 := by omega
  have hwr : IntKind.i64.wrap ((n : Int) / (k : Int)) = (n : Int) / (k : Int) := by
    have h0 : (0 : Int) ≤ (n : Int) / (k : Int) := Int.ediv_nonneg (by omega) (by omega)
    have h1 : (n : Int) / (k : Int) ≤ n := Int.ediv_le_self _ (by omega)
    exact IntWalk.i64_in _ (by omega)
  clear hd h2 hn
  go_enter Try.func61, Try.ntmps61
  go_wp2
  (refine region_start (by kernel_rfl) ?_)
  generalize hW : World.drew _ = W; have HB : Below w.heap.size w W := (by (rw [← hW]; (repeat (first | (with_reducible exact Below.refl _ _) | (with_reducible assumption) | (with_reducible refine Below.drew ?_) | (with_reducible refine below_drewN ?_ _) | ((with_reducible refine below_alloc' ?_ ?_); (focus (first | (simp; done) | omega | (simp; omega)))) | ((with_reducible refine below_set' ?_ ?_); (focus (first | (simp; done) | omega | (simp; omega)))) | (with_reducible refine below_step ?_ (by assumption)) | (with_reducible refine below_step_since ?_ (by assumption)) | ((with_reducible refine below_since' (by assumption) ?_ ?_); (focus (first | (simp; done) | omega | (simp; omega)))) | ((with_reducible refine below_trans' (by assumption) ?_ ?_); (focus (first | (simp; done) | omega | (simp; omega)))))))); have B0 : Blk W w.heap.size 97 #[.int .u8 d, .slice A n c] := (by (rw [← hW]; (repeat (first | exact Blk.new' (by first | rfl | (simp; done) | (simp; omega)) | refine Blk.drew ?_ | refine Blk.alloc ?_ _)))); clear hW
  have l0 := B0.lt; have f0 := B0.frozen; have c0_0 := B0.cell_ 0 rfl; have c0_1 := B0.cell_ 1 rfl
  (refine from_stretch (Since _) 0 8 (by kernel_rfl) (Since.refl _) ?_; simp only [List.take_succ_cons, List.take_zero, List.drop_zero]; (iterate 8 (refine wpStay_step (Since.ne _) ⟨?_, ?_, ?_, ?_⟩; rotate_left 2; (intro w1 hS K hK; have hc := Since.cell hS; have hf := Since.frz hS; have hz := Since.size hS; go_simp; (first | exact hK _ hS | (go_at_call 98; (with_reducible refine Calls.mono ((HD _).out) ?_); rintro e w2 ⟨rfl, hb⟩; (try go_simp); exact hK _ (hS.then hb)))); rotate_left 1; rfl)); refine wpStay_nil ?_; intro w1 hS; have hc := Since.cell hS; have hf := Since.frz hS; have hz := Since.size hS)
  have HB := below_step HB hS
  (refine from_end (by kernel_rfl) ?_)
  go_wp2
  go_ret
  exact ⟨rfl, (by (repeat (first | (with_reducible exact Below.refl _ _) | (with_reducible assumption) | (with_reducible refine Below.drew ?_) | (with_reducible refine below_drewN ?_ _) | ((with_reducible refine below_alloc' ?_ ?_); (focus (first | (simp; done) | omega | (simp; omega)))) | ((with_reducible refine below_set' ?_ ?_); (focus (first | (simp; done) | omega | (simp; omega)))) | (with_reducible refine below_step ?_ (by assumption)) | (with_reducible refine below_step_since ?_ (by assumption)) | ((with_reducible refine below_since' (by assumption) ?_ ?_); (focus (first | (simp; done) | omega | (simp; omega)))) | ((with_reducible refine below_trans' (by assumption) ?_ ?_); (focus (first | (simp; done) | omega | (simp; omega)))))))⟩

theorem newSeq_any (d : Int) (hd : d = 0 ∨ d = 1 ∨ d = 2 ∨ d = 3) (A : Option Addr) (n c : Nat) (hm : n % wd d = 0) (w : World) :
    Calls Try.prog 81 #[.slice A n c, .int .u8 d] w fun e w' => e = .returned (.agg #[.int .u8 d, .slice A n c]) ∧ Below w.heap.size w w' := by
  have HD := fun W => Lib.hid (dimension_any d hd W)
  have h2 := wd_cases d hd
  generalize wd d = k at *
  have hk0 : ¬ k = 0 := by omega
  have hm' : (n : Int) % (k : Int) = 0 := by omega
  clear hd h2 hm
  go_enter Try.func81, Try.ntmps81
  go_wp2_with (go_at_call 98; (with_reducible refine Calls.mono ((HD _).out) ?_); rintro e w2 ⟨rfl, hb⟩; have HB : Below w.heap.size w w2 := (by (repeat (first | (with_reducible exact Below.refl _ _) | (with_reducible assumption) | (with_reducible refine Below.drew ?_) | (with_reducible refine below_drewN ?_ _) | ((with_reducible refine below_alloc' ?_ ?_); (focus (first | (simp; done) | omega | (simp; omega)))) | ((with_reducible refine below_set' ?_ ?_); (focus (first | (simp; done) | omega | (simp; omega)))) | (with_reducible refine below_step ?_ (by assumption)) | (with_reducible refine below_step_since ?_ (by assumption)) | ((with_reducible refine below_since' (by assumption) ?_ ?_); (focus (first | (simp; done) | omega | (simp; omega)))) | ((with_reducible refine below_trans' (by assumption) ?_ ?_); (focus (first | (simp; done) | omega | (simp; omega))))))); have B0 : Blk w2 w.heap.size 97 #[.int .u8 0, .slice none 0 0] := (Blk.new _ _ _).below hb (by first | (simp; done) | omega | (simp; omega)); clear hb; have l0 := B0.lt; have f0 := B0.frozen; have c0_0 := B0.cell_ 0 rfl; have c0_1 := B0.cell_ 1 rfl)
  have B0 := B0.set_ 0 (.int .u8 d); have B0 := B0.set_ 1 (.slice A n c); simp only [List.setIfInBounds_toArray, List.set_cons_zero, List.set_cons_succ] at B0; refine bodyPost_ret (results_cell_row Try.results81 _ _ _ _ _ (0, 0) _ rfl B0 Try.underlying97 rfl (by kernel_rfl)) rfl ⟨rfl, ?_⟩
  (repeat (first | (with_reducible exact Below.refl _ _) | (with_reducible assumption) | (with_reducible refine Below.drew ?_) | (with_reducible refine below_drewN ?_ _) | ((with_reducible refine below_alloc' ?_ ?_); (focus (first | (simp; done) | omega | (simp; omega)))) | ((with_reducible refine below_set' ?_ ?_); (focus (first | (simp; done) | omega | (simp; omega)))) | (with_reducible refine below_step ?_ (by assumption)) | (with_reducible refine below_step_since ?_ (by assumption)) | ((with_reducible refine below_since' (by assumption) ?_ ?_); (focus (first | (simp; done) | omega | (simp; omega)))) | ((with_reducible refine below_trans' (by assumption) ?_ ?_); (focus (first | (simp; done) | omega | (simp; omega))))))
end Go.Proofs.Ytciblaabghiefaa


