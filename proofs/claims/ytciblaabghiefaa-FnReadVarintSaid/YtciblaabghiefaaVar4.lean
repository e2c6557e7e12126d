/- The parser that reads one signed number. -/
import Derived.Test.YtciblaabghiefaaVar3
import Derived.Test.YtciblaabghiefaaMatch1
import Derived.Deep.WholeRow
namespace Go.Proofs.Ytciblaabghiefaa
open Go.RowKit
attribute [local go_sem] run_store_float
set_option maxRecDepth 100000

/-- The parser's cells. -/
def tpOf (A : Option Addr) (n c : Nat) (p : Int) (k d : Int) : Array Value := #[.slice A n c, .int .i64 p, .int .i64 0, .int .u8 k, .int .i64 d, .int .i64 0, .bool false, .bool false, .int .i64 0, .int .i64 0, .float .f64 0, .float .f64 0, .float .f64 0, .float .f64 0, .bool false, .bool false, .bool false, .bool false, .bool false, .slice none 0 0, .slice none 0 0, .int .i64 0, .int .i64 0, .int .i64 0, .int .i64 0]

theorem build_tp (A : Option Addr) (n c : Nat) (w : World) : (Instr.build 152 #[(0, .slice A n c), (3, .int .u8 0), (4, .int .i64 2)]).run Try.prog w = .ok (.agg (tpOf A n c 0 0 2)) w := by kernel_rfl
theorem zero_tp (w : World) : (zeroValue 152).run Try.prog w = .ok (.agg (tpOf none 0 0 0 0 0)) w := by kernel_rfl

theorem store_tp (cs cs' : Array Value) (h : cs.size = 25) (h' : cs'.size = 25) (ho : cs'.all (·.oneCell') = true) (w : World) : (storeCells ⟨w.heap.size, 0, none⟩ cs'.toList 0).run Try.prog (w.alloc (.cells cs 152)) = .ok () (w.alloc (.cells cs' 152)) :=
  run_storeCells_new w _ cs cs' (by rw [h']; kernel_rfl) (by omega) ho

theorem newTWKB_any (A : Option Addr) (n c : Nat) (w : World) : Calls Try.prog 103 #[.slice A n c] w fun e w' => e = .returned (.agg (tpOf A n c 0 0 2)) ∧ Below w.heap.size w w' := by
  have hset : (((tpOf none 0 0 0 0 0).setIfInBounds 0 (.slice A n c)).setIfInBounds 3 (.int .u8 0)).setIfInBounds 4 (.int .i64 2) = tpOf A n c 0 0 2 := rfl
  have hsz : (tpOf none 0 0 0 0 0).size = 25 := rfl
  have hsz2 : (tpOf A n c 0 0 2).size = 25 := rfl
  have hne : tpOf none 0 0 0 0 0 ≠ #[] := by intro h; rw [h] at hsz; cases hsz
  have hz := zero_tp
  have hs := store_tp (tpOf none 0 0 0 0 0) (tpOf A n c 0 0 2) rfl rfl (by simp [tpOf, Value.oneCell'])
  generalize tpOf A n c 0 0 2 = cs at *
  generalize tpOf none 0 0 0 0 0 = cs0 at *
  go_enter Try.func103, Try.ntmps103
  go_wp2
  have B0 : Blk (w.alloc (.cells cs 152)) w.heap.size 152 cs := Blk.new _ _ _
  refine bodyPost_ret (results_cell_row Try.results103 _ _ _ _ _ (0, 0) _ rfl B0 Try.underlying152 rfl (by kernel_rfl)) rfl ⟨rfl, ?_⟩
  (repeat (first | (with_reducible exact Below.refl _ _) | (with_reducible assumption) | (with_reducible refine Below.drew ?_) | (with_reducible refine below_drewN ?_ _) | ((with_reducible refine below_alloc' ?_ ?_); (focus (first | (simp; done) | omega | (simp; omega)))) | ((with_reducible refine below_set' ?_ ?_); (focus (first | (simp; done) | omega | (simp; omega)))) | (with_reducible refine below_step ?_ (by assumption)) | (with_reducible refine below_step_since ?_ (by assumption)) | ((with_reducible refine below_since' (by assumption) ?_ ?_); (focus (first | (simp; done) | omega | (simp; omega)))) | ((with_reducible refine below_trans' (by assumption) ?_ ?_); (focus (first | (simp; done) | omega | (simp; omega))))))

/-- What `Varint` gives. -/
def VR (bs : List Nat) (x m : Int) : Prop := (∃ k, Ends bs k ∧ x = sv (acc bs (k + 1)) ∧ m = (k : Int) + 1) ∨ ((∀ k, ¬ Ends bs k) ∧ m ≤ 0)

theorem varint_vr (A : Option Addr) (c : Nat) (bs : List Nat) (w : World) (h : Reads w w.heap.size 1 A bs.length (bs.map byteVal)) (hn : bs.length ≤ 2000) (hb : ∀ b ∈ bs, b < 256) :
    Calls Try.prog 127 #[.slice A bs.length c] w fun e w' => (∃ x m, e = .returned (.tuple #[.int .i64 x, .int .i64 m]) ∧ VR bs x m) ∧ Below w.heap.size w w' := by
  refine (varint_any A c bs w h hn hb).mono ?_
  rintro e w' ⟨⟨k, hk, rfl⟩ | ⟨hno, x, m, hm, rfl⟩, hb⟩
  · exact ⟨⟨_, _, rfl, .inl ⟨k, hk, rfl, rfl⟩⟩, hb⟩
  · exact ⟨⟨_, _, rfl, .inr ⟨hno, hm⟩⟩, hb⟩

set_option maxHeartbeats 1000000 in
theorem parseVar_any (A : Option Addr) (c g : Nat) (bs : List Nat) (w : World) (h : Reads w g 1 A bs.length (bs.map byteVal)) (hn : bs.length ≤ 2000) (hb : ∀ b ∈ bs, b < 256) (BG : Blk w g 152 (tpOf A bs.length c 0 0 2)) :
    Calls Try.prog 104 #[.pointer (some ⟨g, 0, none⟩)] w fun e w' =>
      ((∃ k, Ends bs k ∧ e = .returned (.tuple #[.int .i64 (sv (acc bs (k + 1))), .nilIface]) ∧ Blk w' g 152 (tpOf A bs.length c ((k : Int) + 1) 0 2)) ∨
       ((∀ k, ¬ Ends bs k) ∧ (∃ x t u, e = .returned (.tuple #[.int .i64 x, .iface t u])) ∧ Blk w' g 152 (tpOf A bs.length c 0 0 2))) ∧ Below g w w' := by
  have HV := fun (W : World) (hW : Below w.heap.size w W) => Lib.hid (varint_vr A c bs W ((h.more (Nat.le_of_lt BG.lt)).below hW |>.more hW.size) hn hb)
  have lg := BG.lt
  clear h hb
  generalize hn' : bs.length = n at *
  have sl0 : ∀ w, (Instr.slice 50 (.slice A n c) (some (.int .i64 0)) none none).run Try.prog w = .ok (.slice A n c) w := by
    intro w
    rw [run_slice_l (ht := Try.underlying50) (h0 := by omega) (h1 := by omega)]
    have hs : (sizeOf (Try.prog.elem 50)).run Try.prog w = .ok 1 w := by kernel_rfl
    rw [hs]
    have ha : (fun x : Addr => x.add 0) = id := by funext x; rfl
    simp [Result.andThen, sliced, ha]
  go_enter Try.func104, Try.ntmps104
  go_wp2
  (refine region_start (by kernel_rfl) ?_)
  generalize hW : World.drew w = W
  have HB : Below w.heap.size w W := by rw [← hW]; exact (Below.refl _ _).drew
  have B0 := BG.drew
  rw [hW] at B0
  clear hW
  have lg1 := B0.lt
  have c0 : W.cell? ⟨g, 0, none⟩ = some (.slice A n c) := B0.cell_ 0 rfl
  have c1 : W.cell? ⟨g, 1, none⟩ = some (.int .i64 0) := B0.cell_ 1 rfl
  have fg := B0.frozen
  (refine from_stretch (Since _) 0 9 (by kernel_rfl) (Since.refl _) ?_; simp only [List.take_succ_cons, List.take_zero, List.drop_zero]; (iterate 9 (refine wpStay_step (Since.ne _) ⟨?_, ?_, ?_, ?_⟩; rotate_left 2; (intro w1 hS K hK; have hc := Since.cell hS; have hf := Since.frz hS; have hz := Since.size hS; go_simp; (first | exact hK _ hS)); rotate_left 1; rfl)); refine wpStay_nil ?_; intro w1 hS; have hc := Since.cell hS; have hf := Since.frz hS; have hz := Since.size hS)
  replace HB := below_step_since HB hS
  replace B0 := Blk.below B0 hS B0.lt
  (refine from_one rfl (by kernel_rfl) fun K hK => ?_; go_simp; (first | with_reducible refine hK _ _ ?_ | (go_at_call 127; (with_reducible refine Calls.mono ((HV _ HB).out) ?_); rintro e w2 ⟨⟨x, m, rfl, hvr⟩, hb⟩; (try go_simp); refine hK _ _ ?_)); clear hK K)
  replace HB := below_step HB hb
  replace B0 := Blk.below B0 hb B0.lt
  clear hc hf hz hS
  (refine from_stretch (Since _) 10 5 (by kernel_rfl) (Since.refl _) ?_; simp only [List.take_succ_cons, List.take_zero, List.drop_zero, List.drop_succ_cons]; (iterate 5 (refine wpStay_step (Since.ne _) ⟨?_, ?_, ?_, ?_⟩; rotate_left 2; (intro w1 hS K hK; have hc := Since.cell hS; have hf := Since.frz hS; have hz := Since.size hS; go_simp; (first | exact hK _ hS)); rotate_left 1; rfl)); refine wpStay_nil ?_; intro w1 hS; have hc := Since.cell hS; have hf := Since.frz hS; have hz := Since.size hS)
  replace HB := below_step_since HB hS
  replace B0 := Blk.below B0 hS B0.lt
  clear hc hf hz hS
  (refine from_end (by kernel_rfl) ?_)
  rcases hvr with ⟨k, hk, rfl, rfl⟩ | ⟨hno, hm⟩
  · have hk9 : (k : Int) ≤ 9 := by have := hk.2.1; omega
    have e1 : ((k : Int) + 1 == 0) = false := by simp; omega
    have e2 : ¬ ((k : Int) + 1 < 0) := by omega
    have e3 : IntKind.i64.wrap (0 + ((k : Int) + 1)) = (k : Int) + 1 := by rw [IntWalk.i64_in _ (by omega)]; omega
    have e4 : IntKind.i64.wrap ((k : Int) + 1) = (k : Int) + 1 := IntWalk.i64_in _ (by omega)
    clear c0 c1 fg lg1
    rename_i w3 _
    have lg1 := B0.lt
    have c0 : w1.cell? ⟨g, 0, none⟩ = some (.slice A n c) := B0.cell_ 0 rfl
    have c1 : w1.cell? ⟨g, 1, none⟩ = some (.int .i64 0) := B0.cell_ 1 rfl
    have fg := B0.frozen
    go_wp2
    go_ret2
    exact ⟨Or.inl ⟨k, hk, rfl, B0.set_ 1 _⟩, by have := HB.mono (Nat.le_of_lt lg); (repeat (first | (with_reducible exact Below.refl _ _) | (with_reducible assumption) | (with_reducible refine Below.drew ?_) | (with_reducible refine below_drewN ?_ _) | ((with_reducible refine below_alloc' ?_ ?_); (focus (first | (simp; done) | omega | (simp; omega)))) | ((with_reducible refine below_set' ?_ ?_); (focus (first | (simp; done) | omega | (simp; omega)))) | (with_reducible refine below_step ?_ (by assumption)) | (with_reducible refine below_step_since ?_ (by assumption)) | ((with_reducible refine below_since' (by assumption) ?_ ?_); (focus (first | (simp; done) | omega | (simp; omega)))) | ((with_reducible refine below_trans' (by assumption) ?_ ?_); (focus (first | (simp; done) | omega | (simp; omega))))))⟩
  · have lg1 := B0.lt
    clear c0 c1 fg
    by_cases e0 : m = 0
    · subst e0
      go_wp2_with (go_at_call 102; refine (errNew_any _ _).mono ?_; rintro e w2 ⟨⟨t, u, rfl⟩, hb⟩)
      go_ret2
      exact ⟨Or.inr ⟨hno, ⟨_, t, u, rfl⟩, Blk.below B0 hb lg1⟩, by have := HB.mono (Nat.le_of_lt lg); have := hb.mono (Nat.le_of_lt lg1); exact Below.trans ‹_› ‹_›⟩
    · have e1 : (m == 0) = false := by simp; omega
      have e2 : m < 0 := by omega
      clear e0 hm
      go_wp2_with (go_at_call 102; refine (errNew_any _ _).mono ?_; rintro e w2 ⟨⟨t, u, rfl⟩, hb⟩)
      go_ret2
      exact ⟨Or.inr ⟨hno, ⟨_, t, u, rfl⟩, Blk.below B0 hb lg1⟩, by have := HB.mono (Nat.le_of_lt lg); have := hb.mono (Nat.le_of_lt lg1); exact Below.trans ‹_› ‹_›⟩

end Go.Proofs.Ytciblaabghiefaa
