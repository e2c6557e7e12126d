/- The signed number behind a door. -/
import Derived.Test.YtciblaabghiefaaVar4
namespace Go.Proofs.Ytciblaabghiefaa
open Go.RowKit
attribute [local go_sem] run_store_float
set_option maxRecDepth 100000

/-- What the door gives. -/
def DR (bs : List Nat) (x m : Int) (err : Value) : Prop := (∃ k, Ends bs k ∧ x = sv (acc bs (k + 1)) ∧ m = (k : Int) + 1 ∧ err = .nilIface) ∨ ((∀ k, ¬ Ends bs k) ∧ ∃ t u, err = .iface t u)

theorem parseVar_dr (A : Option Addr) (c g : Nat) (bs : List Nat) (w : World) (h : Reads w g 1 A bs.length (bs.map byteVal)) (hn : bs.length ≤ 2000) (hb : ∀ b ∈ bs, b < 256) (BG : Blk w g 152 (tpOf A bs.length c 0 0 2)) :
    Calls Try.prog 104 #[.pointer (some ⟨g, 0, none⟩)] w fun e w' =>
      (∃ x m err, e = .returned (.tuple #[.int .i64 x, err]) ∧ w'.cell? ⟨g, 1, none⟩ = some (.int .i64 m) ∧ (∀ i, w'.frozen? ⟨g, i, none⟩ = false) ∧ g < w'.heap.size ∧ DR bs x m err) ∧ Below g w w' := by
  refine (parseVar_any A c g bs w h hn hb BG).mono ?_
  rintro e w' ⟨⟨k, hk, rfl, B⟩ | ⟨hno, ⟨x, t, u, rfl⟩, B⟩, hb⟩
  · exact ⟨⟨_, _, _, rfl, B.cell_ 1 rfl, B.frozen, B.lt, .inl ⟨k, hk, rfl, rfl, rfl⟩⟩, hb⟩
  · exact ⟨⟨_, _, _, rfl, B.cell_ 1 rfl, B.frozen, B.lt, .inr ⟨hno, _, _, rfl⟩⟩, hb⟩

set_option maxHeartbeats 1000000 in
theorem doorVar_any (A : Option Addr) (c : Nat) (bs : List Nat) (w : World) (h : Reads w w.heap.size 1 A bs.length (bs.map byteVal)) (hn : bs.length ≤ 2000) (hb : ∀ b ∈ bs, b < 256) :
    Calls Try.prog 70 #[.slice A bs.length c] w fun e w' => (∃ x m err, e = .returned (.tuple #[.int .i64 x, .int .i64 m, err]) ∧ DR bs x m err) ∧ Below w.heap.size w w' := by
  have HP := fun (W : World) (g : Nat) (BG : Blk W g 152 (tpOf A bs.length c 0 0 2)) (hW : Below w.heap.size w W) (hg : w.heap.size ≤ g) => Lib.hid (parseVar_dr A c g bs W ((h.below hW).more hg) hn hb BG)
  clear h hb hn
  generalize bs.length = n at *
  have HN := fun W => Lib.hid (newTWKB_any A n c W)
  have hz := zero_tp
  have hs := fun w => store_tp (tpOf none 0 0 0 0 0) (tpOf A n c 0 0 2) rfl rfl (by simp [tpOf, Value.oneCell']) w
  have hsz : (tpOf none 0 0 0 0 0).size = 25 := rfl
  have hsz2 : (tpOf A n c 0 0 2).size = 25 := rfl
  have hne : tpOf none 0 0 0 0 0 ≠ #[] := by intro h; rw [h] at hsz; cases hsz
  generalize tpOf A n c 0 0 2 = cs at *
  generalize tpOf none 0 0 0 0 0 = cs0 at *
  go_enter Try.func70, Try.ntmps70
  go_upto_region 3 with (first | (go_at_call 103; (with_reducible refine Calls.mono ((HN _).out) ?_); rintro e w2 ⟨rfl, hb⟩) | (go_at_call 104; (with_reducible refine Calls.mono (HP _ _ (Blk.new _ _ _) (by have := hb.size; (repeat (first | (with_reducible exact Below.refl _ _) | (with_reducible assumption) | (with_reducible refine Below.drew ?_) | (with_reducible refine below_drewN ?_ _) | ((with_reducible refine below_alloc' ?_ ?_); (focus (first | (simp; done) | omega | (simp; omega)))) | ((with_reducible refine below_set' ?_ ?_); (focus (first | (simp; done) | omega | (simp; omega)))) | (with_reducible refine below_step ?_ (by assumption)) | (with_reducible refine below_step_since ?_ (by assumption)) | ((with_reducible refine below_since' (by assumption) ?_ ?_); (focus (first | (simp; done) | omega | (simp; omega)))) | ((with_reducible refine below_trans' (by assumption) ?_ ?_); (focus (first | (simp; done) | omega | (simp; omega))))))) (by have := hb.size; omega)).out ?_); rintro e w3 ⟨⟨x, m, err, rfl, c1, fg, lg, hdr⟩, hb3⟩))
  have hsz1 := hb.size
  have HB : Below w.heap.size w w3 := by have := hb3.mono hsz1; (repeat (first | (with_reducible exact Below.refl _ _) | (with_reducible assumption) | (with_reducible refine Below.drew ?_) | (with_reducible refine below_drewN ?_ _) | ((with_reducible refine below_alloc' ?_ ?_); (focus (first | (simp; done) | omega | (simp; omega)))) | ((with_reducible refine below_set' ?_ ?_); (focus (first | (simp; done) | omega | (simp; omega)))) | (with_reducible refine below_step ?_ (by assumption)) | (with_reducible refine below_step_since ?_ (by assumption)) | ((with_reducible refine below_since' (by assumption) ?_ ?_); (focus (first | (simp; done) | omega | (simp; omega)))) | ((with_reducible refine below_trans' (by assumption) ?_ ?_); (focus (first | (simp; done) | omega | (simp; omega))))))
  go_region
  go_wp2
  go_ret3
  exact ⟨⟨_, _, _, rfl, hdr⟩, HB.drew⟩
end Go.Proofs.Ytciblaabghiefaa
