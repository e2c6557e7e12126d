/- Varint, UnZigZag, the parser's step. -/
import Derived.Test.YtciblaabghiefaaVar2
namespace Go.Proofs.Ytciblaabghiefaa
open Go.RowKit
set_option maxRecDepth 100000

def U64 (u : Int) : Prop := 0 ≤ u ∧ u < 18446744073709551616
theorem wrap_U64 (x : Int) : U64 (IntKind.u64.wrap x) := by
  unfold U64
  simp only [IntKind.wrap, IntKind.bits, IntKind.signed]
  simp
  omega
theorem acc_U64 (bs : List Nat) (k : Nat) : U64 (acc bs k) := by
  cases k with
  | zero => exact ⟨Int.le_refl _, show (0 : Int) < _ by omega⟩
  | succ k => exact wrap_U64 _
/-- The signed number that an unsigned one stands for. -/
def sv (u : Int) : Int := if u % 2 = 1 then -(u / 2) - 1 else u / 2
theorem u64_and1 (u : Int) (h : U64 u) : bits .and .u64 u 1 = u % 2 := by
  have h3 : (BitVec.ofInt 64 1).toNat = 2 ^ 1 - 1 := by decide
  have key : (BitVec.ofInt 64 u &&& BitVec.ofInt 64 1).toNat = (u % ((2 ^ 64 : Nat) : Int)).toNat % 2 ^ 1 := by
    rw [BitVec.toNat_and, BitVec.toNat_ofInt, h3, Nat.and_two_pow_sub_one_eq_mod]
  show IntKind.u64.wrap ((BitVec.ofInt 64 u &&& BitVec.ofInt 64 1).toNat : Nat) = u % 2
  obtain ⟨h1, h2⟩ := h
  rw [key, IntWalk.u64_in _ (by omega)]
  omega

theorem unZigZag_any (u : Int) (h : U64 u) (w : World) : Calls Try.prog 31 #[.int .u64 u] w fun e w' => e = .returned (.int .i64 (sv u)) ∧ Below w.heap.size w w' := by
  have hs : Hid (sv u = if u % 2 = 1 then -(u / 2) - 1 else u / 2) := rfl
  have h1 : IntKind.i64.wrap (u / 2) = u / 2 := IntWalk.i64_in _ (by obtain ⟨h1, h2⟩ := h; omega)
  have h2 : IntKind.i64.wrap (-(u / 2)) = -(u / 2) := IntWalk.i64_in _ (by obtain ⟨h1, h2⟩ := h; omega)
  have h3 : IntKind.i64.wrap (-(u / 2) - 1) = -(u / 2) - 1 := IntWalk.i64_in _ (by obtain ⟨h1, h2⟩ := h; omega)
  have h4 : (0 : Int) ≤ u := h.1
  have t1 : u.tdiv 2 = u / 2 := Int.tdiv_eq_ediv_of_nonneg h.1
  have t2 : IntKind.u64.wrap (u / 2) = u / 2 := IntWalk.u64_in _ (by obtain ⟨h1, h2⟩ := h; omega)
  have t3 : wrap64 (u / 2) = u / 2 := by obtain ⟨h1, h2⟩ := h; unfold wrap64; omega
  have t4 : wrap64 (-(u / 2)) = -(u / 2) := by obtain ⟨h1, h2⟩ := h; unfold wrap64; omega
  have t5 : wrap64 (-(u / 2) - 1) = -(u / 2) - 1 := by obtain ⟨h1, h2⟩ := h; unfold wrap64; omega
  generalize sv u = r at *
  clear h
  by_cases h5 : u % 2 = 1
  · have H : Hid (r = -(u / 2) - 1) := by show _ = _; rw [hs.out, if_pos h5]
    clear hs
    go_enter Try.func31, Try.ntmps31
    go_wp2
    go_ret
    exact ⟨by rw [H.out]; rfl, (by (repeat (first | (with_reducible exact Below.refl _ _) | (with_reducible assumption) | (with_reducible refine Below.drew ?_) | (with_reducible refine below_drewN ?_ _) | ((with_reducible refine below_alloc' ?_ ?_); (focus (first | (simp; done) | omega | (simp; omega)))) | ((with_reducible refine below_set' ?_ ?_); (focus (first | (simp; done) | omega | (simp; omega)))) | (with_reducible refine below_step ?_ (by assumption)) | (with_reducible refine below_step_since ?_ (by assumption)) | ((with_reducible refine below_since' (by assumption) ?_ ?_); (focus (first | (simp; done) | omega | (simp; omega)))) | ((with_reducible refine below_trans' (by assumption) ?_ ?_); (focus (first | (simp; done) | omega | (simp; omega)))))))⟩
  · have H : Hid (r = u / 2) := by show _ = _; rw [hs.out, if_neg h5]
    have h6 : (u % 2 == 1) = false := by simpa using h5
    clear hs
    go_enter Try.func31, Try.ntmps31
    go_wp2
    go_ret
    exact ⟨by rw [H.out]; rfl, (by (repeat (first | (with_reducible exact Below.refl _ _) | (with_reducible assumption) | (with_reducible refine Below.drew ?_) | (with_reducible refine below_drewN ?_ _) | ((with_reducible refine below_alloc' ?_ ?_); (focus (first | (simp; done) | omega | (simp; omega)))) | ((with_reducible refine below_set' ?_ ?_); (focus (first | (simp; done) | omega | (simp; omega)))) | (with_reducible refine below_step ?_ (by assumption)) | (with_reducible refine below_step_since ?_ (by assumption)) | ((with_reducible refine below_since' (by assumption) ?_ ?_); (focus (first | (simp; done) | omega | (simp; omega)))) | ((with_reducible refine below_trans' (by assumption) ?_ ?_); (focus (first | (simp; done) | omega | (simp; omega)))))))⟩

theorem xor_ones (x : Int) (h1 : -9223372036854775808 ≤ x) (h2 : x ≤ 9223372036854775807) : bits .xor .i64 x (-1) = -1 - x := by
  show IntKind.i64.wrap ((BitVec.ofInt 64 x ^^^ BitVec.ofInt 64 (-1)).toNat : Int) = _
  have e : BitVec.ofInt 64 (-1) = BitVec.allOnes 64 := by decide
  rw [e, BitVec.xor_allOnes, BitVec.toNat_not, IntKind.wrap_i64, BitVec.toNat_ofInt]
  omega

set_option maxHeartbeats 1000000 in
theorem varint_any (A : Option Addr) (c : Nat) (bs : List Nat) (w : World) (h : Reads w w.heap.size 1 A bs.length (bs.map byteVal)) (hn : bs.length ≤ 2000) (hb : ∀ b ∈ bs, b < 256) :
    Calls Try.prog 127 #[.slice A bs.length c] w fun e w' => ((∃ k, Ends bs k ∧ e = .returned (.tuple #[.int .i64 (sv (acc bs (k + 1))), .int .i64 ((k : Int) + 1)])) ∨ ((∀ k, ¬ Ends bs k) ∧ ∃ x m : Int, m ≤ 0 ∧ e = .returned (.tuple #[.int .i64 x, .int .i64 m]))) ∧ Below w.heap.size w w' := by
  have HU := Lib.hid (uvarint_any A c bs w h hn hb)
  clear h hb hn
  generalize bs.length = n at *
  go_enter Try.func127, Try.ntmps127
  go_upto_region 2 with (go_at_call 136; (with_reducible refine Calls.mono (HU.out) ?_); rintro e w2 ⟨⟨k, hE, rfl⟩ | ⟨hno, m, hm, rfl⟩, hb⟩)
  · have hU := acc_U64 bs (k + 1)
    have ha := u64_and1 _ hU
    have hs : Hid (sv (acc bs (k + 1)) = if acc bs (k + 1) % 2 = 1 then -(acc bs (k + 1) / 2) - 1 else acc bs (k + 1) / 2) := rfl
    generalize hu : acc bs (k + 1) = u at *
    have HUE := Lib.hid hu
    clear hu
    have t3 : wrap64 (u / 2) = u / 2 := by obtain ⟨h1, h2⟩ := hU; unfold wrap64; omega
    have t2 : IntKind.i64.wrap (u / 2) = u / 2 := IntWalk.i64_in _ (by obtain ⟨h1, h2⟩ := hU; omega)
    have t4 : bits .xor .i64 (-1) (u / 2) = -1 - u / 2 := by
      rw [show bits .xor .i64 (-1) (u / 2) = bits .xor .i64 (u / 2) (-1) by simp only [bits, BitVec.xor_comm]]
      exact xor_ones _ (by obtain ⟨h1, h2⟩ := hU; omega) (by obtain ⟨h1, h2⟩ := hU; omega)
    have h0 : (0 : Int) ≤ u := hU.1
    clear hU
    by_cases h5 : u % 2 = 1
    · have H : Hid (sv u = -1 - u / 2) := by show _ = _; rw [hs.out, if_pos h5]; omega
      clear hs
      go_wp2
      go_ret2
      exact ⟨Or.inl ⟨k, hE, by rw [HUE.out, H.out]; rfl⟩, hb⟩
    · have H : Hid (sv u = u / 2) := by show _ = _; rw [hs.out, if_neg h5]
      have h6 : u % 2 = 0 := by omega
      clear hs h5
      go_wp2
      go_ret2
      exact ⟨Or.inl ⟨k, hE, by rw [HUE.out, H.out]; rfl⟩, hb⟩
  · go_wp2
    all_goals
      go_ret2
      exact ⟨Or.inr ⟨hno, _, m, hm, rfl⟩, hb⟩
end Go.Proofs.Ytciblaabghiefaa
