/- FnReadVarint. -/
import Derived.Test.YtciblaabghiefaaVar5
import Derived.Test.YtciblaabghiefaaOpenS
namespace Go.Proofs.Ytciblaabghiefaa.fnReadVarint
open Go.RowKit
set_option maxRecDepth 100000

section
open Go.ChangeShapes Go.WideShapes Go.ChangeAt
variable {H : Type} {enc : TypeId × Value → H} {w : World} {base : Nat} {spare : Nat → Bool} {held : Bool}
theorem open_bytes {r : Reach} {b0 : Nat} {v : Value} {d : DataW H} {p : List MemPlace} (hv : Value.okWide Try.prog w r b0 50 v) (h : DataW.Trod enc Try.prog w base spare held 50 v d p) :
    ∃ (A : Option Addr) (c : Nat) (xs : List Nat), v = .slice A xs.length c ∧ Reads w w.heap.size 1 A xs.length (xs.map byteVal) ∧ xs.length ≤ maxLen ∧ ∀ x ∈ xs, x < 256 := by
  obtain ⟨a1, len, cap, rfl⟩ := okWide_slice Try.underlying50 hv
  obtain ⟨fuel, hf⟩ := h
  obtain ⟨A, len', cap', xs, hcs, hl, hlc, hcm, hR, hg⟩ := open_list (fun x : Nat => [byteVal x]) 1 (fun _ => rfl) (fun x => x < 256) Try.underlying50 (by kernel_rfl) (by omega) (fun n cs' y hy => by
    obtain ⟨b, hb, _, wb⟩ := DataW.trod_int Try.underlying5 hy
    simp [Lit.wf, IntKind.min, IntKind.max, IntKind.signed, IntKind.bits] at wb
    obtain ⟨k, rfl⟩ : ∃ k : Nat, b = k := ⟨b.toNat, by omega⟩
    exact ⟨k, hb, by omega⟩) hf
  simp [Value.cells] at hcs
  obtain ⟨rfl, rfl, rfl⟩ := hcs
  subst hl
  refine ⟨_, _, xs, rfl, ?_, by omega, hg⟩
  rwa [show xs.flatMap (fun x : Nat => [byteVal x]) = xs.map byteVal from flat_single _ xs] at hR
end

/-- What the thin package gives. -/
def IR (bs : List Nat) (x m : Int) (b : Bool) : Prop := (∃ k, Ends bs k ∧ x = sv (acc bs (k + 1)) ∧ m = (k : Int) + 1 ∧ b = true) ∨ ((∀ k, ¬ Ends bs k) ∧ b = false)

theorem impl_any (A : Option Addr) (c : Nat) (bs : List Nat) (w : World) (h : Reads w w.heap.size 1 A bs.length (bs.map byteVal)) (hn : bs.length ≤ 2000) (hb : ∀ b ∈ bs, b < 256) :
    Calls Try.prog 29 #[.slice A bs.length c] w fun e w' => (∃ x m b, e = .returned (.tuple #[.int .i64 x, .int .i64 m, .bool b]) ∧ IR bs x m b) ∧ Below w.heap.size w w' := by
  have HD := fun W hW => Lib.hid (doorVar_any A c bs W (h.below hW |>.more hW.size) hn hb)
  clear h hb hn
  generalize bs.length = n at *
  go_enter Try.func29, Try.ntmps29
  go_upto_region 2 with (go_at_call 70; (with_reducible refine Calls.mono (HD _ (by (repeat (first | (with_reducible exact Below.refl _ _) | (with_reducible assumption) | (with_reducible refine Below.drew ?_) | (with_reducible refine below_drewN ?_ _) | ((with_reducible refine below_alloc' ?_ ?_); (focus (first | (simp; done) | omega | (simp; omega)))) | ((with_reducible refine below_set' ?_ ?_); (focus (first | (simp; done) | omega | (simp; omega)))) | (with_reducible refine below_step ?_ (by assumption)) | (with_reducible refine below_step_since ?_ (by assumption)) | ((with_reducible refine below_since' (by assumption) ?_ ?_); (focus (first | (simp; done) | omega | (simp; omega)))) | ((with_reducible refine below_trans' (by assumption) ?_ ?_); (focus (first | (simp; done) | omega | (simp; omega)))))))).out ?_); rintro e w3 ⟨⟨x, m, err, rfl, hdr⟩, HB⟩)
  rcases hdr with ⟨k, hk, h1, h2, rfl⟩ | ⟨hno, t, u, rfl⟩
  · go_region
    go_wp2
    go_ret3
    exact ⟨⟨_, _, _, rfl, .inl ⟨k, hk, h1, h2, rfl⟩⟩, HB.drew⟩
  · go_region
    go_wp2
    go_ret3
    exact ⟨⟨_, _, _, rfl, .inr ⟨hno, rfl⟩⟩, HB.drew⟩

theorem pVar_ir (A : Option Addr) (c : Nat) (bs : List Nat) (w : World) (h : Reads w w.heap.size 1 A bs.length (bs.map byteVal)) (hn : bs.length ≤ 2000) (hb : ∀ b ∈ bs, b < 256) :
    Calls Try.prog 30 #[.slice A bs.length c] w fun e w' => (∃ u m b, e = .returned (.tuple #[.int .u64 u, .int .i64 m, .bool b]) ∧ U64 u ∧ IR bs (sv u) m b) ∧ Below w.heap.size w w' := by
  refine (pVarint_any A c bs w h hn hb).mono ?_
  rintro e w' ⟨⟨k, hk, rfl⟩ | ⟨hno, rfl⟩, hb⟩
  · exact ⟨⟨_, _, _, rfl, acc_U64 _ _, .inl ⟨k, hk, rfl, rfl, rfl⟩⟩, hb⟩
  · exact ⟨⟨_, _, _, rfl, by constructor <;> decide, .inr ⟨hno, rfl⟩⟩, hb⟩

/-- The two answers fit. -/
theorem ir_fit {bs : List Nat} {x m y n : Int} {a b : Bool} (h : IR bs x m a) (h' : IR bs y n b) : a = b ∧ (a = true → x = y ∧ m = n) := by
  rcases h with ⟨k, hk, rfl, rfl, rfl⟩ | ⟨hno, rfl⟩ <;> rcases h' with ⟨j, hj, rfl, rfl, rfl⟩ | ⟨hno', rfl⟩
  · obtain rfl := ends_unique hk hj; simp
  · exact absurd hk (hno' _)
  · exact absurd hj (hno _)
  · simp

theorem law_any (A : Option Addr) (c : Nat) (bs : List Nat) (w : World) (h : Reads w w.heap.size 1 A bs.length (bs.map byteVal)) (hb : ∀ b ∈ bs, b < 256) :
    Calls Try.prog 8 #[.slice A bs.length c] w fun e w' => e = .returned (.bool true) ∧ Below w.heap.size w w' := by
  by_cases h1 : bs.length ≤ 2000
  · have HI := fun W hW => Lib.hid (impl_any A c bs W ((h.below hW).more hW.size) h1 hb)
    have HP := fun W hW => Lib.hid (pVar_ir A c bs W ((h.below hW).more hW.size) h1 hb)
    have g1 : ¬ 2147483647 < bs.length := by omega
    have g2 : ¬ 2000 < bs.length := by omega
    clear h hb
    generalize bs.length = n at *
    go_enter Try.func8, Try.ntmps8
    go_upto_region 7 with (first | (go_at_call 29; (with_reducible refine Calls.mono (HI _ (by (repeat (first | (with_reducible exact Below.refl _ _) | (with_reducible assumption) | (with_reducible refine Below.drew ?_) | (with_reducible refine below_drewN ?_ _) | ((with_reducible refine below_alloc' ?_ ?_); (focus (first | (simp; done) | omega | (simp; omega)))) | ((with_reducible refine below_set' ?_ ?_); (focus (first | (simp; done) | omega | (simp; omega)))) | (with_reducible refine below_step ?_ (by assumption)) | (with_reducible refine below_step_since ?_ (by assumption)) | ((with_reducible refine below_since' (by assumption) ?_ ?_); (focus (first | (simp; done) | omega | (simp; omega)))) | ((with_reducible refine below_trans' (by assumption) ?_ ?_); (focus (first | (simp; done) | omega | (simp; omega)))))))).out ?_); rintro e w3 ⟨⟨x, m, b, rfl, ir⟩, HB⟩) | (go_at_call 30; (with_reducible refine Calls.mono (HP _ (by (repeat (first | (with_reducible exact Below.refl _ _) | (with_reducible assumption) | (with_reducible refine Below.drew ?_) | (with_reducible refine below_drewN ?_ _) | ((with_reducible refine below_alloc' ?_ ?_); (focus (first | (simp; done) | omega | (simp; omega)))) | ((with_reducible refine below_set' ?_ ?_); (focus (first | (simp; done) | omega | (simp; omega)))) | (with_reducible refine below_step ?_ (by assumption)) | (with_reducible refine below_step_since ?_ (by assumption)) | ((with_reducible refine below_since' (by assumption) ?_ ?_); (focus (first | (simp; done) | omega | (simp; omega)))) | ((with_reducible refine below_trans' (by assumption) ?_ ?_); (focus (first | (simp; done) | omega | (simp; omega)))))))).out ?_); rintro e w4 ⟨⟨u, m', b', rfl, hu, ir'⟩, hb⟩))
    replace HB := below_step HB hb
    obtain ⟨rfl, hxy⟩ := ir_fit ir ir'
    have HZ := fun W => Lib.hid (unZigZag_any u hu W)
    clear ir ir' hu hb
    cases b with
    | false =>
      go_wp2_with (go_at_call 31; (with_reducible refine Calls.mono ((HZ _).out) ?_); rintro e w2 ⟨rfl, hb⟩)
      go_ret
      exact ⟨rfl, (by (repeat (first | (with_reducible exact Below.refl _ _) | (with_reducible assumption) | (with_reducible refine Below.drew ?_) | (with_reducible refine below_drewN ?_ _) | ((with_reducible refine below_alloc' ?_ ?_); (focus (first | (simp; done) | omega | (simp; omega)))) | ((with_reducible refine below_set' ?_ ?_); (focus (first | (simp; done) | omega | (simp; omega)))) | (with_reducible refine below_step ?_ (by assumption)) | (with_reducible refine below_step_since ?_ (by assumption)) | ((with_reducible refine below_since' (by assumption) ?_ ?_); (focus (first | (simp; done) | omega | (simp; omega)))) | ((with_reducible refine below_trans' (by assumption) ?_ ?_); (focus (first | (simp; done) | omega | (simp; omega)))))))⟩
    | true =>
      obtain ⟨rfl, rfl⟩ := hxy rfl
      go_wp2_with (go_at_call 31; (with_reducible refine Calls.mono ((HZ _).out) ?_); rintro e w2 ⟨rfl, hb⟩)
      go_ret
      exact ⟨by simp, (by (repeat (first | (with_reducible exact Below.refl _ _) | (with_reducible assumption) | (with_reducible refine Below.drew ?_) | (with_reducible refine below_drewN ?_ _) | ((with_reducible refine below_alloc' ?_ ?_); (focus (first | (simp; done) | omega | (simp; omega)))) | ((with_reducible refine below_set' ?_ ?_); (focus (first | (simp; done) | omega | (simp; omega)))) | (with_reducible refine below_step ?_ (by assumption)) | (with_reducible refine below_step_since ?_ (by assumption)) | ((with_reducible refine below_since' (by assumption) ?_ ?_); (focus (first | (simp; done) | omega | (simp; omega)))) | ((with_reducible refine below_trans' (by assumption) ?_ ?_); (focus (first | (simp; done) | omega | (simp; omega)))))))⟩
  · clear h hb
    generalize bs.length = n at *
    by_cases h2 : 2147483647 < n
    · go_enter Try.func8, Try.ntmps8
      go_wp2
      go_ret
      exact ⟨rfl, (by (repeat (first | (with_reducible exact Below.refl _ _) | (with_reducible assumption) | (with_reducible refine Below.drew ?_) | (with_reducible refine below_drewN ?_ _) | ((with_reducible refine below_alloc' ?_ ?_); (focus (first | (simp; done) | omega | (simp; omega)))) | ((with_reducible refine below_set' ?_ ?_); (focus (first | (simp; done) | omega | (simp; omega)))) | (with_reducible refine below_step ?_ (by assumption)) | (with_reducible refine below_step_since ?_ (by assumption)) | ((with_reducible refine below_since' (by assumption) ?_ ?_); (focus (first | (simp; done) | omega | (simp; omega)))) | ((with_reducible refine below_trans' (by assumption) ?_ ?_); (focus (first | (simp; done) | omega | (simp; omega)))))))⟩
    · have h3 : 2000 < n := by omega
      clear h1
      go_enter Try.func8, Try.ntmps8
      go_wp2
      go_ret
      exact ⟨rfl, (by (repeat (first | (with_reducible exact Below.refl _ _) | (with_reducible assumption) | (with_reducible refine Below.drew ?_) | (with_reducible refine below_drewN ?_ _) | ((with_reducible refine below_alloc' ?_ ?_); (focus (first | (simp; done) | omega | (simp; omega)))) | ((with_reducible refine below_set' ?_ ?_); (focus (first | (simp; done) | omega | (simp; omega)))) | (with_reducible refine below_step ?_ (by assumption)) | (with_reducible refine below_step_since ?_ (by assumption)) | ((with_reducible refine below_since' (by assumption) ?_ ?_); (focus (first | (simp; done) | omega | (simp; omega)))) | ((with_reducible refine below_trans' (by assumption) ?_ ?_); (focus (first | (simp; done) | omega | (simp; omega)))))))⟩

open Go.ChangeShapes Go.WideShapes Go.ChangeAt
set_option maxRecDepth 100000 in
theorem lifted (os : Os) (started : os.Started) (H : Type) (enc : TypeId × Value → H) :
    ReturnsInHanded {} Try.checked os 8 .any (Rows.fnReadVarintSpec.pre6 enc Try.prog Try.f8 Rows.fnReadVarintRow.domain false) (Rows.fnReadVarintSpec.post enc Try.prog Try.f8 false true false false) := by
  refine returnsInHanded_of_change (C := Try.checked) own started (by kernel_rfl) Try.func8
    (ChangeSpec.witness6 (enc := enc) (C := Try.checked) false ⟨#[], #[.slice none 0 0], []⟩ 8 (by kernel_rfl) (by kernel_rfl) (by kernel_rfl) (by kernel_rfl)) ?_
  intro W base args ds gs before hval0 hW hcnd _
  have hval : ∀ (j : Nat) t v, Try.f8.params[j]? = some t → args[j]? = some v → Value.okWide Try.prog W .any base t v := hval0
  have hW' := hW
  obtain ⟨p, q, hA0, hV, rfl, hfz, hnd⟩ := hW
  have hA : DataW.TrodAll enc Try.prog W 0 (fun _ => true) true Try.f8.params.toList args.toList ds p := hA0
  rw [Try.params8] at hA hval
  obtain ⟨v0, vs0, d0, ds0, p0, q0, hargs, rfl, rfl, h0, r0⟩ := trodAll_cons hA
  obtain ⟨rfl, rfl, rfl⟩ := trodAll_nil r0
  obtain rfl : args = #[v0] := by cases args; simp_all
  obtain ⟨rfl, rfl⟩ := trodVars_none hV
  have k0 := h0
  have lt0 : ∀ x ∈ p0, x.block < W.heap.size := by obtain ⟨m, hm⟩ := k0; exact DataW.trod_lt m _ _ _ hm
  obtain ⟨A0, c0, xs0, rfl, R0, ml0, wf0⟩ := open_bytes (hval 0 50 v0 rfl rfl) h0
  clear hA0 hval0
  refine (law_any A0 c0 xs0 W R0 wf0).mono fun e W' ⟨he, bel⟩ => ?_
  subst he
  exact ⟨_, rfl, _, _, _, [], _, [], hW', trodAll_mk1 (shut_bool Try.underlying4 _), (trodAll_cons_mk (Below.trod laidOut (by kernel_rfl) (of_decide_eq_true (by kernel_rfl)) k0 bel lt0) trodAll_mk0), rfl, bel.frame _, fun h => by cases h⟩

theorem over : Rows.fnReadVarintRow.holds Try.pinned (OpenSpec.ofChange Rows.fnReadVarintSpec) :=
  OpenClaim.holds_of_wide 8 Try.f8 rfl rfl rfl rfl rfl rfl rfl ⟨rfl, rfl, rfl, rfl, rfl⟩ rfl rfl rfl rfl rfl (by kernel_rfl) Try.func8 (by kernel_rfl)
    (of_decide_eq_true (by kernel_rfl)) (by unfold Func.isWrapper; first | (rw [if_pos (by decide +kernel)]; kernel_rfl) | (rw [if_neg (by decide +kernel)]; exact ⟨rfl, rfl⟩))
    (fun os started H enc _ => lifted os started H enc)

theorem proved : Rows.FnReadVarintSaid := over
#print axioms proved
end Go.Proofs.Ytciblaabghiefaa.fnReadVarint
