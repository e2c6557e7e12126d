/- FnRingArea. -/
import Derived.Test.YtciblaabghiefaaRing4
import Derived.Test.YtciblaabghiefaaOpenS
import Derived.Test.YtciblaabghiefaaPoint1
namespace Go.Proofs.Ytciblaabghiefaa.fnRingArea
open Go.RowKit
attribute [local go_sem] run_store_float
set_option maxRecDepth 100000

/-- The area that comes back: the half of the shoelace sum. -/
def IsHalf (ps : List (Int × Int)) (n : Nat) (r : Nat) : Prop := ∃ s, Fl.isI s (sh ps (n - 1)) ∧ floatBits .quo .f64 s 4611686018427387904 = some r

theorem door_any (A : Option Addr) (c n : Nat) (ps : List (Int × Int)) (w : World) (h : Reads w w.heap.size 1 A (2 * n) ((fnums ps).map fl)) (hl : ps.length = n) (h0 : 0 < n) (hn : n ≤ 200) (hp : inP ps) :
    Calls Try.prog 71 #[.agg #[.int .u8 0, .slice A (2 * n) c]] w fun e w' => (∃ r, e = .returned (.float .f64 r) ∧ IsHalf ps n r) ∧ Below w.heap.size w w' := by
  have HA := fun W hW => Lib.hid (area_any A c n ps W ((h.below hW).more hW.size) hl h0 hn hp)
  clear h hp
  generalize 2 * n = m at *
  go_enter Try.func71, Try.ntmps71
  go_wp2_with (go_at_call 105; (with_reducible refine Calls.mono (HA _ (by (repeat (first | (with_reducible exact Below.refl _ _) | (with_reducible assumption) | (with_reducible refine Below.drew ?_) | (with_reducible refine below_drewN ?_ _) | ((with_reducible refine below_alloc' ?_ ?_); (focus (first | (simp; done) | omega | (simp; omega)))) | ((with_reducible refine below_set' ?_ ?_); (focus (first | (simp; done) | omega | (simp; omega)))) | (with_reducible refine below_step ?_ (by assumption)) | (with_reducible refine below_step_since ?_ (by assumption)) | ((with_reducible refine below_since' (by assumption) ?_ ?_); (focus (first | (simp; done) | omega | (simp; omega)))) | ((with_reducible refine below_trans' (by assumption) ?_ ?_); (focus (first | (simp; done) | omega | (simp; omega)))))))).out ?_); rintro e w2 ⟨⟨s, r, rfl, hs, hr⟩, hb⟩; have HS := Lib.hid hs; have HR := Lib.hid hr; clear hs hr)
  go_ret
  exact ⟨⟨r, rfl, s, HS.out, HR.out⟩, (by (repeat (first | (with_reducible exact Below.refl _ _) | (with_reducible assumption) | (with_reducible refine Below.drew ?_) | (with_reducible refine below_drewN ?_ _) | ((with_reducible refine below_alloc' ?_ ?_); (focus (first | (simp; done) | omega | (simp; omega)))) | ((with_reducible refine below_set' ?_ ?_); (focus (first | (simp; done) | omega | (simp; omega)))) | (with_reducible refine below_step ?_ (by assumption)) | (with_reducible refine below_step_since ?_ (by assumption)) | ((with_reducible refine below_since' (by assumption) ?_ ?_); (focus (first | (simp; done) | omega | (simp; omega)))) | ((with_reducible refine below_trans' (by assumption) ?_ ?_); (focus (first | (simp; done) | omega | (simp; omega)))))))⟩

theorem impl_any (A : Option Addr) (c n : Nat) (ps : List (Int × Int)) (w : World) (h : Reads w w.heap.size 1 A (2 * n) ((fnums ps).map fl)) (hl : ps.length = n) (h0 : 0 < n) (hn : n ≤ 200) (hp : inP ps) :
    Calls Try.prog 33 #[.agg #[.int .i64 2, .int .i64 0, .slice A (2 * n) c, .slice none 0 0]] w fun e w' => (∃ r, e = .returned (.float .f64 r) ∧ IsHalf ps n r) ∧ Below w.heap.size w w' := by
  have hfl : (fnums ps).length = 2 * n := by rw [fnums_length, hl]
  have hkp : kept (2 * n) 0 = 2 * n := by simp [kept, wd]
  have HL := fun (W : World) (hW : Below w.heap.size w W) => Lib.hid (line_any 0 A c none 0 0 (fnums ps) W (by rw [hfl]; exact (h.below hW).more hW.size) (by omega))
  unfold IsSeq at HL
  rw [hfl] at HL
  simp only [show (0 : Int) % 4 = 0 from rfl, hkp] at HL
  rw [List.take_of_length_le (by omega)] at HL
  have HD := fun (g : Nat) (W : World) (hB : Blk W g 34 ((fnums ps).map fl).toArray) => Lib.hid (door_any (some ⟨g, 0, none⟩) (2 * n) n ps W (Reads.of_blk hB (by simp; omega)) hl h0 hn hp)
  clear h hfl hkp hp
  generalize ((fnums ps).map fl).toArray = cs at *
  generalize 2 * n = m at *
  go_enter Try.func33, Try.ntmps33
  go_wp2_with (first | (go_at_call 59; (with_reducible refine Calls.mono (HL _ (by (repeat (first | (with_reducible exact Below.refl _ _) | (with_reducible assumption) | (with_reducible refine Below.drew ?_) | (with_reducible refine below_drewN ?_ _) | ((with_reducible refine below_alloc' ?_ ?_); (focus (first | (simp; done) | omega | (simp; omega)))) | ((with_reducible refine below_set' ?_ ?_); (focus (first | (simp; done) | omega | (simp; omega)))) | (with_reducible refine below_step ?_ (by assumption)) | (with_reducible refine below_step_since ?_ (by assumption)) | ((with_reducible refine below_since' (by assumption) ?_ ?_); (focus (first | (simp; done) | omega | (simp; omega)))) | ((with_reducible refine below_trans' (by assumption) ?_ ?_); (focus (first | (simp; done) | omega | (simp; omega)))))))).out ?_); rintro e w2 ⟨g, hg, rfl, BS, hb⟩; have HB : Below w.heap.size w w2 := (by (repeat (first | (with_reducible exact Below.refl _ _) | (with_reducible assumption) | (with_reducible refine Below.drew ?_) | (with_reducible refine below_drewN ?_ _) | ((with_reducible refine below_alloc' ?_ ?_); (focus (first | (simp; done) | omega | (simp; omega)))) | ((with_reducible refine below_set' ?_ ?_); (focus (first | (simp; done) | omega | (simp; omega)))) | (with_reducible refine below_step ?_ (by assumption)) | (with_reducible refine below_step_since ?_ (by assumption)) | ((with_reducible refine below_since' (by assumption) ?_ ?_); (focus (first | (simp; done) | omega | (simp; omega)))) | ((with_reducible refine below_trans' (by assumption) ?_ ?_); (focus (first | (simp; done) | omega | (simp; omega))))))); clear hb) | (go_at_call 71; (with_reducible refine Calls.mono (HD _ _ BS).out ?_); rintro e w3 ⟨⟨r, rfl, hr⟩, hb⟩; have HR := Lib.hid hr; clear hr))
  go_ret
  exact ⟨⟨r, rfl, HR.out⟩, below_step HB hb⟩

theorem inP_of {ps : List (Int × Int)} (h : inB 1048576 ps = true) : inP ps := by
  intro i
  unfold px py
  by_cases hi : i < ps.length
  · rw [List.getElem?_eq_getElem hi]
    have := List.all_eq_true.1 h ps[i] (List.getElem_mem hi)
    simp at this
    show (-1048576 ≤ ps[i].1 ∧ ps[i].1 ≤ 1048576) ∧ (-1048576 ≤ ps[i].2 ∧ ps[i].2 ≤ 1048576)
    omega
  · rw [List.getElem?_eq_none (by omega)]
    simp

theorem law_any (A : Option Addr) (n c : Nat) (ps : List (Int × Int)) (w : World) (h : Reads w w.heap.size 2 A n (ps.flatMap ptCells)) :
    Calls Try.prog 9 #[.slice A n c] w fun e w' => e = .returned (.bool true) ∧ Below w.heap.size w w' := by
  have hl : ps.length = n := by have := h.1; rw [flat_length ptCells 2 (fun _ => rfl)] at this; omega
  by_cases h1 : 2147483647 < n
  · have g1 : (2147483647 : Int) < (n : Int) := by omega
    clear h hl
    go_enter Try.func9, Try.ntmps9
    go_wp2
    go_ret
    exact ⟨rfl, (by (repeat (first | (with_reducible exact Below.refl _ _) | (with_reducible assumption) | (with_reducible refine Below.drew ?_) | (with_reducible refine below_drewN ?_ _) | ((with_reducible refine below_alloc' ?_ ?_); (focus (first | (simp; done) | omega | (simp; omega)))) | ((with_reducible refine below_set' ?_ ?_); (focus (first | (simp; done) | omega | (simp; omega)))) | (with_reducible refine below_step ?_ (by assumption)) | (with_reducible refine below_step_since ?_ (by assumption)) | ((with_reducible refine below_since' (by assumption) ?_ ?_); (focus (first | (simp; done) | omega | (simp; omega)))) | ((with_reducible refine below_trans' (by assumption) ?_ ?_); (focus (first | (simp; done) | omega | (simp; omega)))))))⟩
  · have g1 : ¬ (2147483647 : Int) < (n : Int) := by omega
    have HC := fun (W : World) (hW : Below w.heap.size w W) => Lib.hid (closedRing_any A n c ps W ((h.below hW).more hW.size) (by omega))
    have HR := Lib.hid h
    clear h
    go_enter Try.func9, Try.ntmps9
    go_wp2_with (go_at_call 32; (with_reducible refine Calls.mono (HC _ (by (repeat (first | (with_reducible exact Below.refl _ _) | (with_reducible assumption) | (with_reducible refine Below.drew ?_) | (with_reducible refine below_drewN ?_ _) | ((with_reducible refine below_alloc' ?_ ?_); (focus (first | (simp; done) | omega | (simp; omega)))) | ((with_reducible refine below_set' ?_ ?_); (focus (first | (simp; done) | omega | (simp; omega)))) | (with_reducible refine below_step ?_ (by assumption)) | (with_reducible refine below_step_since ?_ (by assumption)) | ((with_reducible refine below_since' (by assumption) ?_ ?_); (focus (first | (simp; done) | omega | (simp; omega)))) | ((with_reducible refine below_trans' (by assumption) ?_ ?_); (focus (first | (simp; done) | omega | (simp; omega)))))))).out ?_); rintro e w2 ⟨⟨q, rfl, hq⟩, hb⟩; refine stop_ ?_)
    have HB : Below w.heap.size w w2 := (by (repeat (first | (with_reducible exact Below.refl _ _) | (with_reducible assumption) | (with_reducible refine Below.drew ?_) | (with_reducible refine below_drewN ?_ _) | ((with_reducible refine below_alloc' ?_ ?_); (focus (first | (simp; done) | omega | (simp; omega)))) | ((with_reducible refine below_set' ?_ ?_); (focus (first | (simp; done) | omega | (simp; omega)))) | (with_reducible refine below_step ?_ (by assumption)) | (with_reducible refine below_step_since ?_ (by assumption)) | ((with_reducible refine below_since' (by assumption) ?_ ?_); (focus (first | (simp; done) | omega | (simp; omega)))) | ((with_reducible refine below_trans' (by assumption) ?_ ?_); (focus (first | (simp; done) | omega | (simp; omega)))))))
    have HQ := Lib.hid hq
    clear hq hb HC
    cases q with
    | false =>
      refine go_on_ ?_
      go_wp2
      go_ret
      exact ⟨rfl, HB⟩
    | true =>
      obtain ⟨h0, hn, hx, hy, hin⟩ := HQ.out rfl
      have hp := inP_of hin
      have hsc : sh ps (n - 1) = cr ps n := by
        rw [sh_cr, show n - 1 + 1 = n by omega, ← hx, ← hy]; omega
      have hcb := cr_bd hp n
      obtain ⟨r2, e2, f2, v2⟩ := half_int (Fl.ofInt_I (n := cr ps n) (by omega)) (by omega)
      have HF := fun (W : World) (hW : Below w.heap.size w W) => Lib.hid (figure_line A n c ps W ((HR.out.below hW).more hW.size) (by omega))
      have HI := fun (A' : Option Addr) (c' : Nat) (W : World) (hr : Reads W W.heap.size 1 A' (2 * n) ((fnums ps).map fl)) => Lib.hid (impl_any A' c' n ps W hr hl h0 hn hp)
      have HA2 := fun (W : World) (hW : Below w.heap.size w W) => Lib.hid (area2_any A n c ps W ((HR.out.below hW).more hW.size) hn h0 hp)
      have HEQ : Hid (∀ r, IsHalf ps n r → Fl.eqB r r2 = true) := by
        rintro r ⟨s, hs, hr⟩
        rw [hsc] at hs
        obtain ⟨r', e', f', v'⟩ := half_int hs (by omega)
        rw [hr] at e'
        injection e' with e'
        subst e'
        have := Fl.eq_fin f' f2
        unfold Fl.eqB
        rw [this, v', v2]
        simp
      have o2 := hop e2
      clear HQ hx hy hin hp hsc hcb e2 f2 v2 HR hl
      generalize cr ps n = S at *
      refine go_on_ ?_
      go_wp2_with (first
        | (go_at_call 34; (with_reducible refine Calls.mono (HF _ HB).out ?_); rintro e w3 ⟨⟨A', c', rfl, hr⟩, hb⟩; replace HB := below_step HB hb; clear hb)
        | (go_at_call 33; (with_reducible refine Calls.mono (HI _ _ _ hr).out ?_); rintro e w4 ⟨⟨r, rfl, hhr⟩, hb⟩; replace HB := below_step HB hb; have hqq := HEQ.out r hhr; unfold Fl.eqB at hqq; clear hb hhr hr)
        | (go_at_call 35; (with_reducible refine Calls.mono (HA2 _ HB).out ?_); rintro e w5 ⟨rfl, hb⟩; replace HB := below_step HB hb; clear hb))
      go_ret
      exact ⟨rfl, HB⟩

section
open Go.ChangeShapes Go.WideShapes Go.ChangeAt Go.Joins
variable {H : Type} {enc : TypeId × Value → H} {w : World} {base : Nat} {spare : Nat → Bool} {held : Bool}
theorem open_pts {r : Reach} {b0 : Nat} {v : Value} {d : DataW H} {p : List MemPlace} (hv : Value.okWide Try.prog w r b0 57 v) (h : DataW.Trod enc Try.prog w base spare held 57 v d p) :
    ∃ (A : Option Addr) (n c : Nat) (ps : List (Int × Int)), v = .slice A n c ∧ Reads w w.heap.size 2 A n (ps.flatMap ptCells) := by
  obtain ⟨a1, len, cap, rfl⟩ := okWide_slice Try.underlying57 hv
  obtain ⟨fuel, hf⟩ := h
  obtain ⟨A, len', cap', ps, hcs, hl, hlc, hcm, hR, _⟩ := open_list ptCells 2 (fun _ => rfl) (fun _ => True) Try.underlying57 (by kernel_rfl) (by omega) (fun n cs' y hy => by
    obtain ⟨y0, y1, m, _, hlen, h0, h1⟩ := trod_struct2 Try.underlying42 hy
    have hlen : cs'.length = 2 := hlen.trans (by kernel_rfl)
    match cs', hlen with
    | [u, v], _ =>
      have h0 : DataW.trod enc Try.prog w base spare held m 3 [u] = some y0 := h0
      have h1 : DataW.trod enc Try.prog w base spare held m 3 [v] = some y1 := h1
      obtain ⟨a, e0, _, _⟩ := DataW.trod_int Try.underlying3 h0
      obtain ⟨b, e1, _, _⟩ := DataW.trod_int Try.underlying3 h1
      injection e0 with e0 _; injection e1 with e1 _
      subst e0 e1
      exact ⟨(a, b), rfl, trivial⟩) hf
  simp [Value.cells] at hcs
  obtain ⟨rfl, rfl, rfl⟩ := hcs
  exact ⟨_, _, _, ps, rfl, hR⟩
end

open Go.ChangeShapes Go.WideShapes Go.ChangeAt
set_option maxRecDepth 100000 in
theorem lifted (os : Os) (started : os.Started) (H : Type) (enc : TypeId × Value → H) :
    ReturnsInHanded {} Try.checked os 9 .any (Rows.fnRingAreaSpec.pre6 enc Try.prog Try.f9 Rows.fnRingAreaRow.domain false) (Rows.fnRingAreaSpec.post enc Try.prog Try.f9 false true false false) := by
  refine returnsInHanded_of_change (C := Try.checked) own started (by kernel_rfl) Try.func9
    (ChangeSpec.witness6 (enc := enc) (C := Try.checked) false ⟨#[], #[.slice none 0 0], []⟩ 8 (by kernel_rfl) (by kernel_rfl) (by kernel_rfl) (by kernel_rfl)) ?_
  intro W base args ds gs before hval0 hW hcnd _
  have hval : ∀ (j : Nat) t v, Try.f9.params[j]? = some t → args[j]? = some v → Value.okWide Try.prog W .any base t v := hval0
  have hW' := hW
  obtain ⟨p, q, hA0, hV, rfl, hfz, hnd⟩ := hW
  have hA : DataW.TrodAll enc Try.prog W 0 (fun _ => true) true Try.f9.params.toList args.toList ds p := hA0
  rw [Try.params9] at hA hval
  obtain ⟨v0, vs0, d0, ds0, p0, q0, hargs, rfl, rfl, h0, r0⟩ := trodAll_cons hA
  obtain ⟨rfl, rfl, rfl⟩ := trodAll_nil r0
  obtain rfl : args = #[v0] := by cases args; simp_all
  obtain ⟨rfl, rfl⟩ := trodVars_none hV
  have k0 := h0
  have lt0 : ∀ x ∈ p0, x.block < W.heap.size := by obtain ⟨m, hm⟩ := k0; exact DataW.trod_lt m _ _ _ hm
  obtain ⟨A0, n0, c0, ps0, rfl, R0⟩ := open_pts (hval 0 57 v0 rfl rfl) h0
  clear hA0 hval0
  refine (law_any A0 n0 c0 ps0 W R0).mono fun e W' ⟨he, bel⟩ => ?_
  subst he
  exact ⟨_, rfl, _, _, _, [], _, [], hW', trodAll_mk1 (shut_bool Try.underlying4 _), (trodAll_cons_mk (Below.trod laidOut (by kernel_rfl) (of_decide_eq_true (by kernel_rfl)) k0 bel lt0) trodAll_mk0), rfl, bel.frame _, fun h => by cases h⟩

theorem over : Rows.fnRingAreaRow.holds Try.pinned (OpenSpec.ofChange Rows.fnRingAreaSpec) :=
  OpenClaim.holds_of_wide 9 Try.f9 rfl rfl rfl rfl rfl rfl rfl ⟨rfl, rfl, rfl, rfl, rfl⟩ rfl rfl rfl rfl rfl (by kernel_rfl) Try.func9 (by kernel_rfl)
    (of_decide_eq_true (by kernel_rfl)) (by unfold Func.isWrapper; first | (rw [if_pos (by decide +kernel)]; kernel_rfl) | (rw [if_neg (by decide +kernel)]; exact ⟨rfl, rfl⟩))
    (fun os started H enc _ => lifted os started H enc)

theorem proved : Rows.FnRingAreaSaid := over
#print axioms proved
end Go.Proofs.Ytciblaabghiefaa.fnRingArea
