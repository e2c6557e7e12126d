/- FnPointValid. -/
import Derived.Test.YtciblaabghiefaaPoint1
import Derived.Test.YtciblaabghiefaaOpenS
import Derived.Test.YtciblaabghiefaaEnv3
namespace Go.Proofs.Ytciblaabghiefaa.fnPointValid
open Go.RowKit
attribute [local go_sem] run_store_float
set_option maxRecDepth 100000

/-- Valid: empty, or X and Y finite. -/
def okPnt (p : Pnt) : Bool := !p.full || (Fl.fin p.x && Fl.fin p.y)

theorem pntValid_any (p : Pnt) (d : Int) (hx : W64 p.x) (hy : W64 p.y) (w : World) :
    Calls Try.prog 88 #[.agg (p.cells d)] w (IsErrB w (okPnt p)) := by
  obtain ⟨x, y, z, m, f⟩ := p
  unfold Pnt.cells
  cases f with
  | false =>
    go_enter Try.func88, Try.ntmps88
    go_wp2
    go_ret
    exact ⟨rfl, (by (repeat (first | (with_reducible exact Below.refl _ _) | (with_reducible assumption) | (with_reducible refine Below.drew ?_) | (with_reducible refine below_drewN ?_ _) | ((with_reducible refine below_alloc' ?_ ?_); (focus (first | (simp; done) | omega | (simp; omega)))) | ((with_reducible refine below_set' ?_ ?_); (focus (first | (simp; done) | omega | (simp; omega)))) | (with_reducible refine below_step ?_ (by assumption)) | (with_reducible refine below_step_since ?_ (by assumption)) | ((with_reducible refine below_since' (by assumption) ?_ ?_); (focus (first | (simp; done) | omega | (simp; omega)))) | ((with_reducible refine below_trans' (by assumption) ?_ ?_); (focus (first | (simp; done) | omega | (simp; omega)))))))⟩
  | true =>
    cases h1 : (Fl.fin x && Fl.fin y) with
    | false =>
      have H1 := fun W => Lib.hid (validate_bad x y hx hy W h1)
      have hv : Hid _ := show okPnt ⟨x, y, z, m, true⟩ = false by simp [okPnt, h1]
      clear h1
      go_enter Try.func88, Try.ntmps88
      go_wp2_with (go_at_call 117; (with_reducible refine Calls.mono ((H1 _).out) ?_); rintro e w3 ⟨⟨t, u, rfl⟩, hb2⟩)
      go_ret
      exact ⟨by rw [hv.out]; exact ⟨_, _, rfl⟩, (by (repeat (first | (with_reducible exact Below.refl _ _) | (with_reducible assumption) | (with_reducible refine Below.drew ?_) | (with_reducible refine below_drewN ?_ _) | ((with_reducible refine below_alloc' ?_ ?_); (focus (first | (simp; done) | omega | (simp; omega)))) | ((with_reducible refine below_set' ?_ ?_); (focus (first | (simp; done) | omega | (simp; omega)))) | (with_reducible refine below_step ?_ (by assumption)) | (with_reducible refine below_step_since ?_ (by assumption)) | ((with_reducible refine below_since' (by assumption) ?_ ?_); (focus (first | (simp; done) | omega | (simp; omega)))) | ((with_reducible refine below_trans' (by assumption) ?_ ?_); (focus (first | (simp; done) | omega | (simp; omega)))))))⟩
    | true =>
      have h1' := h1
      simp at h1'
      have H1 := fun W => Lib.hid (validate_ok x y hx hy W h1'.1 h1'.2)
      have hv : Hid _ := show okPnt ⟨x, y, z, m, true⟩ = true by simp [okPnt, h1]
      clear h1' h1
      go_enter Try.func88, Try.ntmps88
      go_wp2_with (go_at_call 117; (with_reducible refine Calls.mono ((H1 _).out) ?_); rintro e w2 ⟨rfl, hb⟩)
      go_ret
      exact ⟨by rw [hv.out]; rfl, (by (repeat (first | (with_reducible exact Below.refl _ _) | (with_reducible assumption) | (with_reducible refine Below.drew ?_) | (with_reducible refine below_drewN ?_ _) | ((with_reducible refine below_alloc' ?_ ?_); (focus (first | (simp; done) | omega | (simp; omega)))) | ((with_reducible refine below_set' ?_ ?_); (focus (first | (simp; done) | omega | (simp; omega)))) | (with_reducible refine below_step ?_ (by assumption)) | (with_reducible refine below_step_since ?_ (by assumption)) | ((with_reducible refine below_since' (by assumption) ?_ ?_); (focus (first | (simp; done) | omega | (simp; omega)))) | ((with_reducible refine below_trans' (by assumption) ?_ ?_); (focus (first | (simp; done) | omega | (simp; omega)))))))⟩

theorem nth_w {xs : List Nat} (h : ∀ x ∈ xs, x < 18446744073709551616) (j : Nat) : W64 (nth xs j) := by
  unfold nth
  cases hj : xs[j]? with
  | none => show (0 : Nat) < _; omega
  | some x => exact h x (List.mem_of_getElem? hj)

theorem implVal_any (kind dim : Int) (A Ka : Option Addr) (c kn kc : Nat) (xs : List Nat) (w : World) (h : Reads w w.heap.size 1 A xs.length (xs.map fl)) (hn : xs.length ≤ 2147483647) (hw : ∀ x ∈ xs, x < 18446744073709551616) :
    Calls Try.prog 53 #[.agg #[.int .i64 kind, .int .i64 dim, .slice A xs.length c, .slice Ka kn kc]] w fun e w' => e = .returned (.bool (okPnt (pntOf kind xs (dim % 4)))) ∧ Below w.heap.size w w' := by
  have hx : W64 (pntOf kind xs (dim % 4)).x ∧ W64 (pntOf kind xs (dim % 4)).y := by
    have hw' : ∀ x ∈ ofSeq xs (dim % 4), x < 18446744073709551616 := fun x hx => hw x (List.mem_of_mem_take hx)
    unfold pntOf
    split
    · exact ⟨show (0 : Nat) < _ by omega, show (0 : Nat) < _ by omega⟩
    · exact ⟨nth_w hw' _, nth_w hw' _⟩
  have HP : ∀ (W : World), Below w.heap.size w W → Hid (Calls Try.prog 87 #[.agg #[.int .i64 kind, .int .i64 dim, .slice A xs.length c, .slice Ka kn kc]] W fun e w' => e = .returned (.agg ((pntOf kind xs (dim % 4)).cells (dim % 4))) ∧ Below W.heap.size W w') := fun W hW => Lib.hid (point_any kind dim A Ka c kn kc xs W ((h.below hW).more hW.size) hn)
  have HV := fun W => Lib.hid (pntValid_any (pntOf kind xs (dim % 4)) (dim % 4) hx.1 hx.2 W)
  clear hx hw h
  generalize pntOf kind xs (dim % 4) = p at *
  generalize dim % 4 = d at *
  generalize xs.length = n at *
  generalize okPnt p = r at *
  obtain ⟨x, y, z, m, f⟩ := p
  unfold Pnt.cells at HP HV
  cases r with
  | true =>
    go_enter Try.func53, Try.ntmps53
    go_wp2_with (first | (go_at_call 87; (with_reducible refine Calls.mono ((HP _ (by (repeat (first | (with_reducible exact Below.refl _ _) | (with_reducible assumption) | (with_reducible refine Below.drew ?_) | (with_reducible refine below_drewN ?_ _) | ((with_reducible refine below_alloc' ?_ ?_); (focus (first | (simp; done) | omega | (simp; omega)))) | ((with_reducible refine below_set' ?_ ?_); (focus (first | (simp; done) | omega | (simp; omega)))) | (with_reducible refine below_step ?_ (by assumption)) | (with_reducible refine below_step_since ?_ (by assumption)) | ((with_reducible refine below_since' (by assumption) ?_ ?_); (focus (first | (simp; done) | omega | (simp; omega)))) | ((with_reducible refine below_trans' (by assumption) ?_ ?_); (focus (first | (simp; done) | omega | (simp; omega)))))))).out) ?_); rintro e w2 ⟨rfl, hb⟩) | (go_at_call 88; (with_reducible refine Calls.mono ((HV _).out) ?_); rintro e w3 ⟨hx, hb2⟩; obtain rfl : e = .returned .nilIface := hx))
    go_ret
    exact ⟨rfl, (by (repeat (first | (with_reducible exact Below.refl _ _) | (with_reducible assumption) | (with_reducible refine Below.drew ?_) | (with_reducible refine below_drewN ?_ _) | ((with_reducible refine below_alloc' ?_ ?_); (focus (first | (simp; done) | omega | (simp; omega)))) | ((with_reducible refine below_set' ?_ ?_); (focus (first | (simp; done) | omega | (simp; omega)))) | (with_reducible refine below_step ?_ (by assumption)) | (with_reducible refine below_step_since ?_ (by assumption)) | ((with_reducible refine below_since' (by assumption) ?_ ?_); (focus (first | (simp; done) | omega | (simp; omega)))) | ((with_reducible refine below_trans' (by assumption) ?_ ?_); (focus (first | (simp; done) | omega | (simp; omega)))))))⟩
  | false =>
    go_enter Try.func53, Try.ntmps53
    go_wp2_with (first | (go_at_call 87; (with_reducible refine Calls.mono ((HP _ (by (repeat (first | (with_reducible exact Below.refl _ _) | (with_reducible assumption) | (with_reducible refine Below.drew ?_) | (with_reducible refine below_drewN ?_ _) | ((with_reducible refine below_alloc' ?_ ?_); (focus (first | (simp; done) | omega | (simp; omega)))) | ((with_reducible refine below_set' ?_ ?_); (focus (first | (simp; done) | omega | (simp; omega)))) | (with_reducible refine below_step ?_ (by assumption)) | (with_reducible refine below_step_since ?_ (by assumption)) | ((with_reducible refine below_since' (by assumption) ?_ ?_); (focus (first | (simp; done) | omega | (simp; omega)))) | ((with_reducible refine below_trans' (by assumption) ?_ ?_); (focus (first | (simp; done) | omega | (simp; omega)))))))).out) ?_); rintro e w2 ⟨rfl, hb⟩) | (go_at_call 88; (with_reducible refine Calls.mono ((HV _).out) ?_); rintro e w3 ⟨hx, hb2⟩; obtain ⟨t, u, rfl⟩ : ∃ t u, e = .returned (.iface t u) := hx))
    go_ret
    exact ⟨rfl, (by (repeat (first | (with_reducible exact Below.refl _ _) | (with_reducible assumption) | (with_reducible refine Below.drew ?_) | (with_reducible refine below_drewN ?_ _) | ((with_reducible refine below_alloc' ?_ ?_); (focus (first | (simp; done) | omega | (simp; omega)))) | ((with_reducible refine below_set' ?_ ?_); (focus (first | (simp; done) | omega | (simp; omega)))) | (with_reducible refine below_step ?_ (by assumption)) | (with_reducible refine below_step_since ?_ (by assumption)) | ((with_reducible refine below_since' (by assumption) ?_ ?_); (focus (first | (simp; done) | omega | (simp; omega)))) | ((with_reducible refine below_trans' (by assumption) ?_ ?_); (focus (first | (simp; done) | omega | (simp; omega)))))))⟩

theorem width_any (d : Int) (hd : d = 0 ∨ d = 1 ∨ d = 2 ∨ d = 3) (w : World) : Calls Try.prog 47 #[.int .i64 d] w fun e w' => e = .returned (.int .i64 (wd d)) ∧ Below w.heap.size w w' := by
  have b0 : bits .and .i64 0 1 = 0 := by decide
  have b1 : bits .and .i64 1 1 = 1 := by decide
  have b2 : bits .and .i64 2 1 = 0 := by decide
  have b3 : bits .and .i64 3 1 = 1 := by decide
  rcases hd with rfl | rfl | rfl | rfl
  all_goals
    go_enter Try.func47, Try.ntmps47
    go_wp2
    go_ret
    exact ⟨rfl, (by (repeat (first | (with_reducible exact Below.refl _ _) | (with_reducible assumption) | (with_reducible refine Below.drew ?_) | (with_reducible refine below_drewN ?_ _) | ((with_reducible refine below_alloc' ?_ ?_); (focus (first | (simp; done) | omega | (simp; omega)))) | ((with_reducible refine below_set' ?_ ?_); (focus (first | (simp; done) | omega | (simp; omega)))) | (with_reducible refine below_step ?_ (by assumption)) | (with_reducible refine below_step_since ?_ (by assumption)) | ((with_reducible refine below_since' (by assumption) ?_ ?_); (focus (first | (simp; done) | omega | (simp; omega)))) | ((with_reducible refine below_trans' (by assumption) ?_ ?_); (focus (first | (simp; done) | omega | (simp; omega)))))))⟩

/-- What the law asks of its arguments. -/
def Asked (d : Int) (n : Nat) : Bool := decide (0 ≤ d ∧ d ≤ 3) && (n == 0 || n == wd d)

theorem kept_wd (d : Int) : kept (wd d) d = wd d := by simp [kept]
theorem kept_zero (d : Int) : kept 0 d = 0 := by simp [kept]
theorem ok_pnt (d : Int) (hd : d = 0 ∨ d = 1 ∨ d = 2 ∨ d = 3) (xs : List Nat) (h : xs.length = 0 ∨ xs.length = wd d) :
    okPnt (pntOf 1 xs d) = (xs.length == 0 || (Fl.fin (nth xs 0) && Fl.fin (nth xs 1))) := by
  rcases h with h | h
  · have h0 : (ofSeq xs d).length = 0 := by rw [ofSeq_length, h, kept_zero]
    unfold pntOf
    rw [if_pos (Or.inr h0), h]
    rfl
  · have hs : ofSeq xs d = xs := by unfold ofSeq; rw [h, kept_wd, ← h, List.take_length]
    have h2 := wd_cases d hd
    unfold pntOf
    rw [hs, if_neg (by rintro (h' | h') <;> omega)]
    have : (xs.length == 0) = false := by simp; intro h'; subst h'; simp at h; omega
    rw [this]
    rfl

set_option maxHeartbeats 1000000 in
theorem law_any (A : Option Addr) (c : Nat) (xs : List Nat) (d : Int) (w : World) (h : Reads w w.heap.size 1 A xs.length (xs.map fl)) (hm : xs.length ≤ maxLen) (hw : ∀ x ∈ xs, x < 18446744073709551616) :
    Calls Try.prog 14 #[.slice A xs.length c, .int .i64 d] w fun e w' => e = .returned (.bool true) ∧ Below w.heap.size w w' := by
  unfold maxLen at hm
  by_cases h1 : xs.length ≤ 2147483647
  · by_cases h2 : 0 ≤ d
    · by_cases h3 : d ≤ 3
      · have hd : d = 0 ∨ d = 1 ∨ d = 2 ∨ d = 3 := by omega
        have hd4 : d % 4 = d := by omega
        have HW := fun W => Lib.hid (width_any d hd W)
        have hwd := wd_cases d hd
        by_cases h4 : xs.length = 0
        · have HV := fun (W : World) (hW : Below w.heap.size w W) => Lib.hid (implVal_any 1 d A none c 0 0 xs W ((h.below hW).more hW.size) h1 hw)
          rw [hd4, ok_pnt d hd xs (Or.inl h4), show (xs.length == 0) = true from by rw [h4]; rfl, Bool.true_or] at HV
          rw [h4] at HV ⊢
          clear h hm h1 h4 hw hd4
          go_enter Try.func14, Try.ntmps14
          go_wp2_with (go_at_call 53; (with_reducible refine Calls.mono ((HV _ (by (repeat (first | (with_reducible exact Below.refl _ _) | (with_reducible assumption) | (with_reducible refine Below.drew ?_) | (with_reducible refine below_drewN ?_ _) | ((with_reducible refine below_alloc' ?_ ?_); (focus (first | (simp; done) | omega | (simp; omega)))) | ((with_reducible refine below_set' ?_ ?_); (focus (first | (simp; done) | omega | (simp; omega)))) | (with_reducible refine below_step ?_ (by assumption)) | (with_reducible refine below_step_since ?_ (by assumption)) | ((with_reducible refine below_since' (by assumption) ?_ ?_); (focus (first | (simp; done) | omega | (simp; omega)))) | ((with_reducible refine below_trans' (by assumption) ?_ ?_); (focus (first | (simp; done) | omega | (simp; omega)))))))).out) ?_); rintro e w2 ⟨rfl, hb⟩)
          go_ret
          exact ⟨rfl, (by (repeat (first | (with_reducible exact Below.refl _ _) | (with_reducible assumption) | (with_reducible refine Below.drew ?_) | (with_reducible refine below_drewN ?_ _) | ((with_reducible refine below_alloc' ?_ ?_); (focus (first | (simp; done) | omega | (simp; omega)))) | ((with_reducible refine below_set' ?_ ?_); (focus (first | (simp; done) | omega | (simp; omega)))) | (with_reducible refine below_step ?_ (by assumption)) | (with_reducible refine below_step_since ?_ (by assumption)) | ((with_reducible refine below_since' (by assumption) ?_ ?_); (focus (first | (simp; done) | omega | (simp; omega)))) | ((with_reducible refine below_trans' (by assumption) ?_ ?_); (focus (first | (simp; done) | omega | (simp; omega)))))))⟩
        · by_cases h5 : xs.length = wd d
          · have HV := fun (W : World) (hW : Below w.heap.size w W) => Lib.hid (implVal_any 1 d A none c 0 0 xs W ((h.below hW).more hW.size) h1 hw)
            rw [hd4, ok_pnt d hd xs (Or.inr h5), show (xs.length == 0) = false from by simpa using h4, Bool.false_or] at HV
            have HF0 := fun W => Lib.hid (gFinite_any _ (nth_w hw 0) W)
            have HF1 := fun W => Lib.hid (gFinite_any _ (nth_w hw 1) W)
            obtain ⟨b, off, rfl, had, hcell⟩ := h.cellAt (by omega) (by omega)
            have e0 : w.cell? ⟨b, off, none⟩ = some (.float .f64 (nth xs 0)) := hcell _ _ (nth_get (xs := xs) (j := 0) (by omega))
            have e1 : w.cell? ⟨b, off + 1, none⟩ = some (.float .f64 (nth xs 1)) := hcell _ _ (nth_get (xs := xs) (j := 1) (by omega))
            clear hcell h hw hm
            rw [h5] at HV h1 ⊢
            generalize nth xs 0 = x at *
            generalize nth xs 1 = y at *
            generalize Fl.fin x = fa at *
            generalize Fl.fin y = fb at *
            generalize wd d = k at *
            have hk0 : ¬ k = 0 := by omega
            have hk1 : 0 < k := by omega
            have hk2 : 1 < k := by omega
            clear h4 h5 hwd hd hd4
            cases fa <;> cases fb
            all_goals
              go_enter Try.func14, Try.ntmps14
              go_wp2_with (first | (go_at_call 47; (with_reducible refine Calls.mono ((HW _).out) ?_); rintro e w2 ⟨rfl, hb⟩; have HB : Below w.heap.size w w2 := (by (repeat (first | (with_reducible exact Below.refl _ _) | (with_reducible assumption) | (with_reducible refine Below.drew ?_) | (with_reducible refine below_drewN ?_ _) | ((with_reducible refine below_alloc' ?_ ?_); (focus (first | (simp; done) | omega | (simp; omega)))) | ((with_reducible refine below_set' ?_ ?_); (focus (first | (simp; done) | omega | (simp; omega)))) | (with_reducible refine below_step ?_ (by assumption)) | (with_reducible refine below_step_since ?_ (by assumption)) | ((with_reducible refine below_since' (by assumption) ?_ ?_); (focus (first | (simp; done) | omega | (simp; omega)))) | ((with_reducible refine below_trans' (by assumption) ?_ ?_); (focus (first | (simp; done) | omega | (simp; omega))))))); have hz2 := HB.size; clear hb) | (go_at_call 53; (with_reducible refine Calls.mono ((HV _ (by (repeat (first | (with_reducible exact Below.refl _ _) | (with_reducible assumption) | (with_reducible refine Below.drew ?_) | (with_reducible refine below_drewN ?_ _) | ((with_reducible refine below_alloc' ?_ ?_); (focus (first | (simp; done) | omega | (simp; omega)))) | ((with_reducible refine below_set' ?_ ?_); (focus (first | (simp; done) | omega | (simp; omega)))) | (with_reducible refine below_step ?_ (by assumption)) | (with_reducible refine below_step_since ?_ (by assumption)) | ((with_reducible refine below_since' (by assumption) ?_ ?_); (focus (first | (simp; done) | omega | (simp; omega)))) | ((with_reducible refine below_trans' (by assumption) ?_ ?_); (focus (first | (simp; done) | omega | (simp; omega)))))))).out) ?_); rintro e w2 ⟨rfl, hb⟩; replace HB : Below w.heap.size w w2 := (by (repeat (first | (with_reducible exact Below.refl _ _) | (with_reducible assumption) | (with_reducible refine Below.drew ?_) | (with_reducible refine below_drewN ?_ _) | ((with_reducible refine below_alloc' ?_ ?_); (focus (first | (simp; done) | omega | (simp; omega)))) | ((with_reducible refine below_set' ?_ ?_); (focus (first | (simp; done) | omega | (simp; omega)))) | (with_reducible refine below_step ?_ (by assumption)) | (with_reducible refine below_step_since ?_ (by assumption)) | ((with_reducible refine below_since' (by assumption) ?_ ?_); (focus (first | (simp; done) | omega | (simp; omega)))) | ((with_reducible refine below_trans' (by assumption) ?_ ?_); (focus (first | (simp; done) | omega | (simp; omega))))))); have hz2 := HB.size; clear hb; have g0 := ((bcell HB).1 _ _ had).trans e0; have g1 := ((bcell HB).1 _ _ had).trans e1) | (go_at_call 54; (with_reducible refine Calls.mono ((HF0 _).out) ?_); rintro e w2 ⟨rfl, hb⟩; replace HB : Below w.heap.size w w2 := (by (repeat (first | (with_reducible exact Below.refl _ _) | (with_reducible assumption) | (with_reducible refine Below.drew ?_) | (with_reducible refine below_drewN ?_ _) | ((with_reducible refine below_alloc' ?_ ?_); (focus (first | (simp; done) | omega | (simp; omega)))) | ((with_reducible refine below_set' ?_ ?_); (focus (first | (simp; done) | omega | (simp; omega)))) | (with_reducible refine below_step ?_ (by assumption)) | (with_reducible refine below_step_since ?_ (by assumption)) | ((with_reducible refine below_since' (by assumption) ?_ ?_); (focus (first | (simp; done) | omega | (simp; omega)))) | ((with_reducible refine below_trans' (by assumption) ?_ ?_); (focus (first | (simp; done) | omega | (simp; omega))))))); have hz2 := HB.size; clear hb; have g1 := ((bcell HB).1 _ _ had).trans e1) | (go_at_call 54; (with_reducible refine Calls.mono ((HF1 _).out) ?_); rintro e w2 ⟨rfl, hb⟩; replace HB : Below w.heap.size w w2 := (by (repeat (first | (with_reducible exact Below.refl _ _) | (with_reducible assumption) | (with_reducible refine Below.drew ?_) | (with_reducible refine below_drewN ?_ _) | ((with_reducible refine below_alloc' ?_ ?_); (focus (first | (simp; done) | omega | (simp; omega)))) | ((with_reducible refine below_set' ?_ ?_); (focus (first | (simp; done) | omega | (simp; omega)))) | (with_reducible refine below_step ?_ (by assumption)) | (with_reducible refine below_step_since ?_ (by assumption)) | ((with_reducible refine below_since' (by assumption) ?_ ?_); (focus (first | (simp; done) | omega | (simp; omega)))) | ((with_reducible refine below_trans' (by assumption) ?_ ?_); (focus (first | (simp; done) | omega | (simp; omega))))))); have hz2 := HB.size; clear hb))
              go_ret
              exact ⟨(by first | rfl | (simp [hk0]; done) | (simp; omega)), (by (repeat (first | (with_reducible exact Below.refl _ _) | (with_reducible assumption) | (with_reducible refine Below.drew ?_) | (with_reducible refine below_drewN ?_ _) | ((with_reducible refine below_alloc' ?_ ?_); (focus (first | (simp; done) | omega | (simp; omega)))) | ((with_reducible refine below_set' ?_ ?_); (focus (first | (simp; done) | omega | (simp; omega)))) | (with_reducible refine below_step ?_ (by assumption)) | (with_reducible refine below_step_since ?_ (by assumption)) | ((with_reducible refine below_since' (by assumption) ?_ ?_); (focus (first | (simp; done) | omega | (simp; omega)))) | ((with_reducible refine below_trans' (by assumption) ?_ ?_); (focus (first | (simp; done) | omega | (simp; omega)))))))⟩
          · clear h hm hw hd4 hd hwd
            generalize xs.length = n at *
            generalize wd d = k at *
            have g1 : ((n : Int) != (k : Int)) = true := by simp; omega
            have g2 : ((n : Int) == (k : Int)) = false := by simp; omega
            have g3 : ((n : Int) != 0) = true := by simp; omega
            go_enter Try.func14, Try.ntmps14
            go_wp2_with (go_at_call 47; (with_reducible refine Calls.mono ((HW _).out) ?_); rintro e w2 ⟨rfl, hb⟩)
            go_ret
            exact ⟨rfl, (by (repeat (first | (with_reducible exact Below.refl _ _) | (with_reducible assumption) | (with_reducible refine Below.drew ?_) | (with_reducible refine below_drewN ?_ _) | ((with_reducible refine below_alloc' ?_ ?_); (focus (first | (simp; done) | omega | (simp; omega)))) | ((with_reducible refine below_set' ?_ ?_); (focus (first | (simp; done) | omega | (simp; omega)))) | (with_reducible refine below_step ?_ (by assumption)) | (with_reducible refine below_step_since ?_ (by assumption)) | ((with_reducible refine below_since' (by assumption) ?_ ?_); (focus (first | (simp; done) | omega | (simp; omega)))) | ((with_reducible refine below_trans' (by assumption) ?_ ?_); (focus (first | (simp; done) | omega | (simp; omega)))))))⟩
      · clear h hm hw
        have h3' : 3 < d := by omega
        generalize xs.length = n at *
        go_enter Try.func14, Try.ntmps14
        go_wp2
        go_ret
        exact ⟨rfl, (by (repeat (first | (with_reducible exact Below.refl _ _) | (with_reducible assumption) | (with_reducible refine Below.drew ?_) | (with_reducible refine below_drewN ?_ _) | ((with_reducible refine below_alloc' ?_ ?_); (focus (first | (simp; done) | omega | (simp; omega)))) | ((with_reducible refine below_set' ?_ ?_); (focus (first | (simp; done) | omega | (simp; omega)))) | (with_reducible refine below_step ?_ (by assumption)) | (with_reducible refine below_step_since ?_ (by assumption)) | ((with_reducible refine below_since' (by assumption) ?_ ?_); (focus (first | (simp; done) | omega | (simp; omega)))) | ((with_reducible refine below_trans' (by assumption) ?_ ?_); (focus (first | (simp; done) | omega | (simp; omega)))))))⟩
    · clear h hm hw
      have h2' : d < 0 := by omega
      generalize xs.length = n at *
      go_enter Try.func14, Try.ntmps14
      go_wp2
      go_ret
      exact ⟨rfl, (by (repeat (first | (with_reducible exact Below.refl _ _) | (with_reducible assumption) | (with_reducible refine Below.drew ?_) | (with_reducible refine below_drewN ?_ _) | ((with_reducible refine below_alloc' ?_ ?_); (focus (first | (simp; done) | omega | (simp; omega)))) | ((with_reducible refine below_set' ?_ ?_); (focus (first | (simp; done) | omega | (simp; omega)))) | (with_reducible refine below_step ?_ (by assumption)) | (with_reducible refine below_step_since ?_ (by assumption)) | ((with_reducible refine below_since' (by assumption) ?_ ?_); (focus (first | (simp; done) | omega | (simp; omega)))) | ((with_reducible refine below_trans' (by assumption) ?_ ?_); (focus (first | (simp; done) | omega | (simp; omega)))))))⟩
  · clear h hw
    have h1' : 2147483647 < xs.length := by omega
    generalize xs.length = n at *
    go_enter Try.func14, Try.ntmps14
    go_wp2
    go_ret
    exact ⟨rfl, (by (repeat (first | (with_reducible exact Below.refl _ _) | (with_reducible assumption) | (with_reducible refine Below.drew ?_) | (with_reducible refine below_drewN ?_ _) | ((with_reducible refine below_alloc' ?_ ?_); (focus (first | (simp; done) | omega | (simp; omega)))) | ((with_reducible refine below_set' ?_ ?_); (focus (first | (simp; done) | omega | (simp; omega)))) | (with_reducible refine below_step ?_ (by assumption)) | (with_reducible refine below_step_since ?_ (by assumption)) | ((with_reducible refine below_since' (by assumption) ?_ ?_); (focus (first | (simp; done) | omega | (simp; omega)))) | ((with_reducible refine below_trans' (by assumption) ?_ ?_); (focus (first | (simp; done) | omega | (simp; omega)))))))⟩

open Go.ChangeShapes Go.WideShapes Go.ChangeAt
set_option maxRecDepth 100000 in
theorem lifted (os : Os) (started : os.Started) (H : Type) (enc : TypeId × Value → H) :
    ReturnsInHanded {} Try.checked os 14 .any (Rows.fnPointValidSpec.pre6 enc Try.prog Try.f14 Rows.fnPointValidRow.domain false) (Rows.fnPointValidSpec.post enc Try.prog Try.f14 false true false false) := by
  refine returnsInHanded_of_change (C := Try.checked) own started (by kernel_rfl) Try.func14
    (ChangeSpec.witness6 (enc := enc) (C := Try.checked) false ⟨#[], #[.slice none 0 0, .int .i64 0], []⟩ 8 (by kernel_rfl) (by kernel_rfl) (by kernel_rfl) (by kernel_rfl)) ?_
  intro W base args ds gs before hval0 hW hcnd _
  have hval : ∀ (j : Nat) t v, Try.f14.params[j]? = some t → args[j]? = some v → Value.okWide Try.prog W .any base t v := hval0
  have hW' := hW
  obtain ⟨p, q, hA0, hV, rfl, hfz, hnd⟩ := hW
  have hA : DataW.TrodAll enc Try.prog W 0 (fun _ => true) true Try.f14.params.toList args.toList ds p := hA0
  rw [Try.params14] at hA hval
  obtain ⟨v0, vs0, d0, ds0, p0, q0, hargs, rfl, rfl, h0, r0⟩ := trodAll_cons hA
  obtain ⟨v1, vs1, d1, ds1, p1, q1, rfl, rfl, rfl, h1, r1⟩ := trodAll_cons r0
  obtain ⟨rfl, rfl, rfl⟩ := trodAll_nil r1
  obtain rfl : args = #[v0, v1] := by cases args; simp_all
  obtain ⟨rfl, rfl⟩ := trodVars_none hV
  have k0 := h0
  have lt0 : ∀ x ∈ p0, x.block < W.heap.size := by obtain ⟨m, hm⟩ := k0; exact DataW.trod_lt m _ _ _ hm
  have k1 := h1
  have lt1 : ∀ x ∈ p1, x.block < W.heap.size := by obtain ⟨m, hm⟩ := k1; exact DataW.trod_lt m _ _ _ hm
  obtain ⟨A0, c0, xs0, rfl, R0, ml0, wf0⟩ := open_floats (hval 0 25 v0 rfl rfl) h0
  obtain ⟨a1, rfl, rfl, rfl, u1⟩ := open_int Try.underlying3 (hval 1 3 v1 rfl rfl) h1
  clear hA0 hval0
  refine (law_any A0 c0 xs0 a1 W R0 ml0 wf0).mono fun e W' ⟨he, bel⟩ => ?_
  subst he
  exact ⟨_, rfl, _, _, _, [], _, [], hW', trodAll_mk1 (shut_bool Try.underlying4 _), (trodAll_cons_mk (Below.trod laidOut (by kernel_rfl) (of_decide_eq_true (by kernel_rfl)) k0 bel lt0) (trodAll_cons_mk (Below.trod laidOut (by kernel_rfl) (of_decide_eq_true (by kernel_rfl)) k1 bel lt1) trodAll_mk0)), rfl, bel.frame _, fun h => by cases h⟩

theorem over : Rows.fnPointValidRow.holds Try.pinned (OpenSpec.ofChange Rows.fnPointValidSpec) :=
  OpenClaim.holds_of_wide 14 Try.f14 rfl rfl rfl rfl rfl rfl rfl ⟨rfl, rfl, rfl, rfl, rfl⟩ rfl rfl rfl rfl rfl (by kernel_rfl) Try.func14 (by kernel_rfl)
    (of_decide_eq_true (by kernel_rfl)) (by unfold Func.isWrapper; first | (rw [if_pos (by decide +kernel)]; kernel_rfl) | (rw [if_neg (by decide +kernel)]; exact ⟨rfl, rfl⟩))
    (fun os started H enc _ => lifted os started H enc)

theorem proved : Rows.FnPointValidSaid := over
#print axioms proved
end Go.Proofs.Ytciblaabghiefaa.fnPointValid
