/- FnMatches. -/
import Derived.Test.YtciblaabghiefaaMatch1
import Derived.Test.YtciblaabghiefaaOpen
namespace Go.Proofs.Ytciblaabghiefaa.fnMatches
open Go.RowKit
set_option maxRecDepth 100000

theorem relate_other (s t : ByteArray) (w : World) (h : ¬ (s.size = 9 ∧ t.size = 9)) : Calls Try.prog 69 #[.string s, .string t] w fun e w' =>
    (∃ k u, e = .returned (.tuple #[.bool false, .iface k u])) ∧ Below w.heap.size w w' := by
  by_cases h1 : s.size = 9
  · have h2 : ((t.size : Int) != 9) = true := by simp; omega
    have h3 : ((t.size : Int) == 9) = false := by simp; omega
    clear h
    go_enter Try.func69, Try.ntmps69
    go_wp2_with (go_at_call 102; refine (errNew_any _ _).mono ?_; rintro e w2 ⟨⟨k, u, rfl⟩, hb⟩)
    go_ret2
    exact ⟨⟨_, _, rfl⟩, hb⟩
  · have h2 : ((s.size : Int) != 9) = true := by simp; omega
    have h3 : ((s.size : Int) == 9) = false := by simp; omega
    clear h
    go_enter Try.func69, Try.ntmps69
    go_wp2_with (go_at_call 102; refine (errNew_any _ _).mono ?_; rintro e w2 ⟨⟨k, u, rfl⟩, hb⟩)
    go_ret2
    exact ⟨⟨_, _, rfl⟩, hb⟩

/-- What the thin package says of two texts: (is, ok). -/
def Said2 (s t : ByteArray) (is ok : Bool) : Prop :=
  (¬ (s.size = 9 ∧ t.size = 9) → ok = false) ∧
  (s.size = 9 ∧ t.size = 9 → (ok = false ∧ is = false ∧ ∃ i, i < 9 ∧ good s t i = false) ∨ (ok = true ∧ is = false ∧ ∃ i, i < 9 ∧ fits s t i = false) ∨ (ok = true ∧ is = true ∧ ∀ i, i < 9 → good s t i = true ∧ fits s t i = true))

theorem impl_any (s t : ByteArray) (w : World) : Calls Try.prog 27 #[.string s, .string t] w fun e w' => (∃ is ok, e = .returned (.tuple #[.bool is, .bool ok]) ∧ Said2 s t is ok) ∧ Below w.heap.size w w' := by
  by_cases h : s.size = 9 ∧ t.size = 9
  · go_enter Try.func27, Try.ntmps27
    go_wp2_with (go_at_call 69; refine (relate_nine _ _ _ h.1 h.2).mono ?_; rintro e w2 ⟨(⟨k, u, rfl, hx⟩ | ⟨rfl, hx⟩ | ⟨rfl, hx⟩), hb⟩)
    all_goals
      go_region
      go_wp2
      go_ret2
    · exact ⟨⟨_, _, rfl, fun h' => absurd h h', fun _ => Or.inl ⟨rfl, rfl, hx⟩⟩, hb.drew⟩
    · exact ⟨⟨_, _, rfl, fun h' => absurd h h', fun _ => Or.inr (Or.inl ⟨rfl, rfl, hx⟩)⟩, hb.drew⟩
    · exact ⟨⟨_, _, rfl, fun h' => absurd h h', fun _ => Or.inr (Or.inr ⟨rfl, rfl, hx⟩)⟩, hb.drew⟩
  · go_enter Try.func27, Try.ntmps27
    go_wp2_with (go_at_call 69; refine (relate_other _ _ _ h).mono ?_; rintro e w2 ⟨⟨k, u, rfl⟩, hb⟩)
    go_region
    go_wp2
    go_ret2
    exact ⟨⟨_, _, rfl, fun _ => rfl, fun h' => absurd h' h⟩, hb.drew⟩

/-- The law's own 'entry'. -/
def entIs (m p : Nat) : Bool := goodM m && (if p = 84 then m != 70 else if p = 70 ∨ p = 48 ∨ p = 49 ∨ p = 50 then m == p else true)
theorem entIs_good (m p : Nat) (h : (goodM m && goodP p) = true) : entIs m p = isE m p := by
  simp [goodM, goodP] at h
  obtain ⟨h, h'⟩ := h
  rcases h with ((rfl | rfl) | rfl) | rfl <;> rcases h' with ((((rfl | rfl) | rfl) | rfl) | rfl) | rfl <;> rfl

set_option maxHeartbeats 4000000 in
theorem entry_any (m p : Nat) (w : World) : Calls Try.prog 28 #[.int .u8 m, .int .u8 p] w fun e w' =>
    e = .returned (.tuple #[.bool (entIs m p), .bool (goodM m && goodP p)]) ∧ Below w.heap.size w w' := by
  rcases m_cases m with h' | h'
  · rcases p_cases p with h | h
    · rcases h with rfl | rfl | rfl | rfl | rfl | rfl <;> rcases h' with rfl | rfl | rfl | rfl
      all_goals
        go_enter Try.func28, Try.ntmps28
        go_wp2
        go_ret2
        exact ⟨rfl, (by (repeat (first | (with_reducible exact Below.refl _ _) | (with_reducible assumption) | (with_reducible refine Below.drew ?_) | (with_reducible refine below_drewN ?_ _) | ((with_reducible refine below_alloc' ?_ ?_); (focus (first | (simp; done) | omega | (simp; omega)))) | ((with_reducible refine below_set' ?_ ?_); (focus (first | (simp; done) | omega | (simp; omega)))) | (with_reducible refine below_step ?_ (by assumption)) | (with_reducible refine below_step_since ?_ (by assumption)) | ((with_reducible refine below_since' (by assumption) ?_ ?_); (focus (first | (simp; done) | omega | (simp; omega)))) | ((with_reducible refine below_trans' (by assumption) ?_ ?_); (focus (first | (simp; done) | omega | (simp; omega)))))))⟩
    · have hv : Hid (goodP p = false) := by show _ = _; simp [goodP]; omega
      have hx : Hid ((if p = 84 then m != 70 else if p = 70 ∨ p = 48 ∨ p = 49 ∨ p = 50 then m == p else true) = true) := by
        show _ = _
        rw [if_neg (by omega), if_neg (by omega)]
      have r1 : ((p : Int) == 70) = false := by simp; omega
      have r2 : ((p : Int) == 48) = false := by simp; omega
      have r3 : ((p : Int) == 49) = false := by simp; omega
      have r4 : ((p : Int) == 50) = false := by simp; omega
      have r5 : ((p : Int) == 84) = false := by simp; omega
      have r6 : ((p : Int) == 42) = false := by simp; omega
      unfold entIs
      rw [hv.out, hx.out]
      clear h hv hx
      rcases h' with rfl | rfl | rfl | rfl
      all_goals
        go_enter Try.func28, Try.ntmps28
        go_wp2
        go_ret2
        exact ⟨rfl, (by (repeat (first | (with_reducible exact Below.refl _ _) | (with_reducible assumption) | (with_reducible refine Below.drew ?_) | (with_reducible refine below_drewN ?_ _) | ((with_reducible refine below_alloc' ?_ ?_); (focus (first | (simp; done) | omega | (simp; omega)))) | ((with_reducible refine below_set' ?_ ?_); (focus (first | (simp; done) | omega | (simp; omega)))) | (with_reducible refine below_step ?_ (by assumption)) | (with_reducible refine below_step_since ?_ (by assumption)) | ((with_reducible refine below_since' (by assumption) ?_ ?_); (focus (first | (simp; done) | omega | (simp; omega)))) | ((with_reducible refine below_trans' (by assumption) ?_ ?_); (focus (first | (simp; done) | omega | (simp; omega)))))))⟩
  · have hv : Hid (goodM m = false) := by show _ = _; simp [goodM]; omega
    have r1 : ((m : Int) != 70) = true := by simp; omega
    have r2 : ((m : Int) == 70) = false := by simp; omega
    unfold entIs
    rw [hv.out, Bool.false_and, Bool.false_and]
    clear hv
    by_cases hlt : m < 48
    · have q1 : (m : Int) < 48 := by omega
      clear h'
      go_enter Try.func28, Try.ntmps28
      go_wp2
      go_ret2
      exact ⟨rfl, (by (repeat (first | (with_reducible exact Below.refl _ _) | (with_reducible assumption) | (with_reducible refine Below.drew ?_) | (with_reducible refine below_drewN ?_ _) | ((with_reducible refine below_alloc' ?_ ?_); (focus (first | (simp; done) | omega | (simp; omega)))) | ((with_reducible refine below_set' ?_ ?_); (focus (first | (simp; done) | omega | (simp; omega)))) | (with_reducible refine below_step ?_ (by assumption)) | (with_reducible refine below_step_since ?_ (by assumption)) | ((with_reducible refine below_since' (by assumption) ?_ ?_); (focus (first | (simp; done) | omega | (simp; omega)))) | ((with_reducible refine below_trans' (by assumption) ?_ ?_); (focus (first | (simp; done) | omega | (simp; omega)))))))⟩
    · have q1 : ¬ (m : Int) < 48 := by omega
      have q2 : (50 : Int) < (m : Int) := by omega
      clear h'
      go_enter Try.func28, Try.ntmps28
      go_wp2
      go_ret2
      exact ⟨rfl, (by (repeat (first | (with_reducible exact Below.refl _ _) | (with_reducible assumption) | (with_reducible refine Below.drew ?_) | (with_reducible refine below_drewN ?_ _) | ((with_reducible refine below_alloc' ?_ ?_); (focus (first | (simp; done) | omega | (simp; omega)))) | ((with_reducible refine below_set' ?_ ?_); (focus (first | (simp; done) | omega | (simp; omega)))) | (with_reducible refine below_step ?_ (by assumption)) | (with_reducible refine below_step_since ?_ (by assumption)) | ((with_reducible refine below_since' (by assumption) ?_ ?_); (focus (first | (simp; done) | omega | (simp; omega)))) | ((with_reducible refine below_trans' (by assumption) ?_ ?_); (focus (first | (simp; done) | omega | (simp; omega)))))))⟩

set_option maxHeartbeats 4000000 in
theorem law_any (s t : ByteArray) (w : World) : Calls Try.prog 7 #[.string s, .string t] w fun e w' => e = .returned (.bool true) ∧ Below w.heap.size w w' := by
  by_cases h1 : s.size ≤ 2147483647
  · by_cases h2 : t.size ≤ 2147483647
    · by_cases h9 : s.size = 9 ∧ t.size = 9
      · obtain ⟨hs, ht⟩ := h9
        clear h1 h2
        go_enter Try.func7, Try.ntmps7
        go_wp2_with (go_at_call 27; refine (impl_any _ _ _).mono ?_; rintro e w2 ⟨⟨is, ok, rfl, hsd⟩, hb⟩; have HSD := Lib.hid (hsd.2 ⟨hs, ht⟩); clear hsd)
        go_loopw [7, 35] (fun v i wr => ∃ k : Nat, k ≤ 9 ∧ i = .int .i64 k ∧ (∃ b, v = .bool b ∧ Hid ((b = true ↔ ∀ i, i < k → fits s t i = true))) ∧ Hid (∀ i, i < k → good s t i = true) ∧ Below w.heap.size w wr) (fun _ i _ => 9 - (intOf i).toNat)
        case atStart => exact ⟨0, by omega, rfl, ⟨true, rfl, by show _ ↔ _; simp⟩, fun i hi => absurd hi (by omega), hb⟩
        case round =>
          clear hb
          obtain ⟨k, hk, rfl, ⟨b, rfl, hv⟩, hgd, HB⟩ := hrel
          by_cases hlt : k < 9
          · have hks : k < s.size := by omega
            have hkt : k < t.size := by omega
            have hq : (t[k]'hkt).toNat = bt t k := bt_eq t k hkt
            have hq' : (s[k]'hks).toNat = bt s k := bt_eq s k hks
            have hg : Hid (good s t k = (goodM (bt s k) && goodP (bt t k))) := rfl
            have hf : Hid (fits s t k = isE (bt s k) (bt t k)) := rfl
            have he := Lib.hid (entIs_good (bt s k) (bt t k))
            have HE := fun W => Lib.hid (entry_any (bt s k) (bt t k) W)
            generalize bt t k = q at *
            generalize bt s k = m at *
            generalize entIs m q = x at *
            generalize (goodM m && goodP q) = g at *
            go_wp2
            (refine region_start (by kernel_rfl) ?_)
            generalize hW : World.drew _ = W; replace HB : Below w.heap.size w W := (by rw [← hW]; exact HB.drew); clear hW
            (refine from_stretch (Since _) 0 12 (by kernel_rfl) (Since.refl _) ?_; simp only [List.take_succ_cons, List.take_zero, List.drop_zero]; (iterate 12 (refine wpStay_step (Since.ne _) ⟨?_, ?_, ?_, ?_⟩; rotate_left 2; (intro w1 hS K hK; have hc := Since.cell hS; have hf := Since.frz hS; have hz := Since.size hS; go_simp; (first | exact hK _ hS | (go_at_call 28; (with_reducible refine Calls.mono ((HE _).out) ?_); rintro e w2 ⟨rfl, hb⟩; (try go_simp); exact hK _ (hS.then hb)))); rotate_left 1; rfl)); refine wpStay_nil ?_; intro w1 hS; have hc := Since.cell hS; have hf := Since.frz hS; have hz := Since.size hS)
            have HB := below_step HB hS
            clear hc hf hz
            (refine from_end (by kernel_rfl) ?_)
            cases g with
            | false =>
              rcases HSD.out with ⟨rfl, rfl, _⟩ | ⟨rfl, rfl, _⟩ | ⟨rfl, rfl, hx⟩
              · go_wp2
                go_ret
                exact ⟨rfl, HB⟩
              · go_wp2
                go_ret
                exact ⟨rfl, HB⟩
              · exfalso
                have := (hx k hlt).1
                rw [hg.out] at this
                cases this
            | true =>
              have hxe : x = isE m q := he.out rfl
              have hfk : fits s t k = x := hf.out.trans hxe.symm
              have HFK := Lib.hid hfk
              clear hfk hxe he hf
              have hall : ∀ i, i < k + 1 → good s t i = true := fun i hi => by
                by_cases h : i = k
                · subst h; exact hg.out
                · exact hgd.out i (by omega)
              have hfit : (b && x) = true ↔ ∀ i, i < k + 1 → fits s t i = true := by
                rw [Bool.and_eq_true, hv.out]
                constructor
                · rintro ⟨ha, hx⟩ i hi
                  by_cases h : i = k
                  · subst h; rw [HFK.out]; exact hx
                  · exact ha i (by omega)
                · intro ha
                  exact ⟨fun i hi => ha i (by omega), by rw [← HFK.out]; exact ha k (by omega)⟩
              have HALL := Lib.hid hall
              have HFIT := Lib.hid hfit
              clear hall hfit hv hgd HFK hg
              cases b
              all_goals
                go_wp2
                go_roundw
                case rel => exact ⟨k + 1, by omega, by go_num, ⟨_, rfl, HFIT⟩, HALL, (by (repeat (first | (with_reducible exact Below.refl _ _) | (with_reducible assumption) | (with_reducible refine Below.drew ?_) | (with_reducible refine below_drewN ?_ _) | ((with_reducible refine below_alloc' ?_ ?_); (focus (first | (simp; done) | omega | (simp; omega)))) | ((with_reducible refine below_set' ?_ ?_); (focus (first | (simp; done) | omega | (simp; omega)))) | (with_reducible refine below_step ?_ (by assumption)) | (with_reducible refine below_step_since ?_ (by assumption)) | ((with_reducible refine below_since' (by assumption) ?_ ?_); (focus (first | (simp; done) | omega | (simp; omega)))) | ((with_reducible refine below_trans' (by assumption) ?_ ?_); (focus (first | (simp; done) | omega | (simp; omega)))))))⟩
                case measure => simp [intOf]; omega
          · obtain rfl : k = 9 := by omega
            rcases HSD.out with ⟨_, _, i, hi, hx⟩ | ⟨rfl, rfl, i, hi, hx⟩ | ⟨rfl, rfl, hx⟩
            · rw [hgd.out i hi] at hx; cases hx
            · cases b with
              | true => rw [hv.out.1 rfl i hi] at hx; cases hx
              | false =>
                clear hv hgd
                go_wp2
                go_ret
                exact ⟨rfl, (by (repeat (first | (with_reducible exact Below.refl _ _) | (with_reducible assumption) | (with_reducible refine Below.drew ?_) | (with_reducible refine below_drewN ?_ _) | ((with_reducible refine below_alloc' ?_ ?_); (focus (first | (simp; done) | omega | (simp; omega)))) | ((with_reducible refine below_set' ?_ ?_); (focus (first | (simp; done) | omega | (simp; omega)))) | (with_reducible refine below_step ?_ (by assumption)) | (with_reducible refine below_step_since ?_ (by assumption)) | ((with_reducible refine below_since' (by assumption) ?_ ?_); (focus (first | (simp; done) | omega | (simp; omega)))) | ((with_reducible refine below_trans' (by assumption) ?_ ?_); (focus (first | (simp; done) | omega | (simp; omega)))))))⟩
            · have hb1 : b = true := hv.out.2 fun i hi => (hx i hi).2
              subst hb1
              clear hv hgd hx
              go_wp2
              go_ret
              exact ⟨rfl, (by (repeat (first | (with_reducible exact Below.refl _ _) | (with_reducible assumption) | (with_reducible refine Below.drew ?_) | (with_reducible refine below_drewN ?_ _) | ((with_reducible refine below_alloc' ?_ ?_); (focus (first | (simp; done) | omega | (simp; omega)))) | ((with_reducible refine below_set' ?_ ?_); (focus (first | (simp; done) | omega | (simp; omega)))) | (with_reducible refine below_step ?_ (by assumption)) | (with_reducible refine below_step_since ?_ (by assumption)) | ((with_reducible refine below_since' (by assumption) ?_ ?_); (focus (first | (simp; done) | omega | (simp; omega)))) | ((with_reducible refine below_trans' (by assumption) ?_ ?_); (focus (first | (simp; done) | omega | (simp; omega)))))))⟩
      · by_cases hs : s.size = 9
        · have r1 : ((t.size : Int) != 9) = true := by simp; omega
          have r2 : ((t.size : Int) == 9) = false := by simp; omega
          go_enter Try.func7, Try.ntmps7
          go_wp2_with (go_at_call 27; refine (impl_any _ _ _).mono ?_; rintro e w2 ⟨⟨is, ok, rfl, hsd⟩, hb⟩; obtain rfl := hsd.1 h9; clear hsd)
          go_ret
          exact ⟨rfl, (by (repeat (first | (with_reducible exact Below.refl _ _) | (with_reducible assumption) | (with_reducible refine Below.drew ?_) | (with_reducible refine below_drewN ?_ _) | ((with_reducible refine below_alloc' ?_ ?_); (focus (first | (simp; done) | omega | (simp; omega)))) | ((with_reducible refine below_set' ?_ ?_); (focus (first | (simp; done) | omega | (simp; omega)))) | (with_reducible refine below_step ?_ (by assumption)) | (with_reducible refine below_step_since ?_ (by assumption)) | ((with_reducible refine below_since' (by assumption) ?_ ?_); (focus (first | (simp; done) | omega | (simp; omega)))) | ((with_reducible refine below_trans' (by assumption) ?_ ?_); (focus (first | (simp; done) | omega | (simp; omega)))))))⟩
        · have r1 : ((s.size : Int) != 9) = true := by simp; omega
          have r2 : ((s.size : Int) == 9) = false := by simp; omega
          go_enter Try.func7, Try.ntmps7
          go_wp2_with (go_at_call 27; refine (impl_any _ _ _).mono ?_; rintro e w2 ⟨⟨is, ok, rfl, hsd⟩, hb⟩; obtain rfl := hsd.1 h9; clear hsd)
          go_ret
          exact ⟨rfl, (by (repeat (first | (with_reducible exact Below.refl _ _) | (with_reducible assumption) | (with_reducible refine Below.drew ?_) | (with_reducible refine below_drewN ?_ _) | ((with_reducible refine below_alloc' ?_ ?_); (focus (first | (simp; done) | omega | (simp; omega)))) | ((with_reducible refine below_set' ?_ ?_); (focus (first | (simp; done) | omega | (simp; omega)))) | (with_reducible refine below_step ?_ (by assumption)) | (with_reducible refine below_step_since ?_ (by assumption)) | ((with_reducible refine below_since' (by assumption) ?_ ?_); (focus (first | (simp; done) | omega | (simp; omega)))) | ((with_reducible refine below_trans' (by assumption) ?_ ?_); (focus (first | (simp; done) | omega | (simp; omega)))))))⟩
    · have r1 : (2147483647 : Int) < (t.size : Int) := by omega
      clear h2
      go_enter Try.func7, Try.ntmps7
      go_wp2
      go_ret
      exact ⟨rfl, (by (repeat (first | (with_reducible exact Below.refl _ _) | (with_reducible assumption) | (with_reducible refine Below.drew ?_) | (with_reducible refine below_drewN ?_ _) | ((with_reducible refine below_alloc' ?_ ?_); (focus (first | (simp; done) | omega | (simp; omega)))) | ((with_reducible refine below_set' ?_ ?_); (focus (first | (simp; done) | omega | (simp; omega)))) | (with_reducible refine below_step ?_ (by assumption)) | (with_reducible refine below_step_since ?_ (by assumption)) | ((with_reducible refine below_since' (by assumption) ?_ ?_); (focus (first | (simp; done) | omega | (simp; omega)))) | ((with_reducible refine below_trans' (by assumption) ?_ ?_); (focus (first | (simp; done) | omega | (simp; omega)))))))⟩
  · have r1 : (2147483647 : Int) < (s.size : Int) := by omega
    clear h1
    go_enter Try.func7, Try.ntmps7
    go_wp2
    go_ret
    exact ⟨rfl, (by (repeat (first | (with_reducible exact Below.refl _ _) | (with_reducible assumption) | (with_reducible refine Below.drew ?_) | (with_reducible refine below_drewN ?_ _) | ((with_reducible refine below_alloc' ?_ ?_); (focus (first | (simp; done) | omega | (simp; omega)))) | ((with_reducible refine below_set' ?_ ?_); (focus (first | (simp; done) | omega | (simp; omega)))) | (with_reducible refine below_step ?_ (by assumption)) | (with_reducible refine below_step_since ?_ (by assumption)) | ((with_reducible refine below_since' (by assumption) ?_ ?_); (focus (first | (simp; done) | omega | (simp; omega)))) | ((with_reducible refine below_trans' (by assumption) ?_ ?_); (focus (first | (simp; done) | omega | (simp; omega)))))))⟩

open Go.ChangeShapes Go.WideShapes Go.ChangeAt
set_option maxRecDepth 100000 in
theorem lifted (os : Os) (started : os.Started) (H : Type) (enc : TypeId × Value → H) :
    ReturnsInHanded {} Try.checked os 7 .any (Rows.fnMatchesSpec.pre6 enc Try.prog Try.f7 Rows.fnMatchesRow.domain false) (Rows.fnMatchesSpec.post enc Try.prog Try.f7 false true false false) := by
  refine returnsInHanded_of_change (C := Try.checked) own started (by kernel_rfl) Try.func7
    (ChangeSpec.witness6 (enc := enc) (C := Try.checked) false ⟨#[], #[.string ByteArray.empty, .string ByteArray.empty], []⟩ 8 (by kernel_rfl) (by kernel_rfl) (by kernel_rfl) (by kernel_rfl)) ?_
  intro W base args ds gs before hval0 hW hcnd _
  have hval : ∀ (j : Nat) t v, Try.f7.params[j]? = some t → args[j]? = some v → Value.okWide Try.prog W .any base t v := hval0
  have hW' := hW
  obtain ⟨p, q, hA0, hV, rfl, hfz, hnd⟩ := hW
  have hA : DataW.TrodAll enc Try.prog W 0 (fun _ => true) true Try.f7.params.toList args.toList ds p := hA0
  rw [Try.params7] at hA hval
  obtain ⟨v0, vs0, d0, ds0, p0, q0, hargs, rfl, rfl, h0, r0⟩ := trodAll_cons hA
  obtain ⟨v1, vs1, d1, ds1, p1, q1, rfl, rfl, rfl, h1, r1⟩ := trodAll_cons r0
  obtain ⟨rfl, rfl, rfl⟩ := trodAll_nil r1
  obtain rfl : args = #[v0, v1] := by cases args; simp_all
  obtain ⟨rfl, rfl⟩ := trodVars_none hV
  have k0 := h0
  have lt0 : ∀ x ∈ p0, x.block < W.heap.size := by obtain ⟨m, hm⟩ := k0; exact DataW.trod_lt m _ _ _ hm
  have k1 := h1
  have lt1 : ∀ x ∈ p1, x.block < W.heap.size := by obtain ⟨m, hm⟩ := k1; exact DataW.trod_lt m _ _ _ hm
  obtain ⟨a0, rfl⟩ := okWide_string Try.underlying9 (hval 0 9 v0 rfl rfl)
  obtain ⟨a1, rfl⟩ := okWide_string Try.underlying9 (hval 1 9 v1 rfl rfl)
  clear hA0 hval0
  refine (law_any a0 a1 W).mono fun e W' ⟨he, bel⟩ => ?_
  subst he
  exact ⟨_, rfl, _, _, _, [], _, [], hW', trodAll_mk1 (shut_bool Try.underlying4 _), (trodAll_cons_mk (Below.trod laidOut (by kernel_rfl) (of_decide_eq_true (by kernel_rfl)) k0 bel lt0) (trodAll_cons_mk (Below.trod laidOut (by kernel_rfl) (of_decide_eq_true (by kernel_rfl)) k1 bel lt1) trodAll_mk0)), rfl, bel.frame _, fun h => by cases h⟩

theorem over : Rows.fnMatchesRow.holds Try.pinned (OpenSpec.ofChange Rows.fnMatchesSpec) :=
  OpenClaim.holds_of_wide 7 Try.f7 rfl rfl rfl rfl rfl rfl rfl ⟨rfl, rfl, rfl, rfl, rfl⟩ rfl rfl rfl rfl rfl (by kernel_rfl) Try.func7 (by kernel_rfl)
    (of_decide_eq_true (by kernel_rfl)) (by unfold Func.isWrapper; first | (rw [if_pos (by decide +kernel)]; kernel_rfl) | (rw [if_neg (by decide +kernel)]; exact ⟨rfl, rfl⟩))
    (fun os started H enc _ => lifted os started H enc)

theorem proved : Rows.FnMatchesSaid := over
#print axioms proved
end Go.Proofs.Ytciblaabghiefaa.fnMatches
