/- Envelope.Validate; impl.EnvValidate. -/
import Derived.Test.YtciblaabghiefaaEnv2
namespace Go.Proofs.Ytciblaabghiefaa
open Go.RowKit
attribute [local go_sem] run_store_float
set_option maxRecDepth 100000

theorem wrap_any (t : TypeId) (u : Value) (s : ByteArray) (w : World) : Calls Try.prog 118 #[.iface t u, .string s, .slice none 0 0] w (IsErr w) := by
  go_enter Try.func118, Try.ntmps118
  go_wp2
  go_ret
  exact ⟨⟨_, _, rfl⟩, (by (repeat (first | (with_reducible exact Below.refl _ _) | (with_reducible assumption) | (with_reducible refine Below.drew ?_) | (with_reducible refine below_drewN ?_ _) | ((with_reducible refine below_alloc' ?_ ?_); (focus (first | (simp; done) | omega | (simp; omega)))) | ((with_reducible refine below_set' ?_ ?_); (focus (first | (simp; done) | omega | (simp; omega)))) | (with_reducible refine below_step ?_ (by assumption)) | (with_reducible refine below_step_since ?_ (by assumption)) | ((with_reducible refine below_since' (by assumption) ?_ ?_); (focus (first | (simp; done) | omega | (simp; omega)))) | ((with_reducible refine below_trans' (by assumption) ?_ ?_); (focus (first | (simp; done) | omega | (simp; omega)))))))⟩

/-- Valid: empty, or all four numbers finite. -/
def Env5.valid (e : Env5) : Bool := !e.full || (Fl.fin e.x0 && Fl.fin e.y0) && (Fl.fin e.x1 && Fl.fin e.y1)

def IsErrB (w : World) (ok : Bool) (e : Ending) (w' : World) : Prop := (if ok then e = .returned .nilIface else ∃ t u, e = .returned (.iface t u)) ∧ Below w.heap.size w w'

set_option maxHeartbeats 1000000 in
theorem envValidate_any (a b c d : Nat) (f : Bool) (ha : W64 a) (hb' : W64 b) (hc' : W64 c) (hd : W64 d) (w : World) :
    Calls Try.prog 86 #[.agg #[.float .f64 a, .float .f64 b, .float .f64 c, .float .f64 d, .bool f]] w (IsErrB w (Env5.valid ⟨a, b, c, d, f⟩)) := by
  cases f with
  | false =>
    go_enter Try.func86, Try.ntmps86
    go_wp2_with (go_at_call 109; refine (isEmpty_any _ _ _ _ _ _).mono ?_; rintro e w2 ⟨rfl, hb⟩)
    go_ret
    exact ⟨rfl, (by (repeat (first | (with_reducible exact Below.refl _ _) | (with_reducible assumption) | (with_reducible refine Below.drew ?_) | (with_reducible refine below_drewN ?_ _) | ((with_reducible refine below_alloc' ?_ ?_); (focus (first | (simp; done) | omega | (simp; omega)))) | ((with_reducible refine below_set' ?_ ?_); (focus (first | (simp; done) | omega | (simp; omega)))) | (with_reducible refine below_step ?_ (by assumption)) | (with_reducible refine below_step_since ?_ (by assumption)) | ((with_reducible refine below_since' (by assumption) ?_ ?_); (focus (first | (simp; done) | omega | (simp; omega)))) | ((with_reducible refine below_trans' (by assumption) ?_ ?_); (focus (first | (simp; done) | omega | (simp; omega)))))))⟩
  | true =>
    cases h1 : (Fl.fin a && Fl.fin b) with
    | false =>
      have H1 := fun W => Lib.hid (validate_bad a b ha hb' W h1)
      have hv : Hid _ := show Env5.valid ⟨a, b, c, d, true⟩ = false by simp [Env5.valid, h1]
      clear h1
      go_enter Try.func86, Try.ntmps86
      go_wp2_with (first | (go_at_call 109; refine (isEmpty_any _ _ _ _ _ _).mono ?_; rintro e w2 ⟨rfl, hb⟩; have hc := (bcell hb).1; have hf := (bcell hb).2.1; have hq0 : w.heap.size < w2.heap.size := (by have hsz := hb.size; (try simp at hsz); omega)) | (go_at_call 117; refine ((H1 _).out).mono ?_; rintro e w3 ⟨⟨t, u, rfl⟩, hb2⟩) | (go_at_call 118; refine (wrap_any _ _ _ _).mono ?_; rintro e w4 ⟨⟨t2, u2, rfl⟩, hb3⟩))
      go_ret
      exact ⟨by rw [hv.out]; exact ⟨_, _, rfl⟩, (by (repeat (first | (with_reducible exact Below.refl _ _) | (with_reducible assumption) | (with_reducible refine Below.drew ?_) | (with_reducible refine below_drewN ?_ _) | ((with_reducible refine below_alloc' ?_ ?_); (focus (first | (simp; done) | omega | (simp; omega)))) | ((with_reducible refine below_set' ?_ ?_); (focus (first | (simp; done) | omega | (simp; omega)))) | (with_reducible refine below_step ?_ (by assumption)) | (with_reducible refine below_step_since ?_ (by assumption)) | ((with_reducible refine below_since' (by assumption) ?_ ?_); (focus (first | (simp; done) | omega | (simp; omega)))) | ((with_reducible refine below_trans' (by assumption) ?_ ?_); (focus (first | (simp; done) | omega | (simp; omega)))))))⟩
    | true =>
      have h1' := h1
      simp at h1'
      have H1 := fun W => Lib.hid (validate_ok a b ha hb' W h1'.1 h1'.2)
      clear h1'
      cases h2 : (Fl.fin c && Fl.fin d) with
      | false =>
        have H2 := fun W => Lib.hid (validate_bad c d hc' hd W h2)
        have hv : Hid _ := show Env5.valid ⟨a, b, c, d, true⟩ = false by simp [Env5.valid, h1, h2]
        clear h1 h2
        go_enter Try.func86, Try.ntmps86
        go_wp2_with (first | (go_at_call 109; refine (isEmpty_any _ _ _ _ _ _).mono ?_; rintro e w2 ⟨rfl, hb⟩; have hc := (bcell hb).1; have hf := (bcell hb).2.1; have hq0 : w.heap.size < w2.heap.size := (by have hsz := hb.size; (try simp at hsz); omega)) | (go_at_call 117; (with_reducible refine Calls.mono ((H1 _).out) ?_); rintro e w2 ⟨rfl, hb⟩; have hc := (bcell hb).1; have hf := (bcell hb).2.1; have hq0 : w.heap.size < w2.heap.size := (by have hsz := hb.size; (try simp at hsz); omega)) | (go_at_call 117; (with_reducible refine Calls.mono ((H2 _).out) ?_); rintro e w3 ⟨⟨t, u, rfl⟩, hb2⟩) | (go_at_call 118; refine (wrap_any _ _ _ _).mono ?_; rintro e w4 ⟨⟨t2, u2, rfl⟩, hb3⟩))
        go_ret
        exact ⟨by rw [hv.out]; exact ⟨_, _, rfl⟩, (by (repeat (first | (with_reducible exact Below.refl _ _) | (with_reducible assumption) | (with_reducible refine Below.drew ?_) | (with_reducible refine below_drewN ?_ _) | ((with_reducible refine below_alloc' ?_ ?_); (focus (first | (simp; done) | omega | (simp; omega)))) | ((with_reducible refine below_set' ?_ ?_); (focus (first | (simp; done) | omega | (simp; omega)))) | (with_reducible refine below_step ?_ (by assumption)) | (with_reducible refine below_step_since ?_ (by assumption)) | ((with_reducible refine below_since' (by assumption) ?_ ?_); (focus (first | (simp; done) | omega | (simp; omega)))) | ((with_reducible refine below_trans' (by assumption) ?_ ?_); (focus (first | (simp; done) | omega | (simp; omega)))))))⟩
      | true =>
        have h2' := h2
        simp at h2'
        have H2 := fun W => Lib.hid (validate_ok c d hc' hd W h2'.1 h2'.2)
        have hv : Hid _ := show Env5.valid ⟨a, b, c, d, true⟩ = true by simp [Env5.valid, h1, h2]
        clear h1 h2 h2'
        go_enter Try.func86, Try.ntmps86
        go_wp2_with (first | (go_at_call 109; refine (isEmpty_any _ _ _ _ _ _).mono ?_; rintro e w2 ⟨rfl, hb⟩; have hc := (bcell hb).1; have hf := (bcell hb).2.1; have hq0 : w.heap.size < w2.heap.size := (by have hsz := hb.size; (try simp at hsz); omega)) | (go_at_call 117; (with_reducible refine Calls.mono ((H1 _).out) ?_); rintro e w2 ⟨rfl, hb⟩; have hc := (bcell hb).1; have hf := (bcell hb).2.1; have hq0 : w.heap.size < w2.heap.size := (by have hsz := hb.size; (try simp at hsz); omega)) | (go_at_call 117; (with_reducible refine Calls.mono ((H2 _).out) ?_); rintro e w2 ⟨rfl, hb⟩; have hc := (bcell hb).1; have hf := (bcell hb).2.1; have hq0 : w.heap.size < w2.heap.size := (by have hsz := hb.size; (try simp at hsz); omega)))
        go_ret
        exact ⟨by rw [hv.out]; rfl, (by (repeat (first | (with_reducible exact Below.refl _ _) | (with_reducible assumption) | (with_reducible refine Below.drew ?_) | (with_reducible refine below_drewN ?_ _) | ((with_reducible refine below_alloc' ?_ ?_); (focus (first | (simp; done) | omega | (simp; omega)))) | ((with_reducible refine below_set' ?_ ?_); (focus (first | (simp; done) | omega | (simp; omega)))) | (with_reducible refine below_step ?_ (by assumption)) | (with_reducible refine below_step_since ?_ (by assumption)) | ((with_reducible refine below_since' (by assumption) ?_ ?_); (focus (first | (simp; done) | omega | (simp; omega)))) | ((with_reducible refine below_trans' (by assumption) ?_ ?_); (focus (first | (simp; done) | omega | (simp; omega)))))))⟩

/-- The envelope that the thin package makes. -/
def envMade (f : Bool) (a b c d : Nat) : Env5 := if f then envOf [(a, b), (c, d)] else Env5.empty

set_option maxHeartbeats 1000000 in
theorem envelope_any (f : Bool) (a b c d : Nat) (w : World) :
    Calls Try.prog 76 #[.agg #[.bool f, .float .f64 a, .float .f64 b, .float .f64 c, .float .f64 d]] w fun e w' => e = .returned (.agg (envMade f a b c d).cells) ∧ Below w.heap.size w w' := by
  cases f with
  | false =>
    go_enter Try.func76, Try.ntmps76
    go_wp2
    have B0 : Blk ((w.alloc (.cells #[.bool false, .float .f64 a, .float .f64 b, .float .f64 c, .float .f64 d] 71)).alloc (.cells Env5.empty.cells 121)) (w.heap.size + 1) 121 Env5.empty.cells := Blk.new' (by first | (simp; done) | omega | (simp; omega))
    simp only [Env5.cells, Env5.empty] at B0
    refine bodyPost_ret (results_cell_row Try.results76 _ _ _ _ _ (0, 0) _ rfl B0 Try.underlying121 rfl (by kernel_rfl)) rfl ⟨rfl, ?_⟩
    (repeat (first | (with_reducible exact Below.refl _ _) | (with_reducible assumption) | (with_reducible refine Below.drew ?_) | (with_reducible refine below_drewN ?_ _) | ((with_reducible refine below_alloc' ?_ ?_); (focus (first | (simp; done) | omega | (simp; omega)))) | ((with_reducible refine below_set' ?_ ?_); (focus (first | (simp; done) | omega | (simp; omega)))) | (with_reducible refine below_step ?_ (by assumption)) | (with_reducible refine below_step_since ?_ (by assumption)) | ((with_reducible refine below_since' (by assumption) ?_ ?_); (focus (first | (simp; done) | omega | (simp; omega)))) | ((with_reducible refine below_trans' (by assumption) ?_ ?_); (focus (first | (simp; done) | omega | (simp; omega))))))
  | true =>
    generalize hV : envMade true a b c d = V
    obtain ⟨v0, v1, v2, v3, v4⟩ := V
    have HN : ∀ (W : World) (g : Nat), g = W.heap.size → Calls Try.prog 108 #[.slice (some ⟨g, 0, none⟩) 2 2] (W.alloc (.cells #[.float .f64 a, .float .f64 b, .float .f64 c, .float .f64 d] 104)) fun e w' => e = .returned (.agg (envOf [(a, b), (c, d)]).cells) ∧ Below (W.alloc (.cells #[.float .f64 a, .float .f64 b, .float .f64 c, .float .f64 d] 104)).heap.size (W.alloc (.cells #[.float .f64 a, .float .f64 b, .float .f64 c, .float .f64 d] 104)) w' := fun W g hg =>
      newEnv_any _ _ _ [(a, b), (c, d)] _ (reads_new' W g hg [.float .f64 a, .float .f64 b, .float .f64 c, .float .f64 d] _ 2 2 (by simp) (by omega)) (by omega)
    rw [show envOf [(a, b), (c, d)] = ⟨v0, v1, v2, v3, v4⟩ from hV] at HN
    clear hV
    have HN := fun W g hg => Lib.hid (HN W g hg)
    simp only [Env5.cells] at HN
    have nn02 : w.heap.size < w.heap.size + 1 + 1 := (by omega); have nn03 : w.heap.size < w.heap.size + 1 + 1 + 1 := (by omega); have nn13 : w.heap.size + 1 < w.heap.size + 1 + 1 + 1 := (by omega); have nn04 : w.heap.size < w.heap.size + 1 + 1 + 1 + 1 := (by omega); have nn14 : w.heap.size + 1 < w.heap.size + 1 + 1 + 1 + 1 := (by omega); have nn24 : w.heap.size + 1 + 1 < w.heap.size + 1 + 1 + 1 + 1 := (by omega)
    go_enter Try.func76, Try.ntmps76
    go_wp2_with (go_at_call 108; refine ((HN _ _ (by simp)).out).mono ?_; rintro e w2 ⟨rfl, hb⟩; have B1 : Blk w2 (w.heap.size + 1) 121 #[.float .f64 0, .float .f64 0, .float .f64 0, .float .f64 0, .bool false] := Blk.below ((Blk.new' (by first | (simp; done) | omega | (simp; omega))).alloc _) hb (by first | (simp; done) | omega | (simp; omega)); have HB : Below w.heap.size w w2 := (by (repeat (first | (with_reducible exact Below.refl _ _) | (with_reducible assumption) | (with_reducible refine Below.drew ?_) | (with_reducible refine below_drewN ?_ _) | ((with_reducible refine below_alloc' ?_ ?_); (focus (first | (simp; done) | omega | (simp; omega)))) | ((with_reducible refine below_set' ?_ ?_); (focus (first | (simp; done) | omega | (simp; omega)))) | (with_reducible refine below_step ?_ (by assumption)) | (with_reducible refine below_step_since ?_ (by assumption)) | ((with_reducible refine below_since' (by assumption) ?_ ?_); (focus (first | (simp; done) | omega | (simp; omega)))) | ((with_reducible refine below_trans' (by assumption) ?_ ?_); (focus (first | (simp; done) | omega | (simp; omega))))))); clear hb; have l1 := B1.lt; have f1 := B1.frozen; have c1_0 := B1.cell_ 0 rfl; have c1_1 := B1.cell_ 1 rfl; have c1_2 := B1.cell_ 2 rfl; have c1_3 := B1.cell_ 3 rfl; have c1_4 := B1.cell_ 4 rfl)
    have B1 := B1.set_ 0 (.float .f64 v0); have B1 := B1.set_ 1 (.float .f64 v1); have B1 := B1.set_ 2 (.float .f64 v2); have B1 := B1.set_ 3 (.float .f64 v3); have B1 := B1.set_ 4 (.bool v4); simp only [List.setIfInBounds_toArray, List.set_cons_zero, List.set_cons_succ] at B1; refine bodyPost_ret (results_cell_row Try.results76 _ _ _ _ _ (0, 0) _ rfl B1 Try.underlying121 rfl (by kernel_rfl)) rfl ⟨rfl, ?_⟩
    (repeat (first | (with_reducible exact Below.refl _ _) | (with_reducible assumption) | (with_reducible refine Below.drew ?_) | (with_reducible refine below_drewN ?_ _) | ((with_reducible refine below_alloc' ?_ ?_); (focus (first | (simp; done) | omega | (simp; omega)))) | ((with_reducible refine below_set' ?_ ?_); (focus (first | (simp; done) | omega | (simp; omega)))) | (with_reducible refine below_step ?_ (by assumption)) | (with_reducible refine below_step_since ?_ (by assumption)) | ((with_reducible refine below_since' (by assumption) ?_ ?_); (focus (first | (simp; done) | omega | (simp; omega)))) | ((with_reducible refine below_trans' (by assumption) ?_ ?_); (focus (first | (simp; done) | omega | (simp; omega))))))
end Go.Proofs.Ytciblaabghiefaa
