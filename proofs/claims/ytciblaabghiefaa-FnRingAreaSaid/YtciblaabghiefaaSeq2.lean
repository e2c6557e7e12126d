/- The thin package's sequence(nums, dim). -/
import Derived.Test.YtciblaabghiefaaSeq1
namespace Go.Proofs.Ytciblaabghiefaa
open Go.RowKit
attribute [local go_sem] run_store_float
set_option maxRecDepth 100000

def fl (x : Nat) : Value := .float .f64 x
/-- How many of n numbers a sequence of type d keeps. -/
def kept (n : Nat) (d : Int) : Nat := n - n % wd d
theorem kept_le (n : Nat) (d : Int) : kept n d ≤ n := Nat.sub_le _ _
theorem kept_mod (n : Nat) (d : Int) : kept n d % wd d = 0 := by
  unfold kept
  exact Nat.mod_eq_zero_of_dvd (Nat.dvd_sub_mod n)
theorem d4 (d : Int) : d % 4 = 0 ∨ d % 4 = 1 ∨ d % 4 = 2 ∨ d % 4 = 3 := mod4_cases d

/-- The sequence that is made of xs under d: a new row of its own holds what is kept. -/
def IsSeq (w : World) (d : Int) (xs : List Nat) (e : Ending) (w' : World) : Prop :=
  ∃ g, w.heap.size ≤ g ∧ e = .returned (.agg #[.int .u8 (d % 4), .slice (some ⟨g, 0, none⟩) (kept xs.length (d % 4)) (kept xs.length (d % 4))]) ∧
    Blk w' g 34 ((xs.take (kept xs.length (d % 4))).map fl).toArray ∧ Below w.heap.size w w'

theorem made_list (z : Value) (n : Nat) : madeCells #[z] n = (List.replicate n z).toArray := by
  rw [← toList_madeCells_one]

theorem splice_all (n : Nat) (z : Value) (cs : List Value) (h : cs.length = n) : splice (List.replicate n z) 0 cs = cs := by
  simp [splice, h]

set_option maxHeartbeats 1000000 in
theorem sequence_any (A : Option Addr) (c : Nat) (xs : List Nat) (d : Int) (w : World) (h : Reads w w.heap.size 1 A xs.length (xs.map fl)) (hn : xs.length ≤ 2147483647) :
    Calls Try.prog 97 #[.slice A xs.length c, .int .i64 d] w (IsSeq w d xs) := by
  unfold IsSeq
  have HO := fun W => Lib.hid (dimOf_any d W)
  have HD := fun W => Lib.hid (dimension_any _ (d4 d) W)
  have hkl := kept_le xs.length (d % 4)
  have HN := fun (m c : Nat) (hm : m = kept xs.length (d % 4)) (A : Option Addr) W => Lib.hid (newSeq_any (d % 4) (d4 d) A m c (by rw [hm]; exact kept_mod _ _) W)
  have hke : kept xs.length (d % 4) = xs.length - xs.length % wd (d % 4) := rfl
  have h2 := wd_cases _ (d4 d)
  have hcs : ((xs.take (kept xs.length (d % 4))).map fl).length = kept xs.length (d % 4) := by simp; omega
  have hsrc : ∀ j v, ((xs.take (kept xs.length (d % 4))).map fl)[j]? = some v → (xs.map fl)[j]? = some v ∧ j < xs.length := by
    intro j v hj
    rw [List.getElem?_map] at hj ⊢
    rw [List.getElem?_take] at hj
    split at hj
    · exact ⟨hj, by omega⟩
    · simp at hj
  have h1 : ∀ v ∈ (xs.take (kept xs.length (d % 4))).map fl, v.oneCell' = true := by
    intro v hv
    obtain ⟨x, _, rfl⟩ := List.mem_map.1 hv
    rfl
  generalize hn' : xs.length = n at *
  generalize (xs.take (kept n (d % 4))).map fl = cs at *
  generalize kept n (d % 4) = m at *
  generalize d % 4 = dd at *
  generalize wd dd = k at *
  have hk0 : ¬ k = 0 := by omega
  have hw1 : IntKind.i64.wrap ((n : Int) % (k : Int)) = (n : Int) % (k : Int) := by
    have h0 : (0 : Int) ≤ (n : Int) % (k : Int) := Int.emod_nonneg _ (by omega)
    have h1 : (n : Int) % (k : Int) < k := Int.emod_lt_of_pos _ (by omega)
    exact IntWalk.i64_in _ (by omega)
  have hme : (n : Int) - (n : Int) % (k : Int) = (m : Int) := by
    have : n % k ≤ n := Nat.mod_le _ _
    omega
  have hw2 : IntKind.i64.wrap (m : Int) = (m : Int) := IntWalk.i64_in _ (by omega)
  have hmk := fun W => run_make_row' (P := Try.prog) 25 34 (.float .f64 0) 8 Try.underlying25 (by kernel_rfl) rfl .i64 .i64 m (by omega) (by omega) W
  have HR := Lib.hid h
  clear h
  have HC := Lib.hid hcs
  have HS := Lib.hid hsrc
  have HH := Lib.hid h1
  clear hcs hsrc h1 hke h2
  have hcp : ∀ W : World, Below w.heap.size w W → ∀ (g : Nat) (dp : Option Addr), dp = some ⟨g, 0, none⟩ → 0 < cs.length → dp = some ⟨g, 0, none⟩ ∧ ∃ ad, A = some ad ∧ ∀ j v, cs[j]? = some v → (W.alloc (.cells (madeCells #[.float .f64 0] m) 34)).cell? (ad.add j) = some v := by
    intro W hW g dp hdp hpos
    rw [HC.out] at hpos
    obtain ⟨b, off, rfl, had, hcell⟩ := HR.out.cellAt (by omega) (by omega)
    refine ⟨hdp, _, rfl, fun j v hj => ?_⟩
    have hwz := hW.size
    rw [addr_add _ _ _ _ rfl, World.cell?_alloc_lt _ _ _ (by simp; omega), (bcell hW).1 _ _ had]
    exact hcell _ _ (HS.out j v hj).1
  have HCP := fun W hW g dp hd => Lib.hid (hcp W hW g dp hd)
  clear hcp
  go_enter Try.func97, Try.ntmps97
  go_wp2_with (first | (go_at_call 82; (with_reducible refine Calls.mono ((HO _).out) ?_); rintro e w2 ⟨rfl, hb⟩; have HB : Below w.heap.size w w2 := (by (repeat (first | (with_reducible exact Below.refl _ _) | (with_reducible assumption) | (with_reducible refine Below.drew ?_) | (with_reducible refine below_drewN ?_ _) | ((with_reducible refine below_alloc' ?_ ?_); (focus (first | (simp; done) | omega | (simp; omega)))) | ((with_reducible refine below_set' ?_ ?_); (focus (first | (simp; done) | omega | (simp; omega)))) | (with_reducible refine below_step ?_ (by assumption)) | (with_reducible refine below_step_since ?_ (by assumption)) | ((with_reducible refine below_since' (by assumption) ?_ ?_); (focus (first | (simp; done) | omega | (simp; omega)))) | ((with_reducible refine below_trans' (by assumption) ?_ ?_); (focus (first | (simp; done) | omega | (simp; omega))))))); have B0 : Blk w2 w.heap.size 97 #[.int .u8 0, .slice none 0 0] := (Blk.new _ _ _).below hb (by first | (simp; done) | omega | (simp; omega)); clear hb) | (go_at_call 98; (with_reducible refine Calls.mono ((HD _).out) ?_); rintro e w2 ⟨rfl, hb⟩; have HB : Below w.heap.size w w2 := (by (repeat (first | (with_reducible exact Below.refl _ _) | (with_reducible assumption) | (with_reducible refine Below.drew ?_) | (with_reducible refine below_drewN ?_ _) | ((with_reducible refine below_alloc' ?_ ?_); (focus (first | (simp; done) | omega | (simp; omega)))) | ((with_reducible refine below_set' ?_ ?_); (focus (first | (simp; done) | omega | (simp; omega)))) | (with_reducible refine below_step ?_ (by assumption)) | (with_reducible refine below_step_since ?_ (by assumption)) | ((with_reducible refine below_since' (by assumption) ?_ ?_); (focus (first | (simp; done) | omega | (simp; omega)))) | ((with_reducible refine below_trans' (by assumption) ?_ ?_); (focus (first | (simp; done) | omega | (simp; omega))))))); have B0 := B0.below hb B0.lt; clear hb) | ((with_reducible show wpList _ _ _ (Oper.mk _ (Op.call { callee := .builtin .copy, args := _, argTypes := _ }) _ _ _ _ :: _) _ _); refine wpList_copy_splice rfl (.tmp 20) (.tmp 21) 25 25 rfl 34 Try.underlying25 (by kernel_rfl) _ _ _ _ _ _ rfl rfl w2.heap.size 0 (List.replicate m (.float .f64 0)) 34 (by rw [made_list]; exact heap_alloc_new _ _) cs (by rw [HC.out]; show _ = min _ _; omega) (HCP _ HB _ _ rfl).out (by rw [HC.out]; simp) HH.out w2.heap.size _ (Below.refl _ _) (Nat.le_refl _) ?_; intro w4 hg4 hb4; rw [splice_all _ _ _ HC.out] at hg4; have hge := HB.size; obtain ⟨g, hgw⟩ : ∃ g, g = w2.heap.size := ⟨_, rfl⟩; have HGW := Lib.hid hgw; clear hgw; have lg := B0.lt; have BS : Blk w4 w2.heap.size 34 cs.toArray := hg4.out; have l0 := B0.lt; have B0 : Blk w4 w.heap.size 97 #[.int .u8 0, .slice none 0 0] := (B0.alloc _).below hb4 l0; have HB : Below w.heap.size w w4 := (by (repeat (first | (with_reducible exact Below.refl _ _) | (with_reducible assumption) | (with_reducible refine Below.drew ?_) | (with_reducible refine below_drewN ?_ _) | ((with_reducible refine below_alloc' ?_ ?_); (focus (first | (simp; done) | omega | (simp; omega)))) | ((with_reducible refine below_set' ?_ ?_); (focus (first | (simp; done) | omega | (simp; omega)))) | (with_reducible refine below_step ?_ (by assumption)) | (with_reducible refine below_step_since ?_ (by assumption)) | ((with_reducible refine below_since' (by assumption) ?_ ?_); (focus (first | (simp; done) | omega | (simp; omega)))) | ((with_reducible refine below_trans' (by assumption) ?_ ?_); (focus (first | (simp; done) | omega | (simp; omega))))))); clear hg4 hb4) | (go_at_call 81; (with_reducible refine Calls.mono ((HN _ _ rfl _ _).out) ?_); rintro e w2 ⟨rfl, hb⟩; have B0 := B0.below hb B0.lt; have BS := BS.below hb BS.lt; have HB : Below w.heap.size w w2 := (by (repeat (first | (with_reducible exact Below.refl _ _) | (with_reducible assumption) | (with_reducible refine Below.drew ?_) | (with_reducible refine below_drewN ?_ _) | ((with_reducible refine below_alloc' ?_ ?_); (focus (first | (simp; done) | omega | (simp; omega)))) | ((with_reducible refine below_set' ?_ ?_); (focus (first | (simp; done) | omega | (simp; omega)))) | (with_reducible refine below_step ?_ (by assumption)) | (with_reducible refine below_step_since ?_ (by assumption)) | ((with_reducible refine below_since' (by assumption) ?_ ?_); (focus (first | (simp; done) | omega | (simp; omega)))) | ((with_reducible refine below_trans' (by assumption) ?_ ?_); (focus (first | (simp; done) | omega | (simp; omega))))))); clear hb; have l0 := B0.lt; have f0 := B0.frozen; have c0_0 := B0.cell_ 0 rfl; have c0_1 := B0.cell_ 1 rfl))
  rw [← HGW.out] at BS hge lg ⊢
  clear l0
  have B0 := B0.set_ 0 (.int .u8 dd); have B0 := B0.set_ 1 (.slice (some ⟨g, 0, none⟩) m m); simp only [List.setIfInBounds_toArray, List.set_cons_zero, List.set_cons_succ] at B0; refine bodyPost_ret (results_cell_row Try.results97 _ _ _ _ _ (0, 0) _ rfl B0 Try.underlying97 rfl (by kernel_rfl)) rfl ⟨g, hge, rfl, (BS.far (by simp; omega) _).far (by simp; omega) _, ?_⟩
  (repeat (first | (with_reducible exact Below.refl _ _) | (with_reducible assumption) | (with_reducible refine Below.drew ?_) | (with_reducible refine below_drewN ?_ _) | ((with_reducible refine below_alloc' ?_ ?_); (focus (first | (simp; done) | omega | (simp; omega)))) | ((with_reducible refine below_set' ?_ ?_); (focus (first | (simp; done) | omega | (simp; omega)))) | (with_reducible refine below_step ?_ (by assumption)) | (with_reducible refine below_step_since ?_ (by assumption)) | ((with_reducible refine below_since' (by assumption) ?_ ?_); (focus (first | (simp; done) | omega | (simp; omega)))) | ((with_reducible refine below_trans' (by assumption) ?_ ?_); (focus (first | (simp; done) | omega | (simp; omega))))))
end Go.Proofs.Ytciblaabghiefaa
