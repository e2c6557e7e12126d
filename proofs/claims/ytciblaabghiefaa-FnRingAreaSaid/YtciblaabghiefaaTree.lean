/- Geometries: trees of numbers and parts; a parameter of this type opened. -/
import Derived.Test.YtciblaabghiefaaOpenS
namespace Go.Proofs.Ytciblaabghiefaa
open Go.ChangeShapes Go.WideShapes Go.ChangeAt Go.RowKit Go.Joins
set_option linter.unusedVariables false
set_option maxRecDepth 100000

/-- A geometry. -/
inductive G where
  | mk (k d : Int) (ns : List Nat) (ks : List G)
/-- Its own four cells. -/
structure GC where
  (k d : Int) (A : Option Addr) (n c : Nat) (B : Option Addr) (m e : Nat)
def GC.cells (x : GC) : List Value := [.int .i64 x.k, .int .i64 x.d, .slice x.A x.n x.c, .slice x.B x.m x.e]

/-- The four cells stand for the geometry. -/
def IsG (w : World) (b : Nat) : Nat → G → GC → Prop
  | 0, _, _ => False
  | f + 1, .mk k d ns ks, x => (x.k = k ∧ x.d = d ∧ (-9223372036854775808 ≤ k ∧ k ≤ 9223372036854775807) ∧ (-9223372036854775808 ≤ d ∧ d ≤ 9223372036854775807)) ∧
      (x.n = ns.length ∧ x.n ≤ x.c ∧ x.c ≤ maxLen ∧ (∀ u ∈ ns, u < 18446744073709551616) ∧ Reads w b 1 x.A x.n (ns.map (Value.float .f64))) ∧
      (x.m = ks.length ∧ x.m ≤ maxLen ∧ ∃ xs : List GC, xs.length = x.m ∧ Reads w b 4 x.B x.m (xs.flatMap GC.cells) ∧ ∀ (i : Nat) (g : G) (y : GC), ks[i]? = some g → xs[i]? = some y → IsG w b f g y)

/-- How many parts and numbers there are. -/
def weight : Nat → G → Nat
  | 0, _ => 0
  | f + 1, .mk _ _ ns ks => 1 + ns.length + (ks.map (weight f)).sum

theorem IsG.up {w : World} {b : Nat} : ∀ {f : Nat} {g : G} {x : GC}, IsG w b f g x → IsG w b (f + 1) g x
  | 0, _, _, h => h.elim
  | f + 1, .mk k d ns ks, x, h => by
    obtain ⟨h1, h2, h3, h4, xs, h5, h6, h7⟩ := h
    exact ⟨h1, h2, h3, h4, xs, h5, h6, fun i g y hg hy => (h7 i g y hg hy).up⟩
theorem IsG.keep {w w' : World} {b : Nat} (hk : ∀ p : Addr, p.block < b → w'.cell? p = w.cell? p) : ∀ {f : Nat} {g : G} {x : GC}, IsG w b f g x → IsG w' b f g x
  | 0, _, _, h => h.elim
  | f + 1, .mk k d ns ks, x, h => by
    obtain ⟨h1, ⟨a1, a2, a3, a4, a5⟩, h3, h4, xs, h5, h6, h7⟩ := h
    exact ⟨h1, ⟨a1, a2, a3, a4, a5.keep hk⟩, h3, h4, xs, h5, h6.keep hk, fun i g y hg hy => (h7 i g y hg hy).keep hk⟩
theorem IsG.more {w : World} {b b' : Nat} (hb : b ≤ b') : ∀ {f : Nat} {g : G} {x : GC}, IsG w b f g x → IsG w b' f g x
  | 0, _, _, h => h.elim
  | f + 1, .mk k d ns ks, x, h => by
    obtain ⟨h1, ⟨a1, a2, a3, a4, a5⟩, h3, h4, xs, h5, h6, h7⟩ := h
    exact ⟨h1, ⟨a1, a2, a3, a4, a5.more hb⟩, h3, h4, xs, h5, h6.more hb, fun i g y hg hy => (h7 i g y hg hy).more hb⟩
theorem IsG.below {w w' : World} {b : Nat} {f : Nat} {g : G} {x : GC} (h : IsG w b f g x) (hb : Below b w w') : IsG w' b f g x := h.keep fun _ hp => hb.cell hp
/-- What was there at the call's start is there behind any call. -/
theorem IsG.on {a w : World} {f : Nat} {g : G} {x : GC} (h : IsG a a.heap.size f g x) (hb : Below a.heap.size a w) : IsG w w.heap.size f g x := (h.below hb).more hb.size

section
variable {H : Type} {enc : TypeId × Value → H} {w : World} {base : Nat} {spare : Nat → Bool} {held : Bool}
theorem open_listF {α : Type} (f : α → List Value) (size : Nat) (hf : ∀ x, (f x).length = size) (good : α → Prop) {t e : TypeId} (ht : Try.prog.underlying t = some (.slice e)) (hC : Try.prog.cellsOf e = size) (hs : 0 < size)
    {fuel : Nat} (dec : ∀ cs' y, DataW.trod enc Try.prog w base spare held fuel e cs' = some y → ∃ x, cs' = f x ∧ good x) {cs : List Value} {x : DataW H × List MemPlace} (h : DataW.trod enc Try.prog w base spare held (fuel + 1) t cs = some x) :
    ∃ (A : Option Addr) (len cap : Nat) (xs : List α), cs = [.slice A len cap] ∧ xs.length = len ∧ len ≤ cap ∧ cap ≤ maxLen ∧ Reads w w.heap.size size A len (xs.flatMap f) ∧ ∀ x ∈ xs, good x := by
  rcases DataW.trod_slice ht h with ⟨rfl, _⟩ | ⟨a, len, cap, elems, rest, n, hn, rfl, _, _, hlc, hcm, hlen, hel, _, _⟩
  · exact ⟨none, 0, 0, [], rfl, rfl, Nat.le_refl _, Nat.zero_le _, ⟨by simp, fun h => absurd h (by omega)⟩, by simp⟩
  · obtain rfl : fuel = n := by omega
    obtain ⟨xs, hl, hx⟩ := list_of_each (p := fun i x => w.cells? base (a.add (i * size)) size = some (f x) ∧ good x) len (fun i hi => by
      have hk := hel i hi
      rw [List.getElem?_eq_getElem (by omega)] at hk
      obtain ⟨cs', hc, ht'⟩ := Option.bind_eq_some_iff.1 hk
      obtain ⟨x, rfl, hg⟩ := dec _ _ ht'
      rw [hC] at hc
      exact ⟨x, hc, hg⟩)
    refine ⟨some a, len, cap, xs, rfl, hl, hlc, hcm, ⟨by rw [flat_length f size hf, hl], fun h0 => ⟨a, rfl, ?_, fun j u hj => ?_⟩⟩, fun x hxm => ?_⟩
    · have h0' := (hx 0 (xs[0]) (List.getElem?_eq_getElem (by omega))).1
      have := World.cells?_block h0' hs
      rwa [block_of_add] at this
    · have hjl : j < len * size := by
        have := (List.getElem?_eq_some_iff.1 hj).1
        rw [flat_length f size hf, hl] at this
        exact this
      have hi : j / size < len := Nat.div_lt_of_lt_mul (by rwa [Nat.mul_comm])
      have hr : j % size < size := Nat.mod_lt _ hs
      have hje : j = j / size * size + j % size := by rw [Nat.mul_comm]; exact (Nat.div_add_mod j size).symm
      have hg := flat_get f size hf xs (j / size) (j % size) (by omega) hr
      rw [← hje] at hg
      rw [hg] at hj
      have hc := (hx (j / size) xs[j / size] (List.getElem?_eq_getElem (by omega))).1
      obtain ⟨_, _, hcell⟩ := World.cells?_some hc
      have := hcell (j % size) hr
      rw [add_of_add, ← hje, hj] at this
      exact this
    · obtain ⟨i, hi, rfl⟩ := List.mem_iff_getElem.1 hxm
      exact (hx i _ (List.getElem?_eq_getElem hi)).2

theorem list4 {α : Type} {cs : List α} (h : cs.length = 4) : ∃ c0 c1 c2 c3, cs = [c0, c1, c2, c3] := by
  match cs, h with
  | [c0, c1, c2, c3], _ => exact ⟨c0, c1, c2, c3, rfl⟩

theorem trod_Geom : ∀ (fuel : Nat) (cs : List Value) (y : DataW H × List MemPlace), DataW.trod enc Try.prog w base spare held fuel 28 cs = some y → ∃ (x : GC) (g : G), cs = x.cells ∧ IsG w w.heap.size fuel g x := by
  intro fuel
  induction fuel using Nat.strongRecOn with
  | _ fuel ih =>
  intro cs y h
  obtain ⟨xs, n, hn, _, hl, hlen, hf⟩ := DataW.trod_struct Try.underlying28 h
  obtain ⟨c0, c1, c2, c3, rfl⟩ := list4 (hl.trans (by kernel_rfl))
  match xs, hlen with
  | [y0, y1, y2, y3], _ =>
    have h0 : DataW.trod enc Try.prog w base spare held n 3 [c0] = some y0 := hf 0 _ rfl
    have h1 : DataW.trod enc Try.prog w base spare held n 3 [c1] = some y1 := hf 1 _ rfl
    have h2 : DataW.trod enc Try.prog w base spare held n 25 [c2] = some y2 := hf 2 _ rfl
    have h3 : DataW.trod enc Try.prog w base spare held n 26 [c3] = some y3 := hf 3 _ rfl
    obtain ⟨k, e0, _, w0⟩ := DataW.trod_int Try.underlying3 h0
    obtain ⟨d, e1, _, w1⟩ := DataW.trod_int Try.underlying3 h1
    obtain ⟨A, len, cap, ns, e2, hl2, hlc2, hcm2, hR2, hg2⟩ := open_list (fun x : Nat => [Value.float .f64 x]) 1 (fun _ => rfl) (fun x => x < 18446744073709551616) Try.underlying25 (by kernel_rfl) (by omega) (fun n cs' y hy => by
      obtain ⟨b, hb, _, wb⟩ := trod_float Try.underlying34 hy
      exact ⟨b, hb, f64_lt wb⟩) h2
    cases n with
    | zero => simp [DataW.trod] at h3
    | succ m =>
      obtain ⟨A3, len3, cap3, ys, e3, hl3, hlc3, hcm3, hR3, hg3⟩ := open_listF GC.cells 4 (fun _ => rfl) (fun x => ∃ g, IsG w w.heap.size m g x) Try.underlying26 (by kernel_rfl) (by omega) (fun cs' y hy => by
        obtain ⟨x, g, hx, hg⟩ := ih m (by omega) _ _ hy
        exact ⟨x, hx, g, hg⟩) h3
      obtain ⟨gs, hgl, hgs⟩ := list_of_each (p := fun i g => ∀ y, ys[i]? = some y → IsG w w.heap.size m g y) ys.length (fun i hi => by
        obtain ⟨g, hg⟩ := hg3 ys[i] (List.getElem_mem hi)
        exact ⟨g, fun y hy => by rw [List.getElem?_eq_getElem hi] at hy; cases hy; exact hg⟩)
      injection e0 with e0 _; injection e1 with e1 _; injection e2 with e2 _; injection e3 with e3 _
      subst e0 e1 e2 e3 hn
      refine ⟨⟨k, d, A, len, cap, A3, len3, cap3⟩, .mk k d ns gs, rfl, ⟨rfl, rfl, i64_bd w0, i64_bd w1⟩, ⟨hl2.symm, hlc2, hcm2, hg2, ?_⟩, by simp; omega, by simp; omega, ys, hl3, hR3, fun i g y hg hy => (hgs i g hg y hy).up⟩
      rwa [show ns.flatMap (fun x : Nat => [Value.float .f64 x]) = ns.map (Value.float .f64) from flat_single _ ns] at hR2

theorem open_Geom {r : Reach} {b0 : Nat} {v : Value} {d : DataW H} {p : List MemPlace} (hv : Value.okWide Try.prog w r b0 28 v) (h : DataW.Trod enc Try.prog w base spare held 28 v d p) :
    ∃ (x : GC) (g : G) (f : Nat), v = .agg x.cells.toArray ∧ IsG w w.heap.size f g x := by
  obtain ⟨cs, rfl, hsz⟩ := okWide_struct Try.underlying28 hv
  obtain ⟨fuel, hf⟩ := h
  obtain ⟨x, g, hc, hg⟩ := trod_Geom fuel _ _ hf
  refine ⟨x, g, fuel, ?_, hg⟩
  rw [← hc]
  show Value.agg cs = .agg cs.toList.toArray
  simp
end
end Go.Proofs.Ytciblaabghiefaa
