/- Slices among the arguments, opened. -/
import Derived.Test.YtciblaabghiefaaOpen
import Derived.Test.YtciblaabghiefaaWords
import Derived.Deep.Slices
namespace Go.Proofs.Ytciblaabghiefaa
open Go.ChangeShapes Go.WideShapes Go.ChangeAt Go.RowKit Go.Joins
set_option linter.unusedVariables false
set_option maxRecDepth 100000

theorem list_of_each {α : Type} {p : Nat → α → Prop} : ∀ n, (∀ i, i < n → ∃ x, p i x) → ∃ xs : List α, xs.length = n ∧ ∀ i x, xs[i]? = some x → p i x
  | 0, _ => ⟨[], rfl, by simp⟩
  | n + 1, h => by
    obtain ⟨xs, hl, hx⟩ := list_of_each n (fun i hi => h i (by omega))
    obtain ⟨y, hy⟩ := h n (by omega)
    refine ⟨xs ++ [y], by simp [hl], fun i x hi => ?_⟩
    by_cases hin : i < n
    · rw [List.getElem?_append_left (by omega)] at hi
      exact hx i x hi
    · rw [List.getElem?_append_right (by omega)] at hi
      have : i = n := by
        by_cases h0 : i - xs.length = 0
        · omega
        · simp [h0] at hi
      subst this
      simp [hl] at hi
      exact hi ▸ hy

theorem flat_single {α β : Type} (f : α → β) (xs : List α) : xs.flatMap (fun x => [f x]) = xs.map f := by induction xs <;> simp_all

section
variable {H : Type} {enc : TypeId × Value → H} {P : Program} {w : World} {base : Nat} {spare : Nat → Bool} {held : Bool}
theorem open_list {α : Type} (f : α → List Value) (size : Nat) (hf : ∀ x, (f x).length = size) (good : α → Prop) {t e : TypeId} (ht : P.underlying t = some (.slice e)) (hC : P.cellsOf e = size) (hs : 0 < size)
    (dec : ∀ n cs' y, DataW.trod enc P w base spare held n e cs' = some y → ∃ x, cs' = f x ∧ good x) {fuel : Nat} {cs : List Value} {x : DataW H × List MemPlace} (h : DataW.trod enc P w base spare held fuel t cs = some x) :
    ∃ (A : Option Addr) (len cap : Nat) (xs : List α), cs = [.slice A len cap] ∧ xs.length = len ∧ len ≤ cap ∧ cap ≤ maxLen ∧ Reads w w.heap.size size A len (xs.flatMap f) ∧ ∀ x ∈ xs, good x := by
  rcases Go.Deep.open_slice ht h with ⟨rfl, _⟩ | ⟨a, len, cap, m, n, D, Pl, rfl, _, hlc, hcm, hm, _, hel⟩
  · exact ⟨none, 0, 0, [], rfl, rfl, Nat.le_refl _, Nat.zero_le _, ⟨by simp, fun h => absurd h (by omega)⟩, by simp⟩
  · have hlm : len ≤ m := by rw [hm]; split <;> omega
    obtain ⟨xs, hl, hx⟩ := list_of_each (p := fun i x => w.cells? base (a.add (i * size)) size = some (f x) ∧ good x) len (fun i hi => by
      obtain ⟨cs', hc, ht'⟩ := hel i (by omega)
      obtain ⟨x, rfl, hg⟩ := dec _ _ _ ht'
      rw [hC] at hc
      exact ⟨x, hc, hg⟩)
    refine ⟨some a, len, cap, xs, rfl, hl, hlc, hcm, ⟨by rw [flat_length f size hf, hl], fun h0 => ⟨a, rfl, ?_, fun j u hj => ?_⟩⟩, fun x hxm => ?_⟩
    · have h0' := (hx 0 (xs[0]) (List.getElem?_eq_getElem (by omega))).1
      have := World.cells?_block h0' hs
      rwa [block_of_add] at this
    · have hjl : j < len * size := by
        have := (List.getElem?_eq_some_iff.1 hj).1
        rw [flat_length f size hf, hl] at this
        exact this
      have hi : j / size < len := Nat.div_lt_of_lt_mul (by rwa [Nat.mul_comm])
      have hr : j % size < size := Nat.mod_lt _ hs
      have hje : j = j / size * size + j % size := by rw [Nat.mul_comm]; exact (Nat.div_add_mod j size).symm
      have hg := flat_get f size hf xs (j / size) (j % size) (by omega) hr
      rw [← hje] at hg
      rw [hg] at hj
      have hc := (hx (j / size) xs[j / size] (List.getElem?_eq_getElem (by omega))).1
      obtain ⟨_, _, hcell⟩ := World.cells?_some hc
      have := hcell (j % size) hr
      rw [add_of_add, ← hje, hj] at this
      exact this
    · obtain ⟨i, hi, rfl⟩ := List.mem_iff_getElem.1 hxm
      exact (hx i _ (List.getElem?_eq_getElem hi)).2
end

section
variable {H : Type} {enc : TypeId × Value → H} {w : World} {base : Nat} {spare : Nat → Bool} {held : Bool}
theorem open_floats {r : Reach} {b0 : Nat} {v : Value} {d : DataW H} {p : List MemPlace} (hv : Value.okWide Try.prog w r b0 25 v) (h : DataW.Trod enc Try.prog w base spare held 25 v d p) :
    ∃ (A : Option Addr) (c : Nat) (xs : List Nat), v = .slice A xs.length c ∧ Reads w w.heap.size 1 A xs.length (xs.map (Value.float .f64)) ∧ xs.length ≤ maxLen ∧ ∀ x ∈ xs, x < 18446744073709551616 := by
  obtain ⟨a1, len, cap, rfl⟩ := okWide_slice Try.underlying25 hv
  obtain ⟨fuel, hf⟩ := h
  obtain ⟨A, len', cap', xs, hcs, hl, hlc, hcm, hR, hg⟩ := open_list (fun x : Nat => [Value.float .f64 x]) 1 (fun _ => rfl) (fun x => x < 18446744073709551616) Try.underlying25 (by kernel_rfl) (by omega) (fun n cs' y hy => by
    obtain ⟨b, hb, _, wb⟩ := trod_float Try.underlying34 hy
    exact ⟨b, hb, f64_lt wb⟩) hf
  simp [Value.cells] at hcs
  obtain ⟨rfl, rfl, rfl⟩ := hcs
  subst hl
  refine ⟨_, _, xs, rfl, ?_, by omega, hg⟩
  rwa [show xs.flatMap (fun x : Nat => [Value.float .f64 x]) = xs.map (Value.float .f64) from flat_single _ xs] at hR
end
end Go.Proofs.Ytciblaabghiefaa
