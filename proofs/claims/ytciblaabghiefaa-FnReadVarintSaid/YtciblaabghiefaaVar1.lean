/- Numbers by seven bits a byte: encoding/binary.Uvarint, and the law's own reader. -/
import Derived.Test.YtciblaabghiefaaRegion
import Derived.LoopTactic
import Derived.Laws.BitsLemmas
namespace Go.Proofs.Ytciblaabghiefaa
open Go.RowKit
set_option maxRecDepth 100000

def byteVal (b : Nat) : Value := .int .u8 b
def nthb (bs : List Nat) (k : Nat) : Nat := bs[k]?.getD 0
theorem nthb_get {bs : List Nat} {k : Nat} (h : k < bs.length) : (bs.map byteVal)[k]? = some (.int .u8 (nthb bs k : Nat)) := by simp [nthb, h, byteVal]
def shl (z : Int) (k : Nat) : Int := IntKind.u64.wrap (z * 2 ^ (7 * k))
def accStep (x : Int) (q : Nat) (k : Nat) : Int := bits .or .u64 x (shl ((q : Int) % 128) k)
def acc (bs : List Nat) : Nat → Int
  | 0 => 0
  | k + 1 => accStep (acc bs k) (nthb bs k) k
/-- The number ends at byte k. -/
def Ends (bs : List Nat) (k : Nat) : Prop := k < bs.length ∧ k ≤ 9 ∧ (∀ i, i < k → 128 ≤ nthb bs i) ∧ nthb bs k < 128 ∧ ¬ (k = 9 ∧ 1 < nthb bs k)
theorem ends_unique {bs : List Nat} {j k : Nat} (h : Ends bs j) (h' : Ends bs k) : j = k := by
  rcases Nat.lt_trichotomy j k with hl | he | hg
  · have := h'.2.2.1 j hl; have := h.2.2.2.1; omega
  · exact he
  · have := h.2.2.1 k hg; have := h'.2.2.2.1; omega

theorem no_ends {bs : List Nat} {k : Nat} (hall : ∀ i, i < k → 128 ≤ nthb bs i) (hk : nthb bs k < 128) (hne : ¬ Ends bs k) (j : Nat) : ¬ Ends bs j := by
  intro h
  rcases Nat.lt_trichotomy j k with hl | he | hg
  · have := hall j hl; have := h.2.2.2.1; omega
  · exact hne (he ▸ h)
  · have := h.2.2.1 k hg; omega
theorem no_ends_all {bs : List Nat} {k : Nat} (hall : ∀ i, i < k → 128 ≤ nthb bs i) (hk : k = bs.length ∨ k = 10) (j : Nat) : ¬ Ends bs j := by
  intro h
  have h1 := h.1
  have h2 := h.2.1
  have := hall j (by omega)
  have := h.2.2.2.1
  omega
theorem ret2_ {a b c d : Value} (h : a = c) (h' : b = d) : Ending.returned (.tuple #[a, b]) = .returned (.tuple #[c, d]) := by rw [h, h']
theorem u64_ {a b : Int} (h : a = b) : Value.int .u64 a = .int .u64 b := by rw [h]
theorem mask127 {c : Int} (h₀ : 0 ≤ c) (h₁ : c ≤ 255) : bits .and .u8 c 127 = c % 128 := bits_mask .u8 8 (by decide) wraps_u8 7 (by decide) c h₀ (by omega)

set_option maxHeartbeats 1000000 in
theorem uvarint_any (A : Option Addr) (c : Nat) (bs : List Nat) (w : World) (h : Reads w w.heap.size 1 A bs.length (bs.map byteVal)) (hn : bs.length ≤ 2000) (hb : ∀ b ∈ bs, b < 256) :
    Calls Try.prog 136 #[.slice A bs.length c] w fun e w' => ((∃ k, Ends bs k ∧ e = .returned (.tuple #[.int .u64 (acc bs (k + 1)), .int .i64 ((k : Int) + 1)])) ∨ ((∀ k, ¬ Ends bs k) ∧ ∃ m : Int, m ≤ 0 ∧ e = .returned (.tuple #[.int .u64 0, .int .i64 m]))) ∧ Below w.heap.size w w' := by
  generalize hl : bs.length = n at *
  have hbl : ∀ k, nthb bs k < 256 := fun k => by
    unfold nthb
    cases hk : bs[k]? with
    | none => simp
    | some b => exact hb b (List.mem_of_getElem? hk)
  clear hb
  go_enter Try.func136, Try.ntmps136
  go_wp2
  go_loopw [4, 5, 10] (fun v s i wr => ∃ (k : Nat), k ≤ n ∧ k ≤ 10 ∧ i = .int .i64 k ∧ s = .int .u64 (7 * (k : Int)) ∧ v = .int .u64 (acc bs k) ∧ Hid (∀ i, i < k → 128 ≤ nthb bs i) ∧ wr = w) (fun _ _ i _ => n - (intOf i).toNat)
  case atStart => exact ⟨0, by omega, by omega, rfl, rfl, rfl, fun i hi => absurd hi (by omega), rfl⟩
  case round =>
    obtain ⟨k, hk, hk10, rfl, rfl, rfl, hall, rfl⟩ := hrel
    by_cases hlt : k < n
    · obtain ⟨b, off, rfl, had, hcell⟩ := h.cellAt (by omega) (by omega)
      have e0 : wr.cell? ⟨b, off + k, none⟩ = some (.int .u8 (nthb bs k : Nat)) := hcell _ _ (nthb_get (by omega))
      have hq := hbl k
      have hm := mask127 (c := (nthb bs k : Int)) (by omega) (by omega)
      have hmw : IntKind.u64.wrap ((nthb bs k : Int) % 128) = (nthb bs k : Int) % 128 := IntWalk.u64_in _ (by omega)
      have hst : Hid (acc bs (k + 1) = bits .or .u64 (acc bs k) (shl ((nthb bs k : Int) % 128) k)) := rfl
      have hen : Hid (Ends bs k = (k < bs.length ∧ k ≤ 9 ∧ (∀ i, i < k → 128 ≤ nthb bs i) ∧ nthb bs k < 128 ∧ ¬ (k = 9 ∧ 1 < nthb bs k))) := rfl
      clear hcell hbl
      by_cases h10 : k = 10
      · have hno := no_ends_all hall.out (Or.inr h10)
        subst h10
        clear hen hst
        go_wp2
        go_ret2
        exact ⟨Or.inr ⟨hno, _, by omega, rfl⟩, Below.refl _ _⟩
      · have h10' : ((k : Int) == 10) = false := by simp; omega
        by_cases hq1 : nthb bs k < 128
        · have hno := no_ends hall.out hq1
          have HNO := Lib.hid hno
          clear hno
          have hqm : (nthb bs k : Int) % 128 = nthb bs k := by omega
          by_cases h9 : k = 9
          · by_cases hq2 : 1 < nthb bs k
            · have hno := HNO.out (by rw [hen.out]; rintro ⟨_, _, _, _, h'⟩; exact h' ⟨h9, hq2⟩)
              clear hen hst hqm HNO
              subst h9
              generalize nthb bs 9 = q at *
              generalize acc bs 9 = x at *
              go_wp2
              go_ret2
              exact ⟨Or.inr ⟨hno, _, by omega, rfl⟩, Below.refl _ _⟩
            · have hE : Ends bs k := by rw [hen.out]; exact ⟨by omega, by omega, hall.out, hq1, by omega⟩
              have hS : Hid (acc bs (k + 1) = bits .or .u64 (acc bs k) ((nthb bs k : Int) * 9223372036854775808)) := by
                show _ = _
                rw [hst.out, hqm]
                unfold shl
                rw [h9, show (2 : Int) ^ (7 * 9) = 9223372036854775808 by decide, IntWalk.u64_in _ (by rw [h9] at hq2; omega)]
              clear hen hst hqm HNO
              have HE := Lib.hid hE
              clear hE
              subst h9
              generalize nthb bs 9 = q at *
              generalize hx : acc bs 9 = x at *
              have HX := Lib.hid hx
              clear hx
              go_wp2
              go_ret2
              exact ⟨Or.inl ⟨9, HE.out, ret2_ (u64_ hS.out.symm) rfl⟩, Below.refl _ _⟩
          · have hE : Ends bs k := by rw [hen.out]; exact ⟨by omega, by omega, hall.out, hq1, by omega⟩
            have h9' : ((k : Int) == 9) = false := by simp; omega
            have hS : Hid (acc bs (k + 1) = bits .or .u64 (acc bs k) (IntKind.u64.wrap ((nthb bs k : Int) * 2 ^ (7 * k)))) := by
              show _ = _
              rw [hst.out, hqm]
              rfl
            clear hen hst hqm HNO
            have HE := Lib.hid hE
            clear hE
            generalize nthb bs k = q at *
            generalize hx : acc bs k = x at *
            have HX := Lib.hid hx
            clear hx
            go_wp2
            go_ret2
            exact ⟨Or.inl ⟨k, HE.out, ret2_ (u64_ hS.out.symm) rfl⟩, Below.refl _ _⟩
        · have hall' : Hid (∀ i, i < k + 1 → 128 ≤ nthb bs i) := fun i hi => by
            by_cases h : i = k
            · subst h; omega
            · exact hall.out i (by omega)
          have hS : Hid (acc bs (k + 1) = bits .or .u64 (acc bs k) (IntKind.u64.wrap ((nthb bs k : Int) % 128 * 2 ^ (7 * k)))) := hst.out
          clear hen hst hall
          generalize nthb bs k = q at *
          generalize hx : acc bs k = x at *
          have HX := Lib.hid hx
          clear hx
          go_wp2
          refine ⟨⟨k + 1, by omega, by omega, by go_num, u64_ (by omega), u64_ hS.out.symm, hall', trivial⟩, by simp [intOf]; omega⟩
    · obtain rfl : k = n := by omega
      have hno := no_ends_all hall.out (Or.inl hl.symm)
      clear hall
      generalize acc bs k = x at *
      go_wp2
      go_ret2
      exact ⟨Or.inr ⟨hno, _, by omega, rfl⟩, Below.refl _ _⟩
end Go.Proofs.Ytciblaabghiefaa
