/- The law's own reader; Varint; UnZigZag. -/
import Derived.Test.YtciblaabghiefaaVar1
namespace Go.Proofs.Ytciblaabghiefaa
open Go.RowKit
set_option maxRecDepth 100000

theorem no_ends_9 {bs : List Nat} (hall : ∀ i, i < 9 → 128 ≤ nthb bs i) (hk : 1 < nthb bs 9) (j : Nat) : ¬ Ends bs j := by
  intro h
  by_cases hj : j = 9
  · subst hj; exact h.2.2.2.2 ⟨rfl, hk⟩
  · have := hall j (by have := h.2.1; omega); have := h.2.2.2.1; omega
theorem ret3_ {a b c d e f : Value} (h : a = c) (h' : b = d) (h'' : e = f) : Ending.returned (.tuple #[a, b, e]) = .returned (.tuple #[c, d, f]) := by rw [h, h', h'']

set_option maxHeartbeats 1000000 in
theorem pVarint_any (A : Option Addr) (c : Nat) (bs : List Nat) (w : World) (h : Reads w w.heap.size 1 A bs.length (bs.map byteVal)) (hn : bs.length ≤ 2000) (hb : ∀ b ∈ bs, b < 256) :
    Calls Try.prog 30 #[.slice A bs.length c] w fun e w' => ((∃ k, Ends bs k ∧ e = .returned (.tuple #[.int .u64 (acc bs (k + 1)), .int .i64 ((k : Int) + 1), .bool true])) ∨ ((∀ k, ¬ Ends bs k) ∧ e = .returned (.tuple #[.int .u64 0, .int .i64 0, .bool false]))) ∧ Below w.heap.size w w' := by
  generalize hl : bs.length = n at *
  have hbl : ∀ k, nthb bs k < 256 := fun k => by
    unfold nthb
    cases hk : bs[k]? with
    | none => simp
    | some b => exact hb b (List.mem_of_getElem? hk)
  clear hb
  go_enter Try.func30, Try.ntmps30
  go_wp2
  go_loopw [2, 5] (fun v i wr => ∃ (k : Nat), k ≤ n ∧ k ≤ 10 ∧ i = .int .i64 k ∧ v = .int .u64 (acc bs k) ∧ Hid (∀ i, i < k → 128 ≤ nthb bs i) ∧ wr = w) (fun _ i _ => n - (intOf i).toNat)
  case atStart => exact ⟨0, by omega, by omega, rfl, rfl, fun i hi => absurd hi (by omega), rfl⟩
  case round =>
    obtain ⟨k, hk, hk10, rfl, rfl, hall, rfl⟩ := hrel
    by_cases hlt : k < n
    · by_cases h10 : k = 10
      · have hno := no_ends_all hall.out (Or.inr h10)
        subst h10
        clear hall
        generalize acc bs 10 = x at *
        go_wp2
        go_ret3
        exact ⟨Or.inr ⟨hno, rfl⟩, Below.refl _ _⟩
      · have hk9 : k < 10 := by omega
        obtain ⟨b, off, rfl, had, hcell⟩ := h.cellAt (by omega) (by omega)
        have e0 : wr.cell? ⟨b, off + k, none⟩ = some (.int .u8 (nthb bs k : Nat)) := hcell _ _ (nthb_get (by omega))
        have hq := hbl k
        have hm := mask127 (c := (nthb bs k : Int)) (by omega) (by omega)
        have hmw : IntKind.u64.wrap ((nthb bs k : Int) % 128) = (nthb bs k : Int) % 128 := IntWalk.u64_in _ (by omega)
        have hS : Hid (acc bs (k + 1) = bits .or .u64 (acc bs k) (IntKind.u64.wrap ((nthb bs k : Int) % 128 * 2 ^ (7 * k)))) := rfl
        clear hcell hbl
        by_cases hbad : k = 9 ∧ 1 < nthb bs k
        · obtain ⟨rfl, hq2⟩ := hbad
          have hno := no_ends_9 hall.out hq2
          clear hS hall
          generalize nthb bs 9 = q at *
          generalize acc bs 9 = x at *
          go_wp2
          go_ret3
          exact ⟨Or.inr ⟨hno, rfl⟩, Below.refl _ _⟩
        · have hE : nthb bs k < 128 → Ends bs k := fun hq1 => ⟨by omega, by omega, hall.out, hq1, hbad⟩
          have HE := Lib.hid hE
          have hall' : Hid (128 ≤ nthb bs k → ∀ i, i < k + 1 → 128 ≤ nthb bs i) := fun hq1 i hi => by
            by_cases h : i = k
            · subst h; omega
            · exact hall.out i (by omega)
          have hs7 : ((k : Int) == 9 && decide (1 < (nthb bs k : Int))) = false := by simp; omega
          clear hE hall
          by_cases h9 : k = 9
          · have hq3 : nthb bs k ≤ 1 := by omega
            have hS' : Hid (acc bs (k + 1) = bits .or .u64 (acc bs k) ((nthb bs k : Int) * 9223372036854775808)) := by
              show _ = _
              rw [hS.out, h9, show (2 : Int) ^ (7 * 9) = 9223372036854775808 by decide, show (nthb bs 9 : Int) % 128 = nthb bs 9 by rw [h9] at hq3; omega, IntWalk.u64_in _ (by rw [h9] at hq3; omega)]
            have hm' : bits .and .u8 (nthb bs k : Int) 127 = (nthb bs k : Int) := by rw [hm]; omega
            clear hS hm hmw hbad
            have hmw : IntKind.u64.wrap (nthb bs k : Int) = (nthb bs k : Int) := IntWalk.u64_in _ (by omega)
            subst h9
            generalize nthb bs 9 = q at *
            generalize hx : acc bs 9 = x at *
            have HX := Lib.hid hx
            clear hx
            have hq1 : q < 128 := by omega
            go_wp2
            go_ret3
            exact ⟨Or.inl ⟨9, HE.out hq1, ret3_ (u64_ hS'.out.symm) rfl rfl⟩, Below.refl _ _⟩
          · have h9' : ((k : Int) == 9) = false := by simp; omega
            generalize nthb bs k = q at *
            generalize hx : acc bs k = x at *
            have HX := Lib.hid hx
            clear hx
            by_cases hq1 : q < 128
            · go_wp2
              go_ret3
              exact ⟨Or.inl ⟨k, HE.out hq1, ret3_ (u64_ hS.out.symm) rfl rfl⟩, Below.refl _ _⟩
            · go_wp2
              refine ⟨⟨k + 1, by omega, by omega, by go_num, u64_ hS.out.symm, hall'.out (by omega), trivial⟩, by simp [intOf]; omega⟩
    · obtain rfl : k = n := by omega
      have hno := no_ends_all hall.out (Or.inl hl.symm)
      clear hall
      generalize acc bs k = x at *
      go_wp2
      go_ret3
      exact ⟨Or.inr ⟨hno, rfl⟩, Below.refl _ _⟩
end Go.Proofs.Ytciblaabghiefaa
