/- A region that draws its order, with one operation (number m) of the stretch that turns the world (a literal slice, say): before it the world meets S false, behind it S true; each other operation gives one and the same value in both, and keeps them. -/
import Derived.Test.YtciblaabghiefaaRegion
namespace Go.Proofs.Ytciblaabghiefaa
open Go.RowKit
set_option linter.unusedVariables false

section
variable {P : Program} {ops : Array Oper} {S : Bool → World → Prop} {m : Nat}

def StaysF (P : Program) (S S' : World → Prop) (o : Oper) (a : Act) (v : Value) : Prop := ∀ w, S w → match (execOp a.eval o).run P w with
  | .ok (.value u) w' => SameOut a o.dst u v ∧ S' w'
  | .ok .skip w' => SameOut a o.dst undef v ∧ S' w'
  | .ok (.enter f args) w' => Calls P f args w' (fun e w'' => ∃ u, e = .returned u ∧ SameOut a o.dst u v ∧ S' w'')
  | .ok (.row row args) w' => Rows P row args w' (fun u w'' => SameOut a o.dst u v ∧ S' w'')
  | _ => False
def YieldsO (P : Program) (ops : Array Oper) (S S' : World → Prop) (o : Oper) (v : Value) (a : Act) : Prop :=
  (Region.wanted o (yielded ops a.tmps) = true ∧ StaysF P S S' o a v) ∨ (Region.wanted o (yielded ops a.tmps) = false ∧ SameOut a o.dst undef v ∧ ∀ w, S w → S' w)
def YieldsF (P : Program) (ops : Array Oper) (S : Bool → World → Prop) (m i : Nat) (o : Oper) (v : Value) (a : Act) : Prop :=
  if i = m then YieldsO P ops (S false) (S true) o v a else ∀ b, YieldsO P ops (S b) (S b) o v a

theorem YieldsO.wpOp {S S' : World → Prop} {i : Nat} {o : Oper} {v : Value} {a : Act} {Q : Exit → Act → World → Prop} {K : Act → World → Prop} {w : World} (hi : ops[i]? = some o) (hy : YieldsO P ops S S' o v a) (hw : S w)
    (h : ∀ w', S' w' → K (a.put o.dst v) w') : wpOp P ops Q i K a w := by
  unfold Go.wpOp
  simp only [hi]
  rcases hy with ⟨hwt, hs⟩ | ⟨hwt, hs, hSS⟩
  · simp only [hwt, if_true]
    refine .inl ?_
    unfold Oper.wp
    have h1 := hs w hw
    generalize (execOp a.eval o).run P w = r at *
    cases r with
    | ok n w' =>
      cases n <;> simp only [Oper.upon] at h1 ⊢
      case value u => rw [h1.1.put_eq]; exact h _ h1.2
      case skip => rw [h1.1.put_eq]; exact h _ h1.2
      case enter f args =>
        refine h1.mono fun e w'' ⟨u, he, hu, hS⟩ => ?_
        subst he
        show K (a.put o.dst u) w''
        rw [hu.put_eq]; exact h _ hS
      case row row args =>
        refine Rows.mono h1 fun u w'' ⟨hu, hS⟩ => ?_
        rw [hu.put_eq]; exact h _ hS
    | halt x w' => exact h1.elim
  · simp only [hwt, Bool.false_eq_true, if_false]
    rw [hs.put_eq]
    exact h _ (hSS _ hw)

theorem YieldsO.of_same {S S' : World → Prop} {o : Oper} {v : Value} {a a' : Act} (hy : YieldsO P ops S S' o v a) (he : execOp a'.eval o = execOp a.eval o)
    (hw : Region.wanted o (yielded ops a'.tmps) = Region.wanted o (yielded ops a.tmps)) (hz : a'.tmps.size = a.tmps.size) : YieldsO P ops S S' o v a' := by
  unfold YieldsO StaysF SameOut at *
  rw [he, hw, hz]
  exact hy
theorem YieldsF.of_same {i : Nat} {o : Oper} {v : Value} {a a' : Act} (hy : YieldsF P ops S m i o v a) (he : execOp a'.eval o = execOp a.eval o)
    (hw : Region.wanted o (yielded ops a'.tmps) = Region.wanted o (yielded ops a.tmps)) (hz : a'.tmps.size = a.tmps.size) : YieldsF P ops S m i o v a' := by
  unfold YieldsF at *
  split at hy
  · rename_i h; rw [if_pos h]; exact hy.of_same he hw hz
  · rename_i h; rw [if_neg h]; exact fun b => (hy b).of_same he hw hz

def wpAnyF (P : Program) (ops : Array Oper) (S : Bool → World → Prop) (m n : Nat) (L : Array Bool → Act → Prop) : Nat → Array Bool → Act → Prop
  | 0, listed, a => L listed a
  | f + 1, listed, a =>
    Region.ready .any ops listed ≠ [] ∧ ∀ i ∈ Region.ready .any ops listed, i < n ∧ ∀ o, ops[i]? = some o → ∃ v, YieldsF P ops S m i o v a ∧ wpAnyF P ops S m n L f (listed.setIfInBounds i true) (a.put o.dst v)

theorem getD_set_self (l : Array Bool) (i : Nat) : (l.setIfInBounds i true).getD i true = true := by
  by_cases h : i < l.size
  · simp [h]
  · simp [h]

theorem wpAny_of_F {n g : Nat} {L : Array Bool → Act → Prop} {Q : Exit → Act → World → Prop} (hL : ∀ listed a, L listed a → ∀ w, S (listed.getD m true) w → wpAny P .any ops Q g listed a w) :
    ∀ (f : Nat) (listed : Array Bool) (a : Act), wpAnyF P ops S m n L f listed a → ∀ w, S (listed.getD m true) w → wpAny P .any ops Q (f + g) listed a w
  | 0, listed, a, h, w, hw => by rw [Nat.zero_add]; exact hL _ _ h w hw
  | f + 1, listed, a, h, w, hw => by
    rw [show f + 1 + g = (f + g) + 1 by omega]
    refine ⟨fun h0 => absurd h0 h.1, fun i hi => ?_⟩
    obtain ⟨hun, o, ho, _⟩ := mem_ready.1 hi
    obtain ⟨v, hy, hn⟩ := (h.2 i hi).2 o ho
    unfold YieldsF at hy
    by_cases him : i = m
    · rw [if_pos him] at hy
      rw [← him, hun] at hw
      exact hy.wpOp ho hw fun w' hw' => wpAny_of_F hL f _ _ hn w' (by
        have hs : (listed.setIfInBounds i true).getD i true = true := getD_set_self listed i
        rw [← him, hs]; exact hw')
    · rw [if_neg him] at hy
      exact (hy _).wpOp ho hw fun w' hw' => wpAny_of_F hL f _ _ hn w' (by rw [getD_set_ne true him]; exact hw')

theorem wpAnyF_first {lo hi i : Nat} {oi : Oper} {v : Value} {L : Array Bool → Act → Prop} (hi' : ops[i]? = some oi) (hsel : ∀ (j : Nat) (o : Oper) cs b, ops[j]? = some o → o.op ≠ .select cs b)
    (hs : sinkB' ops lo hi = true) (hl : laterB ops hi = true) (hin : i < hi) (hlo : lo ≤ i)
    (hdone : ∀ listed a, L listed a → ∀ j ∈ Region.ready .any ops listed, hi ≤ j) :
    ∀ (f : Nat) (listed : Array Bool) (a : Act), Inv ops lo hi listed →
      (∀ j oj, ops[j]? = some oj → j ≠ i → j < hi → listed.getD j true = false → (∀ e ∈ oj.after, Region.binds .any e = true → e.on ≠ i) → oi.apart ops oj = true) →
      i ∈ Region.ready .any ops listed → YieldsF P ops S m i oi v a →
      wpAnyF P ops S m hi L f (listed.setIfInBounds i true) (a.put oi.dst v) → wpAnyF P ops S m hi L (f + 1) listed a := by
  intro f
  have hbelow : ∀ (listed : Array Bool), Inv ops lo hi listed → i ∈ Region.ready .any ops listed → ∀ j ∈ Region.ready .any ops listed, j < hi := by
    intro listed inv hr j hj
    rcases Nat.lt_or_ge j hi with h | h
    · exact h
    · have h1 := stretch_waits hs hl inv h hj i hlo hin
      have h0 := (mem_ready.1 hr).1
      rw [getD_both h0] at h1
      cases h1
  induction f with
  | zero =>
    intro listed a inv _ hr hy H
    refine ⟨fun h => (by rw [h] at hr; cases hr), fun j hj => ?_⟩
    have hjn := hbelow listed inv hr j hj
    refine ⟨hjn, fun o ho => ?_⟩
    by_cases hji : j = i
    · subst hji
      obtain rfl : o = oi := Option.some.inj (ho.symm.trans hi')
      exact ⟨v, hy, H⟩
    · have := hdone _ _ H j (ready_mono hj hji)
      omega
  | succ f ih =>
    intro listed a inv hfree hr hy H
    refine ⟨fun h => (by rw [h] at hr; cases hr), fun j hj => ?_⟩
    have hjn := hbelow listed inv hr j hj
    refine ⟨hjn, fun oj hoj => ?_⟩
    by_cases hji : j = i
    · subst hji
      obtain rfl : oj = oi := Option.some.inj (hoj.symm.trans hi')
      exact ⟨v, hy, H⟩
    · obtain ⟨u, hyj, Hn⟩ := (H.2 j (ready_mono hj hji)).2 oj hoj
      obtain ⟨hjun, oj', hoj', hall⟩ := mem_ready.1 hj
      obtain rfl : oj' = oj := Option.some.inj (hoj'.symm.trans hoj)
      have hnot : ∀ e ∈ oj'.after, Region.binds .any e = true → e.on ≠ i := fun e he hb heq => by
        have h1 := hall e he hb
        have h0 := (mem_ready.1 hr).1
        rw [heq, getD_both h0] at h1
        cases h1
      obtain ⟨h1, h2, h3⟩ := Oper.apart_spec (hfree j oj' hoj hji hjn hjun hnot)
      have hyj' : YieldsF P ops S m j oj' u a := hyj.of_same (execOp_put oj' (fun cs b => hsel j oj' cs b hoj) a oi.dst v h1).symm (wanted_put oj' a oi.dst v h1).symm (put_size _ _ _).symm
      have hyi' : YieldsF P ops S m i oi v (a.put oj'.dst u) := hy.of_same (execOp_put oi (fun cs b => hsel i oi cs b hi') a oj'.dst u h3) (wanted_put oi a oj'.dst u h3) (put_size _ _ _)
      refine ⟨u, hyj', ?_⟩
      have hfree' : ∀ k ok, ops[k]? = some ok → k ≠ i → k < hi → (listed.setIfInBounds j true).getD k true = false →
          (∀ e ∈ ok.after, Region.binds .any e = true → e.on ≠ i) → oi.apart ops ok = true := fun k ok hk hki hkh hun hno => by
        refine hfree k ok hk hki hkh ?_ hno
        by_cases hjk : j = k
        · subst hjk; exact hjun
        · rw [getD_set_ne true hjk] at hun; exact hun
      refine ih (listed.setIfInBounds j true) _ (inv.set hj hjn) hfree' (ready_mono hr (Ne.symm hji)) hyi' ?_
      rw [Array.setIfInBounds_comm _ _ hji, ← Act.put_comm a v u h2]
      exact Hn

/-- The operations in the order of the text, the first of them number k. -/
def wpStayF (P : Program) (ops : Array Oper) (S : Bool → World → Prop) (m : Nat) (R : Act → Prop) : Nat → List Oper → Act → Prop
  | _, [], a => R a
  | k, o :: rest, a => ∃ v, YieldsF P ops S m k o v a ∧ wpStayF P ops S m R (k + 1) rest (a.put o.dst v)

theorem wpStayF_nil {R : Act → Prop} {a : Act} {k : Nat} (h : R a) : wpStayF P ops S m R k [] a := h

theorem yieldsO_of {S S' : World → Prop} {a a' : Act} {o : Oper} (hne : ∃ w, S w) (hdf : a'.defers = a.defers)
    (h : ∀ w, S w → ∀ K : Act → World → Prop, (∀ w', S' w' → K a' w') → if Region.wanted o (yielded ops a.tmps) = true then o.wp P a w K (fun _ _ _ => False) else K (a.put o.dst undef) w) :
    YieldsO P ops S S' o (match o.dst with | some d => a'.tmps.getD d undef | none => undef) a ∧ a.put o.dst (match o.dst with | some d => a'.tmps.getD d undef | none => undef) = a' := by
  obtain ⟨w0, hw0⟩ := hne
  have out : ∀ u, a.put o.dst u = a' → SameOut a o.dst u (match o.dst with | some d => a'.tmps.getD d undef | none => undef) := by
    intro u hu d hd hlt
    rw [hd] at hu ⊢
    subst hu
    simp [Act.put, hlt]
  by_cases hw : Region.wanted o (yielded ops a.tmps) = true
  · have all : ∀ w, S w → o.wp P a w (fun a'' w' => a'' = a' ∧ S' w') (fun _ _ _ => False) := by
      intro w hS
      have := h w hS (fun a'' w' => a'' = a' ∧ S' w') (fun w' hw' => ⟨rfl, hw'⟩)
      rwa [if_pos hw] at this
    have st : StaysF P S S' o a (match o.dst with | some d => a'.tmps.getD d undef | none => undef) := by
      intro w hS
      have h1 := all w hS
      unfold Oper.wp at h1
      generalize (execOp a.eval o).run P w = r at *
      cases r with
      | ok n w' =>
        cases n <;> simp only [Oper.upon] at h1 ⊢
        case value u => exact ⟨out u h1.1, h1.2⟩
        case skip => exact ⟨out _ h1.1, h1.2⟩
        case enter f args =>
          refine h1.mono fun e w'' he => ?_
          cases e with
          | returned u => exact ⟨u, rfl, out u he.1, he.2⟩
          | panicked c => exact he.elim
          | outgrown => exact absurd he (by simp [LetsOut])
        case row row args => exact Rows.mono h1 fun u w'' he => ⟨out u he.1, he.2⟩
        case defer d =>
          have h2 := congrArg (fun x => x.defers.length) h1.1
          have h3 : ({ a with defers := d :: a.defers }.put o.dst undef).defers = d :: a.defers := by cases o.dst <;> rfl
          simp only [h3, hdf] at h2
          simp at h2
      | halt x w' =>
        cases x <;> simp only [Oper.upon] at h1
    have h0 := all w0 hw0
    refine ⟨.inl ⟨hw, st⟩, ?_⟩
    have some' : ∃ u, a.put o.dst u = a' := by
      unfold Oper.wp at h0
      generalize (execOp a.eval o).run P w0 = r at *
      cases r with
      | ok n w' =>
        cases n <;> simp only [Oper.upon] at h0
        case value u => exact ⟨u, h0.1⟩
        case skip => exact ⟨_, h0.1⟩
        case enter f args =>
          obtain ⟨e, w'', fr, hR, _⟩ := h0 []
          cases e with
          | returned u => exact ⟨u, hR.1⟩
          | panicked c => exact hR.elim
          | outgrown => exact absurd hR (by simp [LetsOut])
        case row row args =>
          obtain ⟨u, w'', hR, _⟩ := h0 (Frame.ofRow P row args .normal) []
          exact ⟨u, hR.1⟩
        case defer d =>
          have h2 := congrArg (fun x => x.defers.length) h0.1
          have h3 : ({ a with defers := d :: a.defers }.put o.dst undef).defers = d :: a.defers := by cases o.dst <;> rfl
          simp only [h3, hdf] at h2
          simp at h2
      | halt x w' =>
        cases x <;> simp only [Oper.upon] at h0
    obtain ⟨u, hu⟩ := some'
    exact ((out u hu).put_eq).symm.trans hu
  · have h1 := fun w hS => h w hS (fun a'' w' => a'' = a' ∧ S' w') (fun w' hw' => ⟨rfl, hw'⟩)
    simp only [if_neg hw] at h1
    have h2 := h1 w0 hw0
    exact ⟨.inr ⟨by simpa using hw, out _ h2.1, fun w hS => (h1 w hS).2⟩, ((out _ h2.1).put_eq).symm.trans h2.1⟩

/-- ONE STEP of an operation that keeps the world. -/
theorem wpStayF_step {R : Act → Prop} {a : Act} {k : Nat} {o : Oper} {rest : List Oper} (hkm : decide (k ≠ m) = true) (hne : ∀ b, ∃ w, S b w)
    (hx : ∃ a', a'.defers = a.defers ∧ (∀ b w, S b w → ∀ K : Act → World → Prop, (∀ w', S b w' → K a' w') → if Region.wanted o (yielded ops a.tmps) = true then o.wp P a w K (fun _ _ _ => False) else K (a.put o.dst undef) w) ∧ wpStayF P ops S m R (k + 1) rest a') : wpStayF P ops S m R k (o :: rest) a := by
  obtain ⟨a', hdf, h, hr⟩ := hx
  have hb := fun b => yieldsO_of (P := P) (ops := ops) (hne b) hdf (h b)
  refine ⟨_, ?_, by rw [(hb false).2]; exact hr⟩
  unfold YieldsF
  rw [if_neg (by simpa using hkm)]
  exact fun b => (hb b).1
/-- The operation that turns the world. -/
theorem wpStayF_turn {R : Act → Prop} {a : Act} {o : Oper} {rest : List Oper} (hne : ∃ w, S false w)
    (hx : ∃ a', a'.defers = a.defers ∧ (∀ w, S false w → ∀ K : Act → World → Prop, (∀ w', S true w' → K a' w') → if Region.wanted o (yielded ops a.tmps) = true then o.wp P a w K (fun _ _ _ => False) else K (a.put o.dst undef) w) ∧ wpStayF P ops S m R (m + 1) rest a') : wpStayF P ops S m R m (o :: rest) a := by
  obtain ⟨a', hdf, h, hr⟩ := hx
  have hb := yieldsO_of (P := P) (ops := ops) hne hdf h
  refine ⟨_, ?_, by rw [hb.2]; exact hr⟩
  unfold YieldsF
  rw [if_pos rfl]
  exact hb.1

theorem wpAnyF_lex {lo hi : Nat} {R : Act → Prop} (hB : groupB ops lo hi = true) : ∀ (l : List Oper) (k : Nat) (a : Act), (∀ j, j < l.length → l[j]? = ops[k + j]?) → k + l.length = hi → lo ≤ k →
    wpStayF P ops S m R k l a → wpAnyF P ops S m hi (fun listed' a' => listed' = pre ops.size hi ∧ R a') l.length (pre ops.size k) a
  | [], k, a, _, hk, _, h => by
    obtain rfl : k = hi := by simpa using hk
    exact ⟨rfl, h⟩
  | o :: l, k, a, hl, hk, hlo, h => by
    have hB' := hB
    simp only [groupB, Bool.and_eq_true, decide_eq_true_eq] at hB'
    obtain ⟨⟨⟨⟨⟨hh, hsel⟩, hd⟩, ha⟩, hs⟩, hlat⟩ := hB'
    have h0 : ops[k]? = some o := by simpa using (hl 0 (by simp)).symm
    have hkn : k < hi := by simp only [List.length_cons] at hk; omega
    obtain ⟨v, hy, hK⟩ := h
    refine wpAnyF_first (v := v) h0 (Region.noSelect_spec hsel) hs hlat hkn hlo (fun listed' a' hL j hj => ?_) l.length _ a (pre_inv hd hlo (by omega) hh) (fun j oj hj hji hjh hun hno => ?_) (pre_ready hd hkn hh) hy ?_
    · obtain ⟨rfl, _⟩ := hL
      have h1 := (mem_ready.1 hj).1
      rw [pre_getD] at h1
      split at h1
      · simpa using h1
      · cases h1
    · rw [pre_getD] at hun
      have hjn : j < ops.size := (Array.getElem?_eq_some_iff.1 hj).1
      rw [if_pos hjn] at hun
      have hkj : k < j := by simp at hun; omega
      have h1 := List.all_eq_true.1 ha k (List.mem_range.2 hkn)
      simp only [Bool.or_eq_true, decide_eq_true_eq] at h1
      rcases h1 with h1 | h1
      · omega
      have h2 := List.all_eq_true.1 h1 j (List.mem_range.2 hjh)
      simp only [Bool.or_eq_true, decide_eq_true_eq] at h2
      rcases h2 with (h2 | h2) | h2
      · omega
      · obtain ⟨o', ho', e, he, hb, hon⟩ := Region.waitsFor_spec h2
        obtain rfl : o' = oj := Option.some.inj (ho'.symm.trans hj)
        exact absurd hon (hno e he hb)
      · rw [h0, hj] at h2
        exact h2
    · rw [pre_set]
      exact wpAnyF_lex hB l (k + 1) _ (fun j hj => by have := hl (j + 1) (by simp; omega); simpa [Nat.add_assoc, Nat.add_comm 1 j] using this) (by simp only [List.length_cons] at hk; omega) (by omega) hK

/-- A STRETCH with one operation (number m) that turns the world from W0 to W1. -/
theorem from_turn {Q : Exit → Act → World → Prop} {l : List Oper} {a : Act} (W0 W1 : World) (k n m : Nat) (hm : decide (k ≤ m ∧ m < k + n) = true) (hB : groupB l.toArray k (k + n) = true)
    (h : wpStayF P l.toArray (fun b w => w = cond b W1 W0) m (fun a' => From P l.toArray Q (k + n) a' W1) k ((l.drop k).take n) a) : From P l.toArray Q k a W0 := by
  simp only [decide_eq_true_eq] at hm
  have hh : k + n ≤ l.length := by
    simp only [groupB, Bool.and_eq_true, decide_eq_true_eq] at hB
    simpa using hB.1.1.1.1.1
  have hlen : ((l.drop k).take n).length = n := by simp; omega
  have H := wpAnyF_lex (P := P) (S := fun b w => w = cond b W1 W0) (m := m) (R := fun a' => From P l.toArray Q (k + n) a' W1) hB ((l.drop k).take n) k a (fun j hj => by
    rw [hlen] at hj
    simp [hj, List.getElem?_drop]) (by rw [hlen]) (Nat.le_refl _) h
  have hsz : l.toArray.size = l.length := by simp
  have := wpAny_of_F (Q := Q) (g := l.toArray.size - (k + n)) (fun listed a' hL w' hw' => by
    obtain ⟨rfl, hR⟩ := hL
    rw [pre_getD, hsz, if_pos (by omega)] at hw'
    simp only [show m < k + n from hm.2, decide_true, cond_true] at hw'
    subst hw'
    exact hR) _ _ _ H W0 (by
      rw [pre_getD, hsz, if_pos (by omega)]
      simp only [show ¬ m < k by omega, decide_false, cond_false])
  unfold From
  rw [hlen] at this
  rw [show l.toArray.size - k = n + (l.toArray.size - (k + n)) from by simp; omega]
  exact this
theorem turn_step {W0 W1 : World} {R : Act → Prop} {a : Act} {k : Nat} {o : Oper} {rest : List Oper} (hkm : decide (k ≠ m) = true)
    (hx : ∃ a', a'.defers = a.defers ∧ (∀ K : Act → World → Prop, K a' W0 → if Region.wanted o (yielded ops a.tmps) = true then o.wp P a W0 K (fun _ _ _ => False) else K (a.put o.dst undef) W0) ∧
      (∀ K : Act → World → Prop, K a' W1 → if Region.wanted o (yielded ops a.tmps) = true then o.wp P a W1 K (fun _ _ _ => False) else K (a.put o.dst undef) W1) ∧
      wpStayF P ops (fun b w => w = cond b W1 W0) m R (k + 1) rest a') : wpStayF P ops (fun b w => w = cond b W1 W0) m R k (o :: rest) a := by
  obtain ⟨a', hdf, h0, h1, hr⟩ := hx
  refine wpStayF_step hkm (fun b => ⟨_, rfl⟩) ⟨a', hdf, fun b w hS K hK => ?_, hr⟩
  have hS : w = cond b W1 W0 := hS
  subst hS
  cases b with
  | false => exact h0 K (hK _ rfl)
  | true => exact h1 K (hK _ rfl)
theorem turn_turn {W0 W1 : World} {R : Act → Prop} {a : Act} {o : Oper} {rest : List Oper}
    (hx : ∃ a', a'.defers = a.defers ∧ (∀ K : Act → World → Prop, K a' W1 → if Region.wanted o (yielded ops a.tmps) = true then o.wp P a W0 K (fun _ _ _ => False) else K (a.put o.dst undef) W0) ∧
      wpStayF P ops (fun b w => w = cond b W1 W0) m R (m + 1) rest a') : wpStayF P ops (fun b w => w = cond b W1 W0) m R m (o :: rest) a := by
  obtain ⟨a', hdf, h0, hr⟩ := hx
  refine wpStayF_turn ⟨_, rfl⟩ ⟨a', hdf, fun w hS K hK => ?_, hr⟩
  have hS : w = W0 := hS
  subst hS
  exact h0 K (hK _ rfl)
end
end Go.Proofs.Ytciblaabghiefaa
