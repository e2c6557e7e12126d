/- A region that draws its order, walked in ONE order of the prover's choice: an operation that may come up and only looks (a load, a move, a sum: it gives one and the same value in every world that meets S, and leaves the world as it is) may be walked at once; where one operation alone may come up, it is walked, whatever it does (a call, an append, a store). -/
import Derived.Test.YtciblaabghiefaaRegion
namespace Go.Proofs.Ytciblaabghiefaa
open Go.RowKit
set_option linter.unusedVariables false

section
variable {P : Program} {ops : Array Oper} {S : World → Prop} {R : Act → World → Prop}

def stepS (P : Program) (o : Oper) (a : Act) (K : Act → World → Prop) (w : World) : Prop := match (execOp a.eval o).run P w with
  | .ok (.value u) w' => K (a.put o.dst u) w'
  | .ok .skip w' => K (a.put o.dst undef) w'
  | .ok (.enter f args) w' => Calls P f args w' (fun e w'' => ∃ u, e = .returned u ∧ K (a.put o.dst u) w'')
  | .ok (.row row args) w' => Rows P row args w' (fun u w'' => K (a.put o.dst u) w'')
  | _ => False
def wpOpS (P : Program) (ops : Array Oper) (o : Oper) (K : Act → World → Prop) (a : Act) (w : World) : Prop :=
  if Region.wanted o (yielded ops a.tmps) = true then stepS P o a K w else K (a.put o.dst undef) w

theorem stepS.mono {o : Oper} {a : Act} {K K' : Act → World → Prop} {w : World} (h : ∀ a w, K a w → K' a w) (hs : stepS P o a K w) : stepS P o a K' w := by
  unfold stepS at *
  generalize (execOp a.eval o).run P w = r at *
  cases r with
  | ok n w' =>
    cases n <;> simp only at hs ⊢
    case value u => exact h _ _ hs
    case skip => exact h _ _ hs
    case enter f args => exact hs.mono fun e w'' ⟨u, he, hu⟩ => ⟨u, he, h _ _ hu⟩
    case row row args => exact Rows.mono hs fun u w'' hu => h _ _ hu
  | halt x w' => exact hs
theorem stepS.wp {o : Oper} {a : Act} {K : Act → World → Prop} {w : World} {Q : Exit → Act → World → Prop} (hs : stepS P o a K w) : o.wp P a w K Q := by
  unfold stepS at hs
  unfold Oper.wp
  generalize (execOp a.eval o).run P w = r at *
  cases r with
  | ok n w' =>
    cases n <;> simp only [Oper.upon] at hs ⊢
    case value u => exact hs
    case skip => exact hs
    case enter f args =>
      refine hs.mono fun e w'' ⟨u, he, hu⟩ => ?_
      subst he; exact hu
    case row row args => exact hs
  | halt x w' => exact hs.elim
theorem stepS.of_wp {o : Oper} {a : Act} {K : Act → World → Prop} {w : World} (h : o.wp P a w (fun a' w' => a'.defers = a.defers ∧ K a' w') (fun _ _ _ => False)) : stepS P o a K w := by
  unfold Oper.wp at h
  unfold stepS
  generalize (execOp a.eval o).run P w = r at *
  cases r with
  | ok n w' =>
    cases n <;> simp only [Oper.upon] at h ⊢
    case value u => exact h.2
    case skip => exact h.2
    case enter f args =>
      refine h.mono fun e w'' he => ?_
      cases e with
      | returned u => exact ⟨u, rfl, he.2⟩
      | panicked c => exact he.elim
      | outgrown => exact absurd he (by simp [LetsOut])
    case row row args => exact Rows.mono h fun u w'' hu => hu.2
    case defer d =>
      have h2 := congrArg List.length h.1
      have h3 : ({ a with defers := d :: a.defers }.put o.dst undef).defers = d :: a.defers := by cases o.dst <;> rfl
      rw [h3] at h2
      simp at h2
  | halt x w' => cases x <;> simp only [Oper.upon] at h
theorem stepS.of_same {o : Oper} {a : Act} {d : Option Tmp} {v : Value} {K K' : Act → World → Prop} {w : World} (he : execOp (a.put d v).eval o = execOp a.eval o) (hs : stepS P o (a.put d v) K w)
    (h : ∀ u w', K ((a.put d v).put o.dst u) w' → K' (a.put o.dst u) w') : stepS P o a K' w := by
  unfold stepS at *
  rw [he] at hs
  generalize (execOp a.eval o).run P w = r at *
  cases r with
  | ok n w' =>
    cases n <;> simp only at hs ⊢
    case value u => exact h _ _ hs
    case skip => exact h _ _ hs
    case enter f args => exact hs.mono fun e w'' ⟨u, he, hu⟩ => ⟨u, he, h _ _ hu⟩
    case row row args => exact Rows.mono hs fun u w'' hu => h _ _ hu
  | halt x w' => exact hs

/-- What is left of the region, in whatever order; S holds behind each operation. -/
def wpAnyS (P : Program) (ops : Array Oper) (S : World → Prop) (R : Act → World → Prop) : Nat → Array Bool → Act → World → Prop
  | 0, listed, a, w => Region.ready .any ops listed = [] ∧ R a w
  | f + 1, listed, a, w => Region.ready .any ops listed ≠ [] ∧ ∀ i ∈ Region.ready .any ops listed, ∀ o, ops[i]? = some o → wpOpS P ops o (fun a' w' => S w' ∧ wpAnyS P ops S R f (listed.setIfInBounds i true) a' w') a w

theorem wpAny_of_S {Q : Exit → Act → World → Prop} (hR : ∀ a w, R a w → Q .normal a w) : ∀ (f : Nat) (listed : Array Bool) (a : Act) (w : World), wpAnyS P ops S R f listed a w → wpAny P .any ops Q f listed a w
  | 0, listed, a, w, h => ⟨h.1, hR _ _ h.2⟩
  | f + 1, listed, a, w, h => by
    refine ⟨fun h0 => absurd h0 h.1, fun i hi => ?_⟩
    obtain ⟨_, o, ho, _⟩ := mem_ready.1 hi
    have h1 := h.2 i hi o ho
    unfold Go.wpOp
    simp only [ho]
    unfold wpOpS at h1
    split
    · rename_i hw
      rw [if_pos hw] at h1
      exact .inl (Oper.wp_mono (fun a w hk => wpAny_of_S hR f _ a w hk.2) h1.wp)
    · rename_i hw
      rw [if_neg hw] at h1
      exact wpAny_of_S hR f _ _ _ h1.2

/-- An operation that only looks. -/
def Looks (P : Program) (ops : Array Oper) (S : World → Prop) (o : Oper) (v : Value) (a : Act) : Prop :=
  (Region.wanted o (yielded ops a.tmps) = true ∧ ∀ w, S w → match (execOp a.eval o).run P w with
    | .ok (.value u) w' => SameOut a o.dst u v ∧ w' = w
    | .ok .skip w' => SameOut a o.dst undef v ∧ w' = w
    | .ok (.enter f args) w' => Calls P f args w' (fun e w'' => ∃ u, e = .returned u ∧ SameOut a o.dst u v ∧ w'' = w)
    | .ok (.row row args) w' => Rows P row args w' (fun u w'' => SameOut a o.dst u v ∧ w'' = w)
    | _ => False) ∨ (Region.wanted o (yielded ops a.tmps) = false ∧ SameOut a o.dst undef v)

theorem Looks.of_same {o : Oper} {v : Value} {a a' : Act} (hy : Looks P ops S o v a) (he : execOp a'.eval o = execOp a.eval o)
    (hw : Region.wanted o (yielded ops a'.tmps) = Region.wanted o (yielded ops a.tmps)) (hz : a'.tmps.size = a.tmps.size) : Looks P ops S o v a' := by
  unfold Looks SameOut at *
  rw [he, hw, hz]
  exact hy
theorem Looks.wpOpS {o : Oper} {v : Value} {a : Act} {K : Act → World → Prop} {w : World} (hy : Looks P ops S o v a) (hw : S w) (h : K (a.put o.dst v) w) : wpOpS P ops o K a w := by
  unfold Proofs.Ytciblaabghiefaa.wpOpS
  rcases hy with ⟨hwt, hs⟩ | ⟨hwt, hs⟩
  · rw [if_pos hwt]
    unfold stepS
    have h1 := hs w hw
    generalize (execOp a.eval o).run P w = r at *
    cases r with
    | ok n w' =>
      cases n <;> simp only at h1 ⊢
      case value u => obtain ⟨h2, rfl⟩ := h1; rw [h2.put_eq]; exact h
      case skip => obtain ⟨h2, rfl⟩ := h1; rw [h2.put_eq]; exact h
      case enter f args => exact h1.mono fun e w'' ⟨u, he, h2, h3⟩ => ⟨u, he, by rw [h2.put_eq, h3]; exact h⟩
      case row row args => exact Rows.mono h1 fun u w'' ⟨h2, h3⟩ => by rw [h2.put_eq, h3]; exact h
    | halt x w' => exact h1.elim
  · rw [if_neg (by simp [hwt]), hs.put_eq]
    exact h

theorem looks_first {i : Nat} {oi : Oper} {v : Value} (hi : ops[i]? = some oi) (hsel : ∀ (j : Nat) (o : Oper) cs b, ops[j]? = some o → o.op ≠ .select cs b) :
    ∀ (f : Nat) (listed : Array Bool) (a : Act) (w : World), S w → i ∈ Region.ready .any ops listed → Looks P ops S oi v a →
      (∀ j oj, ops[j]? = some oj → j ≠ i → listed.getD j true = false → (∀ e ∈ oj.after, Region.binds .any e = true → e.on ≠ i) → oi.apart ops oj = true) →
      wpAnyS P ops S R f (listed.setIfInBounds i true) (a.put oi.dst v) w → wpAnyS P ops S R (f + 1) listed a w := by
  intro f
  induction f with
  | zero =>
    intro listed a w hS hr hy hfree H
    refine ⟨fun h => (by rw [h] at hr; cases hr), fun j hj o ho => ?_⟩
    by_cases hji : j = i
    · subst hji
      obtain rfl : o = oi := Option.some.inj (ho.symm.trans hi)
      exact hy.wpOpS hS ⟨hS, H⟩
    · exact absurd (ready_mono hj hji) (by rw [H.1]; simp)
  | succ f ih =>
    intro listed a w hS hr hy hfree H
    refine ⟨fun h => (by rw [h] at hr; cases hr), fun j hj oj hoj => ?_⟩
    by_cases hji : j = i
    · subst hji
      obtain rfl : oj = oi := Option.some.inj (hoj.symm.trans hi)
      exact hy.wpOpS hS ⟨hS, H⟩
    · have Hj := H.2 j (ready_mono hj hji) oj hoj
      obtain ⟨hjun, oj', hoj', hall⟩ := mem_ready.1 hj
      obtain rfl : oj' = oj := Option.some.inj (hoj'.symm.trans hoj)
      have hnot : ∀ e ∈ oj'.after, Region.binds .any e = true → e.on ≠ i := fun e he hb heq => by
        have h1 := hall e he hb
        have h0 := (mem_ready.1 hr).1
        rw [heq, getD_both h0] at h1
        cases h1
      obtain ⟨h1, h2, h3⟩ := Oper.apart_spec (hfree j oj' hoj hji hjun hnot)
      have hej := execOp_put oj' (fun cs b => hsel j oj' cs b hoj) a oi.dst v h1
      have hwj := wanted_put (ops := ops) oj' a oi.dst v h1
      have next : ∀ u w'', S w'' ∧ wpAnyS P ops S R f ((listed.setIfInBounds i true).setIfInBounds j true) ((a.put oi.dst v).put oj'.dst u) w'' → S w'' ∧ wpAnyS P ops S R (f + 1) (listed.setIfInBounds j true) (a.put oj'.dst u) w'' := by
        rintro u w'' ⟨hS', H'⟩
        refine ⟨hS', ih (listed.setIfInBounds j true) _ w'' hS' (ready_mono hr (Ne.symm hji)) (hy.of_same (execOp_put oi (fun cs b => hsel i oi cs b hi) a oj'.dst u h3) (wanted_put oi a oj'.dst u h3) (put_size _ _ _)) (fun k ok hk hki hun hno => ?_) ?_⟩
        · refine hfree k ok hk hki ?_ hno
          by_cases hjk : j = k
          · subst hjk; exact hjun
          · rw [getD_set_ne true hjk] at hun; exact hun
        · rw [Array.setIfInBounds_comm _ _ hji, ← Act.put_comm a v u h2]
          exact H'
      unfold wpOpS at Hj ⊢
      rw [hwj] at Hj
      split
      · rename_i hw
        rw [if_pos hw] at Hj
        exact Hj.of_same hej next
      · rename_i hw
        rw [if_neg hw] at Hj
        exact next _ _ Hj

/-- The operations that have come up, the last one first. -/
def lst (n : Nat) (done : List Nat) : Array Bool := done.foldr (fun i l => l.setIfInBounds i true) (Array.replicate n false)
/-- What is left when 'done' have come up. -/
def Left (P : Program) (ops : Array Oper) (S : World → Prop) (R : Act → World → Prop) (done : List Nat) (a : Act) (w : World) : Prop := wpAnyS P ops S R (ops.size - done.length) (lst ops.size done) a w

theorem left_start {id : Nat} {Q : Exit → Act → World → Prop} {a : Act} {w : World} (S : World → Prop) (hm : P.follows .mixedOrders = true) (h : Left P ops S (fun a w => Q .normal a w) [] a w.drew) : (Code.region id ops true).wp P Q a w := by
  refine wp_region_any hm ?_
  exact wpAny_of_S (fun _ _ h => h) _ _ _ _ h

theorem left_startS {id : Nat} {Q : Exit → Act → World → Prop} {a : Act} {w : World} (hm : P.follows .mixedOrders = true) (h : Left P ops (Since w.drew) (fun a w => Q .normal a w) [] a w.drew) : (Code.region id ops true).wp P Q a w := left_start _ hm h

def looksB (ops : Array Oper) (done : List Nat) (i : Nat) : Bool :=
  decide (done.length < ops.size) && Region.noSelect ops && (Region.ready .any ops (lst ops.size done)).contains i &&
  (List.range ops.size).all fun j => decide (j = i) || (lst ops.size done).getD j true || waitsB ops j i || (match ops[i]?, ops[j]? with | some oi, some oj => oi.apart ops oj | _, _ => false)

/-- One that only looks. -/
theorem left_look {l : List Oper} {done : List Nat} {a : Act} {w : World} (i : Nat) {o : Oper} (ho : l[i]? = some o) (hB : looksB l.toArray done i = true) (hS : S w)
    (hx : ∃ a', a'.defers = a.defers ∧ (∀ w, S w → ∀ K : Act → World → Prop, K a' w → if Region.wanted o (yielded l.toArray a.tmps) = true then o.wp P a w K (fun _ _ _ => False) else K (a.put o.dst undef) w) ∧ Left P l.toArray S R (i :: done) a' w) : Left P l.toArray S R done a w := by
  obtain ⟨a', hdf, h, hr⟩ := hx
  have ho' : l.toArray[i]? = some o := by simpa using ho
  simp only [looksB, Bool.and_eq_true, decide_eq_true_eq] at hB
  obtain ⟨⟨⟨hlen, hsel⟩, hrd⟩, hfr⟩ := hB
  have out : ∀ u, a.put o.dst u = a' → SameOut a o.dst u (match o.dst with | some d => a'.tmps.getD d undef | none => undef) := by
    intro u hu d hd hlt
    rw [hd] at hu ⊢
    subst hu
    simp [Act.put, hlt]
  have main : Looks P l.toArray S o (match o.dst with | some d => a'.tmps.getD d undef | none => undef) a ∧ a.put o.dst (match o.dst with | some d => a'.tmps.getD d undef | none => undef) = a' := by
    by_cases hw : Region.wanted o (yielded l.toArray a.tmps) = true
    · have all : ∀ w, S w → o.wp P a w (fun a'' w' => a'' = a' ∧ w' = w) (fun _ _ _ => False) := by
        intro w hS
        have := h w hS (fun a'' w' => a'' = a' ∧ w' = w) ⟨rfl, rfl⟩
        rwa [if_pos hw] at this
      have st : ∀ w, S w → stepS P o a (fun a'' w' => a'' = a' ∧ w' = w) w := fun w hS => stepS.of_wp (Oper.wp_mono (fun a'' w' hk => ⟨by rw [hk.1, hdf], hk⟩) (all w hS))
      have some' : ∃ u, a.put o.dst u = a' := by
        have h0 := st w hS
        unfold stepS at h0
        generalize (execOp a.eval o).run P w = r at *
        cases r with
        | ok n w' =>
          cases n <;> simp only at h0
          case value u => exact ⟨u, h0.1⟩
          case skip => exact ⟨_, h0.1⟩
          case enter f args =>
            obtain ⟨e, w'', fr, ⟨u, _, hu, _⟩, _⟩ := h0 []
            exact ⟨u, hu⟩
          case row row args =>
            obtain ⟨u, w'', hR, _⟩ := h0 (Frame.ofRow P row args .normal) []
            exact ⟨u, hR.1⟩
        | halt x w' => exact h0.elim
      obtain ⟨u, hu⟩ := some'
      refine ⟨.inl ⟨hw, fun w hS => ?_⟩, ((out u hu).put_eq).symm.trans hu⟩
      have h1 := st w hS
      unfold stepS at h1
      generalize (execOp a.eval o).run P w = r at *
      cases r with
      | ok n w' =>
        cases n <;> simp only at h1 ⊢
        case value u => exact ⟨out u h1.1, h1.2⟩
        case skip => exact ⟨out _ h1.1, h1.2⟩
        case enter f args => exact h1.mono fun e w'' ⟨u, he, h2, h3⟩ => ⟨u, he, out u h2, h3⟩
        case row row args => exact Rows.mono h1 fun u w'' ⟨h2, h3⟩ => ⟨out u h2, h3⟩
      | halt x w' => exact h1.elim
    · have h1 := h w hS (fun a'' w' => a'' = a' ∧ w' = w) ⟨rfl, rfl⟩
      rw [if_neg hw] at h1
      exact ⟨.inr ⟨by simpa using hw, out _ h1.1⟩, ((out _ h1.1).put_eq).symm.trans h1.1⟩
  have hne : ∀ j (o : Oper) cs b, l.toArray[j]? = some o → o.op ≠ .select cs b := Region.noSelect_spec hsel
  have hf : l.toArray.size - done.length = (l.toArray.size - (i :: done).length) + 1 := by simp at hlen ⊢; omega
  unfold Left
  rw [hf]
  refine looks_first (v := match o.dst with | some d => a'.tmps.getD d undef | none => undef) ho' hne _ _ _ _ hS (by simpa using hrd) main.1 (fun j oj hj hji hun hno => ?_) ?_
  · have h1 := List.all_eq_true.1 hfr j (List.mem_range.2 (Array.getElem?_eq_some_iff.1 hj).1)
    simp only [Bool.or_eq_true, decide_eq_true_eq] at h1
    rcases h1 with ((h1 | h1) | h1) | h1
    · exact absurd h1 hji
    · rw [hun] at h1; cases h1
    · obtain ⟨o', ho2, e, he, hb, hon⟩ := Region.waitsFor_spec h1
      obtain rfl : o' = oj := Option.some.inj (ho2.symm.trans hj)
      exact absurd hon (hno e he hb)
    · rw [ho', hj] at h1
      exact h1
  · rw [main.2]
    exact hr

def onlyB (ops : Array Oper) (done : List Nat) (i : Nat) : Bool := decide (done.length < ops.size) && decide (Region.ready .any ops (lst ops.size done) = [i])

/-- The one operation that may come up. -/
theorem left_only {l : List Oper} {done : List Nat} {a : Act} {w : World} (i : Nat) {o : Oper} (ho : l[i]? = some o) (hB : onlyB l.toArray done i = true)
    (h : ∀ K : Act → World → Prop, (∀ a' w', a'.defers = a.defers → S w' → Left P l.toArray S R (i :: done) a' w' → K a' w') → if Region.wanted o (yielded l.toArray a.tmps) = true then o.wp P a w K (fun _ _ _ => False) else K (a.put o.dst undef) w) : Left P l.toArray S R done a w := by
  simp only [onlyB, Bool.and_eq_true, decide_eq_true_eq] at hB
  obtain ⟨hlen, hrd⟩ := hB
  have hf : l.toArray.size - done.length = (l.toArray.size - (i :: done).length) + 1 := by simp at hlen ⊢; omega
  unfold Left
  rw [hf]
  refine ⟨by rw [hrd]; simp, fun j hj o' ho' => ?_⟩
  rw [hrd] at hj
  obtain rfl : j = i := by simpa using hj
  obtain rfl : o' = o := by rw [List.getElem?_toArray] at ho'; exact Option.some.inj (ho'.symm.trans ho)
  have h1 := h (fun a' w' => a'.defers = a.defers ∧ (S w' ∧ Left P l.toArray S R (j :: done) a' w')) fun a' w' hd hS hL => ⟨hd, hS, hL⟩
  unfold wpOpS
  split
  · rename_i hw
    rw [if_pos hw] at h1
    exact stepS.of_wp h1
  · rename_i hw
    rw [if_neg hw] at h1
    exact h1.2

/-- From here on a narrower S. -/
theorem Left.narrow {S' : World → Prop} (hS : ∀ w, S' w → S w) {done : List Nat} {a : Act} {w : World} (h : Left P ops S' R done a w) : Left P ops S R done a w := by
  unfold Left at *
  generalize ops.size - done.length = f at *
  generalize lst ops.size done = listed at *
  clear done
  induction f generalizing listed a w with
  | zero => exact h
  | succ f ih =>
    refine ⟨h.1, fun i hi o ho => ?_⟩
    have h1 := h.2 i hi o ho
    unfold wpOpS at *
    split
    · rename_i hw
      rw [if_pos hw] at h1
      exact h1.mono fun a w hk => ⟨hS _ hk.1, ih _ hk.2⟩
    · rename_i hw
      rw [if_neg hw] at h1
      exact ⟨hS _ h1.1, ih _ h1.2⟩

theorem left_end {done : List Nat} {a : Act} {w : World} (hB : decide (ops.size ≤ done.length) && decide (Region.ready .any ops (lst ops.size done) = []) = true) (h : R a w) : Left P ops S R done a w := by
  simp only [Bool.and_eq_true, decide_eq_true_eq] at hB
  unfold Left
  rw [show ops.size - done.length = 0 by omega]
  exact ⟨hB.2, h⟩
end
end Go.Proofs.Ytciblaabghiefaa
