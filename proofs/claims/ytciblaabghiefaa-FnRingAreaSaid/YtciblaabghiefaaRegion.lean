/- A region that draws its order, in the order of its text: a stretch of operations each of which, in every world that meets S, gives one and the same value and leaves a world that meets S, is walked once. -/
import Derived.StillTail
import Derived.WalkKit
import Derived.Test.YtciblaabghiefaaBase
import Derived.Test.YtciblaabghiefaaWords
namespace Go.Proofs.Ytciblaabghiefaa
open Go.RowKit
set_option linter.unusedVariables false

section
variable {P : Program} {ops : Array Oper} {S : World → Prop} {md : Region.Mode}

/-- Putting u or v into the slot 'dst' makes no difference. -/
def SameOut (a : Act) (dst : Option Tmp) (u v : Value) : Prop := ∀ d, dst = some d → d < a.tmps.size → u = v

theorem SameOut.put_eq {a : Act} {dst : Option Tmp} {u v : Value} (h : SameOut a dst u v) : a.put dst u = a.put dst v := by
  cases dst with
  | none => rfl
  | some d =>
    by_cases hd : d < a.tmps.size
    · rw [h d rfl hd]
    · show { a with tmps := a.tmps.setIfInBounds d u } = { a with tmps := a.tmps.setIfInBounds d v }
      rw [Array.setIfInBounds_eq_of_size_le (Nat.le_of_not_lt hd), Array.setIfInBounds_eq_of_size_le (Nat.le_of_not_lt hd)]

theorem put_size (a : Act) (dst : Option Tmp) (v : Value) : (a.put dst v).tmps.size = a.tmps.size := by
  cases dst with
  | none => rfl
  | some d => simp [Act.put]

/-- In every world that meets S the operation gives v, and leaves a world that meets S. -/
def Stays (P : Program) (S : World → Prop) (o : Oper) (a : Act) (v : Value) : Prop := ∀ w, S w → match (execOp a.eval o).run P w with
  | .ok (.value u) w' => SameOut a o.dst u v ∧ S w'
  | .ok .skip w' => SameOut a o.dst undef v ∧ S w'
  | .ok (.enter f args) w' => Calls P f args w' (fun e w'' => ∃ u, e = .returned u ∧ SameOut a o.dst u v ∧ S w'')
  | .ok (.row row args) w' => Rows P row args w' (fun u w'' => SameOut a o.dst u v ∧ S w'')
  | _ => False

def YieldsS (P : Program) (ops : Array Oper) (S : World → Prop) (o : Oper) (v : Value) (a : Act) : Prop :=
  (Region.wanted o (yielded ops a.tmps) = true ∧ Stays P S o a v) ∨ (Region.wanted o (yielded ops a.tmps) = false ∧ SameOut a o.dst undef v)

theorem YieldsS.wpOp {i : Nat} {o : Oper} {v : Value} {a : Act} {Q : Exit → Act → World → Prop} {K : Act → World → Prop} {w : World} (hi : ops[i]? = some o) (hy : YieldsS P ops S o v a) (hw : S w)
    (h : ∀ w', S w' → K (a.put o.dst v) w') : wpOp P ops Q i K a w := by
  unfold Go.wpOp
  simp only [hi]
  rcases hy with ⟨hwt, hs⟩ | ⟨hwt, hs⟩
  · simp only [hwt, if_true]
    refine .inl ?_
    unfold Oper.wp
    have h1 := hs w hw
    generalize (execOp a.eval o).run P w = r at *
    cases r with
    | ok n w' =>
      cases n <;> simp only [Oper.upon] at h1 ⊢
      case value u => rw [h1.1.put_eq]; exact h _ h1.2
      case skip => rw [h1.1.put_eq]; exact h _ h1.2
      case enter f args =>
        refine h1.mono fun e w'' ⟨u, he, hu, hS⟩ => ?_
        subst he
        show K (a.put o.dst u) w''
        rw [hu.put_eq]; exact h _ hS
      case row row args =>
        refine Rows.mono h1 fun u w'' ⟨hu, hS⟩ => ?_
        rw [hu.put_eq]; exact h _ hS
    | halt x w' => exact h1.elim
  · simp only [hwt, Bool.false_eq_true, if_false]
    rw [hs.put_eq]
    exact h _ hw

theorem YieldsS.of_same {o : Oper} {v : Value} {a a' : Act} (hy : YieldsS P ops S o v a) (he : execOp a'.eval o = execOp a.eval o)
    (hw : Region.wanted o (yielded ops a'.tmps) = Region.wanted o (yielded ops a.tmps)) (hz : a'.tmps.size = a.tmps.size) : YieldsS P ops S o v a' := by
  unfold YieldsS Stays SameOut at *
  rw [he, hw, hz]
  exact hy

/-- Whatever may come up next of the first 'n' operations gives its value; behind them L. -/
def wpAnyT (P : Program) (md : Region.Mode) (ops : Array Oper) (S : World → Prop) (n : Nat) (L : Array Bool → Act → Prop) : Nat → Array Bool → Act → Prop
  | 0, listed, a => L listed a
  | f + 1, listed, a =>
    Region.ready md ops listed ≠ [] ∧ ∀ i ∈ Region.ready md ops listed, i < n ∧ ∀ o, ops[i]? = some o → ∃ v, YieldsS P ops S o v a ∧ wpAnyT P md ops S n L f (listed.setIfInBounds i true) (a.put o.dst v)

theorem wpAny_of_T {n g : Nat} {L : Array Bool → Act → Prop} {Q : Exit → Act → World → Prop} (hL : ∀ listed a, L listed a → ∀ w, S w → wpAny P md ops Q g listed a w) :
    ∀ (f : Nat) (listed : Array Bool) (a : Act), wpAnyT P md ops S n L f listed a → ∀ w, S w → wpAny P md ops Q (f + g) listed a w
  | 0, listed, a, h, w, hw => by rw [Nat.zero_add]; exact hL _ _ h w hw
  | f + 1, listed, a, h, w, hw => by
    rw [show f + 1 + g = (f + g) + 1 by omega]
    refine ⟨fun h0 => absurd h0 h.1, fun i hi => ?_⟩
    obtain ⟨_, o, ho, _⟩ := mem_ready.1 hi
    obtain ⟨v, hy, hn⟩ := (h.2 i hi).2 o ho
    exact hy.wpOp ho hw fun w' hw' => wpAny_of_T hL f _ _ hn w' hw'

/-! ### the stretch from lo to hi -/
def waitsB (ops : Array Oper) (j i : Nat) : Bool := Region.waitsFor .any ops j i
/-- every operation below hi waits for ones that stand ahead of it alone -/
def depsB (ops : Array Oper) (hi : Nat) : Bool := (List.range hi).all fun k => match ops[k]? with | some o => o.after.all fun e => !Region.binds .any e || decide (e.on < k) | none => false
def apartB (ops : Array Oper) (lo hi : Nat) : Bool := (List.range hi).all fun k => decide (k < lo) || (List.range hi).all fun j => decide (j ≤ k) || waitsB ops j k ||
  (match ops[k]?, ops[j]? with | some ok, some oj => ok.apart ops oj | _, _ => false)
def sinkB' (ops : Array Oper) (lo hi : Nat) : Bool := decide (ops.size ≤ hi) || (List.range hi).all fun i => decide (i < lo) || (List.range (hi + 1)).any fun j => decide (i < j) && waitsB ops j i
def laterB (ops : Array Oper) (hi : Nat) : Bool := (List.range ops.size).all fun t => decide (t ≤ hi) || (List.range t).any fun j => decide (hi ≤ j) && waitsB ops t j
def groupB (ops : Array Oper) (lo hi : Nat) : Bool := decide (hi ≤ ops.size) && Region.noSelect ops && depsB ops hi && apartB ops lo hi && sinkB' ops lo hi && laterB ops hi

structure Inv (ops : Array Oper) (lo hi : Nat) (listed : Array Bool) : Prop where
  size : listed.size = ops.size
  closed : ∀ j oj, ops[j]? = some oj → listed.getD j false = true → ∀ e ∈ oj.after, Region.binds .any e = true → listed.getD e.on false = true
  low : ∀ i, i < lo → listed.getD i false = true
  tail : ∀ t, hi ≤ t → t < ops.size → listed.getD t true = false

theorem Inv.set {lo hi i : Nat} {listed : Array Bool} (inv : Inv ops lo hi listed) (hi' : i ∈ Region.ready .any ops listed) (hin : i < hi) : Inv ops lo hi (listed.setIfInBounds i true) := by
  obtain ⟨_, oi, hoi, hall⟩ := mem_ready.1 hi'
  refine ⟨by simp [inv.size], fun j oj hj hl e he hb => ?_, fun k hk => getD_set_true (inv.low k hk), fun t ht ht' => by rw [getD_set_ne true (by omega)]; exact inv.tail t ht ht'⟩
  by_cases hij : i = j
  · subst hij
    have : oj = oi := Option.some.inj (hj.symm.trans hoi)
    subst this
    exact getD_set_true (hall e he hb)
  · rw [getD_set_ne false hij] at hl
    exact getD_set_true (inv.closed j oj hj hl e he hb)

theorem stretch_waits {lo hi : Nat} {listed : Array Bool} (hs : sinkB' ops lo hi = true) (hl : laterB ops hi = true) (inv : Inv ops lo hi listed) {t : Nat} (ht : hi ≤ t) (hr : t ∈ Region.ready .any ops listed) :
    ∀ i, lo ≤ i → i < hi → listed.getD i false = true := by
  obtain ⟨_, ot, hot, hall⟩ := mem_ready.1 hr
  have htlt : t < ops.size := (Array.getElem?_eq_some_iff.1 hot).1
  have hth : t = hi := by
    rcases Nat.lt_or_ge hi t with h | h
    · exfalso
      have h1 := List.all_eq_true.1 hl t (List.mem_range.2 htlt)
      simp only [Bool.or_eq_true, decide_eq_true_eq] at h1
      rcases h1 with h1 | h1
      · omega
      · obtain ⟨j, hj, hj2⟩ := List.any_eq_true.1 h1
        simp only [Bool.and_eq_true, decide_eq_true_eq] at hj2
        obtain ⟨o', ho', e, he, hb, hon⟩ := Region.waitsFor_spec hj2.2
        have : o' = ot := Option.some.inj (ho'.symm.trans hot)
        subst this
        have hjt := List.mem_range.1 hj
        have h2 := hall e he hb
        rw [hon, getD_both (inv.tail j hj2.1 (by omega))] at h2
        cases h2
    · omega
  subst hth
  have hs' : (List.range t).all (fun i => decide (i < lo) || (List.range (t + 1)).any fun j => decide (i < j) && waitsB ops j i) = true := by
    simp only [sinkB', Bool.or_eq_true, decide_eq_true_eq] at hs
    rcases hs with h | h
    · omega
    · exact h
  have key : ∀ d i, t - i = d → lo ≤ i → i < t → listed.getD i false = true := by
    intro d
    induction d using Nat.strongRecOn with
    | _ d ih =>
      intro i hd hlo hit
      have h1 := List.all_eq_true.1 hs' i (List.mem_range.2 hit)
      simp only [Bool.or_eq_true, decide_eq_true_eq] at h1
      rcases h1 with h1 | h1
      · omega
      obtain ⟨j, hj, hj2⟩ := List.any_eq_true.1 h1
      simp only [Bool.and_eq_true, decide_eq_true_eq] at hj2
      obtain ⟨oj, hoj, e, he, hb, hon⟩ := Region.waitsFor_spec hj2.2
      have hjle : j ≤ t := by have := List.mem_range.1 hj; omega
      by_cases hjt : j = t
      · subst hjt
        have : oj = ot := Option.some.inj (hoj.symm.trans hot)
        subst this
        have h2 := hall e he hb
        rwa [hon] at h2
      · have h2 := inv.closed j oj hoj (ih (t - j) (by omega) j rfl (by omega) (by omega)) e he hb
        rwa [hon] at h2
  exact fun i h1 h2 => key _ i rfl h1 h2

theorem wpAnyT_first {lo hi i : Nat} {oi : Oper} {v : Value} {L : Array Bool → Act → Prop} (hi' : ops[i]? = some oi) (hsel : ∀ (j : Nat) (o : Oper) cs b, ops[j]? = some o → o.op ≠ .select cs b)
    (hs : sinkB' ops lo hi = true) (hl : laterB ops hi = true) (hin : i < hi) (hlo : lo ≤ i)
    (hdone : ∀ listed a, L listed a → ∀ j ∈ Region.ready .any ops listed, hi ≤ j) :
    ∀ (f : Nat) (listed : Array Bool) (a : Act), Inv ops lo hi listed →
      (∀ j oj, ops[j]? = some oj → j ≠ i → j < hi → listed.getD j true = false → (∀ e ∈ oj.after, Region.binds .any e = true → e.on ≠ i) → oi.apart ops oj = true) →
      i ∈ Region.ready .any ops listed → YieldsS P ops S oi v a →
      wpAnyT P .any ops S hi L f (listed.setIfInBounds i true) (a.put oi.dst v) → wpAnyT P .any ops S hi L (f + 1) listed a := by
  intro f
  have hbelow : ∀ (listed : Array Bool), Inv ops lo hi listed → i ∈ Region.ready .any ops listed → ∀ j ∈ Region.ready .any ops listed, j < hi := by
    intro listed inv hr j hj
    rcases Nat.lt_or_ge j hi with h | h
    · exact h
    · have h1 := stretch_waits hs hl inv h hj i hlo hin
      have h0 := (mem_ready.1 hr).1
      rw [getD_both h0] at h1
      cases h1
  induction f with
  | zero =>
    intro listed a inv _ hr hy H
    refine ⟨fun h => (by rw [h] at hr; cases hr), fun j hj => ?_⟩
    have hjn := hbelow listed inv hr j hj
    refine ⟨hjn, fun o ho => ?_⟩
    by_cases hji : j = i
    · subst hji
      obtain rfl : o = oi := Option.some.inj (ho.symm.trans hi')
      exact ⟨v, hy, H⟩
    · have := hdone _ _ H j (ready_mono hj hji)
      omega
  | succ f ih =>
    intro listed a inv hfree hr hy H
    refine ⟨fun h => (by rw [h] at hr; cases hr), fun j hj => ?_⟩
    have hjn := hbelow listed inv hr j hj
    refine ⟨hjn, fun oj hoj => ?_⟩
    by_cases hji : j = i
    · subst hji
      obtain rfl : oj = oi := Option.some.inj (hoj.symm.trans hi')
      exact ⟨v, hy, H⟩
    · obtain ⟨u, hyj, Hn⟩ := (H.2 j (ready_mono hj hji)).2 oj hoj
      obtain ⟨hjun, oj', hoj', hall⟩ := mem_ready.1 hj
      obtain rfl : oj' = oj := Option.some.inj (hoj'.symm.trans hoj)
      have hnot : ∀ e ∈ oj'.after, Region.binds .any e = true → e.on ≠ i := fun e he hb heq => by
        have h1 := hall e he hb
        have h0 := (mem_ready.1 hr).1
        rw [heq, getD_both h0] at h1
        cases h1
      obtain ⟨h1, h2, h3⟩ := Oper.apart_spec (hfree j oj' hoj hji hjn hjun hnot)
      have hyj' : YieldsS P ops S oj' u a := hyj.of_same (execOp_put oj' (fun cs b => hsel j oj' cs b hoj) a oi.dst v h1).symm (wanted_put oj' a oi.dst v h1).symm (put_size _ _ _).symm
      have hyi' : YieldsS P ops S oi v (a.put oj'.dst u) := hy.of_same (execOp_put oi (fun cs b => hsel i oi cs b hi') a oj'.dst u h3) (wanted_put oi a oj'.dst u h3) (put_size _ _ _)
      refine ⟨u, hyj', ?_⟩
      have hfree' : ∀ k ok, ops[k]? = some ok → k ≠ i → k < hi → (listed.setIfInBounds j true).getD k true = false →
          (∀ e ∈ ok.after, Region.binds .any e = true → e.on ≠ i) → oi.apart ops ok = true := fun k ok hk hki hkh hun hno => by
        refine hfree k ok hk hki hkh ?_ hno
        by_cases hjk : j = k
        · subst hjk; exact hjun
        · rw [getD_set_ne true hjk] at hun; exact hun
      refine ih (listed.setIfInBounds j true) _ (inv.set hj hjn) hfree' (ready_mono hr (Ne.symm hji)) hyi' ?_
      rw [Array.setIfInBounds_comm _ _ hji, ← Act.put_comm a v u h2]
      exact Hn

/-- Nothing that was there in W has turned. -/
def Since (W w : World) : Prop := Below W.heap.size W w
theorem Since.refl (W : World) : Since W W := Below.refl _ _
theorem below_step_since {a W w1 : World} (HB : Below a.heap.size a W) (hb : Since W w1) : Below a.heap.size a w1 := below_step HB hb
theorem Since.ne (W : World) : ∃ w, Since W w := ⟨W, Below.refl _ _⟩
theorem Since.cell {W w : World} (h : Since W w) : ∀ b o, b < W.heap.size → w.cell? ⟨b, o, none⟩ = W.cell? ⟨b, o, none⟩ := (bcell h).1
theorem Since.frz {W w : World} (h : Since W w) : ∀ b o, b < W.heap.size → w.frozen? ⟨b, o, none⟩ = W.frozen? ⟨b, o, none⟩ := (bcell h).2.1
theorem Since.size {W w : World} (h : Since W w) : W.heap.size ≤ w.heap.size := (bcell h).2.2
theorem Since.then {W w w' : World} (h : Since W w) (k : Below w.heap.size w w') : Since W w' := Below.trans h (k.mono h.size)

theorem below_since' {B : Nat} {a W w : World} (h : Since W w) (hB : B ≤ W.heap.size) (hb : Below B a W) : Below B a w := Below.trans hb (Below.mono h hB)
theorem Since.below {B : Nat} {a W w : World} (h : Since W w) (hb : Below B a W) (hB : B ≤ W.heap.size) : Below B a w := Below.trans hb (Below.mono h hB)

/-! ### the first k operations have come up -/
def pre (n k : Nat) : Array Bool := Array.ofFn (n := n) fun i => decide (i.val < k)
theorem pre_getD (n k i : Nat) (d : Bool) : (pre n k).getD i d = if i < n then decide (i < k) else d := by
  unfold pre
  by_cases h : i < n
  · simp [h]
  · simp [h]
theorem pre_set (n k : Nat) : (pre n k).setIfInBounds k true = pre n (k + 1) := by
  apply Array.ext
  · simp [pre]
  · intro i h1 h2
    have h3 : i < (pre n k).size := by simpa using h1
    rw [Array.getElem_setIfInBounds h3]
    simp only [pre, Array.getElem_ofFn]
    by_cases h : k = i
    · rw [if_pos h]; simp; omega
    · rw [if_neg h]; simp only [decide_eq_decide]; omega
theorem pre_zero (n : Nat) : pre n 0 = Array.replicate n false := by
  apply Array.ext
  · simp [pre]
  · intro i h1 h2; simp [pre]

theorem depsB_spec {hi k : Nat} (h : depsB ops hi = true) (hk : k < hi) : ∃ o, ops[k]? = some o ∧ ∀ e ∈ o.after, Region.binds .any e = true → e.on < k := by
  have h1 := List.all_eq_true.1 h k (List.mem_range.2 hk)
  split at h1
  · rename_i o ho
    refine ⟨o, ho, fun e he hb => ?_⟩
    have := Array.all_eq_true_iff_forall_mem.1 h1 e he
    simpa [hb] using this
  · cases h1

theorem pre_ready {hi k : Nat} (h : depsB ops hi = true) (hk : k < hi) (hh : hi ≤ ops.size) : k ∈ Region.ready .any ops (pre ops.size k) := by
  obtain ⟨o, ho, hd⟩ := depsB_spec h hk
  rw [mem_ready]
  refine ⟨by rw [pre_getD]; simp [show k < ops.size from by omega], o, ho, fun e he hb => ?_⟩
  have := hd e he hb
  rw [pre_getD, if_pos (by omega)]; simpa using this

theorem pre_inv {lo hi k : Nat} (h : depsB ops hi = true) (hlo : lo ≤ k) (hk : k ≤ hi) (hh : hi ≤ ops.size) : Inv ops lo hi (pre ops.size k) := by
  refine ⟨by simp [pre], fun j oj hj hl e he hb => ?_, fun i hi' => ?_, fun t ht ht' => ?_⟩
  · rw [pre_getD] at hl
    have hjn : j < ops.size := (Array.getElem?_eq_some_iff.1 hj).1
    rw [if_pos hjn] at hl
    have hjk : j < k := by simpa using hl
    obtain ⟨o', ho', hd⟩ := depsB_spec h (show j < hi from by omega)
    obtain rfl : o' = oj := Option.some.inj (ho'.symm.trans hj)
    have := hd e he hb
    rw [pre_getD, if_pos (by omega)]; simp; omega
  · rw [pre_getD, if_pos (by omega)]; simp; omega
  · rw [pre_getD, if_pos ht']; simp; omega

/-- The operations in the order of the text: each gives its value; behind them R. -/
def wpStay (P : Program) (ops : Array Oper) (S : World → Prop) (R : Act → Prop) : List Oper → Act → Prop
  | [], a => R a
  | o :: rest, a => ∃ v, YieldsS P ops S o v a ∧ wpStay P ops S R rest (a.put o.dst v)

theorem wpStay_nil {R : Act → Prop} {a : Act} (h : R a) : wpStay P ops S R [] a := h

/-- ONE STEP: a' is the state behind it, whatever the world. -/
theorem wpStay_step {R : Act → Prop} {a : Act} {o : Oper} {rest : List Oper} (hne : ∃ w, S w)
    (hx : ∃ a', a'.defers = a.defers ∧ (∀ w, S w → ∀ K : Act → World → Prop, (∀ w', S w' → K a' w') → if Region.wanted o (yielded ops a.tmps) = true then o.wp P a w K (fun _ _ _ => False) else K (a.put o.dst undef) w) ∧ wpStay P ops S R rest a') : wpStay P ops S R (o :: rest) a := by
  obtain ⟨a', hdf, h, hr⟩ := hx
  obtain ⟨w0, hw0⟩ := hne
  have out : ∀ u, a.put o.dst u = a' → SameOut a o.dst u (match o.dst with | some d => a'.tmps.getD d undef | none => undef) := by
    intro u hu d hd hlt
    rw [hd] at hu ⊢
    subst hu
    simp [Act.put, hlt]
  have main : YieldsS P ops S o (match o.dst with | some d => a'.tmps.getD d undef | none => undef) a ∧ a.put o.dst (match o.dst with | some d => a'.tmps.getD d undef | none => undef) = a' := by
    by_cases hw : Region.wanted o (yielded ops a.tmps) = true
    · have all : ∀ w, S w → o.wp P a w (fun a'' w' => a'' = a' ∧ S w') (fun _ _ _ => False) := by
        intro w hS
        have := h w hS (fun a'' w' => a'' = a' ∧ S w') (fun w' hw' => ⟨rfl, hw'⟩)
        rwa [if_pos hw] at this
      have st : Stays P S o a (match o.dst with | some d => a'.tmps.getD d undef | none => undef) := by
        intro w hS
        have h1 := all w hS
        unfold Oper.wp at h1
        generalize (execOp a.eval o).run P w = r at *
        cases r with
        | ok n w' =>
          cases n <;> simp only [Oper.upon] at h1 ⊢
          case value u => exact ⟨out u h1.1, h1.2⟩
          case skip => exact ⟨out _ h1.1, h1.2⟩
          case enter f args =>
            refine h1.mono fun e w'' he => ?_
            cases e with
            | returned u => exact ⟨u, rfl, out u he.1, he.2⟩
            | panicked c => exact he.elim
            | outgrown => exact absurd he (by simp [LetsOut])
          case row row args => exact Rows.mono h1 fun u w'' he => ⟨out u he.1, he.2⟩
          case defer d =>
            have h2 := congrArg (fun x => x.defers.length) h1.1
            have h3 : ({ a with defers := d :: a.defers }.put o.dst undef).defers = d :: a.defers := by cases o.dst <;> rfl
            simp only [h3, hdf] at h2
            simp at h2
        | halt x w' =>
          cases x <;> simp only [Oper.upon] at h1
      have h0 := all w0 hw0
      refine ⟨.inl ⟨hw, st⟩, ?_⟩
      have some' : ∃ u, a.put o.dst u = a' := by
        unfold Oper.wp at h0
        generalize (execOp a.eval o).run P w0 = r at *
        cases r with
        | ok n w' =>
          cases n <;> simp only [Oper.upon] at h0
          case value u => exact ⟨u, h0.1⟩
          case skip => exact ⟨_, h0.1⟩
          case enter f args =>
            obtain ⟨e, w'', fr, hR, _⟩ := h0 []
            cases e with
            | returned u => exact ⟨u, hR.1⟩
            | panicked c => exact hR.elim
            | outgrown => exact absurd hR (by simp [LetsOut])
          case row row args =>
            obtain ⟨u, w'', hR, _⟩ := h0 (Frame.ofRow P row args .normal) []
            exact ⟨u, hR.1⟩
          case defer d =>
            have h2 := congrArg (fun x => x.defers.length) h0.1
            have h3 : ({ a with defers := d :: a.defers }.put o.dst undef).defers = d :: a.defers := by cases o.dst <;> rfl
            simp only [h3, hdf] at h2
            simp at h2
        | halt x w' =>
          cases x <;> simp only [Oper.upon] at h0
      obtain ⟨u, hu⟩ := some'
      exact ((out u hu).put_eq).symm.trans hu
    · have h1 := h w0 hw0 (fun a'' w' => a'' = a' ∧ S w') (fun w' hw' => ⟨rfl, hw'⟩)
      rw [if_neg hw] at h1
      exact ⟨.inr ⟨by simpa using hw, out _ h1.1⟩, ((out _ h1.1).put_eq).symm.trans h1.1⟩
  refine ⟨_, main.1, ?_⟩
  rw [main.2]
  exact hr

theorem wpAnyT_lex {lo hi : Nat} {R : Act → Prop} (hB : groupB ops lo hi = true) : ∀ (l : List Oper) (k : Nat) (a : Act), (∀ j, j < l.length → l[j]? = ops[k + j]?) → k + l.length = hi → lo ≤ k →
    wpStay P ops S R l a → wpAnyT P .any ops S hi (fun listed' a' => listed' = pre ops.size hi ∧ R a') l.length (pre ops.size k) a
  | [], k, a, _, hk, _, h => by
    obtain rfl : k = hi := by simpa using hk
    exact ⟨rfl, h⟩
  | o :: l, k, a, hl, hk, hlo, h => by
    have hB' := hB
    simp only [groupB, Bool.and_eq_true, decide_eq_true_eq] at hB'
    obtain ⟨⟨⟨⟨⟨hh, hsel⟩, hd⟩, ha⟩, hs⟩, hlat⟩ := hB'
    have h0 : ops[k]? = some o := by simpa using (hl 0 (by simp)).symm
    have hkn : k < hi := by simp only [List.length_cons] at hk; omega
    obtain ⟨v, hy, hK⟩ := h
    refine wpAnyT_first (v := v) h0 (Region.noSelect_spec hsel) hs hlat hkn hlo (fun listed' a' hL j hj => ?_) l.length _ a (pre_inv hd hlo (by omega) hh) (fun j oj hj hji hjh hun hno => ?_) (pre_ready hd hkn hh) hy ?_
    · obtain ⟨rfl, _⟩ := hL
      have h1 := (mem_ready.1 hj).1
      rw [pre_getD] at h1
      split at h1
      · simpa using h1
      · cases h1
    · rw [pre_getD] at hun
      have hjn : j < ops.size := (Array.getElem?_eq_some_iff.1 hj).1
      rw [if_pos hjn] at hun
      have hkj : k < j := by simp at hun; omega
      have h1 := List.all_eq_true.1 ha k (List.mem_range.2 hkn)
      simp only [Bool.or_eq_true, decide_eq_true_eq] at h1
      rcases h1 with h1 | h1
      · omega
      have h2 := List.all_eq_true.1 h1 j (List.mem_range.2 hjh)
      simp only [Bool.or_eq_true, decide_eq_true_eq] at h2
      rcases h2 with (h2 | h2) | h2
      · omega
      · obtain ⟨o', ho', e, he, hb, hon⟩ := Region.waitsFor_spec h2
        obtain rfl : o' = oj := Option.some.inj (ho'.symm.trans hj)
        exact absurd hon (hno e he hb)
      · rw [h0, hj] at h2
        exact h2
    · rw [pre_set]
      exact wpAnyT_lex hB l (k + 1) _ (fun j hj => by have := hl (j + 1) (by simp; omega); simpa [Nat.add_assoc, Nat.add_comm 1 j] using this) (by simp only [List.length_cons] at hk; omega) (by omega) hK

/-- All operations ahead of number k have come up. -/
def From (P : Program) (ops : Array Oper) (Q : Exit → Act → World → Prop) (k : Nat) (a : Act) (w : World) : Prop := wpAny P .any ops Q (ops.size - k) (pre ops.size k) a w

theorem region_start {id : Nat} {Q : Exit → Act → World → Prop} {a : Act} {w : World} (hm : P.follows .mixedOrders = true) (h : From P ops Q 0 a w.drew) : (Code.region id ops true).wp P Q a w := by
  refine wp_region_any hm ?_
  unfold From at h
  rw [pre_zero, Nat.sub_zero] at h
  exact h

/-- A STRETCH: the next n operations, in whatever order they may come up. -/
theorem from_stretch {Q : Exit → Act → World → Prop} {l : List Oper} {a : Act} {w : World} (S : World → Prop) (k n : Nat) (hB : groupB l.toArray k (k + n) = true) (hS : S w)
    (h : wpStay P l.toArray S (fun a' => ∀ w', S w' → From P l.toArray Q (k + n) a' w') ((l.drop k).take n) a) : From P l.toArray Q k a w := by
  have hh : k + n ≤ l.length := by
    simp only [groupB, Bool.and_eq_true, decide_eq_true_eq] at hB
    simpa using hB.1.1.1.1.1
  have hlen : ((l.drop k).take n).length = n := by simp; omega
  have H := wpAnyT_lex (P := P) (S := S) (R := fun a' => ∀ w', S w' → From P l.toArray Q (k + n) a' w') hB ((l.drop k).take n) k a (fun j hj => by
    rw [hlen] at hj
    simp [hj, List.getElem?_drop]) (by rw [hlen]) (Nat.le_refl _) h
  have := wpAny_of_T (Q := Q) (g := l.toArray.size - (k + n)) (fun listed a' hL w' hw' => by
    obtain ⟨rfl, hR⟩ := hL
    exact hR w' hw') _ _ _ H w hS
  unfold From
  rw [hlen] at this
  rw [show l.toArray.size - k = n + (l.toArray.size - (k + n)) from by simp; omega]
  exact this

/-- What is left comes up in the order of the text alone. -/
theorem from_list {Q : Exit → Act → World → Prop} {l : List Oper} {a : Act} {w : World} {k : Nat} (hB : Region.seqB .any l.toArray (l.length - k) k (pre l.length k) = true)
    (h : wpList P l.toArray Q (l.drop k) a w) : From P l.toArray Q k a w := by
  unfold From
  have := wpAny_of_seq (md := .any) (Q' := Q) (l.drop k) k (pre l.length k) a w (fun j => by simp [List.getElem?_drop]) (by simpa using hB) h
  simpa using this

/-- One operation that must come up next. -/
theorem from_one {Q : Exit → Act → World → Prop} {l : List Oper} {a : Act} {w : World} {k : Nat} {o : Oper} (hk : l[k]? = some o) (hB : decide (Region.ready .any l.toArray (pre l.length k) = [k]) = true)
    (h : ∀ K : Act → World → Prop, (∀ a w, From P l.toArray Q (k + 1) a w → K a w) → if Region.wanted o (yielded l.toArray a.tmps) = true then o.wp P a w K Q else K (a.put o.dst undef) w) : From P l.toArray Q k a w := by
  have hkn : k < l.length := (List.getElem?_eq_some_iff.1 hk).1
  simp only [decide_eq_true_eq] at hB
  unfold From
  rw [show l.toArray.size - k = (l.toArray.size - (k + 1)) + 1 from by simp; omega]
  refine ⟨fun h0 => ?_, fun i hi => ?_⟩
  · have e : pre l.toArray.size k = pre l.length k := by simp
    rw [e, hB] at h0; cases h0
  · have e : pre l.toArray.size k = pre l.length k := by simp
    rw [e, hB] at hi
    obtain rfl : i = k := by simpa using hi
    rw [pre_set]
    have h1 := h (From P l.toArray Q (i + 1)) (fun _ _ h => h)
    unfold wpOp
    have ho : l.toArray[i]? = some o := by simpa using hk
    simp only [ho]
    split
    · rename_i hw; rw [if_pos hw] at h1; exact .inl h1
    · rename_i hw; rw [if_neg hw] at h1; exact h1

theorem from_end {Q : Exit → Act → World → Prop} {l : List Oper} {a : Act} {w : World} {k : Nat} (hk : decide (l.length ≤ k) = true) (h : Q .normal a w) : From P l.toArray Q k a w := by
  have hk' : l.length ≤ k := by simpa using hk
  unfold From
  rw [show l.toArray.size - k = 0 from by simp; omega]
  refine ⟨?_, h⟩
  rw [List.eq_nil_iff_forall_not_mem]
  intro j hj
  obtain ⟨h1, o, ho, _⟩ := mem_ready.1 hj
  have hjn : j < l.toArray.size := (Array.getElem?_eq_some_iff.1 ho).1
  rw [pre_getD, if_pos hjn] at h1
  simp at h1 hjn
  omega
end
end Go.Proofs.Ytciblaabghiefaa
