/- Envelopes in plain numbers: what they grow to, and what covers it. -/
import Derived.Test.YtciblaabghiefaaEnvB2
namespace Go.Proofs.Ytciblaabghiefaa
open Go.RowKit
set_option maxRecDepth 100000

theorem sel_lt {x v : Nat} (hx : Fl.fin x = true) (hv : Fl.fin v = true) : Fl.fin (if Fl.ltB x v then x else v) = true ∧ Fl.val (if Fl.ltB x v then x else v) = min (Fl.val v) (Fl.val x) := by
  have hl : Fl.ltB x v = decide (Fl.val x < Fl.val v) := Fl.lt_fin hx hv
  rw [hl]
  by_cases h : Fl.val x < Fl.val v
  · simp only [decide_eq_true_eq, h, if_true]
    exact ⟨hx, by grind⟩
  · simp only [decide_eq_true_eq, h, if_false]
    exact ⟨hv, by grind⟩
theorem sel_gt {x v : Nat} (hx : Fl.fin x = true) (hv : Fl.fin v = true) : Fl.fin (if Fl.gtB x v then x else v) = true ∧ Fl.val (if Fl.gtB x v then x else v) = max (Fl.val v) (Fl.val x) := by
  have hl : Fl.gtB x v = decide (Fl.val v < Fl.val x) := Fl.gt_fin hx hv
  rw [hl]
  by_cases h : Fl.val v < Fl.val x
  · simp only [decide_eq_true_eq, h, if_true]
    exact ⟨hx, by grind⟩
  · simp only [decide_eq_true_eq, h, if_false]
    exact ⟨hv, by grind⟩

/-- A box whose four numbers have these values. -/
def Is4 (a b c d : Nat) (x0 y0 x1 y1 : Rat) : Prop := (Fl.fin a = true ∧ Fl.val a = x0) ∧ (Fl.fin b = true ∧ Fl.val b = y0) ∧ (Fl.fin c = true ∧ Fl.val c = x1) ∧ (Fl.fin d = true ∧ Fl.val d = y1)

theorem add_is {e : EB} {x0 y0 x1 y1 : Rat} {x y : Nat} (he : e.f = true) (h : Is4 e.a e.b e.c e.d x0 y0 x1 y1) (hx : Fl.fin x = true) (hy : Fl.fin y = true) :
    (e.add x y).f = true ∧ Is4 (e.add x y).a (e.add x y).b (e.add x y).c (e.add x y).d (min x0 (Fl.val x)) (min y0 (Fl.val y)) (max x1 (Fl.val x)) (max y1 (Fl.val y)) := by
  obtain ⟨⟨f0, rfl⟩, ⟨f1, rfl⟩, ⟨f2, rfl⟩, ⟨f3, rfl⟩⟩ := h
  unfold EB.add
  rw [if_pos he]
  exact ⟨rfl, sel_lt hx f0, sel_lt hy f1, sel_gt hx f2, sel_gt hy f3⟩

theorem eb2_is {a b c d : Nat} (ha : Fl.fin a = true) (hb : Fl.fin b = true) (hc : Fl.fin c = true) (hd : Fl.fin d = true) :
    (ebOf [(a, b), (c, d)]).f = true ∧ Is4 (ebOf [(a, b), (c, d)]).a (ebOf [(a, b), (c, d)]).b (ebOf [(a, b), (c, d)]).c (ebOf [(a, b), (c, d)]).d (min (Fl.val a) (Fl.val c)) (min (Fl.val b) (Fl.val d)) (max (Fl.val a) (Fl.val c)) (max (Fl.val b) (Fl.val d)) := by
  show ((EB.add ⟨true, a, b, a, b⟩ c d)).f = true ∧ _
  exact add_is (e := ⟨true, a, b, a, b⟩) rfl ⟨⟨ha, rfl⟩, ⟨hb, rfl⟩, ⟨ha, rfl⟩, ⟨hb, rfl⟩⟩ hc hd

theorem eb4_is {a b c d a' b' c' d' : Nat} (ha : Fl.fin a = true) (hb : Fl.fin b = true) (hc : Fl.fin c = true) (hd : Fl.fin d = true) (ha' : Fl.fin a' = true) (hb' : Fl.fin b' = true) (hc' : Fl.fin c' = true) (hd' : Fl.fin d' = true) :
    ∃ e, ebOf [(a, b), (c, d), (a', b'), (c', d')] = e ∧ e.f = true ∧ Is4 e.a e.b e.c e.d (min (min (min (Fl.val a) (Fl.val c)) (Fl.val a')) (Fl.val c')) (min (min (min (Fl.val b) (Fl.val d)) (Fl.val b')) (Fl.val d')) (max (max (max (Fl.val a) (Fl.val c)) (Fl.val a')) (Fl.val c')) (max (max (max (Fl.val b) (Fl.val d)) (Fl.val b')) (Fl.val d')) := by
  have h2 := eb2_is ha hb hc hd
  have h3 := add_is h2.1 h2.2 ha' hb'
  have h4 := add_is h3.1 h3.2 hc' hd'
  exact ⟨_, rfl, h4.1, h4.2⟩

theorem made_is {a b c d : Nat} (ha : Fl.fin a = true) (hb : Fl.fin b = true) (hc : Fl.fin c = true) (hd : Fl.fin d = true) :
    ∃ E : Env5, envMade true a b c d = E ∧ E.full = true ∧ Is4 E.x0 E.y0 E.x1 E.y1 (min (Fl.val a) (Fl.val c)) (min (Fl.val b) (Fl.val d)) (max (Fl.val a) (Fl.val c)) (max (Fl.val b) (Fl.val d)) := by
  refine ⟨⟨Fl.fmin a c, Fl.fmin b d, Fl.fmax a c, Fl.fmax b d, true⟩, ?_, rfl, Fl.fmin_fin ha hc, Fl.fmin_fin hb hd, Fl.fmax_fin ha hc, Fl.fmax_fin hb hd⟩
  simp [envMade, envOf, Env5.addXY, Env5.empty]

theorem eqB_of {x y : Nat} (hx : Fl.fin x = true) (hy : Fl.fin y = true) (h : Fl.val x = Fl.val y) : Fl.eqB x y = true := by
  have := Fl.eq_fin hx hy
  unfold Fl.eqB; rw [this]; simpa using h
theorem leB_of {x y : Nat} (hx : Fl.fin x = true) (hy : Fl.fin y = true) : Fl.leB x y = decide (Fl.val x ≤ Fl.val y) := Fl.le_fin hx hy
theorem geB_of {x y : Nat} (hx : Fl.fin x = true) (hy : Fl.fin y = true) : Fl.geB x y = decide (Fl.val y ≤ Fl.val x) := Fl.ge_fin hx hy

/-- What two envelopes grow to, what the checker says of it, and which others cover it. -/
theorem least_plain {a b c d a' b' c' d' : Nat} (ha : Fl.fin a = true) (hb : Fl.fin b = true) (hc : Fl.fin c = true) (hd : Fl.fin d = true) (ha' : Fl.fin a' = true) (hb' : Fl.fin b' = true) (hc' : Fl.fin c' = true) (hd' : Fl.fin d' = true)
    (B : EB) (hB : B.fits = true) :
    ∃ (E O : Env5) (j0 j1 j2 j3 : Nat) (q : EB) (F G : Env5), envMade true a b c d = E ∧ envMade true a' b' c' d' = O ∧ E.full = true ∧ O.full = true ∧ Fl.fmin E.x0 O.x0 = j0 ∧ Fl.fmin E.y0 O.y0 = j1 ∧ Fl.fmax E.x1 O.x1 = j2 ∧ Fl.fmax E.y1 O.y1 = j3 ∧
      ebOf [(a, b), (c, d), (a', b'), (c', d')] = q ∧ q.f = true ∧ Fl.eqB j0 q.a = true ∧ Fl.eqB j1 q.b = true ∧ Fl.eqB j2 q.c = true ∧ Fl.eqB j3 q.d = true ∧
      envMade B.f B.a B.b B.c B.d = F ∧ envMade true j0 j1 j2 j3 = G ∧ G.full = true ∧
      (F.full && (Fl.leB F.x0 G.x0 && (Fl.leB F.y0 G.y0 && (Fl.geB F.x1 G.x1 && Fl.geB F.y1 G.y1)))) = (B.f && [(a, b), (c, d), (a', b'), (c', d')].all (fun p => (ebMade B).has p.1 p.2)) := by
  obtain ⟨E, hE, hEf, ⟨e0, v0⟩, ⟨e1, v1⟩, ⟨e2, v2⟩, ⟨e3, v3⟩⟩ := made_is ha hb hc hd
  obtain ⟨O, hO, hOf, ⟨o0, u0⟩, ⟨o1, u1⟩, ⟨o2, u2⟩, ⟨o3, u3⟩⟩ := made_is ha' hb' hc' hd'
  have m0 := Fl.fmin_fin e0 o0
  have m1 := Fl.fmin_fin e1 o1
  have m2 := Fl.fmax_fin e2 o2
  have m3 := Fl.fmax_fin e3 o3
  obtain ⟨q, hq, hqf, ⟨q0, r0⟩, ⟨q1, r1⟩, ⟨q2, r2⟩, ⟨q3, r3⟩⟩ := eb4_is ha hb hc hd ha' hb' hc' hd'
  obtain ⟨G, hG, hGf, ⟨g0, w0⟩, ⟨g1, w1⟩, ⟨g2, w2⟩, ⟨g3, w3⟩⟩ := made_is m0.1 m1.1 m2.1 m3.1
  refine ⟨E, O, _, _, _, _, q, envMade B.f B.a B.b B.c B.d, G, hE, hO, hEf, hOf, rfl, rfl, rfl, rfl, hq, hqf, eqB_of m0.1 q0 ?_, eqB_of m1.1 q1 ?_, eqB_of m2.1 q2 ?_, eqB_of m3.1 q3 ?_, rfl, hG, hGf, ?_⟩
  · rw [m0.2, v0, u0, r0]; grind
  · rw [m1.2, v1, u1, r1]; grind
  · rw [m2.2, v2, u2, r2]; grind
  · rw [m3.2, v3, u3, r3]; grind
  · obtain ⟨f, A, Bb, C, D⟩ := B
    cases f with
    | false => simp [envMade, Env5.empty]
    | true =>
      simp only [EB.fits, Bool.not_true, Bool.false_or, Bool.and_eq_true] at hB
      obtain ⟨hA, hBb, hC, hD⟩ := hB
      obtain ⟨F, hF, hFf, ⟨f0, x0⟩, ⟨f1, x1⟩, ⟨f2, x2⟩, ⟨f3, x3⟩⟩ := made_is hA hBb hC hD
      have h2 := eb2_is hA hBb hC hD
      obtain ⟨hm, ⟨k0, y0⟩, ⟨k1, y1⟩, ⟨k2, y2⟩, ⟨k3, y3⟩⟩ := h2
      have hM : ebMade ⟨true, A, Bb, C, D⟩ = ebOf [(A, Bb), (C, D)] := rfl
      rw [hM]
      generalize ebOf [(A, Bb), (C, D)] = M at *
      show ((envMade true A Bb C D).full && _) = _
      simp only [hF]
      rw [hFf, leB_of f0 g0, leB_of f1 g1, geB_of f2 g2, geB_of f3 g3]
      simp only [List.all_cons, List.all_nil, EB.has, hm, Bool.true_and, Bool.and_true, leB_of k0 ha, leB_of ha k2, leB_of k1 hb, leB_of hb k3, leB_of k0 hc, leB_of hc k2, leB_of k1 hd, leB_of hd k3, leB_of k0 ha', leB_of ha' k2, leB_of k1 hb', leB_of hb' k3, leB_of k0 hc', leB_of hc' k2, leB_of k1 hd', leB_of hd' k3]
      rw [w0, w1, w2, w3, m0.2, m1.2, m2.2, m3.2, v0, v1, v2, v3, u0, u1, u2, u3, x0, x1, x2, x3, y0, y1, y2, y3]
      rw [Bool.eq_iff_iff]
      simp only [Bool.and_eq_true, decide_eq_true_eq]
      generalize Fl.val a = a at *
      generalize Fl.val b = b at *
      generalize Fl.val c = c at *
      generalize Fl.val d = d at *
      generalize Fl.val a' = a' at *
      generalize Fl.val b' = b' at *
      generalize Fl.val c' = c' at *
      generalize Fl.val d' = d' at *
      generalize min (Fl.val A) (Fl.val C) = lx at *
      generalize min (Fl.val Bb) (Fl.val D) = ly at *
      generalize max (Fl.val A) (Fl.val C) = hx at *
      generalize max (Fl.val Bb) (Fl.val D) = hy at *
      constructor
      · rintro ⟨p1, p2, p3, p4⟩
        refine ⟨⟨?_, ?_, ?_, ?_⟩, ⟨?_, ?_, ?_, ?_⟩, ⟨?_, ?_, ?_, ?_⟩, ?_, ?_, ?_, ?_⟩ <;> grind
      · rintro ⟨⟨p1, p2, p3, p4⟩, ⟨p5, p6, p7, p8⟩, ⟨p9, pa, pb, pc⟩, pd, pe, pf, pg⟩
        refine ⟨?_, ?_, ?_, ?_⟩ <;> grind
end Go.Proofs.Ytciblaabghiefaa
