/- The thin package's NewSequence and SeqGetXY. -/
import Derived.Test.YtciblaabghiefaaGetXY
import Derived.Test.YtciblaabghiefaaPoint1
namespace Go.Proofs.Ytciblaabghiefaa
open Go.RowKit
attribute [local go_sem] run_store_float
set_option maxRecDepth 100000

theorem own_lit' (w : World) (g base n size : Nat) (e : TypeId) (cs : Array Value) (hg : g = w.heap.size) (hb : base ≤ w.heap.size) (hm : n ≤ maxLen) (hs : cs.size = n * size) :
    (w.alloc (.cells cs e)).ownsRow base e size (.slice (some ⟨g, 0, none⟩) n n) n cs.toList := by subst hg; exact World.ownsRow_lit w cs n hb hm hs

set_option maxHeartbeats 1000000 in
theorem implNewSeq_any (d : Int) (hd : d = 0 ∨ d = 1 ∨ d = 2 ∨ d = 3) (A : Option Addr) (c : Nat) (xs : List Nat) (w : World) (h : Reads w w.heap.size 1 A xs.length (xs.map fl)) (hm : xs.length % wd d = 0) (hn : xs.length ≤ 2147483647) :
    Calls Try.prog 48 #[.slice A xs.length c, .int .i64 d] w fun e w' =>
      (∃ A' c', e = .returned (.tuple #[.agg #[.int .i64 2, .int .i64 d, .slice A' xs.length c', .slice none 0 0], .bool true]) ∧ Reads w' w'.heap.size 1 A' xs.length (xs.map fl)) ∧ Below w.heap.size w w' := by
  have hd4 : d % 4 = d := by omega
  have HO := fun W => Lib.hid (dimOf_any d W)
  rw [hd4] at HO
  have HN := fun (A : Option Addr) (c : Nat) W => Lib.hid (newSeq_any d hd A xs.length c hm W)
  have HP := fun (A : Option Addr) (c : Nat) W (hr : Reads W W.heap.size 1 A xs.length (xs.map fl)) => Lib.hid (plainSeq_any d hd A c xs W hr hm hn)
  have h1 : ∀ v ∈ xs.map fl, v.oneCell' = true := by
    intro v hv
    obtain ⟨x, _, rfl⟩ := List.mem_map.1 hv
    rfl
  generalize xs.map fl = cs at *
  generalize xs.length = n at *
  clear hm hd hd4
  have hmf : ∀ (fn : Fn) (first cap : Array Value) (w : World), (Instr.makeFunc fn first cap).run Try.prog w = .ok (.func fn first cap) w := fun _ _ _ _ => rfl
  obtain ⟨i0, hi0, hz0, hz1, hz2⟩ := info_parts f64_info
  have HI := Lib.hid hi0; have HZ0 := Lib.hid hz0; have HZ1 := Lib.hid hz1; have HZ2 := Lib.hid hz2
  clear hi0 hz0 hz1 hz2
  go_enter_defers Try.func48, Try.ntmps48
  go_wp2_with (first
    | (at_builtin; refine wpList_append_any _ rfl (.tmp 7) (.tmp 8) _ rfl w.heap.size 34 i0 _ 1 8 Try.underlying25 HI.out HZ0.out HZ1.out HZ2.out rfl (by omega) (.slice (some ⟨w.heap.size + 1 + 1, 0, none⟩) 0 0) 0 [] rfl (by exact own_lit' _ _ _ 0 1 _ #[] (by simp) (by simp; omega) (by simp) rfl) w.heap.size A n c cs rfl (h.below (by (repeat (first | (with_reducible exact Below.refl _ _) | (with_reducible assumption) | (with_reducible refine Below.drew ?_) | (with_reducible refine below_drewN ?_ _) | ((with_reducible refine below_alloc' ?_ ?_); (focus (first | (simp; done) | omega | (simp; omega)))) | ((with_reducible refine below_set' ?_ ?_); (focus (first | (simp; done) | omega | (simp; omega)))) | (with_reducible refine below_step ?_ (by assumption)) | (with_reducible refine below_step_since ?_ (by assumption)) | ((with_reducible refine below_since' (by assumption) ?_ ?_); (focus (first | (simp; done) | omega | (simp; omega)))) | ((with_reducible refine below_trans' (by assumption) ?_ ?_); (focus (first | (simp; done) | omega | (simp; omega)))))))) h1 (by simp only [maxLen]; omega) (by omega) (by simp; omega) ?_; intro v' w4 hown hg hat
       rw [List.nil_append, Nat.zero_add] at hown
       obtain ⟨A', c', rfl, hRd⟩ := own_form hown
       have B0 : Blk w4 w.heap.size 28 #[.int .i64 0, .int .i64 0, .slice none 0 0, .slice none 0 0] := (((Blk.new w _ _).alloc _).alloc _).grown hg (by simp [Value.ownBlock]; omega)
       have B1 : Blk w4 (w.heap.size + 1) 4 #[.bool false] := ((Blk.new' (by simp)).alloc _).grown hg (by simp [Value.ownBlock])
       have HB : Below w.heap.size w w4 := Below.grown (w := World.alloc _ _) (by (repeat (first | (with_reducible exact Below.refl _ _) | (with_reducible assumption) | (with_reducible refine Below.drew ?_) | (with_reducible refine below_drewN ?_ _) | ((with_reducible refine below_alloc' ?_ ?_); (focus (first | (simp; done) | omega | (simp; omega)))) | ((with_reducible refine below_set' ?_ ?_); (focus (first | (simp; done) | omega | (simp; omega)))) | (with_reducible refine below_step ?_ (by assumption)) | (with_reducible refine below_step_since ?_ (by assumption)) | ((with_reducible refine below_since' (by assumption) ?_ ?_); (focus (first | (simp; done) | omega | (simp; omega)))) | ((with_reducible refine below_trans' (by assumption) ?_ ?_); (focus (first | (simp; done) | omega | (simp; omega))))))) hg (by simp; omega) (fun k hk => by simp [Value.ownBlock] at hk; omega)
       clear hg hat hown h)
    | (go_at_call 82; (with_reducible refine Calls.mono ((HO _).out) ?_); rintro e w2 ⟨rfl, hb⟩; replace HB := below_step HB hb; replace B0 := B0.below hb B0.lt; replace B1 := B1.below hb B1.lt; replace hRd := (hRd.below hb).more hb.size; clear hb)
    | (go_at_call 81; (with_reducible refine Calls.mono ((HN _ _ _).out) ?_); rintro e w2 ⟨rfl, hb⟩; replace HB := below_step HB hb; replace B0 := B0.below hb B0.lt; replace B1 := B1.below hb B1.lt; replace hRd := (hRd.below hb).more hb.size; clear hb)
    | (go_at_call 80; (with_reducible refine Calls.mono (HP _ _ _ hRd).out ?_); rintro e w5 ⟨⟨A2, c2, rfl, hr2, hF2⟩, hb⟩; have HA2 : Hid (∀ ad, A2 = some ad → w.heap.size + 2 ≤ ad.block) := (fun ad e => by have := hF2 ad e; have := B1.lt; omega); clear hF2; replace HB := below_step HB hb; replace B0 := B0.below hb B0.lt; replace B1 := B1.below hb B1.lt; clear hb hRd; have l0 := B0.lt; have f0 := B0.frozen; have c0_0 := B0.cell_ 0 rfl; have c0_1 := B0.cell_ 1 rfl; have c0_2 := B0.cell_ 2 rfl; have c0_3 := B0.cell_ 3 rfl; have l1 := B1.lt; have f1 := B1.frozen; have c1_0 := B1.cell_ 0 rfl))
  refine leaves_cons (f := 79) (args := #[.pointer (some ⟨w.heap.size, 0, none⟩), .pointer (some ⟨w.heap.size + 1, 0, none⟩)]) (by simp) (by simp [go_sem]) ?_
  refine (newSeqRec_idle _ _ _).mono ?_
  rintro e u' w'' ⟨rfl, rfl, rfl⟩
  refine ⟨.tuple #[.agg #[.int .i64 2, .int .i64 d, .slice A2 n c2, .slice none 0 0], .bool true], ?_, ?_⟩
  · simp [results, Try.results48, go_sem, c0_0, c0_1, c0_2, c0_3, c1_0]
  · refine ⟨⟨A2, c2, rfl, ?_⟩, by have := HB.size; (repeat (first | (with_reducible exact Below.refl _ _) | (with_reducible assumption) | (with_reducible refine Below.drew ?_) | (with_reducible refine below_drewN ?_ _) | ((with_reducible refine below_alloc' ?_ ?_); (focus (first | (simp; done) | omega | (simp; omega)))) | ((with_reducible refine below_set' ?_ ?_); (focus (first | (simp; done) | omega | (simp; omega)))) | (with_reducible refine below_step ?_ (by assumption)) | (with_reducible refine below_step_since ?_ (by assumption)) | ((with_reducible refine below_since' (by assumption) ?_ ?_); (focus (first | (simp; done) | omega | (simp; omega)))) | ((with_reducible refine below_trans' (by assumption) ?_ ?_); (focus (first | (simp; done) | omega | (simp; omega))))))⟩
    have hp : ∀ g, g < w.heap.size + 2 → ∀ ad, A2 = some ad → ad.block ≠ g := fun g hg ad e => by have := HA2.out ad e; omega
    have := (((((hr2.far (p := ⟨w.heap.size, 0, none⟩) (hp _ (by simp)) (.int .i64 2)).far (p := ⟨w.heap.size, 1, none⟩) (hp _ (by simp)) (.int .i64 d)).far (p := ⟨w.heap.size, 2, none⟩) (hp _ (by simp)) (.slice A2 n c2)).far (p := ⟨w.heap.size, 3, none⟩) (hp _ (by simp)) (.slice none 0 0)).far (p := ⟨w.heap.size + 1, 0, none⟩) (hp _ (by simp)) (.bool true))
    simpa using this

set_option maxHeartbeats 1000000 in
theorem implGetXY_any (d : Int) (A : Option Addr) (c : Nat) (B : Option Addr) (m e : Nat) (xs : List Nat) (i : Nat) (w : World) (h : Reads w w.heap.size 1 A xs.length (xs.map fl)) (hn : xs.length ≤ 2147483647) (hi : i * wd (d % 4) + wd (d % 4) ≤ kept xs.length (d % 4)) :
    Calls Try.prog 49 #[.agg #[.int .i64 2, .int .i64 d, .slice A xs.length c, .slice B m e], .int .i64 i] w fun en w' =>
      en = .returned (.tuple #[.agg #[.float .f64 (nth xs (i * wd (d % 4))), .float .f64 (nth xs (i * wd (d % 4) + 1))], .bool true]) ∧ Below w.heap.size w w' := by
  have HL := fun W hW => Lib.hid (line_any d A c B m e xs W ((h.below hW).more hW.size) hn)
  unfold IsSeq at HL
  have hkl := kept_le xs.length (d % 4)
  have hlt : (xs.take (kept xs.length (d % 4))).length = kept xs.length (d % 4) := by simp; omega
  have h2 := wd_cases _ (d4 d)
  have hnt : ∀ j, j < kept xs.length (d % 4) → nth (xs.take (kept xs.length (d % 4))) j = nth xs j := fun j hj => by simp [nth, hj]
  have HG := fun (g c : Nat) (W : World) (hB : Blk W g 34 ((xs.take (kept xs.length (d % 4))).map fl).toArray) => Lib.hid (getXY_any (d % 4) (d4 d) (some ⟨g, 0, none⟩) c (xs.take (kept xs.length (d % 4))) i W (by rw [hlt]; exact Reads.of_blk hB (by simp; omega)) (by omega) (by omega))
  rw [hlt] at HG
  rw [hnt _ (by omega), hnt _ (by omega)] at HG
  clear h hlt hnt
  generalize nth xs (i * wd (d % 4)) = x at *
  generalize nth xs (i * wd (d % 4) + 1) = y at *
  generalize ((xs.take (kept xs.length (d % 4))).map fl).toArray = cs at *
  generalize kept xs.length (d % 4) = k at *
  generalize xs.length = n at *
  generalize d % 4 = dd at *
  have hmf : ∀ (fn : Fn) (first cap : Array Value) (w : World), (Instr.makeFunc fn first cap).run Try.prog w = .ok (.func fn first cap) w := fun _ _ _ _ => rfl
  go_enter_defers Try.func49, Try.ntmps49
  go_wp2_with (first
    | (go_at_call 59; (with_reducible refine Calls.mono (HL _ (by (repeat (first | (with_reducible exact Below.refl _ _) | (with_reducible assumption) | (with_reducible refine Below.drew ?_) | (with_reducible refine below_drewN ?_ _) | ((with_reducible refine below_alloc' ?_ ?_); (focus (first | (simp; done) | omega | (simp; omega)))) | ((with_reducible refine below_set' ?_ ?_); (focus (first | (simp; done) | omega | (simp; omega)))) | (with_reducible refine below_step ?_ (by assumption)) | (with_reducible refine below_step_since ?_ (by assumption)) | ((with_reducible refine below_since' (by assumption) ?_ ?_); (focus (first | (simp; done) | omega | (simp; omega)))) | ((with_reducible refine below_trans' (by assumption) ?_ ?_); (focus (first | (simp; done) | omega | (simp; omega)))))))).out ?_); rintro en w2 ⟨g, hg, rfl, BS, hb⟩; have HB : Below w.heap.size w w2 := (by (repeat (first | (with_reducible exact Below.refl _ _) | (with_reducible assumption) | (with_reducible refine Below.drew ?_) | (with_reducible refine below_drewN ?_ _) | ((with_reducible refine below_alloc' ?_ ?_); (focus (first | (simp; done) | omega | (simp; omega)))) | ((with_reducible refine below_set' ?_ ?_); (focus (first | (simp; done) | omega | (simp; omega)))) | (with_reducible refine below_step ?_ (by assumption)) | (with_reducible refine below_step_since ?_ (by assumption)) | ((with_reducible refine below_since' (by assumption) ?_ ?_); (focus (first | (simp; done) | omega | (simp; omega)))) | ((with_reducible refine below_trans' (by assumption) ?_ ?_); (focus (first | (simp; done) | omega | (simp; omega))))))); have B1 : Blk w2 (w.heap.size + 1) 36 #[.float .f64 0, .float .f64 0] := ((Blk.new' (by simp)).alloc _).below hb (by simp); have B2 : Blk w2 (w.heap.size + 1 + 1) 4 #[.bool false] := (Blk.new' (by simp)).below hb (by simp); clear hb)
    | (go_at_call 60; (with_reducible refine Calls.mono (lineCoords_any _ _ _ _ _) ?_); rintro e w2 ⟨rfl, hb⟩; replace HB := below_step HB hb; replace B1 := B1.below hb B1.lt; replace B2 := B2.below hb B2.lt; replace BS := BS.below hb BS.lt; clear hb)
    | (go_at_call 84; (with_reducible refine Calls.mono ((HG _ _ _ BS).out) ?_); rintro e w2 ⟨rfl, hb⟩; replace HB := below_step HB hb; replace B1 := B1.below hb B1.lt; replace B2 := B2.below hb B2.lt; clear hb)
    | (go_at_call 63; (with_reducible refine Calls.mono (plainXY_any _ _ _) ?_); rintro e w2 ⟨rfl, hb⟩; replace HB := below_step HB hb; replace B1 := B1.below hb B1.lt; replace B2 := B2.below hb B2.lt; clear hb; have l1 := B1.lt; have f1 := B1.frozen; have c1_0 := B1.cell_ 0 rfl; have c1_1 := B1.cell_ 1 rfl; have l2 := B2.lt; have f2 := B2.frozen; have c2_0 := B2.cell_ 0 rfl))
  refine leaves_cons (f := 83) (args := #[.pointer (some ⟨w.heap.size + 1, 0, none⟩), .pointer (some ⟨w.heap.size + 1 + 1, 0, none⟩)]) (by simp) (by simp [go_sem]) ?_
  refine (getXYRec_idle _ _ _).mono ?_
  rintro e u' w'' ⟨rfl, rfl, rfl⟩
  refine ⟨.tuple #[.agg #[.float .f64 x, .float .f64 y], .bool true], ?_, ?_⟩
  · simp [results, Try.results49, go_sem, c1_0, c1_1, c2_0]
  · exact ⟨rfl, by have := HB.size; (repeat (first | (with_reducible exact Below.refl _ _) | (with_reducible assumption) | (with_reducible refine Below.drew ?_) | (with_reducible refine below_drewN ?_ _) | ((with_reducible refine below_alloc' ?_ ?_); (focus (first | (simp; done) | omega | (simp; omega)))) | ((with_reducible refine below_set' ?_ ?_); (focus (first | (simp; done) | omega | (simp; omega)))) | (with_reducible refine below_step ?_ (by assumption)) | (with_reducible refine below_step_since ?_ (by assumption)) | ((with_reducible refine below_since' (by assumption) ?_ ?_); (focus (first | (simp; done) | omega | (simp; omega)))) | ((with_reducible refine below_trans' (by assumption) ?_ ?_); (focus (first | (simp; done) | omega | (simp; omega))))))⟩
end Go.Proofs.Ytciblaabghiefaa
