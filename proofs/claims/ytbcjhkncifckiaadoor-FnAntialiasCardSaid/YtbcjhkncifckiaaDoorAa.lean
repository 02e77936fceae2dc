/- The walks of the turns of neighbouring bands. -/
import Derived.Test.YtbcjhkncifckiaaDoorWc
import Derived.Test.YtbcjhkncifckiaaDoorSm
namespace Go.Proofs.YtbcjhkncifckiaaDoor
open Go Go.RowKit Go.Proofs En Fl Ieee
set_option maxRecDepth 100000
set_option maxHeartbeats 0

theorem sqrt_ct (x r : Nat) (w0 : World) (H : Hp) (hr : Ieee.double.sqrt x = some r) : Ct Tryd.prog 30 #[.float .f64 x] w0 (H) (fun v H' => v = .float .f64 r ∧ H' = H) := by
  refine Ct.of_body (n := 5) (E := [(0, _)]) Tryd.func30 rfl rfl rfl rfl ?_
  refine Tr.seq ?_
  refine Tr.region ?_
  refine TL.val (YF.assign rfl) (by decide) ?_
  refine TL.end ?_
  refine Arr.seq ?_
  refine Tr.seq ?_
  refine Tr.region ?_
  refine TL.val (YF.move rfl) (by decide) ?_
  refine TL.val (YF.sqrt ext_38 rfl hr) (by decide) ?_
  refine TL.val (YF.assign rfl) (by decide) ?_
  refine TL.end ?_
  refine Arr.seq ?_
  refine Tr.retE ?_
  exact Ends.tmp rfl rfl ⟨rfl, rfl⟩

theorem smooth_ct (s : Nat → Int) (m : Nat → Nat) (X : Nat → Rat) (G : Rat) (g c i bx : Nat) (hg : g < 2) (hc : c < 2) (t' : TypeId) (f' : Nat × Nat) (w0 : World) (H : Hp) (hi : H[i]? = some (bx, .cells (va 576 (fl .f64 m)) t' f')) (hmx : s (34 + 2 * g + c) = 0 ∨ s (34 + 2 * g + c) = 1) (hG0 : 0 ≤ G) (hG : G ≤ 10) (hm : ∀ q, q < 576 → Fin double (m q) ∧ mg (V double (m q)) ≤ G) (hX : ∀ q, q < 576 → V double (m q) = X q) : Ct Tryd.prog 16 #[.agg (va 86 (sd s)), .int .i64 g, .int .i64 c, .slice (some ⟨bx, 0, none⟩) 576 576] w0 (H) (fun v H' => ∃ b' S cs y L, v = .slice (some ⟨b', 0, none⟩) 576 S ∧ H' = L ++ H ∧ (∃ (j : Nat) (t : TypeId) (fr : Nat × Nat), H'[j]? = some (b', .cells cs t fr)) ∧ (∀ k, k < 576 → cs[k]? = some (.float .f64 (y k))) ∧ AI double (3 * G / 1000000 + 1 / 10 ^ 30) X m (lastOf s g c) 0 y) := by
  refine Ct.of_body (n := 97) (E := [(0, _), (1, _), (2, _), (3, _)]) Tryd.func16 rfl rfl rfl rfl ?_
  refine Tr.seq ?_
  refine Tr.region ?_
  refine TL.box rfl (by decide) (fun b4 => ?_)
  refine TL.val (YF.assign rfl) (by decide) ?_
  refine TL.end ?_
  refine Arr.seq ?_
  refine Tr.seq ?_
  refine Tr.region ?_
  refine TL.buildSlice (vs := []) (cs := #[]) sl_54 zero_60 rfl rfl (by kernel_rfl) rfl (by decide) (fun b => ?_)
  refine TL.val (YF.move rfl) (by decide) ?_
  refine TL.eff (EF.appendRow 0 (i + 2) sl_54 bytes_60 zero_60 rfl rfl rfl rfl rfl hi) (by decide) ?_
  rintro _ _ ⟨b9, S, z, hS, rfl, rfl⟩
  refine TL.heap (_ :: _ :: _) rfl ?_
  refine TL.val (YF.assign rfl) (by decide) ?_
  refine TL.end ?_
  refine Arr.seq ?_
  refine Tr.seq ?_
  refine Tr.region ?_
  refine TL.val (YF.assign rfl) (by decide) ?_
  refine TL.end ?_
  refine Arr.seq ?_
  refine Tr.seq ?_
  refine Tr.seq ?_
  refine Tr.region ?_
  refine TL.val (YF.loadAll 1 agg_36 rfl rfl (va_size _ _)) (by decide) ?_
  refine TL.val (YF.move rfl) (by decide) ?_
  refine TL.val (YF.move rfl) (by decide) ?_
  refine TL.call (vs := [_, _, _]) call_23 rfl (by decide) (short_ct s g c hg hc w0 _) ?_
  rintro _ _ ⟨sb, rfl, hsb, rfl⟩
  refine TL.end ?_
  refine Arr.seq ?_
  refine Tr.cutN (R := fun a w => Agree 97 [(9, .slice (some ⟨b9, 0, none⟩) 576 S), (10, .int .i64 (lastOf s g c : Nat))] a ∧ HS w0 ((b9, .cells (va S (zd z m)) 60 (0, 0)) :: (b4, .cells (va 86 (sd s)) 36 (0, 0)) :: H) w) ?_ ?_
  ·
    refine Tr.cond rfl (fun h23 => ?_) (fun h23 => ?_)
    ·
      refine Tr.seq ?_
      refine Tr.seq ?_
      refine Tr.region ?_
      refine TL.val (YF.move rfl) (by decide) ?_
      refine TL.val (YF.move rfl) (by decide) ?_
      refine TL.val (YF.fieldAddr fo_36_9 rfl rfl) (by decide) ?_
      refine TL.val (YF.indexArr arr_31 rfl rfl (by first | decide | omega) rfl) (by decide) ?_
      refine TL.val (YF.indexArr arr_30 rfl rfl (by first | decide | omega) (show _ = 34 + 2 * g + c by omega)) (by decide) ?_
      refine TL.val (YF.load 1 sc_3 rfl rfl (sd_int (by omega))) (by decide) ?_
      refine TL.val (YF.eql rfl rfl rfl) (by decide) ?_
      refine TL.end ?_
      refine Arr.seq ?_
      refine Tr.cond rfl (fun h30 => ?_) (fun h30 => ?_)
      ·
        replace h30 := of_decide_eq_true h30
        refine Tr.seq ?_
        refine Tr.region ?_
        refine TL.val (YF.move rfl) (by decide) ?_
        refine TL.val (YF.assign rfl) (by decide) ?_
        refine TL.end ?_
        refine Arr.seq ?_
        refine Tr.retE ?_
        refine Arr.seqR ?_
        refine Arr.seqR ?_
        refine Arr.seqR ?_
        first
          | (have e : t = lastOf s g c := by omega
             subst e
             refine Ends.sub ?_ (Ends.tmp rfl rfl ⟨b9, S, _, y, [(b9, .cells (va S (zd z y)) 60 (0, 0))], rfl, rfl, ⟨0, _, _, rfl⟩, fun k hk => zd_get hk hS, hA⟩)
             exact (by repeat first | exact List.Sublist.refl _ | apply List.Sublist.cons_cons | apply List.Sublist.cons))
          | (have e : lastOf s g c = 1 := by
               unfold lastOf; rw [if_pos (hsb.1 h23), if_pos (by assumption)]
             refine Ends.sub ?_ (Ends.tmp rfl rfl ⟨b9, S, _, m, [(b9, .cells (va S (zd z m)) 60 (0, 0))], rfl, rfl, ⟨0, _, _, rfl⟩, fun k hk => zd_get hk hS, by rw [e]; exact AI.zero⟩)
             exact (by repeat first | exact List.Sublist.refl _ | apply List.Sublist.cons_cons | apply List.Sublist.cons))
      ·
        replace h30 := of_decide_eq_false h30
        refine Tr.skipE ?_
        refine Arr.seq ?_
        refine Tr.region ?_
        refine TL.val (YF.assign rfl) (by decide) ?_
        refine TL.end ?_
        refine Arr.meet ?_
        first
          | (have e : lastOf s g c = 2 := by
               unfold lastOf; rw [if_pos (hsb.1 h23), if_neg (by assumption)]
             rw [e]
             exact fun a w ha hw => ⟨(ha.cons rfl (ha.cons rfl (ha.nil))), hw⟩)
          | (have e : lastOf s g c = 32 := by
               unfold lastOf; rw [if_neg (fun hq => by rw [hsb.2 hq] at h23; cases h23)]
             rw [e]
             exact fun a w ha hw => ⟨(ha.cons rfl (ha.cons rfl (ha.nil))), hw⟩)
    ·
      refine Tr.skipE ?_
      refine Arr.meet ?_
      first
        | (have e : lastOf s g c = 2 := by
             unfold lastOf; rw [if_pos (hsb.1 h23), if_neg (by assumption)]
           rw [e]
           exact fun a w ha hw => ⟨(ha.cons rfl (ha.cons rfl (ha.nil))), hw⟩)
        | (have e : lastOf s g c = 32 := by
             unfold lastOf; rw [if_neg (fun hq => by rw [hsb.2 hq] at h23; cases h23)]
           rw [e]
           exact fun a w ha hw => ⟨(ha.cons rfl (ha.cons rfl (ha.nil))), hw⟩)
  rintro a w ⟨ha, hw⟩
  have hl := lastOf_le s g c
  refine Arr.use ha hw ?_
  refine Arr.seq ?_
  refine Tr.seq ?_
  refine Tr.seq ?_
  refine Tr.region ?_
  refine TL.val (YF.assign rfl) (by decide) ?_
  refine TL.end ?_
  refine Arr.seq ?_
  refine Tr.block ?_
  refine Tr.loop (I := fun mq a w => ∃ (t : Nat) (y : Nat → Nat), mq = 33 - t ∧ (1 ≤ t ∧ t ≤ lastOf s g c) ∧ (AI double (3 * G / 1000000 + 1 / 10 ^ 30) X m t 0 y) ∧ Agree 97 [(9, .slice (some ⟨b9, 0, none⟩) 576 S), (10, .int .i64 (lastOf s g c : Nat)), (11, .int .i64 t)] a ∧ HS w0 ((b9, .cells (va S (zd z y)) 60 (0, 0)) :: (b4, .cells (va 86 (sd s)) 36 (0, 0)) :: H) w) (32) ?_ ?_
  · intro a w ha hw
    exact ⟨1, m, rfl, by omega, AI.zero, (ha.cons rfl (ha.cons rfl (ha.cons rfl (ha.nil)))), hw⟩
  rintro _ a w ⟨t, y, rfl, ht, hA, ha, hw⟩
  refine Tr.use ha hw ?_
  refine Tr.seq ?_
  refine Tr.seq ?_
  
  refine Tr.region ?_
  refine TL.val (YF.move rfl) (by decide) ?_
  refine TL.val (YF.move rfl) (by decide) ?_
  refine TL.val (YF.lss rfl rfl rfl) (by decide) ?_
  refine TL.end ?_
  refine Arr.seq ?_
  refine Tr.cond rfl (fun h34 => ?_) (fun h34 => ?_)
  ·
    replace h34 := of_decide_eq_true h34
    refine Tr.skipE ?_
    refine Arr.seq ?_
    refine Tr.seq ?_
    refine Tr.block ?_
    refine Tr.seq ?_
    refine Tr.region ?_
    refine TL.buildSlice (vs := [(0, (.float .f64 13826951575952896819)), (1, (.float .f64 13826366108001338655)), (2, (.float .f64 13822988408280810783)), (3, (.float .f64 13819205384593819566)), (4, (.float .f64 13814881928951543890)), (5, (.float .f64 13809441580601680331)), (6, (.float .f64 13802711401318537862)), (7, (.float .f64 13794050078515178924))]) (cs := (va 8 (fl .f64 vsb))) sl_54 zero_60 rfl rfl (by kernel_rfl) rfl (by decide) (fun bv => ?_)
    refine TL.val (YF.lenSl sl_54 rfl) (by decide) ?_
    refine TL.val (YF.move rfl) (by decide) ?_
    refine TL.end ?_
    refine Arr.seq ?_
    refine Tr.block ?_
    refine Tr.loop (I := fun mq a w => ∃ (j : Nat) (y : Nat → Nat), mq = 8 - j ∧ (j ≤ 8) ∧ (AI double (3 * G / 1000000 + 1 / 10 ^ 30) X m t j y) ∧ Agree 97 [(9, .slice (some ⟨b9, 0, none⟩) 576 S), (10, .int .i64 (lastOf s g c : Nat)), (11, .int .i64 t), (37, .slice (some ⟨bv, 0, none⟩) 8 8), (38, .int .i64 8), (39, .int .i64 j)] a ∧ HS w0 ((bv, .cells (va 8 (fl .f64 vsb)) 60 (0, 0)) :: (b9, .cells (va S (zd z y)) 60 (0, 0)) :: (b4, .cells (va 86 (sd s)) 36 (0, 0)) :: H) w) (8) ?_ ?_
    · intro a w ha hw
      exact ⟨0, y, rfl, by omega, hA, (ha.cons rfl (ha.cons rfl (ha.cons rfl (ha.cons rfl (ha.cons rfl (ha.cons rfl (ha.nil))))))), hw⟩
    rintro _ a w ⟨j, y, rfl, hj, hA, ha, hw⟩
    refine Tr.use ha hw ?_
    refine Tr.seq ?_
    refine Tr.region ?_
    refine TL.val (YF.lss rfl rfl rfl) (by decide) ?_
    refine TL.end ?_
    refine Arr.seq ?_
    refine Tr.seq ?_
    refine Tr.cond rfl (fun h40 => ?_) (fun h40 => ?_)
    ·
      replace h40 := of_decide_eq_true h40
      refine Tr.skipE ?_
      refine Arr.seq ?_
      refine Tr.seq ?_
      refine Tr.block ?_
      refine Tr.seq ?_
      refine Tr.region ?_
      refine TL.val (YF.move rfl) (by decide) ?_
      refine TL.val (YF.indexSl sl_54 rfl rfl (by first | decide | omega) (show _ = j by omega)) (by decide) ?_
      refine TL.val (YF.load (v := .float .f64 (vsb j)) 0 sc_60 rfl rfl (va_get (by omega) rfl)) (by decide) ?_
      refine TL.val (YF.assign rfl) (by decide) ?_
      refine TL.val (YF.assign rfl) (by decide) ?_
      refine TL.end ?_
      refine Arr.seq ?_
      refine Tr.seq ?_
      obtain ⟨p1, q1, e1, e2, e3⟩ := root_ok j (by omega)
      refine Tr.region ?_
      refine TL.val (YF.move rfl) (by decide) ?_
      refine TL.val (YF.move rfl) (by decide) ?_
      refine TL.val (YF.farith rfl rfl e1) (by decide) ?_
      refine TL.val (YF.farith rfl rfl e2) (by decide) ?_
      refine TL.call (vs := [_]) call_30 rfl (by decide) (sqrt_ct _ (rsb j) w0 _ e3) ?_
      rintro _ _ ⟨rfl, rfl⟩
      refine TL.val (YF.assign rfl) (by decide) ?_
      refine TL.end ?_
      refine Arr.seq ?_
      refine Tr.seq ?_
      have hlo := hA.low (show 1 ≤ t ∧ t < 32 by omega) (show j < 8 by omega)
      have hhi := hA.high (show 1 ≤ t ∧ t < 32 by omega) (show j < 8 by omega)
      obtain ⟨v1, v2, v3, r, v5, v6, v7, r', d1, d2, d3, d4, d5, d6, d7, d8, r1, r2⟩ := turn_spec (show j < 8 by omega) (hm (18 * t - 1 - j) (by omega)).1 (hm (18 * t + j) (by omega)).1 hG0 hG (hm (18 * t - 1 - j) (by omega)).2 (hm (18 * t + j) (by omega)).2
      refine Tr.drawE (_ :: _ :: _ :: _) (fun H => H) rfl mixed_ ?_
      refine TD.take 0 rfl (by kernel_rfl) (by kernel_rfl) (by kernel_rfl) (fun _ _ _ h => h) (by repeat first | exact List.Sublist.refl _ | apply List.Sublist.cons_cons | apply List.Sublist.cons) (YF.move rfl) (by decide) ?_
      refine TD.take 1 rfl (by kernel_rfl) (by kernel_rfl) (by kernel_rfl) (fun _ _ _ h => h) (by repeat first | exact List.Sublist.refl _ | apply List.Sublist.cons_cons | apply List.Sublist.cons) (YF.move rfl) (by decide) ?_
      refine TD.take 2 rfl (by kernel_rfl) (by kernel_rfl) (by kernel_rfl) (fun _ _ _ h => h) (by repeat first | exact List.Sublist.refl _ | apply List.Sublist.cons_cons | apply List.Sublist.cons) (YF.mul rfl rfl (IntWalk.i64_in _ (by omega))) (by decide) ?_
      refine TD.take 3 rfl (by kernel_rfl) (by kernel_rfl) (by kernel_rfl) (fun _ _ _ h => h) (by repeat first | exact List.Sublist.refl _ | apply List.Sublist.cons_cons | apply List.Sublist.cons) (YF.sub rfl rfl (IntWalk.i64_in _ (by omega))) (by decide) ?_
      refine TD.take 4 rfl (by kernel_rfl) (by kernel_rfl) (by kernel_rfl) (fun _ _ _ h => h) (by repeat first | exact List.Sublist.refl _ | apply List.Sublist.cons_cons | apply List.Sublist.cons) (YF.move rfl) (by decide) ?_
      refine TD.take 5 rfl (by kernel_rfl) (by kernel_rfl) (by kernel_rfl) (fun _ _ _ h => h) (by repeat first | exact List.Sublist.refl _ | apply List.Sublist.cons_cons | apply List.Sublist.cons) (YF.sub rfl rfl (IntWalk.i64_in _ (by omega))) (by decide) ?_
      refine TD.take 6 rfl (by kernel_rfl) (by kernel_rfl) (by kernel_rfl) (fun _ _ _ h => h) (by repeat first | exact List.Sublist.refl _ | apply List.Sublist.cons_cons | apply List.Sublist.cons) (YF.indexSl sl_54 rfl rfl (by first | decide | omega) (show _ = 18 * t - 1 - j by omega)) (by decide) ?_
      refine TD.take 7 rfl (by kernel_rfl) (by kernel_rfl) (by kernel_rfl) (fun _ _ _ h => h) (by repeat first | exact List.Sublist.refl _ | apply List.Sublist.cons_cons | apply List.Sublist.cons) (YF.load (v := .float .f64 (m (18 * t - 1 - j))) 1 sc_60 rfl rfl (by rw [← hlo]; exact zd_get (by omega) hS)) (by decide) ?_
      refine TD.take 8 rfl (by kernel_rfl) (by kernel_rfl) (by kernel_rfl) (fun _ _ _ h => h) (by repeat first | exact List.Sublist.refl _ | apply List.Sublist.cons_cons | apply List.Sublist.cons) (YF.move rfl) (by decide) ?_
      refine TD.take 9 rfl (by kernel_rfl) (by kernel_rfl) (by kernel_rfl) (fun _ _ _ h => h) (by repeat first | exact List.Sublist.refl _ | apply List.Sublist.cons_cons | apply List.Sublist.cons) (YF.move rfl) (by decide) ?_
      refine TD.take 10 rfl (by kernel_rfl) (by kernel_rfl) (by kernel_rfl) (fun _ _ _ h => h) (by repeat first | exact List.Sublist.refl _ | apply List.Sublist.cons_cons | apply List.Sublist.cons) (YF.mul rfl rfl (IntWalk.i64_in _ (by omega))) (by decide) ?_
      refine TD.take 11 rfl (by kernel_rfl) (by kernel_rfl) (by kernel_rfl) (fun _ _ _ h => h) (by repeat first | exact List.Sublist.refl _ | apply List.Sublist.cons_cons | apply List.Sublist.cons) (YF.move rfl) (by decide) ?_
      refine TD.take 12 rfl (by kernel_rfl) (by kernel_rfl) (by kernel_rfl) (fun _ _ _ h => h) (by repeat first | exact List.Sublist.refl _ | apply List.Sublist.cons_cons | apply List.Sublist.cons) (YF.add rfl rfl (IntWalk.i64_in _ (by omega))) (by decide) ?_
      refine TD.take 13 rfl (by kernel_rfl) (by kernel_rfl) (by kernel_rfl) (fun _ _ _ h => h) (by repeat first | exact List.Sublist.refl _ | apply List.Sublist.cons_cons | apply List.Sublist.cons) (YF.indexSl sl_54 rfl rfl (by first | decide | omega) (show _ = 18 * t + j by omega)) (by decide) ?_
      refine TD.take 14 rfl (by kernel_rfl) (by kernel_rfl) (by kernel_rfl) (fun _ _ _ h => h) (by repeat first | exact List.Sublist.refl _ | apply List.Sublist.cons_cons | apply List.Sublist.cons) (YF.load (v := .float .f64 (m (18 * t + j))) 1 sc_60 rfl rfl (by rw [← hhi]; exact zd_get (by omega) hS)) (by decide) ?_
      refine TD.take 15 rfl (by kernel_rfl) (by kernel_rfl) (by kernel_rfl) (fun _ _ _ h => h) (by repeat first | exact List.Sublist.refl _ | apply List.Sublist.cons_cons | apply List.Sublist.cons) (YF.assign rfl) (by decide) ?_
      refine TD.take 16 rfl (by kernel_rfl) (by kernel_rfl) (by kernel_rfl) (fun _ _ _ h => h) (by repeat first | exact List.Sublist.refl _ | apply List.Sublist.cons_cons | apply List.Sublist.cons) (YF.assign rfl) (by decide) ?_
      refine TD.end (by kernel_rfl) ?_
      refine Arr.seq ?_
      refine Tr.region ?_
      refine TL.val (YF.move rfl) (by decide) ?_
      refine TL.val (YF.move rfl) (by decide) ?_
      refine TL.val (YF.mul rfl rfl (IntWalk.i64_in _ (by omega))) (by decide) ?_
      refine TL.val (YF.sub rfl rfl (IntWalk.i64_in _ (by omega))) (by decide) ?_
      refine TL.val (YF.move rfl) (by decide) ?_
      refine TL.val (YF.sub rfl rfl (IntWalk.i64_in _ (by omega))) (by decide) ?_
      refine TL.val (YF.move rfl) (by decide) ?_
      refine TL.val (YF.move rfl) (by decide) ?_
      refine TL.val (YF.mul rfl rfl (IntWalk.i64_in _ (by omega))) (by decide) ?_
      refine TL.val (YF.move rfl) (by decide) ?_
      refine TL.val (YF.add rfl rfl (IntWalk.i64_in _ (by omega))) (by decide) ?_
      refine TL.val (YF.move rfl) (by decide) ?_
      refine TL.val (YF.move rfl) (by decide) ?_
      refine TL.val (YF.farith rfl rfl d1) (by decide) ?_
      refine TL.val (YF.move rfl) (by decide) ?_
      refine TL.val (YF.move rfl) (by decide) ?_
      refine TL.val (YF.farith rfl rfl d2) (by decide) ?_
      refine TL.val (YF.move rfl) (by decide) ?_
      refine TL.val (YF.farith rfl rfl d3) (by decide) ?_
      refine TL.val (YF.farith rfl rfl d4) (by decide) ?_
      refine TL.val (YF.move rfl) (by decide) ?_
      refine TL.val (YF.move rfl) (by decide) ?_
      refine TL.val (YF.farith rfl rfl d5) (by decide) ?_
      refine TL.val (YF.move rfl) (by decide) ?_
      refine TL.val (YF.move rfl) (by decide) ?_
      refine TL.val (YF.farith rfl rfl d6) (by decide) ?_
      refine TL.val (YF.move rfl) (by decide) ?_
      refine TL.val (YF.farith rfl rfl d7) (by decide) ?_
      refine TL.val (YF.farith rfl rfl d8) (by decide) ?_
      refine TL.val (YF.indexSl sl_54 rfl rfl (by first | decide | omega) (show _ = 18 * t - 1 - j by omega)) (by decide) ?_
      refine TL.storeV 1 (_ :: _ :: _ :: _) rfl rfl rfl sz_60 rfl (by rw [va_size]; omega) (zd_set (by omega)) rfl ?_
      refine TL.val (YF.indexSl sl_54 rfl rfl (by first | decide | omega) (show _ = 18 * t + j by omega)) (by decide) ?_
      refine TL.storeV 1 (_ :: _ :: _ :: _) rfl rfl rfl sz_60 rfl (by rw [va_size]; omega) (zd_set (by omega)) rfl ?_
      refine TL.end ?_
      refine Arr.block ?_
      refine Arr.seq ?_
      refine Tr.region ?_
      refine TL.val (YF.add rfl rfl (IntWalk.i64_in _ (by omega))) (by decide) ?_
      refine TL.val (YF.move rfl) (by decide) ?_
      refine TL.end ?_
      exact fun a w ha hw => ⟨_, by omega, j + 1, upd (upd y (18 * t - 1 - j) r) (18 * t + j) r', rfl, by omega, hA.step (by omega) (by omega) (by rw [← hX _ (by omega), ← hX _ (by omega)]; exact r1) (by rw [← hX _ (by omega), ← hX _ (by omega)]; exact r2), (ha.cons rfl (ha.cons rfl (ha.cons rfl (ha.cons rfl (ha.cons rfl (ha.cons rfl (ha.nil))))))), hw⟩
    ·
      replace h40 := of_decide_eq_false h40
      refine Tr.exitE ?_
      refine Arr.seqX ?_
      refine Arr.seqX ?_
      refine Arr.blockE ?_
      refine Arr.block ?_
      refine Arr.seq ?_
      refine Tr.region ?_
      refine TL.val (YF.move rfl) (by decide) ?_
      refine TL.val (YF.add rfl rfl (IntWalk.i64_in _ (by omega))) (by decide) ?_
      refine TL.val (YF.assign rfl) (by decide) ?_
      refine TL.end ?_
      exact fun a w ha hw => ⟨_, by omega, t + 1, y, rfl, by omega, (by have e : j = 8 := (by omega); subst e; exact hA.next), (ha.cons rfl (ha.cons rfl (ha.cons rfl (ha.nil)))), hw.mono (by repeat first | exact List.Sublist.refl _ | apply List.Sublist.cons)⟩
  ·
    replace h34 := of_decide_eq_false h34
    refine Tr.exitE ?_
    refine Arr.seqX ?_
    refine Arr.seqX ?_
    refine Arr.blockE ?_
    refine Arr.seq ?_
    refine Tr.seq ?_
    refine Tr.region ?_
    refine TL.val (YF.move rfl) (by decide) ?_
    refine TL.val (YF.assign rfl) (by decide) ?_
    refine TL.end ?_
    refine Arr.seq ?_
    refine Tr.retE ?_
    first
      | (have e : t = lastOf s g c := by omega
         subst e
         refine Ends.sub ?_ (Ends.tmp rfl rfl ⟨b9, S, _, y, [(b9, .cells (va S (zd z y)) 60 (0, 0))], rfl, rfl, ⟨0, _, _, rfl⟩, fun k hk => zd_get hk hS, hA⟩)
         exact (by repeat first | exact List.Sublist.refl _ | apply List.Sublist.cons_cons | apply List.Sublist.cons))
      | (have e : lastOf s g c = 1 := by
           unfold lastOf; rw [if_pos (hsb.1 h23), if_pos (by assumption)]
         refine Ends.sub ?_ (Ends.tmp rfl rfl ⟨b9, S, _, m, [(b9, .cells (va S (zd z m)) 60 (0, 0))], rfl, rfl, ⟨0, _, _, rfl⟩, fun k hk => zd_get hk hS, by rw [e]; exact AI.zero⟩)
         exact (by repeat first | exact List.Sublist.refl _ | apply List.Sublist.cons_cons | apply List.Sublist.cons))

theorem antialias_ct (wd : Int) (s : Nat → Int) (x : Nat → Nat) (z0 : Nat → Value) (g c : Nat) (G : Rat) (i bf bm bsi : Nat) (hg : g < 2) (hc : c < 2) (t' : TypeId) (f' : Nat × Nat) (w0 : World) (H : Hp) (hi : H[i]? = some (bsi, .cells (va 86 (sd s)) t' f')) (hG0 : 0 ≤ G) (hG : G ≤ 10) (hx : ∀ q, q < 576 → Fin single (x q) ∧ mg (V single (x q)) ≤ G) (hmx : s (34 + 2 * g + c) = 0 ∨ s (34 + 2 * g + c) = 1) (hcs : ∀ i, i < 8 → w0.cell? ⟨1, i, none⟩ = some (.float .f32 (csb i))) (hca : ∀ i, i < 8 → w0.cell? ⟨2, i, none⟩ = some (.float .f32 (cab i))) : Ct Tryd.prog 37 #[.pointer (some ⟨bf, 0, none⟩), .int .i64 g, .int .i64 c] w0 ((bf, .cells (va 3204 (ff wd (some ⟨bsi, 0, none⟩) bm)) 112 (0, 0)) :: (bm, .cells (va 2548 (zl z0 (244 + 576 * (2 * g + c)) x)) 91 (0, 0)) :: H) (fun v H' => ∃ y, AI single (G / 1000000 + 1 / 10 ^ 30) (fun q => V single (x q)) x (lastOf s g c) 0 y ∧ H' = (bf, .cells (va 3204 (ff wd (some ⟨bsi, 0, none⟩) bm)) 112 (0, 0)) :: (bm, .cells (va 2548 (zl z0 (244 + 576 * (2 * g + c)) y)) 91 (0, 0)) :: H) := by
  refine Ct.of_body (n := 207) (E := [(0, _), (1, _), (2, _)]) Tryd.func37 rfl rfl rfl rfl ?_
  refine Tr.seq ?_
  refine Tr.seq ?_
  refine Tr.region ?_
  refine TL.val (YF.move rfl) (by decide) ?_
  refine TL.val (YF.nilCheck rfl) (by decide) ?_
  refine TL.val (YF.fieldAddr fo_112_1 rfl rfl) (by decide) ?_
  refine TL.val (YF.load (v := .pointer (some ⟨bsi, 0, none⟩)) 0 sc_86 rfl rfl (va_get (by decide) rfl)) (by decide) ?_
  refine TL.val (YF.move rfl) (by decide) ?_
  refine TL.val (YF.move rfl) (by decide) ?_
  refine TL.val (YF.nilCheck rfl) (by decide) ?_
  refine TL.val (YF.fieldAddr fo_114_7 rfl rfl) (by decide) ?_
  refine TL.val (YF.indexArr arr_31 rfl rfl (by first | decide | omega) rfl) (by decide) ?_
  refine TL.val (YF.indexArr arr_30 rfl rfl (by first | decide | omega) (show _ = 26 + 2 * g + c by omega)) (by decide) ?_
  refine TL.val (YF.load (i + 2) sc_3 rfl hi (sd_int (by omega))) (by decide) ?_
  by_cases h1 : s (26 + 2 * g + c) = 1
  all_goals by_cases h2 : s (30 + 2 * g + c) = 2
  ·
    first
      | refine TL.val (YF.eql (b := true) rfl rfl (decide_eq_true h1)) (by decide) ?_
      | refine TL.val (YF.eql (b := false) rfl rfl (decide_eq_false h1)) (by decide) ?_
    refine TL.val (YF.move rfl) (by decide) ?_
    first
      | refine TL.gno rfl (by decide) ?_
      | refine TL.gval rfl (YF.move rfl) (by decide) ?_
    first
      | refine TL.gno rfl (by decide) ?_
      | refine TL.gval rfl (YF.nilCheck rfl) (by decide) ?_
    first
      | refine TL.gno rfl (by decide) ?_
      | refine TL.gval rfl (YF.fieldAddr fo_112_1 rfl rfl) (by decide) ?_
    first
      | refine TL.gno rfl (by decide) ?_
      | refine TL.gval rfl (YF.load (v := .pointer (some ⟨bsi, 0, none⟩)) 0 sc_86 rfl rfl (va_get (by decide) rfl)) (by decide) ?_
    first
      | refine TL.gno rfl (by decide) ?_
      | refine TL.gval rfl (YF.move rfl) (by decide) ?_
    first
      | refine TL.gno rfl (by decide) ?_
      | refine TL.gval rfl (YF.move rfl) (by decide) ?_
    first
      | refine TL.gno rfl (by decide) ?_
      | refine TL.gval rfl (YF.nilCheck rfl) (by decide) ?_
    first
      | refine TL.gno rfl (by decide) ?_
      | refine TL.gval rfl (YF.fieldAddr fo_114_8 rfl rfl) (by decide) ?_
    first
      | refine TL.gno rfl (by decide) ?_
      | refine TL.gval rfl (YF.indexArr arr_31 rfl rfl (by first | decide | omega) rfl) (by decide) ?_
    first
      | refine TL.gno rfl (by decide) ?_
      | refine TL.gval rfl (YF.indexArr arr_30 rfl rfl (by first | decide | omega) (show _ = 30 + 2 * g + c by omega)) (by decide) ?_
    first
      | refine TL.gno rfl (by decide) ?_
      | refine TL.gval rfl (YF.load (i + 2) sc_3 rfl hi (sd_int (by omega))) (by decide) ?_
    first
      | refine TL.gval rfl (YF.eql (b := true) rfl rfl (decide_eq_true h2)) (by decide) ?_
      | refine TL.gval rfl (YF.eql (b := false) rfl rfl (decide_eq_false h2)) (by decide) ?_
      | refine TL.gno rfl (by decide) ?_
    first
      | refine TL.val (YF.pickT rfl rfl) (by decide) ?_
      | refine TL.val (YF.pickF rfl rfl) (by decide) ?_
      | refine TL.val (YF.pick rfl rfl rfl rfl) (by decide) ?_
    refine TL.val (YF.move rfl) (by decide) ?_
    first
      | refine TL.gno rfl (by decide) ?_
      | refine TL.gval rfl (YF.move rfl) (by decide) ?_
    first
      | refine TL.gno rfl (by decide) ?_
      | refine TL.gval rfl (YF.nilCheck rfl) (by decide) ?_
    first
      | refine TL.gno rfl (by decide) ?_
      | refine TL.gval rfl (YF.fieldAddr fo_112_1 rfl rfl) (by decide) ?_
    first
      | refine TL.gno rfl (by decide) ?_
      | refine TL.gval rfl (YF.load (v := .pointer (some ⟨bsi, 0, none⟩)) 0 sc_86 rfl rfl (va_get (by decide) rfl)) (by decide) ?_
    first
      | refine TL.gno rfl (by decide) ?_
      | refine TL.gval rfl (YF.move rfl) (by decide) ?_
    first
      | refine TL.gno rfl (by decide) ?_
      | refine TL.gval rfl (YF.move rfl) (by decide) ?_
    first
      | refine TL.gno rfl (by decide) ?_
      | refine TL.gval rfl (YF.nilCheck rfl) (by decide) ?_
    first
      | refine TL.gno rfl (by decide) ?_
      | refine TL.gval rfl (YF.fieldAddr fo_114_9 rfl rfl) (by decide) ?_
    first
      | refine TL.gno rfl (by decide) ?_
      | refine TL.gval rfl (YF.indexArr arr_31 rfl rfl (by first | decide | omega) rfl) (by decide) ?_
    first
      | refine TL.gno rfl (by decide) ?_
      | refine TL.gval rfl (YF.indexArr arr_30 rfl rfl (by first | decide | omega) (show _ = 34 + 2 * g + c by omega)) (by decide) ?_
    first
      | refine TL.gno rfl (by decide) ?_
      | refine TL.gval rfl (YF.load (i + 2) sc_3 rfl hi (sd_int (by omega))) (by decide) ?_
    first
      | refine TL.gno rfl (by decide) ?_
      | refine TL.gval rfl (YF.eql rfl rfl rfl) (by decide) ?_
    first
      | refine TL.val (YF.pickT rfl rfl) (by decide) ?_
      | refine TL.val (YF.pickF rfl rfl) (by decide) ?_
      | refine TL.val (YF.pick rfl rfl rfl rfl) (by decide) ?_
    refine TL.end ?_
    refine Arr.seq ?_
    refine Tr.cond rfl (fun h52 => ?_) (fun h52 => ?_)
    ·
      replace h52 := of_decide_eq_true h52
      refine Tr.retE ?_
      refine Arr.seqR ?_
      exact Ends.noRes_ret rfl ⟨x, by rw [show lastOf s g c = 1 by unfold lastOf; rw [if_pos ⟨h1, h2⟩, if_pos (by assumption)]]; exact AI.zero, rfl⟩
    ·
      replace h52 := of_decide_eq_false h52
      refine Tr.skipE ?_
      refine Arr.seq ?_
      refine Tr.seq ?_
      refine Tr.region ?_
      refine TL.val (YF.assign rfl) (by decide) ?_
      refine TL.end ?_
      refine Arr.seq ?_
      refine Tr.seq ?_
      refine Tr.seq ?_
      refine Tr.region ?_
      refine TL.val (YF.move rfl) (by decide) ?_
      refine TL.val (YF.nilCheck rfl) (by decide) ?_
      refine TL.val (YF.fieldAddr fo_112_1 rfl rfl) (by decide) ?_
      refine TL.val (YF.load (v := .pointer (some ⟨bsi, 0, none⟩)) 0 sc_86 rfl rfl (va_get (by decide) rfl)) (by decide) ?_
      refine TL.val (YF.move rfl) (by decide) ?_
      refine TL.val (YF.move rfl) (by decide) ?_
      refine TL.val (YF.nilCheck rfl) (by decide) ?_
      refine TL.val (YF.fieldAddr fo_114_7 rfl rfl) (by decide) ?_
      refine TL.val (YF.indexArr arr_31 rfl rfl (by first | decide | omega) rfl) (by decide) ?_
      refine TL.val (YF.indexArr arr_30 rfl rfl (by first | decide | omega) (show _ = 26 + 2 * g + c by omega)) (by decide) ?_
      refine TL.val (YF.load (i + 2) sc_3 rfl hi (sd_int (by omega))) (by decide) ?_
      first
        | refine TL.val (YF.eql (b := true) rfl rfl (decide_eq_true h1)) (by decide) ?_
        | refine TL.val (YF.eql (b := false) rfl rfl (decide_eq_false h1)) (by decide) ?_
      refine TL.val (YF.move rfl) (by decide) ?_
      first
        | refine TL.gno rfl (by decide) ?_
        | refine TL.gval rfl (YF.move rfl) (by decide) ?_
      first
        | refine TL.gno rfl (by decide) ?_
        | refine TL.gval rfl (YF.nilCheck rfl) (by decide) ?_
      first
        | refine TL.gno rfl (by decide) ?_
        | refine TL.gval rfl (YF.fieldAddr fo_112_1 rfl rfl) (by decide) ?_
      first
        | refine TL.gno rfl (by decide) ?_
        | refine TL.gval rfl (YF.load (v := .pointer (some ⟨bsi, 0, none⟩)) 0 sc_86 rfl rfl (va_get (by decide) rfl)) (by decide) ?_
      first
        | refine TL.gno rfl (by decide) ?_
        | refine TL.gval rfl (YF.move rfl) (by decide) ?_
      first
        | refine TL.gno rfl (by decide) ?_
        | refine TL.gval rfl (YF.move rfl) (by decide) ?_
      first
        | refine TL.gno rfl (by decide) ?_
        | refine TL.gval rfl (YF.nilCheck rfl) (by decide) ?_
      first
        | refine TL.gno rfl (by decide) ?_
        | refine TL.gval rfl (YF.fieldAddr fo_114_8 rfl rfl) (by decide) ?_
      first
        | refine TL.gno rfl (by decide) ?_
        | refine TL.gval rfl (YF.indexArr arr_31 rfl rfl (by first | decide | omega) rfl) (by decide) ?_
      first
        | refine TL.gno rfl (by decide) ?_
        | refine TL.gval rfl (YF.indexArr arr_30 rfl rfl (by first | decide | omega) (show _ = 30 + 2 * g + c by omega)) (by decide) ?_
      first
        | refine TL.gno rfl (by decide) ?_
        | refine TL.gval rfl (YF.load (i + 2) sc_3 rfl hi (sd_int (by omega))) (by decide) ?_
      first
        | refine TL.gval rfl (YF.eql (b := true) rfl rfl (decide_eq_true h2)) (by decide) ?_
        | refine TL.gval rfl (YF.eql (b := false) rfl rfl (decide_eq_false h2)) (by decide) ?_
        | refine TL.gno rfl (by decide) ?_
      first
        | refine TL.val (YF.pickT rfl rfl) (by decide) ?_
        | refine TL.val (YF.pickF rfl rfl) (by decide) ?_
        | refine TL.val (YF.pick rfl rfl rfl rfl) (by decide) ?_
      refine TL.val (YF.move rfl) (by decide) ?_
      first
        | refine TL.gno rfl (by decide) ?_
        | refine TL.gval rfl (YF.move rfl) (by decide) ?_
      first
        | refine TL.gno rfl (by decide) ?_
        | refine TL.gval rfl (YF.nilCheck rfl) (by decide) ?_
      first
        | refine TL.gno rfl (by decide) ?_
        | refine TL.gval rfl (YF.fieldAddr fo_112_1 rfl rfl) (by decide) ?_
      first
        | refine TL.gno rfl (by decide) ?_
        | refine TL.gval rfl (YF.load (v := .pointer (some ⟨bsi, 0, none⟩)) 0 sc_86 rfl rfl (va_get (by decide) rfl)) (by decide) ?_
      first
        | refine TL.gno rfl (by decide) ?_
        | refine TL.gval rfl (YF.move rfl) (by decide) ?_
      first
        | refine TL.gno rfl (by decide) ?_
        | refine TL.gval rfl (YF.move rfl) (by decide) ?_
      first
        | refine TL.gno rfl (by decide) ?_
        | refine TL.gval rfl (YF.nilCheck rfl) (by decide) ?_
      first
        | refine TL.gno rfl (by decide) ?_
        | refine TL.gval rfl (YF.fieldAddr fo_114_9 rfl rfl) (by decide) ?_
      first
        | refine TL.gno rfl (by decide) ?_
        | refine TL.gval rfl (YF.indexArr arr_31 rfl rfl (by first | decide | omega) rfl) (by decide) ?_
      first
        | refine TL.gno rfl (by decide) ?_
        | refine TL.gval rfl (YF.indexArr arr_30 rfl rfl (by first | decide | omega) (show _ = 34 + 2 * g + c by omega)) (by decide) ?_
      first
        | refine TL.gno rfl (by decide) ?_
        | refine TL.gval rfl (YF.load (i + 2) sc_3 rfl hi (sd_int (by omega))) (by decide) ?_
      first
        | refine TL.gno rfl (by decide) ?_
        | refine TL.gval rfl (YF.eql rfl rfl rfl) (by decide) ?_
      first
        | refine TL.val (YF.pickT rfl rfl) (by decide) ?_
        | refine TL.val (YF.pickF rfl rfl) (by decide) ?_
        | refine TL.val (YF.pick rfl rfl rfl rfl) (by decide) ?_
      refine TL.end ?_
      refine Arr.seq ?_
      refine Tr.cutN (R := fun a w => Agree 207 [(0, .pointer (some ⟨bf, 0, none⟩)), (1, .int .i64 g), (2, .int .i64 c), (6, .int .i64 (lastOf s g c : Nat))] a ∧ HS w0 ((bf, .cells (va 3204 (ff wd (some ⟨bsi, 0, none⟩) bm)) 112 (0, 0)) :: (bm, .cells (va 2548 (zl z0 (244 + 576 * (2 * g + c)) x)) 91 (0, 0)) :: H) w) ?_ ?_
      ·
        refine Tr.cond rfl (fun h92 => ?_) (fun h92 => ?_)
        ·
          replace h92 := of_decide_eq_true h92
          refine Tr.region ?_
          refine TL.val (YF.assign rfl) (by decide) ?_
          refine TL.end ?_
          refine Arr.meet ?_
          first
            | (have e : lastOf s g c = 2 := by
                 unfold lastOf; rw [if_pos ⟨h1, h2⟩, if_neg (by omega)]
               rw [e]
               exact fun a w ha hw => ⟨(ha.cons rfl (ha.cons rfl (ha.cons rfl (ha.cons rfl (ha.nil))))), hw⟩)
            | (have e : lastOf s g c = 32 := by
                 unfold lastOf; rw [if_neg (by first | exact fun hq => absurd hq.1 h1 | exact fun hq => absurd hq.2 h2)]
               rw [e]
               exact fun a w ha hw => ⟨(ha.cons rfl (ha.cons rfl (ha.cons rfl (ha.cons rfl (ha.nil))))), hw⟩)
            | (exfalso; omega)
        ·
          replace h92 := of_decide_eq_false h92
          refine Tr.skipE ?_
          refine Arr.meet ?_
          first
            | (have e : lastOf s g c = 2 := by
                 unfold lastOf; rw [if_pos ⟨h1, h2⟩, if_neg (by omega)]
               rw [e]
               exact fun a w ha hw => ⟨(ha.cons rfl (ha.cons rfl (ha.cons rfl (ha.cons rfl (ha.nil))))), hw⟩)
            | (have e : lastOf s g c = 32 := by
                 unfold lastOf; rw [if_neg (by first | exact fun hq => absurd hq.1 h1 | exact fun hq => absurd hq.2 h2)]
               rw [e]
               exact fun a w ha hw => ⟨(ha.cons rfl (ha.cons rfl (ha.cons rfl (ha.cons rfl (ha.nil))))), hw⟩)
            | (exfalso; omega)
      rintro a w ⟨ha, hw⟩
      have hl := lastOf_le s g c
      refine Arr.use ha hw ?_
      refine Arr.seq ?_
      refine Tr.seq ?_
      refine Tr.region ?_
      refine TL.val (YF.assign rfl) (by decide) ?_
      refine TL.end ?_
      refine Arr.seq ?_
      refine Tr.block ?_
      refine Tr.loop (I := fun mq a w => ∃ (t : Nat) (y : Nat → Nat), mq = 33 - t ∧ (1 ≤ t ∧ t ≤ lastOf s g c) ∧ (AI single (G / 1000000 + 1 / 10 ^ 30) (fun q => V single (x q)) x t 0 y) ∧ Agree 207 [(0, .pointer (some ⟨bf, 0, none⟩)), (1, .int .i64 g), (2, .int .i64 c), (6, .int .i64 (lastOf s g c : Nat)), (7, .int .i64 t)] a ∧ HS w0 ((bf, .cells (va 3204 (ff wd (some ⟨bsi, 0, none⟩) bm)) 112 (0, 0)) :: (bm, .cells (va 2548 (zl z0 (244 + 576 * (2 * g + c)) y)) 91 (0, 0)) :: H) w) (32) ?_ ?_
      · intro a w ha hw
        exact ⟨1, x, rfl, by omega, AI.zero, (ha.cons rfl (ha.cons rfl (ha.cons rfl (ha.cons rfl (ha.cons rfl (ha.nil)))))), hw⟩
      rintro _ a w ⟨t, y, rfl, ht, hA, ha, hw⟩
      refine Tr.use ha hw ?_
      refine Tr.seq ?_
      refine Tr.seq ?_
      refine Tr.region ?_
      refine TL.val (YF.move rfl) (by decide) ?_
      refine TL.val (YF.move rfl) (by decide) ?_
      refine TL.val (YF.lss rfl rfl rfl) (by decide) ?_
      refine TL.end ?_
      refine Arr.seq ?_
      refine Tr.cond rfl (fun h95 => ?_) (fun h95 => ?_)
      ·
        replace h95 := of_decide_eq_true h95
        refine Tr.skipE ?_
        refine Arr.seq ?_
        refine Tr.seq ?_
        refine Tr.block ?_
        refine Tr.seq ?_
        refine Tr.region ?_
        refine TL.val (YF.assign rfl) (by decide) ?_
        refine TL.end ?_
        refine Arr.seq ?_
        refine Tr.block ?_
        refine Tr.loop (I := fun mq a w => ∃ (j : Nat) (y : Nat → Nat), mq = 8 - j ∧ (j ≤ 8) ∧ (AI single (G / 1000000 + 1 / 10 ^ 30) (fun q => V single (x q)) x t j y) ∧ Agree 207 [(0, .pointer (some ⟨bf, 0, none⟩)), (1, .int .i64 g), (2, .int .i64 c), (6, .int .i64 (lastOf s g c : Nat)), (7, .int .i64 t), (8, .int .i64 j)] a ∧ HS w0 ((bf, .cells (va 3204 (ff wd (some ⟨bsi, 0, none⟩) bm)) 112 (0, 0)) :: (bm, .cells (va 2548 (zl z0 (244 + 576 * (2 * g + c)) y)) 91 (0, 0)) :: H) w) (8) ?_ ?_
        · intro a w ha hw
          exact ⟨0, y, rfl, by omega, hA, (ha.cons rfl (ha.cons rfl (ha.cons rfl (ha.cons rfl (ha.cons rfl (ha.cons rfl (ha.nil))))))), hw⟩
        rintro _ a w ⟨j, y, rfl, hj, hA, ha, hw⟩
        refine Tr.use ha hw ?_
        refine Tr.seq ?_
        refine Tr.seq ?_
        refine Tr.region ?_
        refine TL.val (YF.move rfl) (by decide) ?_
        refine TL.val (YF.lss rfl rfl rfl) (by decide) ?_
        refine TL.end ?_
        refine Arr.seq ?_
        refine Tr.cond rfl (fun h99 => ?_) (fun h99 => ?_)
        ·
          replace h99 := of_decide_eq_true h99
          refine Tr.skipE ?_
          refine Arr.seq ?_
          refine Tr.seq ?_
          refine Tr.block ?_
          refine Tr.seq ?_
          refine Tr.region ?_
          refine TL.val (YF.move rfl) (by decide) ?_
          refine TL.val (YF.mul rfl rfl (IntWalk.i64_in _ (by omega))) (by decide) ?_
          refine TL.val (YF.sub rfl rfl (IntWalk.i64_in _ (by omega))) (by decide) ?_
          refine TL.val (YF.move rfl) (by decide) ?_
          refine TL.val (YF.sub rfl rfl (IntWalk.i64_in _ (by omega))) (by decide) ?_
          refine TL.val (YF.assign rfl) (by decide) ?_
          refine TL.end ?_
          refine Arr.seq ?_
          refine Tr.seq ?_
          refine Tr.region ?_
          refine TL.val (YF.move rfl) (by decide) ?_
          refine TL.val (YF.mul rfl rfl (IntWalk.i64_in _ (by omega))) (by decide) ?_
          refine TL.val (YF.move rfl) (by decide) ?_
          refine TL.val (YF.add rfl rfl (IntWalk.i64_in _ (by omega))) (by decide) ?_
          refine TL.val (YF.assign rfl) (by decide) ?_
          refine TL.end ?_
          refine Arr.seq ?_
          refine Tr.seq ?_
          have hlo := hA.low (show 1 ≤ t ∧ t < 32 by omega) (show j < 8 by omega)
          have hhi := hA.high (show 1 ≤ t ∧ t < 32 by omega) (show j < 8 by omega)
          obtain ⟨v1, v2, r, v4, v5, r', e1, e2, e3, e4, e5, e6, r1, r2⟩ := turn_impl (show j < 8 by omega) (hx (18 * t - 1 - j) (by omega)).1 (hx (18 * t + j) (by omega)).1 hG0 hG (hx (18 * t - 1 - j) (by omega)).2 (hx (18 * t + j) (by omega)).2
          refine Tr.drawE (_ :: _ :: _) (fun H => H) rfl mixed_ ?_
          refine TD.take 0 rfl (by kernel_rfl) (by kernel_rfl) (by kernel_rfl) (fun _ _ _ h => h) (by repeat first | exact List.Sublist.refl _ | apply List.Sublist.cons_cons | apply List.Sublist.cons) (YF.move rfl) (by decide) ?_
          refine TD.take 1 rfl (by kernel_rfl) (by kernel_rfl) (by kernel_rfl) (fun _ _ _ h => h) (by repeat first | exact List.Sublist.refl _ | apply List.Sublist.cons_cons | apply List.Sublist.cons) (YF.nilCheck rfl) (by decide) ?_
          refine TD.take 2 rfl (by kernel_rfl) (by kernel_rfl) (by kernel_rfl) (fun _ _ _ h => h) (by repeat first | exact List.Sublist.refl _ | apply List.Sublist.cons_cons | apply List.Sublist.cons) (YF.fieldAddr fo_112_2 rfl rfl) (by decide) ?_
          refine TD.take 3 rfl (by kernel_rfl) (by kernel_rfl) (by kernel_rfl) (fun _ _ _ h => h) (by repeat first | exact List.Sublist.refl _ | apply List.Sublist.cons_cons | apply List.Sublist.cons) (YF.load (v := .pointer (some ⟨bm, 0, none⟩)) 0 sc_106 rfl rfl (va_get (by decide) rfl)) (by decide) ?_
          refine TD.take 4 rfl (by kernel_rfl) (by kernel_rfl) (by kernel_rfl) (fun _ _ _ h => h) (by repeat first | exact List.Sublist.refl _ | apply List.Sublist.cons_cons | apply List.Sublist.cons) (YF.move rfl) (by decide) ?_
          refine TD.take 5 rfl (by kernel_rfl) (by kernel_rfl) (by kernel_rfl) (fun _ _ _ h => h) (by repeat first | exact List.Sublist.refl _ | apply List.Sublist.cons_cons | apply List.Sublist.cons) (YF.move rfl) (by decide) ?_
          refine TD.take 6 rfl (by kernel_rfl) (by kernel_rfl) (by kernel_rfl) (fun _ _ _ h => h) (by repeat first | exact List.Sublist.refl _ | apply List.Sublist.cons_cons | apply List.Sublist.cons) (YF.move rfl) (by decide) ?_
          refine TD.take 7 rfl (by kernel_rfl) (by kernel_rfl) (by kernel_rfl) (fun _ _ _ h => h) (by repeat first | exact List.Sublist.refl _ | apply List.Sublist.cons_cons | apply List.Sublist.cons) (YF.nilCheck rfl) (by decide) ?_
          refine TD.take 8 rfl (by kernel_rfl) (by kernel_rfl) (by kernel_rfl) (fun _ _ _ h => h) (by repeat first | exact List.Sublist.refl _ | apply List.Sublist.cons_cons | apply List.Sublist.cons) (YF.fieldAddr fo_91_2 rfl rfl) (by decide) ?_
          refine TD.take 9 rfl (by kernel_rfl) (by kernel_rfl) (by kernel_rfl) (fun _ _ _ h => h) (by repeat first | exact List.Sublist.refl _ | apply List.Sublist.cons_cons | apply List.Sublist.cons) (YF.indexArr arr_89 rfl rfl (by first | decide | omega) rfl) (by decide) ?_
          refine TD.take 10 rfl (by kernel_rfl) (by kernel_rfl) (by kernel_rfl) (fun _ _ _ h => h) (by repeat first | exact List.Sublist.refl _ | apply List.Sublist.cons_cons | apply List.Sublist.cons) (YF.indexArr arr_88 rfl rfl (by first | decide | omega) rfl) (by decide) ?_
          refine TD.take 11 rfl (by kernel_rfl) (by kernel_rfl) (by kernel_rfl) (fun _ _ _ h => h) (by repeat first | exact List.Sublist.refl _ | apply List.Sublist.cons_cons | apply List.Sublist.cons) (YF.indexArr arr_84 rfl rfl (by first | decide | omega) (show _ = 244 + 576 * (2 * g + c) + (18 * t - 1 - j) by omega)) (by decide) ?_
          refine TD.take 12 rfl (by kernel_rfl) (by kernel_rfl) (by kernel_rfl) (fun _ _ _ h => h) (by repeat first | exact List.Sublist.refl _ | apply List.Sublist.cons_cons | apply List.Sublist.cons) (YF.load (v := .float .f32 (x (18 * t - 1 - j))) 1 sc_82 rfl rfl (by rw [← hlo]; exact zl_get (by omega) rfl (by omega))) (by decide) ?_
          refine TD.take 13 rfl (by kernel_rfl) (by kernel_rfl) (by kernel_rfl) (fun _ _ _ h => h) (by repeat first | exact List.Sublist.refl _ | apply List.Sublist.cons_cons | apply List.Sublist.cons) (YF.move rfl) (by decide) ?_
          refine TD.take 14 rfl (by kernel_rfl) (by kernel_rfl) (by kernel_rfl) (fun _ _ _ h => h) (by repeat first | exact List.Sublist.refl _ | apply List.Sublist.cons_cons | apply List.Sublist.cons) (YF.indexArr arr_117 rfl rfl (by first | decide | omega) (show _ = j by omega)) (by decide) ?_
          refine TD.take 15 rfl (by kernel_rfl) (by kernel_rfl) (by kernel_rfl) (fun _ _ _ h => h) (by repeat first | exact List.Sublist.refl _ | apply List.Sublist.cons_cons | apply List.Sublist.cons) (YF.load_old sc_82 rfl (hcs j (by omega))) (by decide) ?_
          refine TD.take 16 rfl (by kernel_rfl) (by kernel_rfl) (by kernel_rfl) (fun _ _ _ h => h) (by repeat first | exact List.Sublist.refl _ | apply List.Sublist.cons_cons | apply List.Sublist.cons) (YF.farith rfl rfl e1) (by decide) ?_
          refine TD.take 17 rfl (by kernel_rfl) (by kernel_rfl) (by kernel_rfl) (fun _ _ _ h => h) (by repeat first | exact List.Sublist.refl _ | apply List.Sublist.cons_cons | apply List.Sublist.cons) (YF.move rfl) (by decide) ?_
          refine TD.take 18 rfl (by kernel_rfl) (by kernel_rfl) (by kernel_rfl) (fun _ _ _ h => h) (by repeat first | exact List.Sublist.refl _ | apply List.Sublist.cons_cons | apply List.Sublist.cons) (YF.nilCheck rfl) (by decide) ?_
          refine TD.take 19 rfl (by kernel_rfl) (by kernel_rfl) (by kernel_rfl) (fun _ _ _ h => h) (by repeat first | exact List.Sublist.refl _ | apply List.Sublist.cons_cons | apply List.Sublist.cons) (YF.fieldAddr fo_112_2 rfl rfl) (by decide) ?_
          refine TD.take 20 rfl (by kernel_rfl) (by kernel_rfl) (by kernel_rfl) (fun _ _ _ h => h) (by repeat first | exact List.Sublist.refl _ | apply List.Sublist.cons_cons | apply List.Sublist.cons) (YF.load (v := .pointer (some ⟨bm, 0, none⟩)) 0 sc_106 rfl rfl (va_get (by decide) rfl)) (by decide) ?_
          refine TD.take 21 rfl (by kernel_rfl) (by kernel_rfl) (by kernel_rfl) (fun _ _ _ h => h) (by repeat first | exact List.Sublist.refl _ | apply List.Sublist.cons_cons | apply List.Sublist.cons) (YF.move rfl) (by decide) ?_
          refine TD.take 22 rfl (by kernel_rfl) (by kernel_rfl) (by kernel_rfl) (fun _ _ _ h => h) (by repeat first | exact List.Sublist.refl _ | apply List.Sublist.cons_cons | apply List.Sublist.cons) (YF.move rfl) (by decide) ?_
          refine TD.take 23 rfl (by kernel_rfl) (by kernel_rfl) (by kernel_rfl) (fun _ _ _ h => h) (by repeat first | exact List.Sublist.refl _ | apply List.Sublist.cons_cons | apply List.Sublist.cons) (YF.move rfl) (by decide) ?_
          refine TD.take 24 rfl (by kernel_rfl) (by kernel_rfl) (by kernel_rfl) (fun _ _ _ h => h) (by repeat first | exact List.Sublist.refl _ | apply List.Sublist.cons_cons | apply List.Sublist.cons) (YF.nilCheck rfl) (by decide) ?_
          refine TD.take 25 rfl (by kernel_rfl) (by kernel_rfl) (by kernel_rfl) (fun _ _ _ h => h) (by repeat first | exact List.Sublist.refl _ | apply List.Sublist.cons_cons | apply List.Sublist.cons) (YF.fieldAddr fo_91_2 rfl rfl) (by decide) ?_
          refine TD.take 26 rfl (by kernel_rfl) (by kernel_rfl) (by kernel_rfl) (fun _ _ _ h => h) (by repeat first | exact List.Sublist.refl _ | apply List.Sublist.cons_cons | apply List.Sublist.cons) (YF.indexArr arr_89 rfl rfl (by first | decide | omega) rfl) (by decide) ?_
          refine TD.take 27 rfl (by kernel_rfl) (by kernel_rfl) (by kernel_rfl) (fun _ _ _ h => h) (by repeat first | exact List.Sublist.refl _ | apply List.Sublist.cons_cons | apply List.Sublist.cons) (YF.indexArr arr_88 rfl rfl (by first | decide | omega) rfl) (by decide) ?_
          refine TD.take 28 rfl (by kernel_rfl) (by kernel_rfl) (by kernel_rfl) (fun _ _ _ h => h) (by repeat first | exact List.Sublist.refl _ | apply List.Sublist.cons_cons | apply List.Sublist.cons) (YF.indexArr arr_84 rfl rfl (by first | decide | omega) (show _ = 244 + 576 * (2 * g + c) + (18 * t + j) by omega)) (by decide) ?_
          refine TD.take 29 rfl (by kernel_rfl) (by kernel_rfl) (by kernel_rfl) (fun _ _ _ h => h) (by repeat first | exact List.Sublist.refl _ | apply List.Sublist.cons_cons | apply List.Sublist.cons) (YF.load (v := .float .f32 (x (18 * t + j))) 1 sc_82 rfl rfl (by rw [← hhi]; exact zl_get (by omega) rfl (by omega))) (by decide) ?_
          refine TD.take 30 rfl (by kernel_rfl) (by kernel_rfl) (by kernel_rfl) (fun _ _ _ h => h) (by repeat first | exact List.Sublist.refl _ | apply List.Sublist.cons_cons | apply List.Sublist.cons) (YF.move rfl) (by decide) ?_
          refine TD.take 31 rfl (by kernel_rfl) (by kernel_rfl) (by kernel_rfl) (fun _ _ _ h => h) (by repeat first | exact List.Sublist.refl _ | apply List.Sublist.cons_cons | apply List.Sublist.cons) (YF.indexArr arr_117 rfl rfl (by first | decide | omega) (show _ = j by omega)) (by decide) ?_
          refine TD.take 32 rfl (by kernel_rfl) (by kernel_rfl) (by kernel_rfl) (fun _ _ _ h => h) (by repeat first | exact List.Sublist.refl _ | apply List.Sublist.cons_cons | apply List.Sublist.cons) (YF.load_old sc_82 rfl (hca j (by omega))) (by decide) ?_
          refine TD.take 33 rfl (by kernel_rfl) (by kernel_rfl) (by kernel_rfl) (fun _ _ _ h => h) (by repeat first | exact List.Sublist.refl _ | apply List.Sublist.cons_cons | apply List.Sublist.cons) (YF.farith rfl rfl e2) (by decide) ?_
          refine TD.take 34 rfl (by kernel_rfl) (by kernel_rfl) (by kernel_rfl) (fun _ _ _ h => h) (by repeat first | exact List.Sublist.refl _ | apply List.Sublist.cons_cons | apply List.Sublist.cons) (YF.farith rfl rfl e3) (by decide) ?_
          refine TD.take 35 rfl (by kernel_rfl) (by kernel_rfl) (by kernel_rfl) (fun _ _ _ h => h) (by repeat first | exact List.Sublist.refl _ | apply List.Sublist.cons_cons | apply List.Sublist.cons) (YF.assign rfl) (by decide) ?_
          refine TD.end (by kernel_rfl) ?_
          refine Arr.seq ?_
          refine Tr.seq ?_
          refine Tr.drawE (_ :: _ :: _) (fun H => H) rfl mixed_ ?_
          refine TD.take 0 rfl (by kernel_rfl) (by kernel_rfl) (by kernel_rfl) (fun _ _ _ h => h) (by repeat first | exact List.Sublist.refl _ | apply List.Sublist.cons_cons | apply List.Sublist.cons) (YF.move rfl) (by decide) ?_
          refine TD.take 1 rfl (by kernel_rfl) (by kernel_rfl) (by kernel_rfl) (fun _ _ _ h => h) (by repeat first | exact List.Sublist.refl _ | apply List.Sublist.cons_cons | apply List.Sublist.cons) (YF.nilCheck rfl) (by decide) ?_
          refine TD.take 2 rfl (by kernel_rfl) (by kernel_rfl) (by kernel_rfl) (fun _ _ _ h => h) (by repeat first | exact List.Sublist.refl _ | apply List.Sublist.cons_cons | apply List.Sublist.cons) (YF.fieldAddr fo_112_2 rfl rfl) (by decide) ?_
          refine TD.take 3 rfl (by kernel_rfl) (by kernel_rfl) (by kernel_rfl) (fun _ _ _ h => h) (by repeat first | exact List.Sublist.refl _ | apply List.Sublist.cons_cons | apply List.Sublist.cons) (YF.load (v := .pointer (some ⟨bm, 0, none⟩)) 0 sc_106 rfl rfl (va_get (by decide) rfl)) (by decide) ?_
          refine TD.take 4 rfl (by kernel_rfl) (by kernel_rfl) (by kernel_rfl) (fun _ _ _ h => h) (by repeat first | exact List.Sublist.refl _ | apply List.Sublist.cons_cons | apply List.Sublist.cons) (YF.move rfl) (by decide) ?_
          refine TD.take 5 rfl (by kernel_rfl) (by kernel_rfl) (by kernel_rfl) (fun _ _ _ h => h) (by repeat first | exact List.Sublist.refl _ | apply List.Sublist.cons_cons | apply List.Sublist.cons) (YF.move rfl) (by decide) ?_
          refine TD.take 6 rfl (by kernel_rfl) (by kernel_rfl) (by kernel_rfl) (fun _ _ _ h => h) (by repeat first | exact List.Sublist.refl _ | apply List.Sublist.cons_cons | apply List.Sublist.cons) (YF.move rfl) (by decide) ?_
          refine TD.take 7 rfl (by kernel_rfl) (by kernel_rfl) (by kernel_rfl) (fun _ _ _ h => h) (by repeat first | exact List.Sublist.refl _ | apply List.Sublist.cons_cons | apply List.Sublist.cons) (YF.nilCheck rfl) (by decide) ?_
          refine TD.take 8 rfl (by kernel_rfl) (by kernel_rfl) (by kernel_rfl) (fun _ _ _ h => h) (by repeat first | exact List.Sublist.refl _ | apply List.Sublist.cons_cons | apply List.Sublist.cons) (YF.fieldAddr fo_91_2 rfl rfl) (by decide) ?_
          refine TD.take 9 rfl (by kernel_rfl) (by kernel_rfl) (by kernel_rfl) (fun _ _ _ h => h) (by repeat first | exact List.Sublist.refl _ | apply List.Sublist.cons_cons | apply List.Sublist.cons) (YF.indexArr arr_89 rfl rfl (by first | decide | omega) rfl) (by decide) ?_
          refine TD.take 10 rfl (by kernel_rfl) (by kernel_rfl) (by kernel_rfl) (fun _ _ _ h => h) (by repeat first | exact List.Sublist.refl _ | apply List.Sublist.cons_cons | apply List.Sublist.cons) (YF.indexArr arr_88 rfl rfl (by first | decide | omega) rfl) (by decide) ?_
          refine TD.take 11 rfl (by kernel_rfl) (by kernel_rfl) (by kernel_rfl) (fun _ _ _ h => h) (by repeat first | exact List.Sublist.refl _ | apply List.Sublist.cons_cons | apply List.Sublist.cons) (YF.indexArr arr_84 rfl rfl (by first | decide | omega) (show _ = 244 + 576 * (2 * g + c) + (18 * t + j) by omega)) (by decide) ?_
          refine TD.take 12 rfl (by kernel_rfl) (by kernel_rfl) (by kernel_rfl) (fun _ _ _ h => h) (by repeat first | exact List.Sublist.refl _ | apply List.Sublist.cons_cons | apply List.Sublist.cons) (YF.load (v := .float .f32 (x (18 * t + j))) 1 sc_82 rfl rfl (by rw [← hhi]; exact zl_get (by omega) rfl (by omega))) (by decide) ?_
          refine TD.take 13 rfl (by kernel_rfl) (by kernel_rfl) (by kernel_rfl) (fun _ _ _ h => h) (by repeat first | exact List.Sublist.refl _ | apply List.Sublist.cons_cons | apply List.Sublist.cons) (YF.move rfl) (by decide) ?_
          refine TD.take 14 rfl (by kernel_rfl) (by kernel_rfl) (by kernel_rfl) (fun _ _ _ h => h) (by repeat first | exact List.Sublist.refl _ | apply List.Sublist.cons_cons | apply List.Sublist.cons) (YF.indexArr arr_117 rfl rfl (by first | decide | omega) (show _ = j by omega)) (by decide) ?_
          refine TD.take 15 rfl (by kernel_rfl) (by kernel_rfl) (by kernel_rfl) (fun _ _ _ h => h) (by repeat first | exact List.Sublist.refl _ | apply List.Sublist.cons_cons | apply List.Sublist.cons) (YF.load_old sc_82 rfl (hcs j (by omega))) (by decide) ?_
          refine TD.take 16 rfl (by kernel_rfl) (by kernel_rfl) (by kernel_rfl) (fun _ _ _ h => h) (by repeat first | exact List.Sublist.refl _ | apply List.Sublist.cons_cons | apply List.Sublist.cons) (YF.farith rfl rfl e4) (by decide) ?_
          refine TD.take 17 rfl (by kernel_rfl) (by kernel_rfl) (by kernel_rfl) (fun _ _ _ h => h) (by repeat first | exact List.Sublist.refl _ | apply List.Sublist.cons_cons | apply List.Sublist.cons) (YF.move rfl) (by decide) ?_
          refine TD.take 18 rfl (by kernel_rfl) (by kernel_rfl) (by kernel_rfl) (fun _ _ _ h => h) (by repeat first | exact List.Sublist.refl _ | apply List.Sublist.cons_cons | apply List.Sublist.cons) (YF.nilCheck rfl) (by decide) ?_
          refine TD.take 19 rfl (by kernel_rfl) (by kernel_rfl) (by kernel_rfl) (fun _ _ _ h => h) (by repeat first | exact List.Sublist.refl _ | apply List.Sublist.cons_cons | apply List.Sublist.cons) (YF.fieldAddr fo_112_2 rfl rfl) (by decide) ?_
          refine TD.take 20 rfl (by kernel_rfl) (by kernel_rfl) (by kernel_rfl) (fun _ _ _ h => h) (by repeat first | exact List.Sublist.refl _ | apply List.Sublist.cons_cons | apply List.Sublist.cons) (YF.load (v := .pointer (some ⟨bm, 0, none⟩)) 0 sc_106 rfl rfl (va_get (by decide) rfl)) (by decide) ?_
          refine TD.take 21 rfl (by kernel_rfl) (by kernel_rfl) (by kernel_rfl) (fun _ _ _ h => h) (by repeat first | exact List.Sublist.refl _ | apply List.Sublist.cons_cons | apply List.Sublist.cons) (YF.move rfl) (by decide) ?_
          refine TD.take 22 rfl (by kernel_rfl) (by kernel_rfl) (by kernel_rfl) (fun _ _ _ h => h) (by repeat first | exact List.Sublist.refl _ | apply List.Sublist.cons_cons | apply List.Sublist.cons) (YF.move rfl) (by decide) ?_
          refine TD.take 23 rfl (by kernel_rfl) (by kernel_rfl) (by kernel_rfl) (fun _ _ _ h => h) (by repeat first | exact List.Sublist.refl _ | apply List.Sublist.cons_cons | apply List.Sublist.cons) (YF.move rfl) (by decide) ?_
          refine TD.take 24 rfl (by kernel_rfl) (by kernel_rfl) (by kernel_rfl) (fun _ _ _ h => h) (by repeat first | exact List.Sublist.refl _ | apply List.Sublist.cons_cons | apply List.Sublist.cons) (YF.nilCheck rfl) (by decide) ?_
          refine TD.take 25 rfl (by kernel_rfl) (by kernel_rfl) (by kernel_rfl) (fun _ _ _ h => h) (by repeat first | exact List.Sublist.refl _ | apply List.Sublist.cons_cons | apply List.Sublist.cons) (YF.fieldAddr fo_91_2 rfl rfl) (by decide) ?_
          refine TD.take 26 rfl (by kernel_rfl) (by kernel_rfl) (by kernel_rfl) (fun _ _ _ h => h) (by repeat first | exact List.Sublist.refl _ | apply List.Sublist.cons_cons | apply List.Sublist.cons) (YF.indexArr arr_89 rfl rfl (by first | decide | omega) rfl) (by decide) ?_
          refine TD.take 27 rfl (by kernel_rfl) (by kernel_rfl) (by kernel_rfl) (fun _ _ _ h => h) (by repeat first | exact List.Sublist.refl _ | apply List.Sublist.cons_cons | apply List.Sublist.cons) (YF.indexArr arr_88 rfl rfl (by first | decide | omega) rfl) (by decide) ?_
          refine TD.take 28 rfl (by kernel_rfl) (by kernel_rfl) (by kernel_rfl) (fun _ _ _ h => h) (by repeat first | exact List.Sublist.refl _ | apply List.Sublist.cons_cons | apply List.Sublist.cons) (YF.indexArr arr_84 rfl rfl (by first | decide | omega) (show _ = 244 + 576 * (2 * g + c) + (18 * t - 1 - j) by omega)) (by decide) ?_
          refine TD.take 29 rfl (by kernel_rfl) (by kernel_rfl) (by kernel_rfl) (fun _ _ _ h => h) (by repeat first | exact List.Sublist.refl _ | apply List.Sublist.cons_cons | apply List.Sublist.cons) (YF.load (v := .float .f32 (x (18 * t - 1 - j))) 1 sc_82 rfl rfl (by rw [← hlo]; exact zl_get (by omega) rfl (by omega))) (by decide) ?_
          refine TD.take 30 rfl (by kernel_rfl) (by kernel_rfl) (by kernel_rfl) (fun _ _ _ h => h) (by repeat first | exact List.Sublist.refl _ | apply List.Sublist.cons_cons | apply List.Sublist.cons) (YF.move rfl) (by decide) ?_
          refine TD.take 31 rfl (by kernel_rfl) (by kernel_rfl) (by kernel_rfl) (fun _ _ _ h => h) (by repeat first | exact List.Sublist.refl _ | apply List.Sublist.cons_cons | apply List.Sublist.cons) (YF.indexArr arr_117 rfl rfl (by first | decide | omega) (show _ = j by omega)) (by decide) ?_
          refine TD.take 32 rfl (by kernel_rfl) (by kernel_rfl) (by kernel_rfl) (fun _ _ _ h => h) (by repeat first | exact List.Sublist.refl _ | apply List.Sublist.cons_cons | apply List.Sublist.cons) (YF.load_old sc_82 rfl (hca j (by omega))) (by decide) ?_
          refine TD.take 33 rfl (by kernel_rfl) (by kernel_rfl) (by kernel_rfl) (fun _ _ _ h => h) (by repeat first | exact List.Sublist.refl _ | apply List.Sublist.cons_cons | apply List.Sublist.cons) (YF.farith rfl rfl e5) (by decide) ?_
          refine TD.take 34 rfl (by kernel_rfl) (by kernel_rfl) (by kernel_rfl) (fun _ _ _ h => h) (by repeat first | exact List.Sublist.refl _ | apply List.Sublist.cons_cons | apply List.Sublist.cons) (YF.farith rfl rfl e6) (by decide) ?_
          refine TD.take 35 rfl (by kernel_rfl) (by kernel_rfl) (by kernel_rfl) (fun _ _ _ h => h) (by repeat first | exact List.Sublist.refl _ | apply List.Sublist.cons_cons | apply List.Sublist.cons) (YF.assign rfl) (by decide) ?_
          refine TD.end (by kernel_rfl) ?_
          refine Arr.seq ?_
          refine Tr.seq ?_
          refine Tr.region ?_
          refine TL.val (YF.move rfl) (by decide) ?_
          refine TL.val (YF.nilCheck rfl) (by decide) ?_
          refine TL.val (YF.fieldAddr fo_112_2 rfl rfl) (by decide) ?_
          refine TL.val (YF.load (v := .pointer (some ⟨bm, 0, none⟩)) 0 sc_106 rfl rfl (va_get (by decide) rfl)) (by decide) ?_
          refine TL.val (YF.move rfl) (by decide) ?_
          refine TL.val (YF.move rfl) (by decide) ?_
          refine TL.val (YF.move rfl) (by decide) ?_
          refine TL.val (YF.move rfl) (by decide) ?_
          refine TL.val (YF.nilCheck rfl) (by decide) ?_
          refine TL.val (YF.fieldAddr fo_91_2 rfl rfl) (by decide) ?_
          refine TL.val (YF.indexArr arr_89 rfl rfl (by first | decide | omega) rfl) (by decide) ?_
          refine TL.val (YF.indexArr arr_88 rfl rfl (by first | decide | omega) rfl) (by decide) ?_
          refine TL.val (YF.indexArr arr_84 rfl rfl (by first | decide | omega) (show _ = 244 + 576 * (2 * g + c) + (18 * t - 1 - j) by omega)) (by decide) ?_
          refine TL.storeV 1 (_ :: _ :: _) rfl rfl rfl sz_82 rfl (by rw [va_size]; omega) (zl_set (k := 18 * t - 1 - j) (by omega) rfl) rfl ?_
          refine TL.end ?_
          refine Arr.seq ?_
          refine Tr.region ?_
          refine TL.val (YF.move rfl) (by decide) ?_
          refine TL.val (YF.nilCheck rfl) (by decide) ?_
          refine TL.val (YF.fieldAddr fo_112_2 rfl rfl) (by decide) ?_
          refine TL.val (YF.load (v := .pointer (some ⟨bm, 0, none⟩)) 0 sc_106 rfl rfl (va_get (by decide) rfl)) (by decide) ?_
          refine TL.val (YF.move rfl) (by decide) ?_
          refine TL.val (YF.move rfl) (by decide) ?_
          refine TL.val (YF.move rfl) (by decide) ?_
          refine TL.val (YF.move rfl) (by decide) ?_
          refine TL.val (YF.nilCheck rfl) (by decide) ?_
          refine TL.val (YF.fieldAddr fo_91_2 rfl rfl) (by decide) ?_
          refine TL.val (YF.indexArr arr_89 rfl rfl (by first | decide | omega) rfl) (by decide) ?_
          refine TL.val (YF.indexArr arr_88 rfl rfl (by first | decide | omega) rfl) (by decide) ?_
          refine TL.val (YF.indexArr arr_84 rfl rfl (by first | decide | omega) (show _ = 244 + 576 * (2 * g + c) + (18 * t + j) by omega)) (by decide) ?_
          refine TL.storeV 1 (_ :: _ :: _) rfl rfl rfl sz_82 rfl (by rw [va_size]; omega) (zl_set (k := 18 * t + j) (by omega) rfl) rfl ?_
          refine TL.end ?_
          refine Arr.block ?_
          refine Arr.seq ?_
          refine Tr.region ?_
          refine TL.val (YF.move rfl) (by decide) ?_
          refine TL.val (YF.add rfl rfl (IntWalk.i64_in _ (by omega))) (by decide) ?_
          refine TL.val (YF.assign rfl) (by decide) ?_
          refine TL.end ?_
          exact fun a w ha hw => ⟨_, by omega, j + 1, upd (upd y (18 * t - 1 - j) r) (18 * t + j) r', rfl, by omega, hA.step (by omega) (by omega) r1 r2, (ha.cons rfl (ha.cons rfl (ha.cons rfl (ha.cons rfl (ha.cons rfl (ha.cons rfl (ha.nil))))))), hw⟩
        ·
          replace h99 := of_decide_eq_false h99
          refine Tr.exitE ?_
          refine Arr.seqX ?_
          refine Arr.seqX ?_
          refine Arr.blockE ?_
          refine Arr.block ?_
          refine Arr.seq ?_
          refine Tr.region ?_
          refine TL.val (YF.move rfl) (by decide) ?_
          refine TL.val (YF.add rfl rfl (IntWalk.i64_in _ (by omega))) (by decide) ?_
          refine TL.val (YF.assign rfl) (by decide) ?_
          refine TL.end ?_
          exact fun a w ha hw => ⟨_, by omega, t + 1, y, rfl, by omega, (by have e : j = 8 := (by omega); subst e; exact hA.next), (ha.cons rfl (ha.cons rfl (ha.cons rfl (ha.cons rfl (ha.cons rfl (ha.nil)))))), hw⟩
      ·
        replace h95 := of_decide_eq_false h95
        refine Tr.exitE ?_
        refine Arr.seqX ?_
        refine Arr.seqX ?_
        refine Arr.blockE ?_
        exact Ends.noRes rfl ⟨y, (by have e : t = lastOf s g c := (by omega); rw [← e]; exact hA), rfl⟩
  ·
    first
      | refine TL.val (YF.eql (b := true) rfl rfl (decide_eq_true h1)) (by decide) ?_
      | refine TL.val (YF.eql (b := false) rfl rfl (decide_eq_false h1)) (by decide) ?_
    refine TL.val (YF.move rfl) (by decide) ?_
    first
      | refine TL.gno rfl (by decide) ?_
      | refine TL.gval rfl (YF.move rfl) (by decide) ?_
    first
      | refine TL.gno rfl (by decide) ?_
      | refine TL.gval rfl (YF.nilCheck rfl) (by decide) ?_
    first
      | refine TL.gno rfl (by decide) ?_
      | refine TL.gval rfl (YF.fieldAddr fo_112_1 rfl rfl) (by decide) ?_
    first
      | refine TL.gno rfl (by decide) ?_
      | refine TL.gval rfl (YF.load (v := .pointer (some ⟨bsi, 0, none⟩)) 0 sc_86 rfl rfl (va_get (by decide) rfl)) (by decide) ?_
    first
      | refine TL.gno rfl (by decide) ?_
      | refine TL.gval rfl (YF.move rfl) (by decide) ?_
    first
      | refine TL.gno rfl (by decide) ?_
      | refine TL.gval rfl (YF.move rfl) (by decide) ?_
    first
      | refine TL.gno rfl (by decide) ?_
      | refine TL.gval rfl (YF.nilCheck rfl) (by decide) ?_
    first
      | refine TL.gno rfl (by decide) ?_
      | refine TL.gval rfl (YF.fieldAddr fo_114_8 rfl rfl) (by decide) ?_
    first
      | refine TL.gno rfl (by decide) ?_
      | refine TL.gval rfl (YF.indexArr arr_31 rfl rfl (by first | decide | omega) rfl) (by decide) ?_
    first
      | refine TL.gno rfl (by decide) ?_
      | refine TL.gval rfl (YF.indexArr arr_30 rfl rfl (by first | decide | omega) (show _ = 30 + 2 * g + c by omega)) (by decide) ?_
    first
      | refine TL.gno rfl (by decide) ?_
      | refine TL.gval rfl (YF.load (i + 2) sc_3 rfl hi (sd_int (by omega))) (by decide) ?_
    first
      | refine TL.gval rfl (YF.eql (b := true) rfl rfl (decide_eq_true h2)) (by decide) ?_
      | refine TL.gval rfl (YF.eql (b := false) rfl rfl (decide_eq_false h2)) (by decide) ?_
      | refine TL.gno rfl (by decide) ?_
    first
      | refine TL.val (YF.pickT rfl rfl) (by decide) ?_
      | refine TL.val (YF.pickF rfl rfl) (by decide) ?_
      | refine TL.val (YF.pick rfl rfl rfl rfl) (by decide) ?_
    refine TL.val (YF.move rfl) (by decide) ?_
    first
      | refine TL.gno rfl (by decide) ?_
      | refine TL.gval rfl (YF.move rfl) (by decide) ?_
    first
      | refine TL.gno rfl (by decide) ?_
      | refine TL.gval rfl (YF.nilCheck rfl) (by decide) ?_
    first
      | refine TL.gno rfl (by decide) ?_
      | refine TL.gval rfl (YF.fieldAddr fo_112_1 rfl rfl) (by decide) ?_
    first
      | refine TL.gno rfl (by decide) ?_
      | refine TL.gval rfl (YF.load (v := .pointer (some ⟨bsi, 0, none⟩)) 0 sc_86 rfl rfl (va_get (by decide) rfl)) (by decide) ?_
    first
      | refine TL.gno rfl (by decide) ?_
      | refine TL.gval rfl (YF.move rfl) (by decide) ?_
    first
      | refine TL.gno rfl (by decide) ?_
      | refine TL.gval rfl (YF.move rfl) (by decide) ?_
    first
      | refine TL.gno rfl (by decide) ?_
      | refine TL.gval rfl (YF.nilCheck rfl) (by decide) ?_
    first
      | refine TL.gno rfl (by decide) ?_
      | refine TL.gval rfl (YF.fieldAddr fo_114_9 rfl rfl) (by decide) ?_
    first
      | refine TL.gno rfl (by decide) ?_
      | refine TL.gval rfl (YF.indexArr arr_31 rfl rfl (by first | decide | omega) rfl) (by decide) ?_
    first
      | refine TL.gno rfl (by decide) ?_
      | refine TL.gval rfl (YF.indexArr arr_30 rfl rfl (by first | decide | omega) (show _ = 34 + 2 * g + c by omega)) (by decide) ?_
    first
      | refine TL.gno rfl (by decide) ?_
      | refine TL.gval rfl (YF.load (i + 2) sc_3 rfl hi (sd_int (by omega))) (by decide) ?_
    first
      | refine TL.gno rfl (by decide) ?_
      | refine TL.gval rfl (YF.eql rfl rfl rfl) (by decide) ?_
    first
      | refine TL.val (YF.pickT rfl rfl) (by decide) ?_
      | refine TL.val (YF.pickF rfl rfl) (by decide) ?_
      | refine TL.val (YF.pick rfl rfl rfl rfl) (by decide) ?_
    refine TL.end ?_
    refine Arr.seq ?_
    refine Tr.condF rfl ?_
    refine Tr.skipE ?_
    refine Arr.seq ?_
    refine Tr.seq ?_
    refine Tr.region ?_
    refine TL.val (YF.assign rfl) (by decide) ?_
    refine TL.end ?_
    refine Arr.seq ?_
    refine Tr.seq ?_
    refine Tr.seq ?_
    refine Tr.region ?_
    refine TL.val (YF.move rfl) (by decide) ?_
    refine TL.val (YF.nilCheck rfl) (by decide) ?_
    refine TL.val (YF.fieldAddr fo_112_1 rfl rfl) (by decide) ?_
    refine TL.val (YF.load (v := .pointer (some ⟨bsi, 0, none⟩)) 0 sc_86 rfl rfl (va_get (by decide) rfl)) (by decide) ?_
    refine TL.val (YF.move rfl) (by decide) ?_
    refine TL.val (YF.move rfl) (by decide) ?_
    refine TL.val (YF.nilCheck rfl) (by decide) ?_
    refine TL.val (YF.fieldAddr fo_114_7 rfl rfl) (by decide) ?_
    refine TL.val (YF.indexArr arr_31 rfl rfl (by first | decide | omega) rfl) (by decide) ?_
    refine TL.val (YF.indexArr arr_30 rfl rfl (by first | decide | omega) (show _ = 26 + 2 * g + c by omega)) (by decide) ?_
    refine TL.val (YF.load (i + 2) sc_3 rfl hi (sd_int (by omega))) (by decide) ?_
    first
      | refine TL.val (YF.eql (b := true) rfl rfl (decide_eq_true h1)) (by decide) ?_
      | refine TL.val (YF.eql (b := false) rfl rfl (decide_eq_false h1)) (by decide) ?_
    refine TL.val (YF.move rfl) (by decide) ?_
    first
      | refine TL.gno rfl (by decide) ?_
      | refine TL.gval rfl (YF.move rfl) (by decide) ?_
    first
      | refine TL.gno rfl (by decide) ?_
      | refine TL.gval rfl (YF.nilCheck rfl) (by decide) ?_
    first
      | refine TL.gno rfl (by decide) ?_
      | refine TL.gval rfl (YF.fieldAddr fo_112_1 rfl rfl) (by decide) ?_
    first
      | refine TL.gno rfl (by decide) ?_
      | refine TL.gval rfl (YF.load (v := .pointer (some ⟨bsi, 0, none⟩)) 0 sc_86 rfl rfl (va_get (by decide) rfl)) (by decide) ?_
    first
      | refine TL.gno rfl (by decide) ?_
      | refine TL.gval rfl (YF.move rfl) (by decide) ?_
    first
      | refine TL.gno rfl (by decide) ?_
      | refine TL.gval rfl (YF.move rfl) (by decide) ?_
    first
      | refine TL.gno rfl (by decide) ?_
      | refine TL.gval rfl (YF.nilCheck rfl) (by decide) ?_
    first
      | refine TL.gno rfl (by decide) ?_
      | refine TL.gval rfl (YF.fieldAddr fo_114_8 rfl rfl) (by decide) ?_
    first
      | refine TL.gno rfl (by decide) ?_
      | refine TL.gval rfl (YF.indexArr arr_31 rfl rfl (by first | decide | omega) rfl) (by decide) ?_
    first
      | refine TL.gno rfl (by decide) ?_
      | refine TL.gval rfl (YF.indexArr arr_30 rfl rfl (by first | decide | omega) (show _ = 30 + 2 * g + c by omega)) (by decide) ?_
    first
      | refine TL.gno rfl (by decide) ?_
      | refine TL.gval rfl (YF.load (i + 2) sc_3 rfl hi (sd_int (by omega))) (by decide) ?_
    first
      | refine TL.gval rfl (YF.eql (b := true) rfl rfl (decide_eq_true h2)) (by decide) ?_
      | refine TL.gval rfl (YF.eql (b := false) rfl rfl (decide_eq_false h2)) (by decide) ?_
      | refine TL.gno rfl (by decide) ?_
    first
      | refine TL.val (YF.pickT rfl rfl) (by decide) ?_
      | refine TL.val (YF.pickF rfl rfl) (by decide) ?_
      | refine TL.val (YF.pick rfl rfl rfl rfl) (by decide) ?_
    refine TL.val (YF.move rfl) (by decide) ?_
    first
      | refine TL.gno rfl (by decide) ?_
      | refine TL.gval rfl (YF.move rfl) (by decide) ?_
    first
      | refine TL.gno rfl (by decide) ?_
      | refine TL.gval rfl (YF.nilCheck rfl) (by decide) ?_
    first
      | refine TL.gno rfl (by decide) ?_
      | refine TL.gval rfl (YF.fieldAddr fo_112_1 rfl rfl) (by decide) ?_
    first
      | refine TL.gno rfl (by decide) ?_
      | refine TL.gval rfl (YF.load (v := .pointer (some ⟨bsi, 0, none⟩)) 0 sc_86 rfl rfl (va_get (by decide) rfl)) (by decide) ?_
    first
      | refine TL.gno rfl (by decide) ?_
      | refine TL.gval rfl (YF.move rfl) (by decide) ?_
    first
      | refine TL.gno rfl (by decide) ?_
      | refine TL.gval rfl (YF.move rfl) (by decide) ?_
    first
      | refine TL.gno rfl (by decide) ?_
      | refine TL.gval rfl (YF.nilCheck rfl) (by decide) ?_
    first
      | refine TL.gno rfl (by decide) ?_
      | refine TL.gval rfl (YF.fieldAddr fo_114_9 rfl rfl) (by decide) ?_
    first
      | refine TL.gno rfl (by decide) ?_
      | refine TL.gval rfl (YF.indexArr arr_31 rfl rfl (by first | decide | omega) rfl) (by decide) ?_
    first
      | refine TL.gno rfl (by decide) ?_
      | refine TL.gval rfl (YF.indexArr arr_30 rfl rfl (by first | decide | omega) (show _ = 34 + 2 * g + c by omega)) (by decide) ?_
    first
      | refine TL.gno rfl (by decide) ?_
      | refine TL.gval rfl (YF.load (i + 2) sc_3 rfl hi (sd_int (by omega))) (by decide) ?_
    first
      | refine TL.gno rfl (by decide) ?_
      | refine TL.gval rfl (YF.eql rfl rfl rfl) (by decide) ?_
    first
      | refine TL.val (YF.pickT rfl rfl) (by decide) ?_
      | refine TL.val (YF.pickF rfl rfl) (by decide) ?_
      | refine TL.val (YF.pick rfl rfl rfl rfl) (by decide) ?_
    refine TL.end ?_
    refine Arr.seq ?_
    refine Tr.cutN (R := fun a w => Agree 207 [(0, .pointer (some ⟨bf, 0, none⟩)), (1, .int .i64 g), (2, .int .i64 c), (6, .int .i64 (lastOf s g c : Nat))] a ∧ HS w0 ((bf, .cells (va 3204 (ff wd (some ⟨bsi, 0, none⟩) bm)) 112 (0, 0)) :: (bm, .cells (va 2548 (zl z0 (244 + 576 * (2 * g + c)) x)) 91 (0, 0)) :: H) w) ?_ ?_
    ·
      refine Tr.condF rfl ?_
      refine Tr.skipE ?_
      refine Arr.meet ?_
      first
        | (have e : lastOf s g c = 2 := by
             unfold lastOf; rw [if_pos ⟨h1, h2⟩, if_neg (by omega)]
           rw [e]
           exact fun a w ha hw => ⟨(ha.cons rfl (ha.cons rfl (ha.cons rfl (ha.cons rfl (ha.nil))))), hw⟩)
        | (have e : lastOf s g c = 32 := by
             unfold lastOf; rw [if_neg (by first | exact fun hq => absurd hq.1 h1 | exact fun hq => absurd hq.2 h2)]
           rw [e]
           exact fun a w ha hw => ⟨(ha.cons rfl (ha.cons rfl (ha.cons rfl (ha.cons rfl (ha.nil))))), hw⟩)
        | (exfalso; omega)
    rintro a w ⟨ha, hw⟩
    have hl := lastOf_le s g c
    refine Arr.use ha hw ?_
    refine Arr.seq ?_
    refine Tr.seq ?_
    refine Tr.region ?_
    refine TL.val (YF.assign rfl) (by decide) ?_
    refine TL.end ?_
    refine Arr.seq ?_
    refine Tr.block ?_
    refine Tr.loop (I := fun mq a w => ∃ (t : Nat) (y : Nat → Nat), mq = 33 - t ∧ (1 ≤ t ∧ t ≤ lastOf s g c) ∧ (AI single (G / 1000000 + 1 / 10 ^ 30) (fun q => V single (x q)) x t 0 y) ∧ Agree 207 [(0, .pointer (some ⟨bf, 0, none⟩)), (1, .int .i64 g), (2, .int .i64 c), (6, .int .i64 (lastOf s g c : Nat)), (7, .int .i64 t)] a ∧ HS w0 ((bf, .cells (va 3204 (ff wd (some ⟨bsi, 0, none⟩) bm)) 112 (0, 0)) :: (bm, .cells (va 2548 (zl z0 (244 + 576 * (2 * g + c)) y)) 91 (0, 0)) :: H) w) (32) ?_ ?_
    · intro a w ha hw
      exact ⟨1, x, rfl, by omega, AI.zero, (ha.cons rfl (ha.cons rfl (ha.cons rfl (ha.cons rfl (ha.cons rfl (ha.nil)))))), hw⟩
    rintro _ a w ⟨t, y, rfl, ht, hA, ha, hw⟩
    refine Tr.use ha hw ?_
    refine Tr.seq ?_
    refine Tr.seq ?_
    refine Tr.region ?_
    refine TL.val (YF.move rfl) (by decide) ?_
    refine TL.val (YF.move rfl) (by decide) ?_
    refine TL.val (YF.lss rfl rfl rfl) (by decide) ?_
    refine TL.end ?_
    refine Arr.seq ?_
    refine Tr.cond rfl (fun h95 => ?_) (fun h95 => ?_)
    ·
      replace h95 := of_decide_eq_true h95
      refine Tr.skipE ?_
      refine Arr.seq ?_
      refine Tr.seq ?_
      refine Tr.block ?_
      refine Tr.seq ?_
      refine Tr.region ?_
      refine TL.val (YF.assign rfl) (by decide) ?_
      refine TL.end ?_
      refine Arr.seq ?_
      refine Tr.block ?_
      refine Tr.loop (I := fun mq a w => ∃ (j : Nat) (y : Nat → Nat), mq = 8 - j ∧ (j ≤ 8) ∧ (AI single (G / 1000000 + 1 / 10 ^ 30) (fun q => V single (x q)) x t j y) ∧ Agree 207 [(0, .pointer (some ⟨bf, 0, none⟩)), (1, .int .i64 g), (2, .int .i64 c), (6, .int .i64 (lastOf s g c : Nat)), (7, .int .i64 t), (8, .int .i64 j)] a ∧ HS w0 ((bf, .cells (va 3204 (ff wd (some ⟨bsi, 0, none⟩) bm)) 112 (0, 0)) :: (bm, .cells (va 2548 (zl z0 (244 + 576 * (2 * g + c)) y)) 91 (0, 0)) :: H) w) (8) ?_ ?_
      · intro a w ha hw
        exact ⟨0, y, rfl, by omega, hA, (ha.cons rfl (ha.cons rfl (ha.cons rfl (ha.cons rfl (ha.cons rfl (ha.cons rfl (ha.nil))))))), hw⟩
      rintro _ a w ⟨j, y, rfl, hj, hA, ha, hw⟩
      refine Tr.use ha hw ?_
      refine Tr.seq ?_
      refine Tr.seq ?_
      refine Tr.region ?_
      refine TL.val (YF.move rfl) (by decide) ?_
      refine TL.val (YF.lss rfl rfl rfl) (by decide) ?_
      refine TL.end ?_
      refine Arr.seq ?_
      refine Tr.cond rfl (fun h99 => ?_) (fun h99 => ?_)
      ·
        replace h99 := of_decide_eq_true h99
        refine Tr.skipE ?_
        refine Arr.seq ?_
        refine Tr.seq ?_
        refine Tr.block ?_
        refine Tr.seq ?_
        refine Tr.region ?_
        refine TL.val (YF.move rfl) (by decide) ?_
        refine TL.val (YF.mul rfl rfl (IntWalk.i64_in _ (by omega))) (by decide) ?_
        refine TL.val (YF.sub rfl rfl (IntWalk.i64_in _ (by omega))) (by decide) ?_
        refine TL.val (YF.move rfl) (by decide) ?_
        refine TL.val (YF.sub rfl rfl (IntWalk.i64_in _ (by omega))) (by decide) ?_
        refine TL.val (YF.assign rfl) (by decide) ?_
        refine TL.end ?_
        refine Arr.seq ?_
        refine Tr.seq ?_
        refine Tr.region ?_
        refine TL.val (YF.move rfl) (by decide) ?_
        refine TL.val (YF.mul rfl rfl (IntWalk.i64_in _ (by omega))) (by decide) ?_
        refine TL.val (YF.move rfl) (by decide) ?_
        refine TL.val (YF.add rfl rfl (IntWalk.i64_in _ (by omega))) (by decide) ?_
        refine TL.val (YF.assign rfl) (by decide) ?_
        refine TL.end ?_
        refine Arr.seq ?_
        refine Tr.seq ?_
        have hlo := hA.low (show 1 ≤ t ∧ t < 32 by omega) (show j < 8 by omega)
        have hhi := hA.high (show 1 ≤ t ∧ t < 32 by omega) (show j < 8 by omega)
        obtain ⟨v1, v2, r, v4, v5, r', e1, e2, e3, e4, e5, e6, r1, r2⟩ := turn_impl (show j < 8 by omega) (hx (18 * t - 1 - j) (by omega)).1 (hx (18 * t + j) (by omega)).1 hG0 hG (hx (18 * t - 1 - j) (by omega)).2 (hx (18 * t + j) (by omega)).2
        refine Tr.drawE (_ :: _ :: _) (fun H => H) rfl mixed_ ?_
        refine TD.take 0 rfl (by kernel_rfl) (by kernel_rfl) (by kernel_rfl) (fun _ _ _ h => h) (by repeat first | exact List.Sublist.refl _ | apply List.Sublist.cons_cons | apply List.Sublist.cons) (YF.move rfl) (by decide) ?_
        refine TD.take 1 rfl (by kernel_rfl) (by kernel_rfl) (by kernel_rfl) (fun _ _ _ h => h) (by repeat first | exact List.Sublist.refl _ | apply List.Sublist.cons_cons | apply List.Sublist.cons) (YF.nilCheck rfl) (by decide) ?_
        refine TD.take 2 rfl (by kernel_rfl) (by kernel_rfl) (by kernel_rfl) (fun _ _ _ h => h) (by repeat first | exact List.Sublist.refl _ | apply List.Sublist.cons_cons | apply List.Sublist.cons) (YF.fieldAddr fo_112_2 rfl rfl) (by decide) ?_
        refine TD.take 3 rfl (by kernel_rfl) (by kernel_rfl) (by kernel_rfl) (fun _ _ _ h => h) (by repeat first | exact List.Sublist.refl _ | apply List.Sublist.cons_cons | apply List.Sublist.cons) (YF.load (v := .pointer (some ⟨bm, 0, none⟩)) 0 sc_106 rfl rfl (va_get (by decide) rfl)) (by decide) ?_
        refine TD.take 4 rfl (by kernel_rfl) (by kernel_rfl) (by kernel_rfl) (fun _ _ _ h => h) (by repeat first | exact List.Sublist.refl _ | apply List.Sublist.cons_cons | apply List.Sublist.cons) (YF.move rfl) (by decide) ?_
        refine TD.take 5 rfl (by kernel_rfl) (by kernel_rfl) (by kernel_rfl) (fun _ _ _ h => h) (by repeat first | exact List.Sublist.refl _ | apply List.Sublist.cons_cons | apply List.Sublist.cons) (YF.move rfl) (by decide) ?_
        refine TD.take 6 rfl (by kernel_rfl) (by kernel_rfl) (by kernel_rfl) (fun _ _ _ h => h) (by repeat first | exact List.Sublist.refl _ | apply List.Sublist.cons_cons | apply List.Sublist.cons) (YF.move rfl) (by decide) ?_
        refine TD.take 7 rfl (by kernel_rfl) (by kernel_rfl) (by kernel_rfl) (fun _ _ _ h => h) (by repeat first | exact List.Sublist.refl _ | apply List.Sublist.cons_cons | apply List.Sublist.cons) (YF.nilCheck rfl) (by decide) ?_
        refine TD.take 8 rfl (by kernel_rfl) (by kernel_rfl) (by kernel_rfl) (fun _ _ _ h => h) (by repeat first | exact List.Sublist.refl _ | apply List.Sublist.cons_cons | apply List.Sublist.cons) (YF.fieldAddr fo_91_2 rfl rfl) (by decide) ?_
        refine TD.take 9 rfl (by kernel_rfl) (by kernel_rfl) (by kernel_rfl) (fun _ _ _ h => h) (by repeat first | exact List.Sublist.refl _ | apply List.Sublist.cons_cons | apply List.Sublist.cons) (YF.indexArr arr_89 rfl rfl (by first | decide | omega) rfl) (by decide) ?_
        refine TD.take 10 rfl (by kernel_rfl) (by kernel_rfl) (by kernel_rfl) (fun _ _ _ h => h) (by repeat first | exact List.Sublist.refl _ | apply List.Sublist.cons_cons | apply List.Sublist.cons) (YF.indexArr arr_88 rfl rfl (by first | decide | omega) rfl) (by decide) ?_
        refine TD.take 11 rfl (by kernel_rfl) (by kernel_rfl) (by kernel_rfl) (fun _ _ _ h => h) (by repeat first | exact List.Sublist.refl _ | apply List.Sublist.cons_cons | apply List.Sublist.cons) (YF.indexArr arr_84 rfl rfl (by first | decide | omega) (show _ = 244 + 576 * (2 * g + c) + (18 * t - 1 - j) by omega)) (by decide) ?_
        refine TD.take 12 rfl (by kernel_rfl) (by kernel_rfl) (by kernel_rfl) (fun _ _ _ h => h) (by repeat first | exact List.Sublist.refl _ | apply List.Sublist.cons_cons | apply List.Sublist.cons) (YF.load (v := .float .f32 (x (18 * t - 1 - j))) 1 sc_82 rfl rfl (by rw [← hlo]; exact zl_get (by omega) rfl (by omega))) (by decide) ?_
        refine TD.take 13 rfl (by kernel_rfl) (by kernel_rfl) (by kernel_rfl) (fun _ _ _ h => h) (by repeat first | exact List.Sublist.refl _ | apply List.Sublist.cons_cons | apply List.Sublist.cons) (YF.move rfl) (by decide) ?_
        refine TD.take 14 rfl (by kernel_rfl) (by kernel_rfl) (by kernel_rfl) (fun _ _ _ h => h) (by repeat first | exact List.Sublist.refl _ | apply List.Sublist.cons_cons | apply List.Sublist.cons) (YF.indexArr arr_117 rfl rfl (by first | decide | omega) (show _ = j by omega)) (by decide) ?_
        refine TD.take 15 rfl (by kernel_rfl) (by kernel_rfl) (by kernel_rfl) (fun _ _ _ h => h) (by repeat first | exact List.Sublist.refl _ | apply List.Sublist.cons_cons | apply List.Sublist.cons) (YF.load_old sc_82 rfl (hcs j (by omega))) (by decide) ?_
        refine TD.take 16 rfl (by kernel_rfl) (by kernel_rfl) (by kernel_rfl) (fun _ _ _ h => h) (by repeat first | exact List.Sublist.refl _ | apply List.Sublist.cons_cons | apply List.Sublist.cons) (YF.farith rfl rfl e1) (by decide) ?_
        refine TD.take 17 rfl (by kernel_rfl) (by kernel_rfl) (by kernel_rfl) (fun _ _ _ h => h) (by repeat first | exact List.Sublist.refl _ | apply List.Sublist.cons_cons | apply List.Sublist.cons) (YF.move rfl) (by decide) ?_
        refine TD.take 18 rfl (by kernel_rfl) (by kernel_rfl) (by kernel_rfl) (fun _ _ _ h => h) (by repeat first | exact List.Sublist.refl _ | apply List.Sublist.cons_cons | apply List.Sublist.cons) (YF.nilCheck rfl) (by decide) ?_
        refine TD.take 19 rfl (by kernel_rfl) (by kernel_rfl) (by kernel_rfl) (fun _ _ _ h => h) (by repeat first | exact List.Sublist.refl _ | apply List.Sublist.cons_cons | apply List.Sublist.cons) (YF.fieldAddr fo_112_2 rfl rfl) (by decide) ?_
        refine TD.take 20 rfl (by kernel_rfl) (by kernel_rfl) (by kernel_rfl) (fun _ _ _ h => h) (by repeat first | exact List.Sublist.refl _ | apply List.Sublist.cons_cons | apply List.Sublist.cons) (YF.load (v := .pointer (some ⟨bm, 0, none⟩)) 0 sc_106 rfl rfl (va_get (by decide) rfl)) (by decide) ?_
        refine TD.take 21 rfl (by kernel_rfl) (by kernel_rfl) (by kernel_rfl) (fun _ _ _ h => h) (by repeat first | exact List.Sublist.refl _ | apply List.Sublist.cons_cons | apply List.Sublist.cons) (YF.move rfl) (by decide) ?_
        refine TD.take 22 rfl (by kernel_rfl) (by kernel_rfl) (by kernel_rfl) (fun _ _ _ h => h) (by repeat first | exact List.Sublist.refl _ | apply List.Sublist.cons_cons | apply List.Sublist.cons) (YF.move rfl) (by decide) ?_
        refine TD.take 23 rfl (by kernel_rfl) (by kernel_rfl) (by kernel_rfl) (fun _ _ _ h => h) (by repeat first | exact List.Sublist.refl _ | apply List.Sublist.cons_cons | apply List.Sublist.cons) (YF.move rfl) (by decide) ?_
        refine TD.take 24 rfl (by kernel_rfl) (by kernel_rfl) (by kernel_rfl) (fun _ _ _ h => h) (by repeat first | exact List.Sublist.refl _ | apply List.Sublist.cons_cons | apply List.Sublist.cons) (YF.nilCheck rfl) (by decide) ?_
        refine TD.take 25 rfl (by kernel_rfl) (by kernel_rfl) (by kernel_rfl) (fun _ _ _ h => h) (by repeat first | exact List.Sublist.refl _ | apply List.Sublist.cons_cons | apply List.Sublist.cons) (YF.fieldAddr fo_91_2 rfl rfl) (by decide) ?_
        refine TD.take 26 rfl (by kernel_rfl) (by kernel_rfl) (by kernel_rfl) (fun _ _ _ h => h) (by repeat first | exact List.Sublist.refl _ | apply List.Sublist.cons_cons | apply List.Sublist.cons) (YF.indexArr arr_89 rfl rfl (by first | decide | omega) rfl) (by decide) ?_
        refine TD.take 27 rfl (by kernel_rfl) (by kernel_rfl) (by kernel_rfl) (fun _ _ _ h => h) (by repeat first | exact List.Sublist.refl _ | apply List.Sublist.cons_cons | apply List.Sublist.cons) (YF.indexArr arr_88 rfl rfl (by first | decide | omega) rfl) (by decide) ?_
        refine TD.take 28 rfl (by kernel_rfl) (by kernel_rfl) (by kernel_rfl) (fun _ _ _ h => h) (by repeat first | exact List.Sublist.refl _ | apply List.Sublist.cons_cons | apply List.Sublist.cons) (YF.indexArr arr_84 rfl rfl (by first | decide | omega) (show _ = 244 + 576 * (2 * g + c) + (18 * t + j) by omega)) (by decide) ?_
        refine TD.take 29 rfl (by kernel_rfl) (by kernel_rfl) (by kernel_rfl) (fun _ _ _ h => h) (by repeat first | exact List.Sublist.refl _ | apply List.Sublist.cons_cons | apply List.Sublist.cons) (YF.load (v := .float .f32 (x (18 * t + j))) 1 sc_82 rfl rfl (by rw [← hhi]; exact zl_get (by omega) rfl (by omega))) (by decide) ?_
        refine TD.take 30 rfl (by kernel_rfl) (by kernel_rfl) (by kernel_rfl) (fun _ _ _ h => h) (by repeat first | exact List.Sublist.refl _ | apply List.Sublist.cons_cons | apply List.Sublist.cons) (YF.move rfl) (by decide) ?_
        refine TD.take 31 rfl (by kernel_rfl) (by kernel_rfl) (by kernel_rfl) (fun _ _ _ h => h) (by repeat first | exact List.Sublist.refl _ | apply List.Sublist.cons_cons | apply List.Sublist.cons) (YF.indexArr arr_117 rfl rfl (by first | decide | omega) (show _ = j by omega)) (by decide) ?_
        refine TD.take 32 rfl (by kernel_rfl) (by kernel_rfl) (by kernel_rfl) (fun _ _ _ h => h) (by repeat first | exact List.Sublist.refl _ | apply List.Sublist.cons_cons | apply List.Sublist.cons) (YF.load_old sc_82 rfl (hca j (by omega))) (by decide) ?_
        refine TD.take 33 rfl (by kernel_rfl) (by kernel_rfl) (by kernel_rfl) (fun _ _ _ h => h) (by repeat first | exact List.Sublist.refl _ | apply List.Sublist.cons_cons | apply List.Sublist.cons) (YF.farith rfl rfl e2) (by decide) ?_
        refine TD.take 34 rfl (by kernel_rfl) (by kernel_rfl) (by kernel_rfl) (fun _ _ _ h => h) (by repeat first | exact List.Sublist.refl _ | apply List.Sublist.cons_cons | apply List.Sublist.cons) (YF.farith rfl rfl e3) (by decide) ?_
        refine TD.take 35 rfl (by kernel_rfl) (by kernel_rfl) (by kernel_rfl) (fun _ _ _ h => h) (by repeat first | exact List.Sublist.refl _ | apply List.Sublist.cons_cons | apply List.Sublist.cons) (YF.assign rfl) (by decide) ?_
        refine TD.end (by kernel_rfl) ?_
        refine Arr.seq ?_
        refine Tr.seq ?_
        refine Tr.drawE (_ :: _ :: _) (fun H => H) rfl mixed_ ?_
        refine TD.take 0 rfl (by kernel_rfl) (by kernel_rfl) (by kernel_rfl) (fun _ _ _ h => h) (by repeat first | exact List.Sublist.refl _ | apply List.Sublist.cons_cons | apply List.Sublist.cons) (YF.move rfl) (by decide) ?_
        refine TD.take 1 rfl (by kernel_rfl) (by kernel_rfl) (by kernel_rfl) (fun _ _ _ h => h) (by repeat first | exact List.Sublist.refl _ | apply List.Sublist.cons_cons | apply List.Sublist.cons) (YF.nilCheck rfl) (by decide) ?_
        refine TD.take 2 rfl (by kernel_rfl) (by kernel_rfl) (by kernel_rfl) (fun _ _ _ h => h) (by repeat first | exact List.Sublist.refl _ | apply List.Sublist.cons_cons | apply List.Sublist.cons) (YF.fieldAddr fo_112_2 rfl rfl) (by decide) ?_
        refine TD.take 3 rfl (by kernel_rfl) (by kernel_rfl) (by kernel_rfl) (fun _ _ _ h => h) (by repeat first | exact List.Sublist.refl _ | apply List.Sublist.cons_cons | apply List.Sublist.cons) (YF.load (v := .pointer (some ⟨bm, 0, none⟩)) 0 sc_106 rfl rfl (va_get (by decide) rfl)) (by decide) ?_
        refine TD.take 4 rfl (by kernel_rfl) (by kernel_rfl) (by kernel_rfl) (fun _ _ _ h => h) (by repeat first | exact List.Sublist.refl _ | apply List.Sublist.cons_cons | apply List.Sublist.cons) (YF.move rfl) (by decide) ?_
        refine TD.take 5 rfl (by kernel_rfl) (by kernel_rfl) (by kernel_rfl) (fun _ _ _ h => h) (by repeat first | exact List.Sublist.refl _ | apply List.Sublist.cons_cons | apply List.Sublist.cons) (YF.move rfl) (by decide) ?_
        refine TD.take 6 rfl (by kernel_rfl) (by kernel_rfl) (by kernel_rfl) (fun _ _ _ h => h) (by repeat first | exact List.Sublist.refl _ | apply List.Sublist.cons_cons | apply List.Sublist.cons) (YF.move rfl) (by decide) ?_
        refine TD.take 7 rfl (by kernel_rfl) (by kernel_rfl) (by kernel_rfl) (fun _ _ _ h => h) (by repeat first | exact List.Sublist.refl _ | apply List.Sublist.cons_cons | apply List.Sublist.cons) (YF.nilCheck rfl) (by decide) ?_
        refine TD.take 8 rfl (by kernel_rfl) (by kernel_rfl) (by kernel_rfl) (fun _ _ _ h => h) (by repeat first | exact List.Sublist.refl _ | apply List.Sublist.cons_cons | apply List.Sublist.cons) (YF.fieldAddr fo_91_2 rfl rfl) (by decide) ?_
        refine TD.take 9 rfl (by kernel_rfl) (by kernel_rfl) (by kernel_rfl) (fun _ _ _ h => h) (by repeat first | exact List.Sublist.refl _ | apply List.Sublist.cons_cons | apply List.Sublist.cons) (YF.indexArr arr_89 rfl rfl (by first | decide | omega) rfl) (by decide) ?_
        refine TD.take 10 rfl (by kernel_rfl) (by kernel_rfl) (by kernel_rfl) (fun _ _ _ h => h) (by repeat first | exact List.Sublist.refl _ | apply List.Sublist.cons_cons | apply List.Sublist.cons) (YF.indexArr arr_88 rfl rfl (by first | decide | omega) rfl) (by decide) ?_
        refine TD.take 11 rfl (by kernel_rfl) (by kernel_rfl) (by kernel_rfl) (fun _ _ _ h => h) (by repeat first | exact List.Sublist.refl _ | apply List.Sublist.cons_cons | apply List.Sublist.cons) (YF.indexArr arr_84 rfl rfl (by first | decide | omega) (show _ = 244 + 576 * (2 * g + c) + (18 * t + j) by omega)) (by decide) ?_
        refine TD.take 12 rfl (by kernel_rfl) (by kernel_rfl) (by kernel_rfl) (fun _ _ _ h => h) (by repeat first | exact List.Sublist.refl _ | apply List.Sublist.cons_cons | apply List.Sublist.cons) (YF.load (v := .float .f32 (x (18 * t + j))) 1 sc_82 rfl rfl (by rw [← hhi]; exact zl_get (by omega) rfl (by omega))) (by decide) ?_
        refine TD.take 13 rfl (by kernel_rfl) (by kernel_rfl) (by kernel_rfl) (fun _ _ _ h => h) (by repeat first | exact List.Sublist.refl _ | apply List.Sublist.cons_cons | apply List.Sublist.cons) (YF.move rfl) (by decide) ?_
        refine TD.take 14 rfl (by kernel_rfl) (by kernel_rfl) (by kernel_rfl) (fun _ _ _ h => h) (by repeat first | exact List.Sublist.refl _ | apply List.Sublist.cons_cons | apply List.Sublist.cons) (YF.indexArr arr_117 rfl rfl (by first | decide | omega) (show _ = j by omega)) (by decide) ?_
        refine TD.take 15 rfl (by kernel_rfl) (by kernel_rfl) (by kernel_rfl) (fun _ _ _ h => h) (by repeat first | exact List.Sublist.refl _ | apply List.Sublist.cons_cons | apply List.Sublist.cons) (YF.load_old sc_82 rfl (hcs j (by omega))) (by decide) ?_
        refine TD.take 16 rfl (by kernel_rfl) (by kernel_rfl) (by kernel_rfl) (fun _ _ _ h => h) (by repeat first | exact List.Sublist.refl _ | apply List.Sublist.cons_cons | apply List.Sublist.cons) (YF.farith rfl rfl e4) (by decide) ?_
        refine TD.take 17 rfl (by kernel_rfl) (by kernel_rfl) (by kernel_rfl) (fun _ _ _ h => h) (by repeat first | exact List.Sublist.refl _ | apply List.Sublist.cons_cons | apply List.Sublist.cons) (YF.move rfl) (by decide) ?_
        refine TD.take 18 rfl (by kernel_rfl) (by kernel_rfl) (by kernel_rfl) (fun _ _ _ h => h) (by repeat first | exact List.Sublist.refl _ | apply List.Sublist.cons_cons | apply List.Sublist.cons) (YF.nilCheck rfl) (by decide) ?_
        refine TD.take 19 rfl (by kernel_rfl) (by kernel_rfl) (by kernel_rfl) (fun _ _ _ h => h) (by repeat first | exact List.Sublist.refl _ | apply List.Sublist.cons_cons | apply List.Sublist.cons) (YF.fieldAddr fo_112_2 rfl rfl) (by decide) ?_
        refine TD.take 20 rfl (by kernel_rfl) (by kernel_rfl) (by kernel_rfl) (fun _ _ _ h => h) (by repeat first | exact List.Sublist.refl _ | apply List.Sublist.cons_cons | apply List.Sublist.cons) (YF.load (v := .pointer (some ⟨bm, 0, none⟩)) 0 sc_106 rfl rfl (va_get (by decide) rfl)) (by decide) ?_
        refine TD.take 21 rfl (by kernel_rfl) (by kernel_rfl) (by kernel_rfl) (fun _ _ _ h => h) (by repeat first | exact List.Sublist.refl _ | apply List.Sublist.cons_cons | apply List.Sublist.cons) (YF.move rfl) (by decide) ?_
        refine TD.take 22 rfl (by kernel_rfl) (by kernel_rfl) (by kernel_rfl) (fun _ _ _ h => h) (by repeat first | exact List.Sublist.refl _ | apply List.Sublist.cons_cons | apply List.Sublist.cons) (YF.move rfl) (by decide) ?_
        refine TD.take 23 rfl (by kernel_rfl) (by kernel_rfl) (by kernel_rfl) (fun _ _ _ h => h) (by repeat first | exact List.Sublist.refl _ | apply List.Sublist.cons_cons | apply List.Sublist.cons) (YF.move rfl) (by decide) ?_
        refine TD.take 24 rfl (by kernel_rfl) (by kernel_rfl) (by kernel_rfl) (fun _ _ _ h => h) (by repeat first | exact List.Sublist.refl _ | apply List.Sublist.cons_cons | apply List.Sublist.cons) (YF.nilCheck rfl) (by decide) ?_
        refine TD.take 25 rfl (by kernel_rfl) (by kernel_rfl) (by kernel_rfl) (fun _ _ _ h => h) (by repeat first | exact List.Sublist.refl _ | apply List.Sublist.cons_cons | apply List.Sublist.cons) (YF.fieldAddr fo_91_2 rfl rfl) (by decide) ?_
        refine TD.take 26 rfl (by kernel_rfl) (by kernel_rfl) (by kernel_rfl) (fun _ _ _ h => h) (by repeat first | exact List.Sublist.refl _ | apply List.Sublist.cons_cons | apply List.Sublist.cons) (YF.indexArr arr_89 rfl rfl (by first | decide | omega) rfl) (by decide) ?_
        refine TD.take 27 rfl (by kernel_rfl) (by kernel_rfl) (by kernel_rfl) (fun _ _ _ h => h) (by repeat first | exact List.Sublist.refl _ | apply List.Sublist.cons_cons | apply List.Sublist.cons) (YF.indexArr arr_88 rfl rfl (by first | decide | omega) rfl) (by decide) ?_
        refine TD.take 28 rfl (by kernel_rfl) (by kernel_rfl) (by kernel_rfl) (fun _ _ _ h => h) (by repeat first | exact List.Sublist.refl _ | apply List.Sublist.cons_cons | apply List.Sublist.cons) (YF.indexArr arr_84 rfl rfl (by first | decide | omega) (show _ = 244 + 576 * (2 * g + c) + (18 * t - 1 - j) by omega)) (by decide) ?_
        refine TD.take 29 rfl (by kernel_rfl) (by kernel_rfl) (by kernel_rfl) (fun _ _ _ h => h) (by repeat first | exact List.Sublist.refl _ | apply List.Sublist.cons_cons | apply List.Sublist.cons) (YF.load (v := .float .f32 (x (18 * t - 1 - j))) 1 sc_82 rfl rfl (by rw [← hlo]; exact zl_get (by omega) rfl (by omega))) (by decide) ?_
        refine TD.take 30 rfl (by kernel_rfl) (by kernel_rfl) (by kernel_rfl) (fun _ _ _ h => h) (by repeat first | exact List.Sublist.refl _ | apply List.Sublist.cons_cons | apply List.Sublist.cons) (YF.move rfl) (by decide) ?_
        refine TD.take 31 rfl (by kernel_rfl) (by kernel_rfl) (by kernel_rfl) (fun _ _ _ h => h) (by repeat first | exact List.Sublist.refl _ | apply List.Sublist.cons_cons | apply List.Sublist.cons) (YF.indexArr arr_117 rfl rfl (by first | decide | omega) (show _ = j by omega)) (by decide) ?_
        refine TD.take 32 rfl (by kernel_rfl) (by kernel_rfl) (by kernel_rfl) (fun _ _ _ h => h) (by repeat first | exact List.Sublist.refl _ | apply List.Sublist.cons_cons | apply List.Sublist.cons) (YF.load_old sc_82 rfl (hca j (by omega))) (by decide) ?_
        refine TD.take 33 rfl (by kernel_rfl) (by kernel_rfl) (by kernel_rfl) (fun _ _ _ h => h) (by repeat first | exact List.Sublist.refl _ | apply List.Sublist.cons_cons | apply List.Sublist.cons) (YF.farith rfl rfl e5) (by decide) ?_
        refine TD.take 34 rfl (by kernel_rfl) (by kernel_rfl) (by kernel_rfl) (fun _ _ _ h => h) (by repeat first | exact List.Sublist.refl _ | apply List.Sublist.cons_cons | apply List.Sublist.cons) (YF.farith rfl rfl e6) (by decide) ?_
        refine TD.take 35 rfl (by kernel_rfl) (by kernel_rfl) (by kernel_rfl) (fun _ _ _ h => h) (by repeat first | exact List.Sublist.refl _ | apply List.Sublist.cons_cons | apply List.Sublist.cons) (YF.assign rfl) (by decide) ?_
        refine TD.end (by kernel_rfl) ?_
        refine Arr.seq ?_
        refine Tr.seq ?_
        refine Tr.region ?_
        refine TL.val (YF.move rfl) (by decide) ?_
        refine TL.val (YF.nilCheck rfl) (by decide) ?_
        refine TL.val (YF.fieldAddr fo_112_2 rfl rfl) (by decide) ?_
        refine TL.val (YF.load (v := .pointer (some ⟨bm, 0, none⟩)) 0 sc_106 rfl rfl (va_get (by decide) rfl)) (by decide) ?_
        refine TL.val (YF.move rfl) (by decide) ?_
        refine TL.val (YF.move rfl) (by decide) ?_
        refine TL.val (YF.move rfl) (by decide) ?_
        refine TL.val (YF.move rfl) (by decide) ?_
        refine TL.val (YF.nilCheck rfl) (by decide) ?_
        refine TL.val (YF.fieldAddr fo_91_2 rfl rfl) (by decide) ?_
        refine TL.val (YF.indexArr arr_89 rfl rfl (by first | decide | omega) rfl) (by decide) ?_
        refine TL.val (YF.indexArr arr_88 rfl rfl (by first | decide | omega) rfl) (by decide) ?_
        refine TL.val (YF.indexArr arr_84 rfl rfl (by first | decide | omega) (show _ = 244 + 576 * (2 * g + c) + (18 * t - 1 - j) by omega)) (by decide) ?_
        refine TL.storeV 1 (_ :: _ :: _) rfl rfl rfl sz_82 rfl (by rw [va_size]; omega) (zl_set (k := 18 * t - 1 - j) (by omega) rfl) rfl ?_
        refine TL.end ?_
        refine Arr.seq ?_
        refine Tr.region ?_
        refine TL.val (YF.move rfl) (by decide) ?_
        refine TL.val (YF.nilCheck rfl) (by decide) ?_
        refine TL.val (YF.fieldAddr fo_112_2 rfl rfl) (by decide) ?_
        refine TL.val (YF.load (v := .pointer (some ⟨bm, 0, none⟩)) 0 sc_106 rfl rfl (va_get (by decide) rfl)) (by decide) ?_
        refine TL.val (YF.move rfl) (by decide) ?_
        refine TL.val (YF.move rfl) (by decide) ?_
        refine TL.val (YF.move rfl) (by decide) ?_
        refine TL.val (YF.move rfl) (by decide) ?_
        refine TL.val (YF.nilCheck rfl) (by decide) ?_
        refine TL.val (YF.fieldAddr fo_91_2 rfl rfl) (by decide) ?_
        refine TL.val (YF.indexArr arr_89 rfl rfl (by first | decide | omega) rfl) (by decide) ?_
        refine TL.val (YF.indexArr arr_88 rfl rfl (by first | decide | omega) rfl) (by decide) ?_
        refine TL.val (YF.indexArr arr_84 rfl rfl (by first | decide | omega) (show _ = 244 + 576 * (2 * g + c) + (18 * t + j) by omega)) (by decide) ?_
        refine TL.storeV 1 (_ :: _ :: _) rfl rfl rfl sz_82 rfl (by rw [va_size]; omega) (zl_set (k := 18 * t + j) (by omega) rfl) rfl ?_
        refine TL.end ?_
        refine Arr.block ?_
        refine Arr.seq ?_
        refine Tr.region ?_
        refine TL.val (YF.move rfl) (by decide) ?_
        refine TL.val (YF.add rfl rfl (IntWalk.i64_in _ (by omega))) (by decide) ?_
        refine TL.val (YF.assign rfl) (by decide) ?_
        refine TL.end ?_
        exact fun a w ha hw => ⟨_, by omega, j + 1, upd (upd y (18 * t - 1 - j) r) (18 * t + j) r', rfl, by omega, hA.step (by omega) (by omega) r1 r2, (ha.cons rfl (ha.cons rfl (ha.cons rfl (ha.cons rfl (ha.cons rfl (ha.cons rfl (ha.nil))))))), hw⟩
      ·
        replace h99 := of_decide_eq_false h99
        refine Tr.exitE ?_
        refine Arr.seqX ?_
        refine Arr.seqX ?_
        refine Arr.blockE ?_
        refine Arr.block ?_
        refine Arr.seq ?_
        refine Tr.region ?_
        refine TL.val (YF.move rfl) (by decide) ?_
        refine TL.val (YF.add rfl rfl (IntWalk.i64_in _ (by omega))) (by decide) ?_
        refine TL.val (YF.assign rfl) (by decide) ?_
        refine TL.end ?_
        exact fun a w ha hw => ⟨_, by omega, t + 1, y, rfl, by omega, (by have e : j = 8 := (by omega); subst e; exact hA.next), (ha.cons rfl (ha.cons rfl (ha.cons rfl (ha.cons rfl (ha.cons rfl (ha.nil)))))), hw⟩
    ·
      replace h95 := of_decide_eq_false h95
      refine Tr.exitE ?_
      refine Arr.seqX ?_
      refine Arr.seqX ?_
      refine Arr.blockE ?_
      exact Ends.noRes rfl ⟨y, (by have e : t = lastOf s g c := (by omega); rw [← e]; exact hA), rfl⟩
  ·
    first
      | refine TL.val (YF.eql (b := true) rfl rfl (decide_eq_true h1)) (by decide) ?_
      | refine TL.val (YF.eql (b := false) rfl rfl (decide_eq_false h1)) (by decide) ?_
    refine TL.val (YF.move rfl) (by decide) ?_
    first
      | refine TL.gno rfl (by decide) ?_
      | refine TL.gval rfl (YF.move rfl) (by decide) ?_
    first
      | refine TL.gno rfl (by decide) ?_
      | refine TL.gval rfl (YF.nilCheck rfl) (by decide) ?_
    first
      | refine TL.gno rfl (by decide) ?_
      | refine TL.gval rfl (YF.fieldAddr fo_112_1 rfl rfl) (by decide) ?_
    first
      | refine TL.gno rfl (by decide) ?_
      | refine TL.gval rfl (YF.load (v := .pointer (some ⟨bsi, 0, none⟩)) 0 sc_86 rfl rfl (va_get (by decide) rfl)) (by decide) ?_
    first
      | refine TL.gno rfl (by decide) ?_
      | refine TL.gval rfl (YF.move rfl) (by decide) ?_
    first
      | refine TL.gno rfl (by decide) ?_
      | refine TL.gval rfl (YF.move rfl) (by decide) ?_
    first
      | refine TL.gno rfl (by decide) ?_
      | refine TL.gval rfl (YF.nilCheck rfl) (by decide) ?_
    first
      | refine TL.gno rfl (by decide) ?_
      | refine TL.gval rfl (YF.fieldAddr fo_114_8 rfl rfl) (by decide) ?_
    first
      | refine TL.gno rfl (by decide) ?_
      | refine TL.gval rfl (YF.indexArr arr_31 rfl rfl (by first | decide | omega) rfl) (by decide) ?_
    first
      | refine TL.gno rfl (by decide) ?_
      | refine TL.gval rfl (YF.indexArr arr_30 rfl rfl (by first | decide | omega) (show _ = 30 + 2 * g + c by omega)) (by decide) ?_
    first
      | refine TL.gno rfl (by decide) ?_
      | refine TL.gval rfl (YF.load (i + 2) sc_3 rfl hi (sd_int (by omega))) (by decide) ?_
    first
      | refine TL.gval rfl (YF.eql (b := true) rfl rfl (decide_eq_true h2)) (by decide) ?_
      | refine TL.gval rfl (YF.eql (b := false) rfl rfl (decide_eq_false h2)) (by decide) ?_
      | refine TL.gno rfl (by decide) ?_
    first
      | refine TL.val (YF.pickT rfl rfl) (by decide) ?_
      | refine TL.val (YF.pickF rfl rfl) (by decide) ?_
      | refine TL.val (YF.pick rfl rfl rfl rfl) (by decide) ?_
    refine TL.val (YF.move rfl) (by decide) ?_
    first
      | refine TL.gno rfl (by decide) ?_
      | refine TL.gval rfl (YF.move rfl) (by decide) ?_
    first
      | refine TL.gno rfl (by decide) ?_
      | refine TL.gval rfl (YF.nilCheck rfl) (by decide) ?_
    first
      | refine TL.gno rfl (by decide) ?_
      | refine TL.gval rfl (YF.fieldAddr fo_112_1 rfl rfl) (by decide) ?_
    first
      | refine TL.gno rfl (by decide) ?_
      | refine TL.gval rfl (YF.load (v := .pointer (some ⟨bsi, 0, none⟩)) 0 sc_86 rfl rfl (va_get (by decide) rfl)) (by decide) ?_
    first
      | refine TL.gno rfl (by decide) ?_
      | refine TL.gval rfl (YF.move rfl) (by decide) ?_
    first
      | refine TL.gno rfl (by decide) ?_
      | refine TL.gval rfl (YF.move rfl) (by decide) ?_
    first
      | refine TL.gno rfl (by decide) ?_
      | refine TL.gval rfl (YF.nilCheck rfl) (by decide) ?_
    first
      | refine TL.gno rfl (by decide) ?_
      | refine TL.gval rfl (YF.fieldAddr fo_114_9 rfl rfl) (by decide) ?_
    first
      | refine TL.gno rfl (by decide) ?_
      | refine TL.gval rfl (YF.indexArr arr_31 rfl rfl (by first | decide | omega) rfl) (by decide) ?_
    first
      | refine TL.gno rfl (by decide) ?_
      | refine TL.gval rfl (YF.indexArr arr_30 rfl rfl (by first | decide | omega) (show _ = 34 + 2 * g + c by omega)) (by decide) ?_
    first
      | refine TL.gno rfl (by decide) ?_
      | refine TL.gval rfl (YF.load (i + 2) sc_3 rfl hi (sd_int (by omega))) (by decide) ?_
    first
      | refine TL.gno rfl (by decide) ?_
      | refine TL.gval rfl (YF.eql rfl rfl rfl) (by decide) ?_
    first
      | refine TL.val (YF.pickT rfl rfl) (by decide) ?_
      | refine TL.val (YF.pickF rfl rfl) (by decide) ?_
      | refine TL.val (YF.pick rfl rfl rfl rfl) (by decide) ?_
    refine TL.end ?_
    refine Arr.seq ?_
    refine Tr.condF rfl ?_
    refine Tr.skipE ?_
    refine Arr.seq ?_
    refine Tr.seq ?_
    refine Tr.region ?_
    refine TL.val (YF.assign rfl) (by decide) ?_
    refine TL.end ?_
    refine Arr.seq ?_
    refine Tr.seq ?_
    refine Tr.seq ?_
    refine Tr.region ?_
    refine TL.val (YF.move rfl) (by decide) ?_
    refine TL.val (YF.nilCheck rfl) (by decide) ?_
    refine TL.val (YF.fieldAddr fo_112_1 rfl rfl) (by decide) ?_
    refine TL.val (YF.load (v := .pointer (some ⟨bsi, 0, none⟩)) 0 sc_86 rfl rfl (va_get (by decide) rfl)) (by decide) ?_
    refine TL.val (YF.move rfl) (by decide) ?_
    refine TL.val (YF.move rfl) (by decide) ?_
    refine TL.val (YF.nilCheck rfl) (by decide) ?_
    refine TL.val (YF.fieldAddr fo_114_7 rfl rfl) (by decide) ?_
    refine TL.val (YF.indexArr arr_31 rfl rfl (by first | decide | omega) rfl) (by decide) ?_
    refine TL.val (YF.indexArr arr_30 rfl rfl (by first | decide | omega) (show _ = 26 + 2 * g + c by omega)) (by decide) ?_
    refine TL.val (YF.load (i + 2) sc_3 rfl hi (sd_int (by omega))) (by decide) ?_
    first
      | refine TL.val (YF.eql (b := true) rfl rfl (decide_eq_true h1)) (by decide) ?_
      | refine TL.val (YF.eql (b := false) rfl rfl (decide_eq_false h1)) (by decide) ?_
    refine TL.val (YF.move rfl) (by decide) ?_
    first
      | refine TL.gno rfl (by decide) ?_
      | refine TL.gval rfl (YF.move rfl) (by decide) ?_
    first
      | refine TL.gno rfl (by decide) ?_
      | refine TL.gval rfl (YF.nilCheck rfl) (by decide) ?_
    first
      | refine TL.gno rfl (by decide) ?_
      | refine TL.gval rfl (YF.fieldAddr fo_112_1 rfl rfl) (by decide) ?_
    first
      | refine TL.gno rfl (by decide) ?_
      | refine TL.gval rfl (YF.load (v := .pointer (some ⟨bsi, 0, none⟩)) 0 sc_86 rfl rfl (va_get (by decide) rfl)) (by decide) ?_
    first
      | refine TL.gno rfl (by decide) ?_
      | refine TL.gval rfl (YF.move rfl) (by decide) ?_
    first
      | refine TL.gno rfl (by decide) ?_
      | refine TL.gval rfl (YF.move rfl) (by decide) ?_
    first
      | refine TL.gno rfl (by decide) ?_
      | refine TL.gval rfl (YF.nilCheck rfl) (by decide) ?_
    first
      | refine TL.gno rfl (by decide) ?_
      | refine TL.gval rfl (YF.fieldAddr fo_114_8 rfl rfl) (by decide) ?_
    first
      | refine TL.gno rfl (by decide) ?_
      | refine TL.gval rfl (YF.indexArr arr_31 rfl rfl (by first | decide | omega) rfl) (by decide) ?_
    first
      | refine TL.gno rfl (by decide) ?_
      | refine TL.gval rfl (YF.indexArr arr_30 rfl rfl (by first | decide | omega) (show _ = 30 + 2 * g + c by omega)) (by decide) ?_
    first
      | refine TL.gno rfl (by decide) ?_
      | refine TL.gval rfl (YF.load (i + 2) sc_3 rfl hi (sd_int (by omega))) (by decide) ?_
    first
      | refine TL.gval rfl (YF.eql (b := true) rfl rfl (decide_eq_true h2)) (by decide) ?_
      | refine TL.gval rfl (YF.eql (b := false) rfl rfl (decide_eq_false h2)) (by decide) ?_
      | refine TL.gno rfl (by decide) ?_
    first
      | refine TL.val (YF.pickT rfl rfl) (by decide) ?_
      | refine TL.val (YF.pickF rfl rfl) (by decide) ?_
      | refine TL.val (YF.pick rfl rfl rfl rfl) (by decide) ?_
    refine TL.val (YF.move rfl) (by decide) ?_
    first
      | refine TL.gno rfl (by decide) ?_
      | refine TL.gval rfl (YF.move rfl) (by decide) ?_
    first
      | refine TL.gno rfl (by decide) ?_
      | refine TL.gval rfl (YF.nilCheck rfl) (by decide) ?_
    first
      | refine TL.gno rfl (by decide) ?_
      | refine TL.gval rfl (YF.fieldAddr fo_112_1 rfl rfl) (by decide) ?_
    first
      | refine TL.gno rfl (by decide) ?_
      | refine TL.gval rfl (YF.load (v := .pointer (some ⟨bsi, 0, none⟩)) 0 sc_86 rfl rfl (va_get (by decide) rfl)) (by decide) ?_
    first
      | refine TL.gno rfl (by decide) ?_
      | refine TL.gval rfl (YF.move rfl) (by decide) ?_
    first
      | refine TL.gno rfl (by decide) ?_
      | refine TL.gval rfl (YF.move rfl) (by decide) ?_
    first
      | refine TL.gno rfl (by decide) ?_
      | refine TL.gval rfl (YF.nilCheck rfl) (by decide) ?_
    first
      | refine TL.gno rfl (by decide) ?_
      | refine TL.gval rfl (YF.fieldAddr fo_114_9 rfl rfl) (by decide) ?_
    first
      | refine TL.gno rfl (by decide) ?_
      | refine TL.gval rfl (YF.indexArr arr_31 rfl rfl (by first | decide | omega) rfl) (by decide) ?_
    first
      | refine TL.gno rfl (by decide) ?_
      | refine TL.gval rfl (YF.indexArr arr_30 rfl rfl (by first | decide | omega) (show _ = 34 + 2 * g + c by omega)) (by decide) ?_
    first
      | refine TL.gno rfl (by decide) ?_
      | refine TL.gval rfl (YF.load (i + 2) sc_3 rfl hi (sd_int (by omega))) (by decide) ?_
    first
      | refine TL.gno rfl (by decide) ?_
      | refine TL.gval rfl (YF.eql rfl rfl rfl) (by decide) ?_
    first
      | refine TL.val (YF.pickT rfl rfl) (by decide) ?_
      | refine TL.val (YF.pickF rfl rfl) (by decide) ?_
      | refine TL.val (YF.pick rfl rfl rfl rfl) (by decide) ?_
    refine TL.end ?_
    refine Arr.seq ?_
    refine Tr.cutN (R := fun a w => Agree 207 [(0, .pointer (some ⟨bf, 0, none⟩)), (1, .int .i64 g), (2, .int .i64 c), (6, .int .i64 (lastOf s g c : Nat))] a ∧ HS w0 ((bf, .cells (va 3204 (ff wd (some ⟨bsi, 0, none⟩) bm)) 112 (0, 0)) :: (bm, .cells (va 2548 (zl z0 (244 + 576 * (2 * g + c)) x)) 91 (0, 0)) :: H) w) ?_ ?_
    ·
      refine Tr.condF rfl ?_
      refine Tr.skipE ?_
      refine Arr.meet ?_
      first
        | (have e : lastOf s g c = 2 := by
             unfold lastOf; rw [if_pos ⟨h1, h2⟩, if_neg (by omega)]
           rw [e]
           exact fun a w ha hw => ⟨(ha.cons rfl (ha.cons rfl (ha.cons rfl (ha.cons rfl (ha.nil))))), hw⟩)
        | (have e : lastOf s g c = 32 := by
             unfold lastOf; rw [if_neg (by first | exact fun hq => absurd hq.1 h1 | exact fun hq => absurd hq.2 h2)]
           rw [e]
           exact fun a w ha hw => ⟨(ha.cons rfl (ha.cons rfl (ha.cons rfl (ha.cons rfl (ha.nil))))), hw⟩)
        | (exfalso; omega)
    rintro a w ⟨ha, hw⟩
    have hl := lastOf_le s g c
    refine Arr.use ha hw ?_
    refine Arr.seq ?_
    refine Tr.seq ?_
    refine Tr.region ?_
    refine TL.val (YF.assign rfl) (by decide) ?_
    refine TL.end ?_
    refine Arr.seq ?_
    refine Tr.block ?_
    refine Tr.loop (I := fun mq a w => ∃ (t : Nat) (y : Nat → Nat), mq = 33 - t ∧ (1 ≤ t ∧ t ≤ lastOf s g c) ∧ (AI single (G / 1000000 + 1 / 10 ^ 30) (fun q => V single (x q)) x t 0 y) ∧ Agree 207 [(0, .pointer (some ⟨bf, 0, none⟩)), (1, .int .i64 g), (2, .int .i64 c), (6, .int .i64 (lastOf s g c : Nat)), (7, .int .i64 t)] a ∧ HS w0 ((bf, .cells (va 3204 (ff wd (some ⟨bsi, 0, none⟩) bm)) 112 (0, 0)) :: (bm, .cells (va 2548 (zl z0 (244 + 576 * (2 * g + c)) y)) 91 (0, 0)) :: H) w) (32) ?_ ?_
    · intro a w ha hw
      exact ⟨1, x, rfl, by omega, AI.zero, (ha.cons rfl (ha.cons rfl (ha.cons rfl (ha.cons rfl (ha.cons rfl (ha.nil)))))), hw⟩
    rintro _ a w ⟨t, y, rfl, ht, hA, ha, hw⟩
    refine Tr.use ha hw ?_
    refine Tr.seq ?_
    refine Tr.seq ?_
    refine Tr.region ?_
    refine TL.val (YF.move rfl) (by decide) ?_
    refine TL.val (YF.move rfl) (by decide) ?_
    refine TL.val (YF.lss rfl rfl rfl) (by decide) ?_
    refine TL.end ?_
    refine Arr.seq ?_
    refine Tr.cond rfl (fun h95 => ?_) (fun h95 => ?_)
    ·
      replace h95 := of_decide_eq_true h95
      refine Tr.skipE ?_
      refine Arr.seq ?_
      refine Tr.seq ?_
      refine Tr.block ?_
      refine Tr.seq ?_
      refine Tr.region ?_
      refine TL.val (YF.assign rfl) (by decide) ?_
      refine TL.end ?_
      refine Arr.seq ?_
      refine Tr.block ?_
      refine Tr.loop (I := fun mq a w => ∃ (j : Nat) (y : Nat → Nat), mq = 8 - j ∧ (j ≤ 8) ∧ (AI single (G / 1000000 + 1 / 10 ^ 30) (fun q => V single (x q)) x t j y) ∧ Agree 207 [(0, .pointer (some ⟨bf, 0, none⟩)), (1, .int .i64 g), (2, .int .i64 c), (6, .int .i64 (lastOf s g c : Nat)), (7, .int .i64 t), (8, .int .i64 j)] a ∧ HS w0 ((bf, .cells (va 3204 (ff wd (some ⟨bsi, 0, none⟩) bm)) 112 (0, 0)) :: (bm, .cells (va 2548 (zl z0 (244 + 576 * (2 * g + c)) y)) 91 (0, 0)) :: H) w) (8) ?_ ?_
      · intro a w ha hw
        exact ⟨0, y, rfl, by omega, hA, (ha.cons rfl (ha.cons rfl (ha.cons rfl (ha.cons rfl (ha.cons rfl (ha.cons rfl (ha.nil))))))), hw⟩
      rintro _ a w ⟨j, y, rfl, hj, hA, ha, hw⟩
      refine Tr.use ha hw ?_
      refine Tr.seq ?_
      refine Tr.seq ?_
      refine Tr.region ?_
      refine TL.val (YF.move rfl) (by decide) ?_
      refine TL.val (YF.lss rfl rfl rfl) (by decide) ?_
      refine TL.end ?_
      refine Arr.seq ?_
      refine Tr.cond rfl (fun h99 => ?_) (fun h99 => ?_)
      ·
        replace h99 := of_decide_eq_true h99
        refine Tr.skipE ?_
        refine Arr.seq ?_
        refine Tr.seq ?_
        refine Tr.block ?_
        refine Tr.seq ?_
        refine Tr.region ?_
        refine TL.val (YF.move rfl) (by decide) ?_
        refine TL.val (YF.mul rfl rfl (IntWalk.i64_in _ (by omega))) (by decide) ?_
        refine TL.val (YF.sub rfl rfl (IntWalk.i64_in _ (by omega))) (by decide) ?_
        refine TL.val (YF.move rfl) (by decide) ?_
        refine TL.val (YF.sub rfl rfl (IntWalk.i64_in _ (by omega))) (by decide) ?_
        refine TL.val (YF.assign rfl) (by decide) ?_
        refine TL.end ?_
        refine Arr.seq ?_
        refine Tr.seq ?_
        refine Tr.region ?_
        refine TL.val (YF.move rfl) (by decide) ?_
        refine TL.val (YF.mul rfl rfl (IntWalk.i64_in _ (by omega))) (by decide) ?_
        refine TL.val (YF.move rfl) (by decide) ?_
        refine TL.val (YF.add rfl rfl (IntWalk.i64_in _ (by omega))) (by decide) ?_
        refine TL.val (YF.assign rfl) (by decide) ?_
        refine TL.end ?_
        refine Arr.seq ?_
        refine Tr.seq ?_
        have hlo := hA.low (show 1 ≤ t ∧ t < 32 by omega) (show j < 8 by omega)
        have hhi := hA.high (show 1 ≤ t ∧ t < 32 by omega) (show j < 8 by omega)
        obtain ⟨v1, v2, r, v4, v5, r', e1, e2, e3, e4, e5, e6, r1, r2⟩ := turn_impl (show j < 8 by omega) (hx (18 * t - 1 - j) (by omega)).1 (hx (18 * t + j) (by omega)).1 hG0 hG (hx (18 * t - 1 - j) (by omega)).2 (hx (18 * t + j) (by omega)).2
        refine Tr.drawE (_ :: _ :: _) (fun H => H) rfl mixed_ ?_
        refine TD.take 0 rfl (by kernel_rfl) (by kernel_rfl) (by kernel_rfl) (fun _ _ _ h => h) (by repeat first | exact List.Sublist.refl _ | apply List.Sublist.cons_cons | apply List.Sublist.cons) (YF.move rfl) (by decide) ?_
        refine TD.take 1 rfl (by kernel_rfl) (by kernel_rfl) (by kernel_rfl) (fun _ _ _ h => h) (by repeat first | exact List.Sublist.refl _ | apply List.Sublist.cons_cons | apply List.Sublist.cons) (YF.nilCheck rfl) (by decide) ?_
        refine TD.take 2 rfl (by kernel_rfl) (by kernel_rfl) (by kernel_rfl) (fun _ _ _ h => h) (by repeat first | exact List.Sublist.refl _ | apply List.Sublist.cons_cons | apply List.Sublist.cons) (YF.fieldAddr fo_112_2 rfl rfl) (by decide) ?_
        refine TD.take 3 rfl (by kernel_rfl) (by kernel_rfl) (by kernel_rfl) (fun _ _ _ h => h) (by repeat first | exact List.Sublist.refl _ | apply List.Sublist.cons_cons | apply List.Sublist.cons) (YF.load (v := .pointer (some ⟨bm, 0, none⟩)) 0 sc_106 rfl rfl (va_get (by decide) rfl)) (by decide) ?_
        refine TD.take 4 rfl (by kernel_rfl) (by kernel_rfl) (by kernel_rfl) (fun _ _ _ h => h) (by repeat first | exact List.Sublist.refl _ | apply List.Sublist.cons_cons | apply List.Sublist.cons) (YF.move rfl) (by decide) ?_
        refine TD.take 5 rfl (by kernel_rfl) (by kernel_rfl) (by kernel_rfl) (fun _ _ _ h => h) (by repeat first | exact List.Sublist.refl _ | apply List.Sublist.cons_cons | apply List.Sublist.cons) (YF.move rfl) (by decide) ?_
        refine TD.take 6 rfl (by kernel_rfl) (by kernel_rfl) (by kernel_rfl) (fun _ _ _ h => h) (by repeat first | exact List.Sublist.refl _ | apply List.Sublist.cons_cons | apply List.Sublist.cons) (YF.move rfl) (by decide) ?_
        refine TD.take 7 rfl (by kernel_rfl) (by kernel_rfl) (by kernel_rfl) (fun _ _ _ h => h) (by repeat first | exact List.Sublist.refl _ | apply List.Sublist.cons_cons | apply List.Sublist.cons) (YF.nilCheck rfl) (by decide) ?_
        refine TD.take 8 rfl (by kernel_rfl) (by kernel_rfl) (by kernel_rfl) (fun _ _ _ h => h) (by repeat first | exact List.Sublist.refl _ | apply List.Sublist.cons_cons | apply List.Sublist.cons) (YF.fieldAddr fo_91_2 rfl rfl) (by decide) ?_
        refine TD.take 9 rfl (by kernel_rfl) (by kernel_rfl) (by kernel_rfl) (fun _ _ _ h => h) (by repeat first | exact List.Sublist.refl _ | apply List.Sublist.cons_cons | apply List.Sublist.cons) (YF.indexArr arr_89 rfl rfl (by first | decide | omega) rfl) (by decide) ?_
        refine TD.take 10 rfl (by kernel_rfl) (by kernel_rfl) (by kernel_rfl) (fun _ _ _ h => h) (by repeat first | exact List.Sublist.refl _ | apply List.Sublist.cons_cons | apply List.Sublist.cons) (YF.indexArr arr_88 rfl rfl (by first | decide | omega) rfl) (by decide) ?_
        refine TD.take 11 rfl (by kernel_rfl) (by kernel_rfl) (by kernel_rfl) (fun _ _ _ h => h) (by repeat first | exact List.Sublist.refl _ | apply List.Sublist.cons_cons | apply List.Sublist.cons) (YF.indexArr arr_84 rfl rfl (by first | decide | omega) (show _ = 244 + 576 * (2 * g + c) + (18 * t - 1 - j) by omega)) (by decide) ?_
        refine TD.take 12 rfl (by kernel_rfl) (by kernel_rfl) (by kernel_rfl) (fun _ _ _ h => h) (by repeat first | exact List.Sublist.refl _ | apply List.Sublist.cons_cons | apply List.Sublist.cons) (YF.load (v := .float .f32 (x (18 * t - 1 - j))) 1 sc_82 rfl rfl (by rw [← hlo]; exact zl_get (by omega) rfl (by omega))) (by decide) ?_
        refine TD.take 13 rfl (by kernel_rfl) (by kernel_rfl) (by kernel_rfl) (fun _ _ _ h => h) (by repeat first | exact List.Sublist.refl _ | apply List.Sublist.cons_cons | apply List.Sublist.cons) (YF.move rfl) (by decide) ?_
        refine TD.take 14 rfl (by kernel_rfl) (by kernel_rfl) (by kernel_rfl) (fun _ _ _ h => h) (by repeat first | exact List.Sublist.refl _ | apply List.Sublist.cons_cons | apply List.Sublist.cons) (YF.indexArr arr_117 rfl rfl (by first | decide | omega) (show _ = j by omega)) (by decide) ?_
        refine TD.take 15 rfl (by kernel_rfl) (by kernel_rfl) (by kernel_rfl) (fun _ _ _ h => h) (by repeat first | exact List.Sublist.refl _ | apply List.Sublist.cons_cons | apply List.Sublist.cons) (YF.load_old sc_82 rfl (hcs j (by omega))) (by decide) ?_
        refine TD.take 16 rfl (by kernel_rfl) (by kernel_rfl) (by kernel_rfl) (fun _ _ _ h => h) (by repeat first | exact List.Sublist.refl _ | apply List.Sublist.cons_cons | apply List.Sublist.cons) (YF.farith rfl rfl e1) (by decide) ?_
        refine TD.take 17 rfl (by kernel_rfl) (by kernel_rfl) (by kernel_rfl) (fun _ _ _ h => h) (by repeat first | exact List.Sublist.refl _ | apply List.Sublist.cons_cons | apply List.Sublist.cons) (YF.move rfl) (by decide) ?_
        refine TD.take 18 rfl (by kernel_rfl) (by kernel_rfl) (by kernel_rfl) (fun _ _ _ h => h) (by repeat first | exact List.Sublist.refl _ | apply List.Sublist.cons_cons | apply List.Sublist.cons) (YF.nilCheck rfl) (by decide) ?_
        refine TD.take 19 rfl (by kernel_rfl) (by kernel_rfl) (by kernel_rfl) (fun _ _ _ h => h) (by repeat first | exact List.Sublist.refl _ | apply List.Sublist.cons_cons | apply List.Sublist.cons) (YF.fieldAddr fo_112_2 rfl rfl) (by decide) ?_
        refine TD.take 20 rfl (by kernel_rfl) (by kernel_rfl) (by kernel_rfl) (fun _ _ _ h => h) (by repeat first | exact List.Sublist.refl _ | apply List.Sublist.cons_cons | apply List.Sublist.cons) (YF.load (v := .pointer (some ⟨bm, 0, none⟩)) 0 sc_106 rfl rfl (va_get (by decide) rfl)) (by decide) ?_
        refine TD.take 21 rfl (by kernel_rfl) (by kernel_rfl) (by kernel_rfl) (fun _ _ _ h => h) (by repeat first | exact List.Sublist.refl _ | apply List.Sublist.cons_cons | apply List.Sublist.cons) (YF.move rfl) (by decide) ?_
        refine TD.take 22 rfl (by kernel_rfl) (by kernel_rfl) (by kernel_rfl) (fun _ _ _ h => h) (by repeat first | exact List.Sublist.refl _ | apply List.Sublist.cons_cons | apply List.Sublist.cons) (YF.move rfl) (by decide) ?_
        refine TD.take 23 rfl (by kernel_rfl) (by kernel_rfl) (by kernel_rfl) (fun _ _ _ h => h) (by repeat first | exact List.Sublist.refl _ | apply List.Sublist.cons_cons | apply List.Sublist.cons) (YF.move rfl) (by decide) ?_
        refine TD.take 24 rfl (by kernel_rfl) (by kernel_rfl) (by kernel_rfl) (fun _ _ _ h => h) (by repeat first | exact List.Sublist.refl _ | apply List.Sublist.cons_cons | apply List.Sublist.cons) (YF.nilCheck rfl) (by decide) ?_
        refine TD.take 25 rfl (by kernel_rfl) (by kernel_rfl) (by kernel_rfl) (fun _ _ _ h => h) (by repeat first | exact List.Sublist.refl _ | apply List.Sublist.cons_cons | apply List.Sublist.cons) (YF.fieldAddr fo_91_2 rfl rfl) (by decide) ?_
        refine TD.take 26 rfl (by kernel_rfl) (by kernel_rfl) (by kernel_rfl) (fun _ _ _ h => h) (by repeat first | exact List.Sublist.refl _ | apply List.Sublist.cons_cons | apply List.Sublist.cons) (YF.indexArr arr_89 rfl rfl (by first | decide | omega) rfl) (by decide) ?_
        refine TD.take 27 rfl (by kernel_rfl) (by kernel_rfl) (by kernel_rfl) (fun _ _ _ h => h) (by repeat first | exact List.Sublist.refl _ | apply List.Sublist.cons_cons | apply List.Sublist.cons) (YF.indexArr arr_88 rfl rfl (by first | decide | omega) rfl) (by decide) ?_
        refine TD.take 28 rfl (by kernel_rfl) (by kernel_rfl) (by kernel_rfl) (fun _ _ _ h => h) (by repeat first | exact List.Sublist.refl _ | apply List.Sublist.cons_cons | apply List.Sublist.cons) (YF.indexArr arr_84 rfl rfl (by first | decide | omega) (show _ = 244 + 576 * (2 * g + c) + (18 * t + j) by omega)) (by decide) ?_
        refine TD.take 29 rfl (by kernel_rfl) (by kernel_rfl) (by kernel_rfl) (fun _ _ _ h => h) (by repeat first | exact List.Sublist.refl _ | apply List.Sublist.cons_cons | apply List.Sublist.cons) (YF.load (v := .float .f32 (x (18 * t + j))) 1 sc_82 rfl rfl (by rw [← hhi]; exact zl_get (by omega) rfl (by omega))) (by decide) ?_
        refine TD.take 30 rfl (by kernel_rfl) (by kernel_rfl) (by kernel_rfl) (fun _ _ _ h => h) (by repeat first | exact List.Sublist.refl _ | apply List.Sublist.cons_cons | apply List.Sublist.cons) (YF.move rfl) (by decide) ?_
        refine TD.take 31 rfl (by kernel_rfl) (by kernel_rfl) (by kernel_rfl) (fun _ _ _ h => h) (by repeat first | exact List.Sublist.refl _ | apply List.Sublist.cons_cons | apply List.Sublist.cons) (YF.indexArr arr_117 rfl rfl (by first | decide | omega) (show _ = j by omega)) (by decide) ?_
        refine TD.take 32 rfl (by kernel_rfl) (by kernel_rfl) (by kernel_rfl) (fun _ _ _ h => h) (by repeat first | exact List.Sublist.refl _ | apply List.Sublist.cons_cons | apply List.Sublist.cons) (YF.load_old sc_82 rfl (hca j (by omega))) (by decide) ?_
        refine TD.take 33 rfl (by kernel_rfl) (by kernel_rfl) (by kernel_rfl) (fun _ _ _ h => h) (by repeat first | exact List.Sublist.refl _ | apply List.Sublist.cons_cons | apply List.Sublist.cons) (YF.farith rfl rfl e2) (by decide) ?_
        refine TD.take 34 rfl (by kernel_rfl) (by kernel_rfl) (by kernel_rfl) (fun _ _ _ h => h) (by repeat first | exact List.Sublist.refl _ | apply List.Sublist.cons_cons | apply List.Sublist.cons) (YF.farith rfl rfl e3) (by decide) ?_
        refine TD.take 35 rfl (by kernel_rfl) (by kernel_rfl) (by kernel_rfl) (fun _ _ _ h => h) (by repeat first | exact List.Sublist.refl _ | apply List.Sublist.cons_cons | apply List.Sublist.cons) (YF.assign rfl) (by decide) ?_
        refine TD.end (by kernel_rfl) ?_
        refine Arr.seq ?_
        refine Tr.seq ?_
        refine Tr.drawE (_ :: _ :: _) (fun H => H) rfl mixed_ ?_
        refine TD.take 0 rfl (by kernel_rfl) (by kernel_rfl) (by kernel_rfl) (fun _ _ _ h => h) (by repeat first | exact List.Sublist.refl _ | apply List.Sublist.cons_cons | apply List.Sublist.cons) (YF.move rfl) (by decide) ?_
        refine TD.take 1 rfl (by kernel_rfl) (by kernel_rfl) (by kernel_rfl) (fun _ _ _ h => h) (by repeat first | exact List.Sublist.refl _ | apply List.Sublist.cons_cons | apply List.Sublist.cons) (YF.nilCheck rfl) (by decide) ?_
        refine TD.take 2 rfl (by kernel_rfl) (by kernel_rfl) (by kernel_rfl) (fun _ _ _ h => h) (by repeat first | exact List.Sublist.refl _ | apply List.Sublist.cons_cons | apply List.Sublist.cons) (YF.fieldAddr fo_112_2 rfl rfl) (by decide) ?_
        refine TD.take 3 rfl (by kernel_rfl) (by kernel_rfl) (by kernel_rfl) (fun _ _ _ h => h) (by repeat first | exact List.Sublist.refl _ | apply List.Sublist.cons_cons | apply List.Sublist.cons) (YF.load (v := .pointer (some ⟨bm, 0, none⟩)) 0 sc_106 rfl rfl (va_get (by decide) rfl)) (by decide) ?_
        refine TD.take 4 rfl (by kernel_rfl) (by kernel_rfl) (by kernel_rfl) (fun _ _ _ h => h) (by repeat first | exact List.Sublist.refl _ | apply List.Sublist.cons_cons | apply List.Sublist.cons) (YF.move rfl) (by decide) ?_
        refine TD.take 5 rfl (by kernel_rfl) (by kernel_rfl) (by kernel_rfl) (fun _ _ _ h => h) (by repeat first | exact List.Sublist.refl _ | apply List.Sublist.cons_cons | apply List.Sublist.cons) (YF.move rfl) (by decide) ?_
        refine TD.take 6 rfl (by kernel_rfl) (by kernel_rfl) (by kernel_rfl) (fun _ _ _ h => h) (by repeat first | exact List.Sublist.refl _ | apply List.Sublist.cons_cons | apply List.Sublist.cons) (YF.move rfl) (by decide) ?_
        refine TD.take 7 rfl (by kernel_rfl) (by kernel_rfl) (by kernel_rfl) (fun _ _ _ h => h) (by repeat first | exact List.Sublist.refl _ | apply List.Sublist.cons_cons | apply List.Sublist.cons) (YF.nilCheck rfl) (by decide) ?_
        refine TD.take 8 rfl (by kernel_rfl) (by kernel_rfl) (by kernel_rfl) (fun _ _ _ h => h) (by repeat first | exact List.Sublist.refl _ | apply List.Sublist.cons_cons | apply List.Sublist.cons) (YF.fieldAddr fo_91_2 rfl rfl) (by decide) ?_
        refine TD.take 9 rfl (by kernel_rfl) (by kernel_rfl) (by kernel_rfl) (fun _ _ _ h => h) (by repeat first | exact List.Sublist.refl _ | apply List.Sublist.cons_cons | apply List.Sublist.cons) (YF.indexArr arr_89 rfl rfl (by first | decide | omega) rfl) (by decide) ?_
        refine TD.take 10 rfl (by kernel_rfl) (by kernel_rfl) (by kernel_rfl) (fun _ _ _ h => h) (by repeat first | exact List.Sublist.refl _ | apply List.Sublist.cons_cons | apply List.Sublist.cons) (YF.indexArr arr_88 rfl rfl (by first | decide | omega) rfl) (by decide) ?_
        refine TD.take 11 rfl (by kernel_rfl) (by kernel_rfl) (by kernel_rfl) (fun _ _ _ h => h) (by repeat first | exact List.Sublist.refl _ | apply List.Sublist.cons_cons | apply List.Sublist.cons) (YF.indexArr arr_84 rfl rfl (by first | decide | omega) (show _ = 244 + 576 * (2 * g + c) + (18 * t + j) by omega)) (by decide) ?_
        refine TD.take 12 rfl (by kernel_rfl) (by kernel_rfl) (by kernel_rfl) (fun _ _ _ h => h) (by repeat first | exact List.Sublist.refl _ | apply List.Sublist.cons_cons | apply List.Sublist.cons) (YF.load (v := .float .f32 (x (18 * t + j))) 1 sc_82 rfl rfl (by rw [← hhi]; exact zl_get (by omega) rfl (by omega))) (by decide) ?_
        refine TD.take 13 rfl (by kernel_rfl) (by kernel_rfl) (by kernel_rfl) (fun _ _ _ h => h) (by repeat first | exact List.Sublist.refl _ | apply List.Sublist.cons_cons | apply List.Sublist.cons) (YF.move rfl) (by decide) ?_
        refine TD.take 14 rfl (by kernel_rfl) (by kernel_rfl) (by kernel_rfl) (fun _ _ _ h => h) (by repeat first | exact List.Sublist.refl _ | apply List.Sublist.cons_cons | apply List.Sublist.cons) (YF.indexArr arr_117 rfl rfl (by first | decide | omega) (show _ = j by omega)) (by decide) ?_
        refine TD.take 15 rfl (by kernel_rfl) (by kernel_rfl) (by kernel_rfl) (fun _ _ _ h => h) (by repeat first | exact List.Sublist.refl _ | apply List.Sublist.cons_cons | apply List.Sublist.cons) (YF.load_old sc_82 rfl (hcs j (by omega))) (by decide) ?_
        refine TD.take 16 rfl (by kernel_rfl) (by kernel_rfl) (by kernel_rfl) (fun _ _ _ h => h) (by repeat first | exact List.Sublist.refl _ | apply List.Sublist.cons_cons | apply List.Sublist.cons) (YF.farith rfl rfl e4) (by decide) ?_
        refine TD.take 17 rfl (by kernel_rfl) (by kernel_rfl) (by kernel_rfl) (fun _ _ _ h => h) (by repeat first | exact List.Sublist.refl _ | apply List.Sublist.cons_cons | apply List.Sublist.cons) (YF.move rfl) (by decide) ?_
        refine TD.take 18 rfl (by kernel_rfl) (by kernel_rfl) (by kernel_rfl) (fun _ _ _ h => h) (by repeat first | exact List.Sublist.refl _ | apply List.Sublist.cons_cons | apply List.Sublist.cons) (YF.nilCheck rfl) (by decide) ?_
        refine TD.take 19 rfl (by kernel_rfl) (by kernel_rfl) (by kernel_rfl) (fun _ _ _ h => h) (by repeat first | exact List.Sublist.refl _ | apply List.Sublist.cons_cons | apply List.Sublist.cons) (YF.fieldAddr fo_112_2 rfl rfl) (by decide) ?_
        refine TD.take 20 rfl (by kernel_rfl) (by kernel_rfl) (by kernel_rfl) (fun _ _ _ h => h) (by repeat first | exact List.Sublist.refl _ | apply List.Sublist.cons_cons | apply List.Sublist.cons) (YF.load (v := .pointer (some ⟨bm, 0, none⟩)) 0 sc_106 rfl rfl (va_get (by decide) rfl)) (by decide) ?_
        refine TD.take 21 rfl (by kernel_rfl) (by kernel_rfl) (by kernel_rfl) (fun _ _ _ h => h) (by repeat first | exact List.Sublist.refl _ | apply List.Sublist.cons_cons | apply List.Sublist.cons) (YF.move rfl) (by decide) ?_
        refine TD.take 22 rfl (by kernel_rfl) (by kernel_rfl) (by kernel_rfl) (fun _ _ _ h => h) (by repeat first | exact List.Sublist.refl _ | apply List.Sublist.cons_cons | apply List.Sublist.cons) (YF.move rfl) (by decide) ?_
        refine TD.take 23 rfl (by kernel_rfl) (by kernel_rfl) (by kernel_rfl) (fun _ _ _ h => h) (by repeat first | exact List.Sublist.refl _ | apply List.Sublist.cons_cons | apply List.Sublist.cons) (YF.move rfl) (by decide) ?_
        refine TD.take 24 rfl (by kernel_rfl) (by kernel_rfl) (by kernel_rfl) (fun _ _ _ h => h) (by repeat first | exact List.Sublist.refl _ | apply List.Sublist.cons_cons | apply List.Sublist.cons) (YF.nilCheck rfl) (by decide) ?_
        refine TD.take 25 rfl (by kernel_rfl) (by kernel_rfl) (by kernel_rfl) (fun _ _ _ h => h) (by repeat first | exact List.Sublist.refl _ | apply List.Sublist.cons_cons | apply List.Sublist.cons) (YF.fieldAddr fo_91_2 rfl rfl) (by decide) ?_
        refine TD.take 26 rfl (by kernel_rfl) (by kernel_rfl) (by kernel_rfl) (fun _ _ _ h => h) (by repeat first | exact List.Sublist.refl _ | apply List.Sublist.cons_cons | apply List.Sublist.cons) (YF.indexArr arr_89 rfl rfl (by first | decide | omega) rfl) (by decide) ?_
        refine TD.take 27 rfl (by kernel_rfl) (by kernel_rfl) (by kernel_rfl) (fun _ _ _ h => h) (by repeat first | exact List.Sublist.refl _ | apply List.Sublist.cons_cons | apply List.Sublist.cons) (YF.indexArr arr_88 rfl rfl (by first | decide | omega) rfl) (by decide) ?_
        refine TD.take 28 rfl (by kernel_rfl) (by kernel_rfl) (by kernel_rfl) (fun _ _ _ h => h) (by repeat first | exact List.Sublist.refl _ | apply List.Sublist.cons_cons | apply List.Sublist.cons) (YF.indexArr arr_84 rfl rfl (by first | decide | omega) (show _ = 244 + 576 * (2 * g + c) + (18 * t - 1 - j) by omega)) (by decide) ?_
        refine TD.take 29 rfl (by kernel_rfl) (by kernel_rfl) (by kernel_rfl) (fun _ _ _ h => h) (by repeat first | exact List.Sublist.refl _ | apply List.Sublist.cons_cons | apply List.Sublist.cons) (YF.load (v := .float .f32 (x (18 * t - 1 - j))) 1 sc_82 rfl rfl (by rw [← hlo]; exact zl_get (by omega) rfl (by omega))) (by decide) ?_
        refine TD.take 30 rfl (by kernel_rfl) (by kernel_rfl) (by kernel_rfl) (fun _ _ _ h => h) (by repeat first | exact List.Sublist.refl _ | apply List.Sublist.cons_cons | apply List.Sublist.cons) (YF.move rfl) (by decide) ?_
        refine TD.take 31 rfl (by kernel_rfl) (by kernel_rfl) (by kernel_rfl) (fun _ _ _ h => h) (by repeat first | exact List.Sublist.refl _ | apply List.Sublist.cons_cons | apply List.Sublist.cons) (YF.indexArr arr_117 rfl rfl (by first | decide | omega) (show _ = j by omega)) (by decide) ?_
        refine TD.take 32 rfl (by kernel_rfl) (by kernel_rfl) (by kernel_rfl) (fun _ _ _ h => h) (by repeat first | exact List.Sublist.refl _ | apply List.Sublist.cons_cons | apply List.Sublist.cons) (YF.load_old sc_82 rfl (hca j (by omega))) (by decide) ?_
        refine TD.take 33 rfl (by kernel_rfl) (by kernel_rfl) (by kernel_rfl) (fun _ _ _ h => h) (by repeat first | exact List.Sublist.refl _ | apply List.Sublist.cons_cons | apply List.Sublist.cons) (YF.farith rfl rfl e5) (by decide) ?_
        refine TD.take 34 rfl (by kernel_rfl) (by kernel_rfl) (by kernel_rfl) (fun _ _ _ h => h) (by repeat first | exact List.Sublist.refl _ | apply List.Sublist.cons_cons | apply List.Sublist.cons) (YF.farith rfl rfl e6) (by decide) ?_
        refine TD.take 35 rfl (by kernel_rfl) (by kernel_rfl) (by kernel_rfl) (fun _ _ _ h => h) (by repeat first | exact List.Sublist.refl _ | apply List.Sublist.cons_cons | apply List.Sublist.cons) (YF.assign rfl) (by decide) ?_
        refine TD.end (by kernel_rfl) ?_
        refine Arr.seq ?_
        refine Tr.seq ?_
        refine Tr.region ?_
        refine TL.val (YF.move rfl) (by decide) ?_
        refine TL.val (YF.nilCheck rfl) (by decide) ?_
        refine TL.val (YF.fieldAddr fo_112_2 rfl rfl) (by decide) ?_
        refine TL.val (YF.load (v := .pointer (some ⟨bm, 0, none⟩)) 0 sc_106 rfl rfl (va_get (by decide) rfl)) (by decide) ?_
        refine TL.val (YF.move rfl) (by decide) ?_
        refine TL.val (YF.move rfl) (by decide) ?_
        refine TL.val (YF.move rfl) (by decide) ?_
        refine TL.val (YF.move rfl) (by decide) ?_
        refine TL.val (YF.nilCheck rfl) (by decide) ?_
        refine TL.val (YF.fieldAddr fo_91_2 rfl rfl) (by decide) ?_
        refine TL.val (YF.indexArr arr_89 rfl rfl (by first | decide | omega) rfl) (by decide) ?_
        refine TL.val (YF.indexArr arr_88 rfl rfl (by first | decide | omega) rfl) (by decide) ?_
        refine TL.val (YF.indexArr arr_84 rfl rfl (by first | decide | omega) (show _ = 244 + 576 * (2 * g + c) + (18 * t - 1 - j) by omega)) (by decide) ?_
        refine TL.storeV 1 (_ :: _ :: _) rfl rfl rfl sz_82 rfl (by rw [va_size]; omega) (zl_set (k := 18 * t - 1 - j) (by omega) rfl) rfl ?_
        refine TL.end ?_
        refine Arr.seq ?_
        refine Tr.region ?_
        refine TL.val (YF.move rfl) (by decide) ?_
        refine TL.val (YF.nilCheck rfl) (by decide) ?_
        refine TL.val (YF.fieldAddr fo_112_2 rfl rfl) (by decide) ?_
        refine TL.val (YF.load (v := .pointer (some ⟨bm, 0, none⟩)) 0 sc_106 rfl rfl (va_get (by decide) rfl)) (by decide) ?_
        refine TL.val (YF.move rfl) (by decide) ?_
        refine TL.val (YF.move rfl) (by decide) ?_
        refine TL.val (YF.move rfl) (by decide) ?_
        refine TL.val (YF.move rfl) (by decide) ?_
        refine TL.val (YF.nilCheck rfl) (by decide) ?_
        refine TL.val (YF.fieldAddr fo_91_2 rfl rfl) (by decide) ?_
        refine TL.val (YF.indexArr arr_89 rfl rfl (by first | decide | omega) rfl) (by decide) ?_
        refine TL.val (YF.indexArr arr_88 rfl rfl (by first | decide | omega) rfl) (by decide) ?_
        refine TL.val (YF.indexArr arr_84 rfl rfl (by first | decide | omega) (show _ = 244 + 576 * (2 * g + c) + (18 * t + j) by omega)) (by decide) ?_
        refine TL.storeV 1 (_ :: _ :: _) rfl rfl rfl sz_82 rfl (by rw [va_size]; omega) (zl_set (k := 18 * t + j) (by omega) rfl) rfl ?_
        refine TL.end ?_
        refine Arr.block ?_
        refine Arr.seq ?_
        refine Tr.region ?_
        refine TL.val (YF.move rfl) (by decide) ?_
        refine TL.val (YF.add rfl rfl (IntWalk.i64_in _ (by omega))) (by decide) ?_
        refine TL.val (YF.assign rfl) (by decide) ?_
        refine TL.end ?_
        exact fun a w ha hw => ⟨_, by omega, j + 1, upd (upd y (18 * t - 1 - j) r) (18 * t + j) r', rfl, by omega, hA.step (by omega) (by omega) r1 r2, (ha.cons rfl (ha.cons rfl (ha.cons rfl (ha.cons rfl (ha.cons rfl (ha.cons rfl (ha.nil))))))), hw⟩
      ·
        replace h99 := of_decide_eq_false h99
        refine Tr.exitE ?_
        refine Arr.seqX ?_
        refine Arr.seqX ?_
        refine Arr.blockE ?_
        refine Arr.block ?_
        refine Arr.seq ?_
        refine Tr.region ?_
        refine TL.val (YF.move rfl) (by decide) ?_
        refine TL.val (YF.add rfl rfl (IntWalk.i64_in _ (by omega))) (by decide) ?_
        refine TL.val (YF.assign rfl) (by decide) ?_
        refine TL.end ?_
        exact fun a w ha hw => ⟨_, by omega, t + 1, y, rfl, by omega, (by have e : j = 8 := (by omega); subst e; exact hA.next), (ha.cons rfl (ha.cons rfl (ha.cons rfl (ha.cons rfl (ha.cons rfl (ha.nil)))))), hw⟩
    ·
      replace h95 := of_decide_eq_false h95
      refine Tr.exitE ?_
      refine Arr.seqX ?_
      refine Arr.seqX ?_
      refine Arr.blockE ?_
      exact Ends.noRes rfl ⟨y, (by have e : t = lastOf s g c := (by omega); rw [← e]; exact hA), rfl⟩
  ·
    first
      | refine TL.val (YF.eql (b := true) rfl rfl (decide_eq_true h1)) (by decide) ?_
      | refine TL.val (YF.eql (b := false) rfl rfl (decide_eq_false h1)) (by decide) ?_
    refine TL.val (YF.move rfl) (by decide) ?_
    first
      | refine TL.gno rfl (by decide) ?_
      | refine TL.gval rfl (YF.move rfl) (by decide) ?_
    first
      | refine TL.gno rfl (by decide) ?_
      | refine TL.gval rfl (YF.nilCheck rfl) (by decide) ?_
    first
      | refine TL.gno rfl (by decide) ?_
      | refine TL.gval rfl (YF.fieldAddr fo_112_1 rfl rfl) (by decide) ?_
    first
      | refine TL.gno rfl (by decide) ?_
      | refine TL.gval rfl (YF.load (v := .pointer (some ⟨bsi, 0, none⟩)) 0 sc_86 rfl rfl (va_get (by decide) rfl)) (by decide) ?_
    first
      | refine TL.gno rfl (by decide) ?_
      | refine TL.gval rfl (YF.move rfl) (by decide) ?_
    first
      | refine TL.gno rfl (by decide) ?_
      | refine TL.gval rfl (YF.move rfl) (by decide) ?_
    first
      | refine TL.gno rfl (by decide) ?_
      | refine TL.gval rfl (YF.nilCheck rfl) (by decide) ?_
    first
      | refine TL.gno rfl (by decide) ?_
      | refine TL.gval rfl (YF.fieldAddr fo_114_8 rfl rfl) (by decide) ?_
    first
      | refine TL.gno rfl (by decide) ?_
      | refine TL.gval rfl (YF.indexArr arr_31 rfl rfl (by first | decide | omega) rfl) (by decide) ?_
    first
      | refine TL.gno rfl (by decide) ?_
      | refine TL.gval rfl (YF.indexArr arr_30 rfl rfl (by first | decide | omega) (show _ = 30 + 2 * g + c by omega)) (by decide) ?_
    first
      | refine TL.gno rfl (by decide) ?_
      | refine TL.gval rfl (YF.load (i + 2) sc_3 rfl hi (sd_int (by omega))) (by decide) ?_
    first
      | refine TL.gval rfl (YF.eql (b := true) rfl rfl (decide_eq_true h2)) (by decide) ?_
      | refine TL.gval rfl (YF.eql (b := false) rfl rfl (decide_eq_false h2)) (by decide) ?_
      | refine TL.gno rfl (by decide) ?_
    first
      | refine TL.val (YF.pickT rfl rfl) (by decide) ?_
      | refine TL.val (YF.pickF rfl rfl) (by decide) ?_
      | refine TL.val (YF.pick rfl rfl rfl rfl) (by decide) ?_
    refine TL.val (YF.move rfl) (by decide) ?_
    first
      | refine TL.gno rfl (by decide) ?_
      | refine TL.gval rfl (YF.move rfl) (by decide) ?_
    first
      | refine TL.gno rfl (by decide) ?_
      | refine TL.gval rfl (YF.nilCheck rfl) (by decide) ?_
    first
      | refine TL.gno rfl (by decide) ?_
      | refine TL.gval rfl (YF.fieldAddr fo_112_1 rfl rfl) (by decide) ?_
    first
      | refine TL.gno rfl (by decide) ?_
      | refine TL.gval rfl (YF.load (v := .pointer (some ⟨bsi, 0, none⟩)) 0 sc_86 rfl rfl (va_get (by decide) rfl)) (by decide) ?_
    first
      | refine TL.gno rfl (by decide) ?_
      | refine TL.gval rfl (YF.move rfl) (by decide) ?_
    first
      | refine TL.gno rfl (by decide) ?_
      | refine TL.gval rfl (YF.move rfl) (by decide) ?_
    first
      | refine TL.gno rfl (by decide) ?_
      | refine TL.gval rfl (YF.nilCheck rfl) (by decide) ?_
    first
      | refine TL.gno rfl (by decide) ?_
      | refine TL.gval rfl (YF.fieldAddr fo_114_9 rfl rfl) (by decide) ?_
    first
      | refine TL.gno rfl (by decide) ?_
      | refine TL.gval rfl (YF.indexArr arr_31 rfl rfl (by first | decide | omega) rfl) (by decide) ?_
    first
      | refine TL.gno rfl (by decide) ?_
      | refine TL.gval rfl (YF.indexArr arr_30 rfl rfl (by first | decide | omega) (show _ = 34 + 2 * g + c by omega)) (by decide) ?_
    first
      | refine TL.gno rfl (by decide) ?_
      | refine TL.gval rfl (YF.load (i + 2) sc_3 rfl hi (sd_int (by omega))) (by decide) ?_
    first
      | refine TL.gno rfl (by decide) ?_
      | refine TL.gval rfl (YF.eql rfl rfl rfl) (by decide) ?_
    first
      | refine TL.val (YF.pickT rfl rfl) (by decide) ?_
      | refine TL.val (YF.pickF rfl rfl) (by decide) ?_
      | refine TL.val (YF.pick rfl rfl rfl rfl) (by decide) ?_
    refine TL.end ?_
    refine Arr.seq ?_
    refine Tr.condF rfl ?_
    refine Tr.skipE ?_
    refine Arr.seq ?_
    refine Tr.seq ?_
    refine Tr.region ?_
    refine TL.val (YF.assign rfl) (by decide) ?_
    refine TL.end ?_
    refine Arr.seq ?_
    refine Tr.seq ?_
    refine Tr.seq ?_
    refine Tr.region ?_
    refine TL.val (YF.move rfl) (by decide) ?_
    refine TL.val (YF.nilCheck rfl) (by decide) ?_
    refine TL.val (YF.fieldAddr fo_112_1 rfl rfl) (by decide) ?_
    refine TL.val (YF.load (v := .pointer (some ⟨bsi, 0, none⟩)) 0 sc_86 rfl rfl (va_get (by decide) rfl)) (by decide) ?_
    refine TL.val (YF.move rfl) (by decide) ?_
    refine TL.val (YF.move rfl) (by decide) ?_
    refine TL.val (YF.nilCheck rfl) (by decide) ?_
    refine TL.val (YF.fieldAddr fo_114_7 rfl rfl) (by decide) ?_
    refine TL.val (YF.indexArr arr_31 rfl rfl (by first | decide | omega) rfl) (by decide) ?_
    refine TL.val (YF.indexArr arr_30 rfl rfl (by first | decide | omega) (show _ = 26 + 2 * g + c by omega)) (by decide) ?_
    refine TL.val (YF.load (i + 2) sc_3 rfl hi (sd_int (by omega))) (by decide) ?_
    first
      | refine TL.val (YF.eql (b := true) rfl rfl (decide_eq_true h1)) (by decide) ?_
      | refine TL.val (YF.eql (b := false) rfl rfl (decide_eq_false h1)) (by decide) ?_
    refine TL.val (YF.move rfl) (by decide) ?_
    first
      | refine TL.gno rfl (by decide) ?_
      | refine TL.gval rfl (YF.move rfl) (by decide) ?_
    first
      | refine TL.gno rfl (by decide) ?_
      | refine TL.gval rfl (YF.nilCheck rfl) (by decide) ?_
    first
      | refine TL.gno rfl (by decide) ?_
      | refine TL.gval rfl (YF.fieldAddr fo_112_1 rfl rfl) (by decide) ?_
    first
      | refine TL.gno rfl (by decide) ?_
      | refine TL.gval rfl (YF.load (v := .pointer (some ⟨bsi, 0, none⟩)) 0 sc_86 rfl rfl (va_get (by decide) rfl)) (by decide) ?_
    first
      | refine TL.gno rfl (by decide) ?_
      | refine TL.gval rfl (YF.move rfl) (by decide) ?_
    first
      | refine TL.gno rfl (by decide) ?_
      | refine TL.gval rfl (YF.move rfl) (by decide) ?_
    first
      | refine TL.gno rfl (by decide) ?_
      | refine TL.gval rfl (YF.nilCheck rfl) (by decide) ?_
    first
      | refine TL.gno rfl (by decide) ?_
      | refine TL.gval rfl (YF.fieldAddr fo_114_8 rfl rfl) (by decide) ?_
    first
      | refine TL.gno rfl (by decide) ?_
      | refine TL.gval rfl (YF.indexArr arr_31 rfl rfl (by first | decide | omega) rfl) (by decide) ?_
    first
      | refine TL.gno rfl (by decide) ?_
      | refine TL.gval rfl (YF.indexArr arr_30 rfl rfl (by first | decide | omega) (show _ = 30 + 2 * g + c by omega)) (by decide) ?_
    first
      | refine TL.gno rfl (by decide) ?_
      | refine TL.gval rfl (YF.load (i + 2) sc_3 rfl hi (sd_int (by omega))) (by decide) ?_
    first
      | refine TL.gval rfl (YF.eql (b := true) rfl rfl (decide_eq_true h2)) (by decide) ?_
      | refine TL.gval rfl (YF.eql (b := false) rfl rfl (decide_eq_false h2)) (by decide) ?_
      | refine TL.gno rfl (by decide) ?_
    first
      | refine TL.val (YF.pickT rfl rfl) (by decide) ?_
      | refine TL.val (YF.pickF rfl rfl) (by decide) ?_
      | refine TL.val (YF.pick rfl rfl rfl rfl) (by decide) ?_
    refine TL.val (YF.move rfl) (by decide) ?_
    first
      | refine TL.gno rfl (by decide) ?_
      | refine TL.gval rfl (YF.move rfl) (by decide) ?_
    first
      | refine TL.gno rfl (by decide) ?_
      | refine TL.gval rfl (YF.nilCheck rfl) (by decide) ?_
    first
      | refine TL.gno rfl (by decide) ?_
      | refine TL.gval rfl (YF.fieldAddr fo_112_1 rfl rfl) (by decide) ?_
    first
      | refine TL.gno rfl (by decide) ?_
      | refine TL.gval rfl (YF.load (v := .pointer (some ⟨bsi, 0, none⟩)) 0 sc_86 rfl rfl (va_get (by decide) rfl)) (by decide) ?_
    first
      | refine TL.gno rfl (by decide) ?_
      | refine TL.gval rfl (YF.move rfl) (by decide) ?_
    first
      | refine TL.gno rfl (by decide) ?_
      | refine TL.gval rfl (YF.move rfl) (by decide) ?_
    first
      | refine TL.gno rfl (by decide) ?_
      | refine TL.gval rfl (YF.nilCheck rfl) (by decide) ?_
    first
      | refine TL.gno rfl (by decide) ?_
      | refine TL.gval rfl (YF.fieldAddr fo_114_9 rfl rfl) (by decide) ?_
    first
      | refine TL.gno rfl (by decide) ?_
      | refine TL.gval rfl (YF.indexArr arr_31 rfl rfl (by first | decide | omega) rfl) (by decide) ?_
    first
      | refine TL.gno rfl (by decide) ?_
      | refine TL.gval rfl (YF.indexArr arr_30 rfl rfl (by first | decide | omega) (show _ = 34 + 2 * g + c by omega)) (by decide) ?_
    first
      | refine TL.gno rfl (by decide) ?_
      | refine TL.gval rfl (YF.load (i + 2) sc_3 rfl hi (sd_int (by omega))) (by decide) ?_
    first
      | refine TL.gno rfl (by decide) ?_
      | refine TL.gval rfl (YF.eql rfl rfl rfl) (by decide) ?_
    first
      | refine TL.val (YF.pickT rfl rfl) (by decide) ?_
      | refine TL.val (YF.pickF rfl rfl) (by decide) ?_
      | refine TL.val (YF.pick rfl rfl rfl rfl) (by decide) ?_
    refine TL.end ?_
    refine Arr.seq ?_
    refine Tr.cutN (R := fun a w => Agree 207 [(0, .pointer (some ⟨bf, 0, none⟩)), (1, .int .i64 g), (2, .int .i64 c), (6, .int .i64 (lastOf s g c : Nat))] a ∧ HS w0 ((bf, .cells (va 3204 (ff wd (some ⟨bsi, 0, none⟩) bm)) 112 (0, 0)) :: (bm, .cells (va 2548 (zl z0 (244 + 576 * (2 * g + c)) x)) 91 (0, 0)) :: H) w) ?_ ?_
    ·
      refine Tr.condF rfl ?_
      refine Tr.skipE ?_
      refine Arr.meet ?_
      first
        | (have e : lastOf s g c = 2 := by
             unfold lastOf; rw [if_pos ⟨h1, h2⟩, if_neg (by omega)]
           rw [e]
           exact fun a w ha hw => ⟨(ha.cons rfl (ha.cons rfl (ha.cons rfl (ha.cons rfl (ha.nil))))), hw⟩)
        | (have e : lastOf s g c = 32 := by
             unfold lastOf; rw [if_neg (by first | exact fun hq => absurd hq.1 h1 | exact fun hq => absurd hq.2 h2)]
           rw [e]
           exact fun a w ha hw => ⟨(ha.cons rfl (ha.cons rfl (ha.cons rfl (ha.cons rfl (ha.nil))))), hw⟩)
        | (exfalso; omega)
    rintro a w ⟨ha, hw⟩
    have hl := lastOf_le s g c
    refine Arr.use ha hw ?_
    refine Arr.seq ?_
    refine Tr.seq ?_
    refine Tr.region ?_
    refine TL.val (YF.assign rfl) (by decide) ?_
    refine TL.end ?_
    refine Arr.seq ?_
    refine Tr.block ?_
    refine Tr.loop (I := fun mq a w => ∃ (t : Nat) (y : Nat → Nat), mq = 33 - t ∧ (1 ≤ t ∧ t ≤ lastOf s g c) ∧ (AI single (G / 1000000 + 1 / 10 ^ 30) (fun q => V single (x q)) x t 0 y) ∧ Agree 207 [(0, .pointer (some ⟨bf, 0, none⟩)), (1, .int .i64 g), (2, .int .i64 c), (6, .int .i64 (lastOf s g c : Nat)), (7, .int .i64 t)] a ∧ HS w0 ((bf, .cells (va 3204 (ff wd (some ⟨bsi, 0, none⟩) bm)) 112 (0, 0)) :: (bm, .cells (va 2548 (zl z0 (244 + 576 * (2 * g + c)) y)) 91 (0, 0)) :: H) w) (32) ?_ ?_
    · intro a w ha hw
      exact ⟨1, x, rfl, by omega, AI.zero, (ha.cons rfl (ha.cons rfl (ha.cons rfl (ha.cons rfl (ha.cons rfl (ha.nil)))))), hw⟩
    rintro _ a w ⟨t, y, rfl, ht, hA, ha, hw⟩
    refine Tr.use ha hw ?_
    refine Tr.seq ?_
    refine Tr.seq ?_
    refine Tr.region ?_
    refine TL.val (YF.move rfl) (by decide) ?_
    refine TL.val (YF.move rfl) (by decide) ?_
    refine TL.val (YF.lss rfl rfl rfl) (by decide) ?_
    refine TL.end ?_
    refine Arr.seq ?_
    refine Tr.cond rfl (fun h95 => ?_) (fun h95 => ?_)
    ·
      replace h95 := of_decide_eq_true h95
      refine Tr.skipE ?_
      refine Arr.seq ?_
      refine Tr.seq ?_
      refine Tr.block ?_
      refine Tr.seq ?_
      refine Tr.region ?_
      refine TL.val (YF.assign rfl) (by decide) ?_
      refine TL.end ?_
      refine Arr.seq ?_
      refine Tr.block ?_
      refine Tr.loop (I := fun mq a w => ∃ (j : Nat) (y : Nat → Nat), mq = 8 - j ∧ (j ≤ 8) ∧ (AI single (G / 1000000 + 1 / 10 ^ 30) (fun q => V single (x q)) x t j y) ∧ Agree 207 [(0, .pointer (some ⟨bf, 0, none⟩)), (1, .int .i64 g), (2, .int .i64 c), (6, .int .i64 (lastOf s g c : Nat)), (7, .int .i64 t), (8, .int .i64 j)] a ∧ HS w0 ((bf, .cells (va 3204 (ff wd (some ⟨bsi, 0, none⟩) bm)) 112 (0, 0)) :: (bm, .cells (va 2548 (zl z0 (244 + 576 * (2 * g + c)) y)) 91 (0, 0)) :: H) w) (8) ?_ ?_
      · intro a w ha hw
        exact ⟨0, y, rfl, by omega, hA, (ha.cons rfl (ha.cons rfl (ha.cons rfl (ha.cons rfl (ha.cons rfl (ha.cons rfl (ha.nil))))))), hw⟩
      rintro _ a w ⟨j, y, rfl, hj, hA, ha, hw⟩
      refine Tr.use ha hw ?_
      refine Tr.seq ?_
      refine Tr.seq ?_
      refine Tr.region ?_
      refine TL.val (YF.move rfl) (by decide) ?_
      refine TL.val (YF.lss rfl rfl rfl) (by decide) ?_
      refine TL.end ?_
      refine Arr.seq ?_
      refine Tr.cond rfl (fun h99 => ?_) (fun h99 => ?_)
      ·
        replace h99 := of_decide_eq_true h99
        refine Tr.skipE ?_
        refine Arr.seq ?_
        refine Tr.seq ?_
        refine Tr.block ?_
        refine Tr.seq ?_
        refine Tr.region ?_
        refine TL.val (YF.move rfl) (by decide) ?_
        refine TL.val (YF.mul rfl rfl (IntWalk.i64_in _ (by omega))) (by decide) ?_
        refine TL.val (YF.sub rfl rfl (IntWalk.i64_in _ (by omega))) (by decide) ?_
        refine TL.val (YF.move rfl) (by decide) ?_
        refine TL.val (YF.sub rfl rfl (IntWalk.i64_in _ (by omega))) (by decide) ?_
        refine TL.val (YF.assign rfl) (by decide) ?_
        refine TL.end ?_
        refine Arr.seq ?_
        refine Tr.seq ?_
        refine Tr.region ?_
        refine TL.val (YF.move rfl) (by decide) ?_
        refine TL.val (YF.mul rfl rfl (IntWalk.i64_in _ (by omega))) (by decide) ?_
        refine TL.val (YF.move rfl) (by decide) ?_
        refine TL.val (YF.add rfl rfl (IntWalk.i64_in _ (by omega))) (by decide) ?_
        refine TL.val (YF.assign rfl) (by decide) ?_
        refine TL.end ?_
        refine Arr.seq ?_
        refine Tr.seq ?_
        have hlo := hA.low (show 1 ≤ t ∧ t < 32 by omega) (show j < 8 by omega)
        have hhi := hA.high (show 1 ≤ t ∧ t < 32 by omega) (show j < 8 by omega)
        obtain ⟨v1, v2, r, v4, v5, r', e1, e2, e3, e4, e5, e6, r1, r2⟩ := turn_impl (show j < 8 by omega) (hx (18 * t - 1 - j) (by omega)).1 (hx (18 * t + j) (by omega)).1 hG0 hG (hx (18 * t - 1 - j) (by omega)).2 (hx (18 * t + j) (by omega)).2
        refine Tr.drawE (_ :: _ :: _) (fun H => H) rfl mixed_ ?_
        refine TD.take 0 rfl (by kernel_rfl) (by kernel_rfl) (by kernel_rfl) (fun _ _ _ h => h) (by repeat first | exact List.Sublist.refl _ | apply List.Sublist.cons_cons | apply List.Sublist.cons) (YF.move rfl) (by decide) ?_
        refine TD.take 1 rfl (by kernel_rfl) (by kernel_rfl) (by kernel_rfl) (fun _ _ _ h => h) (by repeat first | exact List.Sublist.refl _ | apply List.Sublist.cons_cons | apply List.Sublist.cons) (YF.nilCheck rfl) (by decide) ?_
        refine TD.take 2 rfl (by kernel_rfl) (by kernel_rfl) (by kernel_rfl) (fun _ _ _ h => h) (by repeat first | exact List.Sublist.refl _ | apply List.Sublist.cons_cons | apply List.Sublist.cons) (YF.fieldAddr fo_112_2 rfl rfl) (by decide) ?_
        refine TD.take 3 rfl (by kernel_rfl) (by kernel_rfl) (by kernel_rfl) (fun _ _ _ h => h) (by repeat first | exact List.Sublist.refl _ | apply List.Sublist.cons_cons | apply List.Sublist.cons) (YF.load (v := .pointer (some ⟨bm, 0, none⟩)) 0 sc_106 rfl rfl (va_get (by decide) rfl)) (by decide) ?_
        refine TD.take 4 rfl (by kernel_rfl) (by kernel_rfl) (by kernel_rfl) (fun _ _ _ h => h) (by repeat first | exact List.Sublist.refl _ | apply List.Sublist.cons_cons | apply List.Sublist.cons) (YF.move rfl) (by decide) ?_
        refine TD.take 5 rfl (by kernel_rfl) (by kernel_rfl) (by kernel_rfl) (fun _ _ _ h => h) (by repeat first | exact List.Sublist.refl _ | apply List.Sublist.cons_cons | apply List.Sublist.cons) (YF.move rfl) (by decide) ?_
        refine TD.take 6 rfl (by kernel_rfl) (by kernel_rfl) (by kernel_rfl) (fun _ _ _ h => h) (by repeat first | exact List.Sublist.refl _ | apply List.Sublist.cons_cons | apply List.Sublist.cons) (YF.move rfl) (by decide) ?_
        refine TD.take 7 rfl (by kernel_rfl) (by kernel_rfl) (by kernel_rfl) (fun _ _ _ h => h) (by repeat first | exact List.Sublist.refl _ | apply List.Sublist.cons_cons | apply List.Sublist.cons) (YF.nilCheck rfl) (by decide) ?_
        refine TD.take 8 rfl (by kernel_rfl) (by kernel_rfl) (by kernel_rfl) (fun _ _ _ h => h) (by repeat first | exact List.Sublist.refl _ | apply List.Sublist.cons_cons | apply List.Sublist.cons) (YF.fieldAddr fo_91_2 rfl rfl) (by decide) ?_
        refine TD.take 9 rfl (by kernel_rfl) (by kernel_rfl) (by kernel_rfl) (fun _ _ _ h => h) (by repeat first | exact List.Sublist.refl _ | apply List.Sublist.cons_cons | apply List.Sublist.cons) (YF.indexArr arr_89 rfl rfl (by first | decide | omega) rfl) (by decide) ?_
        refine TD.take 10 rfl (by kernel_rfl) (by kernel_rfl) (by kernel_rfl) (fun _ _ _ h => h) (by repeat first | exact List.Sublist.refl _ | apply List.Sublist.cons_cons | apply List.Sublist.cons) (YF.indexArr arr_88 rfl rfl (by first | decide | omega) rfl) (by decide) ?_
        refine TD.take 11 rfl (by kernel_rfl) (by kernel_rfl) (by kernel_rfl) (fun _ _ _ h => h) (by repeat first | exact List.Sublist.refl _ | apply List.Sublist.cons_cons | apply List.Sublist.cons) (YF.indexArr arr_84 rfl rfl (by first | decide | omega) (show _ = 244 + 576 * (2 * g + c) + (18 * t - 1 - j) by omega)) (by decide) ?_
        refine TD.take 12 rfl (by kernel_rfl) (by kernel_rfl) (by kernel_rfl) (fun _ _ _ h => h) (by repeat first | exact List.Sublist.refl _ | apply List.Sublist.cons_cons | apply List.Sublist.cons) (YF.load (v := .float .f32 (x (18 * t - 1 - j))) 1 sc_82 rfl rfl (by rw [← hlo]; exact zl_get (by omega) rfl (by omega))) (by decide) ?_
        refine TD.take 13 rfl (by kernel_rfl) (by kernel_rfl) (by kernel_rfl) (fun _ _ _ h => h) (by repeat first | exact List.Sublist.refl _ | apply List.Sublist.cons_cons | apply List.Sublist.cons) (YF.move rfl) (by decide) ?_
        refine TD.take 14 rfl (by kernel_rfl) (by kernel_rfl) (by kernel_rfl) (fun _ _ _ h => h) (by repeat first | exact List.Sublist.refl _ | apply List.Sublist.cons_cons | apply List.Sublist.cons) (YF.indexArr arr_117 rfl rfl (by first | decide | omega) (show _ = j by omega)) (by decide) ?_
        refine TD.take 15 rfl (by kernel_rfl) (by kernel_rfl) (by kernel_rfl) (fun _ _ _ h => h) (by repeat first | exact List.Sublist.refl _ | apply List.Sublist.cons_cons | apply List.Sublist.cons) (YF.load_old sc_82 rfl (hcs j (by omega))) (by decide) ?_
        refine TD.take 16 rfl (by kernel_rfl) (by kernel_rfl) (by kernel_rfl) (fun _ _ _ h => h) (by repeat first | exact List.Sublist.refl _ | apply List.Sublist.cons_cons | apply List.Sublist.cons) (YF.farith rfl rfl e1) (by decide) ?_
        refine TD.take 17 rfl (by kernel_rfl) (by kernel_rfl) (by kernel_rfl) (fun _ _ _ h => h) (by repeat first | exact List.Sublist.refl _ | apply List.Sublist.cons_cons | apply List.Sublist.cons) (YF.move rfl) (by decide) ?_
        refine TD.take 18 rfl (by kernel_rfl) (by kernel_rfl) (by kernel_rfl) (fun _ _ _ h => h) (by repeat first | exact List.Sublist.refl _ | apply List.Sublist.cons_cons | apply List.Sublist.cons) (YF.nilCheck rfl) (by decide) ?_
        refine TD.take 19 rfl (by kernel_rfl) (by kernel_rfl) (by kernel_rfl) (fun _ _ _ h => h) (by repeat first | exact List.Sublist.refl _ | apply List.Sublist.cons_cons | apply List.Sublist.cons) (YF.fieldAddr fo_112_2 rfl rfl) (by decide) ?_
        refine TD.take 20 rfl (by kernel_rfl) (by kernel_rfl) (by kernel_rfl) (fun _ _ _ h => h) (by repeat first | exact List.Sublist.refl _ | apply List.Sublist.cons_cons | apply List.Sublist.cons) (YF.load (v := .pointer (some ⟨bm, 0, none⟩)) 0 sc_106 rfl rfl (va_get (by decide) rfl)) (by decide) ?_
        refine TD.take 21 rfl (by kernel_rfl) (by kernel_rfl) (by kernel_rfl) (fun _ _ _ h => h) (by repeat first | exact List.Sublist.refl _ | apply List.Sublist.cons_cons | apply List.Sublist.cons) (YF.move rfl) (by decide) ?_
        refine TD.take 22 rfl (by kernel_rfl) (by kernel_rfl) (by kernel_rfl) (fun _ _ _ h => h) (by repeat first | exact List.Sublist.refl _ | apply List.Sublist.cons_cons | apply List.Sublist.cons) (YF.move rfl) (by decide) ?_
        refine TD.take 23 rfl (by kernel_rfl) (by kernel_rfl) (by kernel_rfl) (fun _ _ _ h => h) (by repeat first | exact List.Sublist.refl _ | apply List.Sublist.cons_cons | apply List.Sublist.cons) (YF.move rfl) (by decide) ?_
        refine TD.take 24 rfl (by kernel_rfl) (by kernel_rfl) (by kernel_rfl) (fun _ _ _ h => h) (by repeat first | exact List.Sublist.refl _ | apply List.Sublist.cons_cons | apply List.Sublist.cons) (YF.nilCheck rfl) (by decide) ?_
        refine TD.take 25 rfl (by kernel_rfl) (by kernel_rfl) (by kernel_rfl) (fun _ _ _ h => h) (by repeat first | exact List.Sublist.refl _ | apply List.Sublist.cons_cons | apply List.Sublist.cons) (YF.fieldAddr fo_91_2 rfl rfl) (by decide) ?_
        refine TD.take 26 rfl (by kernel_rfl) (by kernel_rfl) (by kernel_rfl) (fun _ _ _ h => h) (by repeat first | exact List.Sublist.refl _ | apply List.Sublist.cons_cons | apply List.Sublist.cons) (YF.indexArr arr_89 rfl rfl (by first | decide | omega) rfl) (by decide) ?_
        refine TD.take 27 rfl (by kernel_rfl) (by kernel_rfl) (by kernel_rfl) (fun _ _ _ h => h) (by repeat first | exact List.Sublist.refl _ | apply List.Sublist.cons_cons | apply List.Sublist.cons) (YF.indexArr arr_88 rfl rfl (by first | decide | omega) rfl) (by decide) ?_
        refine TD.take 28 rfl (by kernel_rfl) (by kernel_rfl) (by kernel_rfl) (fun _ _ _ h => h) (by repeat first | exact List.Sublist.refl _ | apply List.Sublist.cons_cons | apply List.Sublist.cons) (YF.indexArr arr_84 rfl rfl (by first | decide | omega) (show _ = 244 + 576 * (2 * g + c) + (18 * t + j) by omega)) (by decide) ?_
        refine TD.take 29 rfl (by kernel_rfl) (by kernel_rfl) (by kernel_rfl) (fun _ _ _ h => h) (by repeat first | exact List.Sublist.refl _ | apply List.Sublist.cons_cons | apply List.Sublist.cons) (YF.load (v := .float .f32 (x (18 * t + j))) 1 sc_82 rfl rfl (by rw [← hhi]; exact zl_get (by omega) rfl (by omega))) (by decide) ?_
        refine TD.take 30 rfl (by kernel_rfl) (by kernel_rfl) (by kernel_rfl) (fun _ _ _ h => h) (by repeat first | exact List.Sublist.refl _ | apply List.Sublist.cons_cons | apply List.Sublist.cons) (YF.move rfl) (by decide) ?_
        refine TD.take 31 rfl (by kernel_rfl) (by kernel_rfl) (by kernel_rfl) (fun _ _ _ h => h) (by repeat first | exact List.Sublist.refl _ | apply List.Sublist.cons_cons | apply List.Sublist.cons) (YF.indexArr arr_117 rfl rfl (by first | decide | omega) (show _ = j by omega)) (by decide) ?_
        refine TD.take 32 rfl (by kernel_rfl) (by kernel_rfl) (by kernel_rfl) (fun _ _ _ h => h) (by repeat first | exact List.Sublist.refl _ | apply List.Sublist.cons_cons | apply List.Sublist.cons) (YF.load_old sc_82 rfl (hca j (by omega))) (by decide) ?_
        refine TD.take 33 rfl (by kernel_rfl) (by kernel_rfl) (by kernel_rfl) (fun _ _ _ h => h) (by repeat first | exact List.Sublist.refl _ | apply List.Sublist.cons_cons | apply List.Sublist.cons) (YF.farith rfl rfl e2) (by decide) ?_
        refine TD.take 34 rfl (by kernel_rfl) (by kernel_rfl) (by kernel_rfl) (fun _ _ _ h => h) (by repeat first | exact List.Sublist.refl _ | apply List.Sublist.cons_cons | apply List.Sublist.cons) (YF.farith rfl rfl e3) (by decide) ?_
        refine TD.take 35 rfl (by kernel_rfl) (by kernel_rfl) (by kernel_rfl) (fun _ _ _ h => h) (by repeat first | exact List.Sublist.refl _ | apply List.Sublist.cons_cons | apply List.Sublist.cons) (YF.assign rfl) (by decide) ?_
        refine TD.end (by kernel_rfl) ?_
        refine Arr.seq ?_
        refine Tr.seq ?_
        refine Tr.drawE (_ :: _ :: _) (fun H => H) rfl mixed_ ?_
        refine TD.take 0 rfl (by kernel_rfl) (by kernel_rfl) (by kernel_rfl) (fun _ _ _ h => h) (by repeat first | exact List.Sublist.refl _ | apply List.Sublist.cons_cons | apply List.Sublist.cons) (YF.move rfl) (by decide) ?_
        refine TD.take 1 rfl (by kernel_rfl) (by kernel_rfl) (by kernel_rfl) (fun _ _ _ h => h) (by repeat first | exact List.Sublist.refl _ | apply List.Sublist.cons_cons | apply List.Sublist.cons) (YF.nilCheck rfl) (by decide) ?_
        refine TD.take 2 rfl (by kernel_rfl) (by kernel_rfl) (by kernel_rfl) (fun _ _ _ h => h) (by repeat first | exact List.Sublist.refl _ | apply List.Sublist.cons_cons | apply List.Sublist.cons) (YF.fieldAddr fo_112_2 rfl rfl) (by decide) ?_
        refine TD.take 3 rfl (by kernel_rfl) (by kernel_rfl) (by kernel_rfl) (fun _ _ _ h => h) (by repeat first | exact List.Sublist.refl _ | apply List.Sublist.cons_cons | apply List.Sublist.cons) (YF.load (v := .pointer (some ⟨bm, 0, none⟩)) 0 sc_106 rfl rfl (va_get (by decide) rfl)) (by decide) ?_
        refine TD.take 4 rfl (by kernel_rfl) (by kernel_rfl) (by kernel_rfl) (fun _ _ _ h => h) (by repeat first | exact List.Sublist.refl _ | apply List.Sublist.cons_cons | apply List.Sublist.cons) (YF.move rfl) (by decide) ?_
        refine TD.take 5 rfl (by kernel_rfl) (by kernel_rfl) (by kernel_rfl) (fun _ _ _ h => h) (by repeat first | exact List.Sublist.refl _ | apply List.Sublist.cons_cons | apply List.Sublist.cons) (YF.move rfl) (by decide) ?_
        refine TD.take 6 rfl (by kernel_rfl) (by kernel_rfl) (by kernel_rfl) (fun _ _ _ h => h) (by repeat first | exact List.Sublist.refl _ | apply List.Sublist.cons_cons | apply List.Sublist.cons) (YF.move rfl) (by decide) ?_
        refine TD.take 7 rfl (by kernel_rfl) (by kernel_rfl) (by kernel_rfl) (fun _ _ _ h => h) (by repeat first | exact List.Sublist.refl _ | apply List.Sublist.cons_cons | apply List.Sublist.cons) (YF.nilCheck rfl) (by decide) ?_
        refine TD.take 8 rfl (by kernel_rfl) (by kernel_rfl) (by kernel_rfl) (fun _ _ _ h => h) (by repeat first | exact List.Sublist.refl _ | apply List.Sublist.cons_cons | apply List.Sublist.cons) (YF.fieldAddr fo_91_2 rfl rfl) (by decide) ?_
        refine TD.take 9 rfl (by kernel_rfl) (by kernel_rfl) (by kernel_rfl) (fun _ _ _ h => h) (by repeat first | exact List.Sublist.refl _ | apply List.Sublist.cons_cons | apply List.Sublist.cons) (YF.indexArr arr_89 rfl rfl (by first | decide | omega) rfl) (by decide) ?_
        refine TD.take 10 rfl (by kernel_rfl) (by kernel_rfl) (by kernel_rfl) (fun _ _ _ h => h) (by repeat first | exact List.Sublist.refl _ | apply List.Sublist.cons_cons | apply List.Sublist.cons) (YF.indexArr arr_88 rfl rfl (by first | decide | omega) rfl) (by decide) ?_
        refine TD.take 11 rfl (by kernel_rfl) (by kernel_rfl) (by kernel_rfl) (fun _ _ _ h => h) (by repeat first | exact List.Sublist.refl _ | apply List.Sublist.cons_cons | apply List.Sublist.cons) (YF.indexArr arr_84 rfl rfl (by first | decide | omega) (show _ = 244 + 576 * (2 * g + c) + (18 * t + j) by omega)) (by decide) ?_
        refine TD.take 12 rfl (by kernel_rfl) (by kernel_rfl) (by kernel_rfl) (fun _ _ _ h => h) (by repeat first | exact List.Sublist.refl _ | apply List.Sublist.cons_cons | apply List.Sublist.cons) (YF.load (v := .float .f32 (x (18 * t + j))) 1 sc_82 rfl rfl (by rw [← hhi]; exact zl_get (by omega) rfl (by omega))) (by decide) ?_
        refine TD.take 13 rfl (by kernel_rfl) (by kernel_rfl) (by kernel_rfl) (fun _ _ _ h => h) (by repeat first | exact List.Sublist.refl _ | apply List.Sublist.cons_cons | apply List.Sublist.cons) (YF.move rfl) (by decide) ?_
        refine TD.take 14 rfl (by kernel_rfl) (by kernel_rfl) (by kernel_rfl) (fun _ _ _ h => h) (by repeat first | exact List.Sublist.refl _ | apply List.Sublist.cons_cons | apply List.Sublist.cons) (YF.indexArr arr_117 rfl rfl (by first | decide | omega) (show _ = j by omega)) (by decide) ?_
        refine TD.take 15 rfl (by kernel_rfl) (by kernel_rfl) (by kernel_rfl) (fun _ _ _ h => h) (by repeat first | exact List.Sublist.refl _ | apply List.Sublist.cons_cons | apply List.Sublist.cons) (YF.load_old sc_82 rfl (hcs j (by omega))) (by decide) ?_
        refine TD.take 16 rfl (by kernel_rfl) (by kernel_rfl) (by kernel_rfl) (fun _ _ _ h => h) (by repeat first | exact List.Sublist.refl _ | apply List.Sublist.cons_cons | apply List.Sublist.cons) (YF.farith rfl rfl e4) (by decide) ?_
        refine TD.take 17 rfl (by kernel_rfl) (by kernel_rfl) (by kernel_rfl) (fun _ _ _ h => h) (by repeat first | exact List.Sublist.refl _ | apply List.Sublist.cons_cons | apply List.Sublist.cons) (YF.move rfl) (by decide) ?_
        refine TD.take 18 rfl (by kernel_rfl) (by kernel_rfl) (by kernel_rfl) (fun _ _ _ h => h) (by repeat first | exact List.Sublist.refl _ | apply List.Sublist.cons_cons | apply List.Sublist.cons) (YF.nilCheck rfl) (by decide) ?_
        refine TD.take 19 rfl (by kernel_rfl) (by kernel_rfl) (by kernel_rfl) (fun _ _ _ h => h) (by repeat first | exact List.Sublist.refl _ | apply List.Sublist.cons_cons | apply List.Sublist.cons) (YF.fieldAddr fo_112_2 rfl rfl) (by decide) ?_
        refine TD.take 20 rfl (by kernel_rfl) (by kernel_rfl) (by kernel_rfl) (fun _ _ _ h => h) (by repeat first | exact List.Sublist.refl _ | apply List.Sublist.cons_cons | apply List.Sublist.cons) (YF.load (v := .pointer (some ⟨bm, 0, none⟩)) 0 sc_106 rfl rfl (va_get (by decide) rfl)) (by decide) ?_
        refine TD.take 21 rfl (by kernel_rfl) (by kernel_rfl) (by kernel_rfl) (fun _ _ _ h => h) (by repeat first | exact List.Sublist.refl _ | apply List.Sublist.cons_cons | apply List.Sublist.cons) (YF.move rfl) (by decide) ?_
        refine TD.take 22 rfl (by kernel_rfl) (by kernel_rfl) (by kernel_rfl) (fun _ _ _ h => h) (by repeat first | exact List.Sublist.refl _ | apply List.Sublist.cons_cons | apply List.Sublist.cons) (YF.move rfl) (by decide) ?_
        refine TD.take 23 rfl (by kernel_rfl) (by kernel_rfl) (by kernel_rfl) (fun _ _ _ h => h) (by repeat first | exact List.Sublist.refl _ | apply List.Sublist.cons_cons | apply List.Sublist.cons) (YF.move rfl) (by decide) ?_
        refine TD.take 24 rfl (by kernel_rfl) (by kernel_rfl) (by kernel_rfl) (fun _ _ _ h => h) (by repeat first | exact List.Sublist.refl _ | apply List.Sublist.cons_cons | apply List.Sublist.cons) (YF.nilCheck rfl) (by decide) ?_
        refine TD.take 25 rfl (by kernel_rfl) (by kernel_rfl) (by kernel_rfl) (fun _ _ _ h => h) (by repeat first | exact List.Sublist.refl _ | apply List.Sublist.cons_cons | apply List.Sublist.cons) (YF.fieldAddr fo_91_2 rfl rfl) (by decide) ?_
        refine TD.take 26 rfl (by kernel_rfl) (by kernel_rfl) (by kernel_rfl) (fun _ _ _ h => h) (by repeat first | exact List.Sublist.refl _ | apply List.Sublist.cons_cons | apply List.Sublist.cons) (YF.indexArr arr_89 rfl rfl (by first | decide | omega) rfl) (by decide) ?_
        refine TD.take 27 rfl (by kernel_rfl) (by kernel_rfl) (by kernel_rfl) (fun _ _ _ h => h) (by repeat first | exact List.Sublist.refl _ | apply List.Sublist.cons_cons | apply List.Sublist.cons) (YF.indexArr arr_88 rfl rfl (by first | decide | omega) rfl) (by decide) ?_
        refine TD.take 28 rfl (by kernel_rfl) (by kernel_rfl) (by kernel_rfl) (fun _ _ _ h => h) (by repeat first | exact List.Sublist.refl _ | apply List.Sublist.cons_cons | apply List.Sublist.cons) (YF.indexArr arr_84 rfl rfl (by first | decide | omega) (show _ = 244 + 576 * (2 * g + c) + (18 * t - 1 - j) by omega)) (by decide) ?_
        refine TD.take 29 rfl (by kernel_rfl) (by kernel_rfl) (by kernel_rfl) (fun _ _ _ h => h) (by repeat first | exact List.Sublist.refl _ | apply List.Sublist.cons_cons | apply List.Sublist.cons) (YF.load (v := .float .f32 (x (18 * t - 1 - j))) 1 sc_82 rfl rfl (by rw [← hlo]; exact zl_get (by omega) rfl (by omega))) (by decide) ?_
        refine TD.take 30 rfl (by kernel_rfl) (by kernel_rfl) (by kernel_rfl) (fun _ _ _ h => h) (by repeat first | exact List.Sublist.refl _ | apply List.Sublist.cons_cons | apply List.Sublist.cons) (YF.move rfl) (by decide) ?_
        refine TD.take 31 rfl (by kernel_rfl) (by kernel_rfl) (by kernel_rfl) (fun _ _ _ h => h) (by repeat first | exact List.Sublist.refl _ | apply List.Sublist.cons_cons | apply List.Sublist.cons) (YF.indexArr arr_117 rfl rfl (by first | decide | omega) (show _ = j by omega)) (by decide) ?_
        refine TD.take 32 rfl (by kernel_rfl) (by kernel_rfl) (by kernel_rfl) (fun _ _ _ h => h) (by repeat first | exact List.Sublist.refl _ | apply List.Sublist.cons_cons | apply List.Sublist.cons) (YF.load_old sc_82 rfl (hca j (by omega))) (by decide) ?_
        refine TD.take 33 rfl (by kernel_rfl) (by kernel_rfl) (by kernel_rfl) (fun _ _ _ h => h) (by repeat first | exact List.Sublist.refl _ | apply List.Sublist.cons_cons | apply List.Sublist.cons) (YF.farith rfl rfl e5) (by decide) ?_
        refine TD.take 34 rfl (by kernel_rfl) (by kernel_rfl) (by kernel_rfl) (fun _ _ _ h => h) (by repeat first | exact List.Sublist.refl _ | apply List.Sublist.cons_cons | apply List.Sublist.cons) (YF.farith rfl rfl e6) (by decide) ?_
        refine TD.take 35 rfl (by kernel_rfl) (by kernel_rfl) (by kernel_rfl) (fun _ _ _ h => h) (by repeat first | exact List.Sublist.refl _ | apply List.Sublist.cons_cons | apply List.Sublist.cons) (YF.assign rfl) (by decide) ?_
        refine TD.end (by kernel_rfl) ?_
        refine Arr.seq ?_
        refine Tr.seq ?_
        refine Tr.region ?_
        refine TL.val (YF.move rfl) (by decide) ?_
        refine TL.val (YF.nilCheck rfl) (by decide) ?_
        refine TL.val (YF.fieldAddr fo_112_2 rfl rfl) (by decide) ?_
        refine TL.val (YF.load (v := .pointer (some ⟨bm, 0, none⟩)) 0 sc_106 rfl rfl (va_get (by decide) rfl)) (by decide) ?_
        refine TL.val (YF.move rfl) (by decide) ?_
        refine TL.val (YF.move rfl) (by decide) ?_
        refine TL.val (YF.move rfl) (by decide) ?_
        refine TL.val (YF.move rfl) (by decide) ?_
        refine TL.val (YF.nilCheck rfl) (by decide) ?_
        refine TL.val (YF.fieldAddr fo_91_2 rfl rfl) (by decide) ?_
        refine TL.val (YF.indexArr arr_89 rfl rfl (by first | decide | omega) rfl) (by decide) ?_
        refine TL.val (YF.indexArr arr_88 rfl rfl (by first | decide | omega) rfl) (by decide) ?_
        refine TL.val (YF.indexArr arr_84 rfl rfl (by first | decide | omega) (show _ = 244 + 576 * (2 * g + c) + (18 * t - 1 - j) by omega)) (by decide) ?_
        refine TL.storeV 1 (_ :: _ :: _) rfl rfl rfl sz_82 rfl (by rw [va_size]; omega) (zl_set (k := 18 * t - 1 - j) (by omega) rfl) rfl ?_
        refine TL.end ?_
        refine Arr.seq ?_
        refine Tr.region ?_
        refine TL.val (YF.move rfl) (by decide) ?_
        refine TL.val (YF.nilCheck rfl) (by decide) ?_
        refine TL.val (YF.fieldAddr fo_112_2 rfl rfl) (by decide) ?_
        refine TL.val (YF.load (v := .pointer (some ⟨bm, 0, none⟩)) 0 sc_106 rfl rfl (va_get (by decide) rfl)) (by decide) ?_
        refine TL.val (YF.move rfl) (by decide) ?_
        refine TL.val (YF.move rfl) (by decide) ?_
        refine TL.val (YF.move rfl) (by decide) ?_
        refine TL.val (YF.move rfl) (by decide) ?_
        refine TL.val (YF.nilCheck rfl) (by decide) ?_
        refine TL.val (YF.fieldAddr fo_91_2 rfl rfl) (by decide) ?_
        refine TL.val (YF.indexArr arr_89 rfl rfl (by first | decide | omega) rfl) (by decide) ?_
        refine TL.val (YF.indexArr arr_88 rfl rfl (by first | decide | omega) rfl) (by decide) ?_
        refine TL.val (YF.indexArr arr_84 rfl rfl (by first | decide | omega) (show _ = 244 + 576 * (2 * g + c) + (18 * t + j) by omega)) (by decide) ?_
        refine TL.storeV 1 (_ :: _ :: _) rfl rfl rfl sz_82 rfl (by rw [va_size]; omega) (zl_set (k := 18 * t + j) (by omega) rfl) rfl ?_
        refine TL.end ?_
        refine Arr.block ?_
        refine Arr.seq ?_
        refine Tr.region ?_
        refine TL.val (YF.move rfl) (by decide) ?_
        refine TL.val (YF.add rfl rfl (IntWalk.i64_in _ (by omega))) (by decide) ?_
        refine TL.val (YF.assign rfl) (by decide) ?_
        refine TL.end ?_
        exact fun a w ha hw => ⟨_, by omega, j + 1, upd (upd y (18 * t - 1 - j) r) (18 * t + j) r', rfl, by omega, hA.step (by omega) (by omega) r1 r2, (ha.cons rfl (ha.cons rfl (ha.cons rfl (ha.cons rfl (ha.cons rfl (ha.cons rfl (ha.nil))))))), hw⟩
      ·
        replace h99 := of_decide_eq_false h99
        refine Tr.exitE ?_
        refine Arr.seqX ?_
        refine Arr.seqX ?_
        refine Arr.blockE ?_
        refine Arr.block ?_
        refine Arr.seq ?_
        refine Tr.region ?_
        refine TL.val (YF.move rfl) (by decide) ?_
        refine TL.val (YF.add rfl rfl (IntWalk.i64_in _ (by omega))) (by decide) ?_
        refine TL.val (YF.assign rfl) (by decide) ?_
        refine TL.end ?_
        exact fun a w ha hw => ⟨_, by omega, t + 1, y, rfl, by omega, (by have e : j = 8 := (by omega); subst e; exact hA.next), (ha.cons rfl (ha.cons rfl (ha.cons rfl (ha.cons rfl (ha.cons rfl (ha.nil)))))), hw⟩
    ·
      replace h95 := of_decide_eq_false h95
      refine Tr.exitE ?_
      refine Arr.seqX ?_
      refine Arr.seqX ?_
      refine Arr.blockE ?_
      exact Ends.noRes rfl ⟨y, (by have e : t = lastOf s g c := (by omega); rw [← e]; exact hA), rfl⟩

end Go.Proofs.YtbcjhkncifckiaaDoor
