/- The walk of a band's lines into time. -/
import Derived.Test.YtbcjhkncifckiaaDoorHo
import Derived.Test.YtbcjhkncifckiaaDoorHw
namespace Go.Proofs.YtbcjhkncifckiaaDoor
open Go Go.RowKit Go.Proofs En Fl Ieee
set_option maxRecDepth 100000
set_option maxHeartbeats 0

theorem win_ct (x : Nat → Nat) (X : Nat → Rat) (G : Rat) (i bi b : Nat) (t' : TypeId) (f' : Nat × Nat) (w0 : World) (H : Hp) (hi : H[i]? = some (bi, .cells (va 18 (fl .f32 x)) t' f')) (hb : b < 4) (hG0 : 0 ≤ G) (hG : G ≤ 10) (hx : ∀ q, q < 18 → Fin single (x q) ∧ V single (x q) = X q ∧ mg (X q) ≤ G) (hsn : ∀ i, i < 6 → w0.cell? ⟨4, i, none⟩ = some (.float .f64 (snb i))) (hcn : ∀ i, i < 6 → w0.cell? ⟨5, i, none⟩ = some (.float .f64 (cnb i))) : Ct Tryd.prog 49 #[.slice (some ⟨bi, 0, none⟩) 18 18, .int .i64 b] w0 (H) (fun v H' => ∃ bo o, v = .slice (some ⟨bo, 0, none⟩) 36 36 ∧ (∀ p, p < 36 → Ap single (o p) (Yw b X p) (WE G)) ∧ H' = (bo, .cells (va 36 (fl .f32 o)) 82 (0, 0)) :: H) := by
  refine Ct.of_body (n := 108) (E := [(0, _), (1, _)]) Tryd.func49 rfl rfl rfl rfl ?_
  refine Tr.seq ?_
  refine Tr.region ?_
  refine TL.val (YF.assign rfl) (by decide) ?_
  refine TL.end ?_
  refine Arr.seq ?_
  refine Tr.seq ?_
  refine Tr.region ?_
  refine TL.makeSlice (m := 36) sl_43 bytes_82 zero_82 rfl rfl rfl rfl (by decide) (by decide) rfl (by decide) (fun bo => ?_)
  refine TL.val (YF.assign rfl) (by decide) ?_
  refine TL.end ?_
  refine Arr.seq ?_
  refine Tr.seq ?_
  refine Tr.seq ?_
  refine Tr.drop (G := (bo, .cells (va 36 (fl .f32 fun _ => 0)) 82 (0, 0)) :: H) (by rw [va_replicate]; exact List.Sublist.refl _) ?_
  refine Tr.region ?_
  refine TL.val (YF.move rfl) (by decide) ?_
  by_cases hb2 : b = 2
  ·
    subst hb2
    refine TL.val (YF.eql (b := true) rfl rfl (decide_eq_true (by omega))) (by decide) ?_
    refine TL.end ?_
    refine Arr.seq ?_
    refine Tr.condT rfl ?_
    refine Tr.seq ?_
    refine Tr.region ?_
    refine TL.call (vs := []) call_58 rfl (by decide) (winData_ct w0 _ hsn hcn) ?_
    rintro _ _ ⟨bw, rfl, rfl⟩
    refine TL.val (YF.move rfl) (by decide) ?_
    refine TL.val (YF.nilCheck rfl) (by decide) ?_
    refine TL.val (YF.indexArr arr_149 rfl rfl (by first | decide | omega) (show _ = 36 * 2 by omega)) (by decide) ?_
    refine TL.val (YF.loadAgg (v := va 36 (fl .f32 (wnb 2))) 0 agg_132 rfl rfl (by rw [va_size]; omega) (tab_row (i := 2) rfl rfl (by omega))) (by decide) ?_
    refine TL.allocA zero_132 (by decide) (fun b6 => ?_)
    refine TL.storeAll 0 (_ :: _ :: _ :: _) rfl rfl rfl sz_132 (va_size _ _) Zsz_132 (va_one fun _ _ => rfl) rfl ?_
    refine TL.end ?_
    refine Arr.seq ?_
    refine Tr.seq ?_
    refine Tr.region ?_
    refine TL.call (vs := []) call_59 rfl (by decide) (cosines12_ct w0 _ hsn hcn) ?_
    rintro _ _ ⟨bc, rfl, rfl⟩
    refine TL.val (YF.assign rfl) (by decide) ?_
    refine TL.end ?_
    refine Arr.seq ?_
    refine Tr.seq ?_
    refine Tr.seq ?_
    refine Tr.region ?_
    refine TL.val (YF.assign rfl) (by decide) ?_
    refine TL.end ?_
    refine Arr.seq ?_
    refine Tr.block ?_
    refine Tr.loop (I := fun mq a w => ∃ (u : Nat) (o : Nat → Nat), mq = 3 - u ∧ (u ≤ 3) ∧ (SI single (AE G) X u 0 o) ∧ Agree 108 [(0, .slice (some ⟨bi, 0, none⟩) 18 18), (5, .slice (some ⟨bo, 0, none⟩) 36 36), (6, .pointer (some ⟨b6, 0, none⟩)), (7, .pointer (some ⟨bc, 0, none⟩)), (8, .int .i64 u)] a ∧ HS w0 ((bc, .cells (va 72 (fl .f32 (tab 12 c12))) 150 (0, 0)) :: (b6, .cells (va 36 (fl .f32 (wnb 2))) 132 (0, 0)) :: (bw, .cells (va 144 (fl .f32 (tab 36 wnb))) 149 (0, 0)) :: (bo, .cells (va 36 (fl .f32 o)) 82 (0, 0)) :: H) w) (3) ?_ ?_
    · intro a w ha hw
      exact ⟨0, fun _ => 0, rfl, by omega, SI.zero (zero_fin two_single), (ha.cons rfl (ha.cons rfl (ha.cons rfl (ha.cons rfl (ha.cons rfl (ha.nil)))))), hw⟩
    rintro _ a w ⟨u, o, rfl, hu, hS, ha, hw⟩
    refine Tr.use ha hw ?_
    refine Tr.seq ?_
    refine Tr.seq ?_
    refine Tr.region ?_
    refine TL.val (YF.move rfl) (by decide) ?_
    refine TL.val (YF.lss rfl rfl rfl) (by decide) ?_
    refine TL.end ?_
    refine Arr.seq ?_
    refine Tr.cond rfl (fun h27 => ?_) (fun h27 => ?_)
    ·
      replace h27 := of_decide_eq_true h27
      refine Tr.skipE ?_
      refine Arr.seq ?_
      refine Tr.seq ?_
      refine Tr.block ?_
      refine Tr.seq ?_
      refine Tr.region ?_
      refine TL.val (YF.assign rfl) (by decide) ?_
      refine TL.end ?_
      refine Arr.seq ?_
      refine Tr.block ?_
      refine Tr.loop (I := fun mq a w => ∃ (p : Nat) (o : Nat → Nat), mq = 12 - p ∧ (p ≤ 12) ∧ (SI single (AE G) X u p o) ∧ Agree 108 [(0, .slice (some ⟨bi, 0, none⟩) 18 18), (5, .slice (some ⟨bo, 0, none⟩) 36 36), (6, .pointer (some ⟨b6, 0, none⟩)), (7, .pointer (some ⟨bc, 0, none⟩)), (8, .int .i64 u), (9, .int .i64 p)] a ∧ HS w0 ((bc, .cells (va 72 (fl .f32 (tab 12 c12))) 150 (0, 0)) :: (b6, .cells (va 36 (fl .f32 (wnb 2))) 132 (0, 0)) :: (bw, .cells (va 144 (fl .f32 (tab 36 wnb))) 149 (0, 0)) :: (bo, .cells (va 36 (fl .f32 o)) 82 (0, 0)) :: H) w) (12) ?_ ?_
      · intro a w ha hw
        exact ⟨0, o, rfl, by omega, hS, (ha.cons rfl (ha.cons rfl (ha.cons rfl (ha.cons rfl (ha.cons rfl (ha.cons rfl (ha.nil))))))), hw⟩
      rintro _ a w ⟨p, o, rfl, hp, hS, ha, hw⟩
      refine Tr.use ha hw ?_
      refine Tr.seq ?_
      refine Tr.seq ?_
      refine Tr.region ?_
      refine TL.val (YF.move rfl) (by decide) ?_
      refine TL.val (YF.lss rfl rfl rfl) (by decide) ?_
      refine TL.end ?_
      refine Arr.seq ?_
      refine Tr.cond rfl (fun h31 => ?_) (fun h31 => ?_)
      ·
        replace h31 := of_decide_eq_true h31
        refine Tr.skipE ?_
        refine Arr.seq ?_
        refine Tr.seq ?_
        refine Tr.block ?_
        refine Tr.seq ?_
        refine Tr.region ?_
        refine TL.val (YF.assign rfl) (by decide) ?_
        refine TL.end ?_
        refine Arr.seq ?_
        refine Tr.seq ?_
        refine Tr.seq ?_
        refine Tr.region ?_
        refine TL.val (YF.assign rfl) (by decide) ?_
        refine TL.end ?_
        refine Arr.seq ?_
        refine Tr.block ?_
        refine Tr.loop (I := fun mq a w => ∃ (m : Nat) (s : Nat), mq = 6 - m ∧ (m ≤ 6) ∧ (Ap single s (dot (fun m => X (u + 3 * m)) (C12 p) m) ((m : Nat) * EE G)) ∧ Agree 108 [(0, .slice (some ⟨bi, 0, none⟩) 18 18), (5, .slice (some ⟨bo, 0, none⟩) 36 36), (6, .pointer (some ⟨b6, 0, none⟩)), (7, .pointer (some ⟨bc, 0, none⟩)), (8, .int .i64 u), (9, .int .i64 p), (10, .float .f32 s), (11, .int .i64 m)] a ∧ HS w0 ((bc, .cells (va 72 (fl .f32 (tab 12 c12))) 150 (0, 0)) :: (b6, .cells (va 36 (fl .f32 (wnb 2))) 132 (0, 0)) :: (bw, .cells (va 144 (fl .f32 (tab 36 wnb))) 149 (0, 0)) :: (bo, .cells (va 36 (fl .f32 o)) 82 (0, 0)) :: H) w) (6) ?_ ?_
        · intro a w ha hw
          exact ⟨0, 0, rfl, by omega, ap_zero two_single, (ha.cons rfl (ha.cons rfl (ha.cons rfl (ha.cons rfl (ha.cons rfl (ha.cons rfl (ha.cons rfl (ha.cons rfl (ha.nil))))))))), hw⟩
        rintro _ a w ⟨m, s, rfl, hm, hs, ha, hw⟩
        refine Tr.use ha hw ?_
        refine Tr.seq ?_
        refine Tr.seq ?_
        refine Tr.region ?_
        refine TL.val (YF.move rfl) (by decide) ?_
        refine TL.val (YF.lss rfl rfl rfl) (by decide) ?_
        refine TL.end ?_
        refine Arr.seq ?_
        refine Tr.cond rfl (fun h35 => ?_) (fun h35 => ?_)
        ·
          replace h35 := of_decide_eq_true h35
          refine Tr.skipE ?_
          refine Arr.seq ?_
          refine Tr.seq ?_
          refine Tr.block ?_
          obtain ⟨pr, s2, f1, f2, hs2⟩ := dot_step two_single (m := m) (x := x (u + 3 * m)) (c := c12 m p) (by omega) hG0 hG (fun q hq => (hx (u + 3 * q) (by omega)).2.2) (fun q hq => (c12_ok (by omega) (by omega)).2.2.le) hs (hx (u + 3 * m) (by omega)).1 (hx (u + 3 * m) (by omega)).2.1 (c12_ok (by omega) (by omega)).2.2.fc (self_near _)
          refine Tr.drawE (_ :: _ :: _ :: _ :: _) (fun H => H) rfl mixed_ ?_
          refine TD.take 0 rfl (by kernel_rfl) (by kernel_rfl) (by kernel_rfl) (fun _ _ _ h => h) (by repeat first | exact List.Sublist.refl _ | apply List.Sublist.cons_cons | apply List.Sublist.cons) (YF.move rfl) (by decide) ?_
          refine TD.take 1 rfl (by kernel_rfl) (by kernel_rfl) (by kernel_rfl) (fun _ _ _ h => h) (by repeat first | exact List.Sublist.refl _ | apply List.Sublist.cons_cons | apply List.Sublist.cons) (YF.move rfl) (by decide) ?_
          refine TD.take 2 rfl (by kernel_rfl) (by kernel_rfl) (by kernel_rfl) (fun _ _ _ h => h) (by repeat first | exact List.Sublist.refl _ | apply List.Sublist.cons_cons | apply List.Sublist.cons) (YF.move rfl) (by decide) ?_
          refine TD.take 3 rfl (by kernel_rfl) (by kernel_rfl) (by kernel_rfl) (fun _ _ _ h => h) (by repeat first | exact List.Sublist.refl _ | apply List.Sublist.cons_cons | apply List.Sublist.cons) (YF.move rfl) (by decide) ?_
          refine TD.take 4 rfl (by kernel_rfl) (by kernel_rfl) (by kernel_rfl) (fun _ _ _ h => h) (by repeat first | exact List.Sublist.refl _ | apply List.Sublist.cons_cons | apply List.Sublist.cons) (YF.mul rfl rfl (IntWalk.i64_in _ (by omega))) (by decide) ?_
          refine TD.take 5 rfl (by kernel_rfl) (by kernel_rfl) (by kernel_rfl) (fun _ _ _ h => h) (by repeat first | exact List.Sublist.refl _ | apply List.Sublist.cons_cons | apply List.Sublist.cons) (YF.add rfl rfl (IntWalk.i64_in _ (by omega))) (by decide) ?_
          refine TD.take 6 rfl (by kernel_rfl) (by kernel_rfl) (by kernel_rfl) (fun _ _ _ h => h) (by repeat first | exact List.Sublist.refl _ | apply List.Sublist.cons_cons | apply List.Sublist.cons) (YF.indexSl sl_43 rfl rfl (by first | decide | omega) (show _ = u + 3 * m by omega)) (by decide) ?_
          refine TD.take 7 rfl (by kernel_rfl) (by kernel_rfl) (by kernel_rfl) (fun _ _ _ h => h) (by repeat first | exact List.Sublist.refl _ | apply List.Sublist.cons_cons | apply List.Sublist.cons) (YF.load (i + 4) sc_82 rfl hi (va_get (by omega) rfl)) (by decide) ?_
          refine TD.take 8 rfl (by kernel_rfl) (by kernel_rfl) (by kernel_rfl) (fun _ _ _ h => h) (by repeat first | exact List.Sublist.refl _ | apply List.Sublist.cons_cons | apply List.Sublist.cons) (YF.move rfl) (by decide) ?_
          refine TD.take 9 rfl (by kernel_rfl) (by kernel_rfl) (by kernel_rfl) (fun _ _ _ h => h) (by repeat first | exact List.Sublist.refl _ | apply List.Sublist.cons_cons | apply List.Sublist.cons) (YF.move rfl) (by decide) ?_
          refine TD.take 10 rfl (by kernel_rfl) (by kernel_rfl) (by kernel_rfl) (fun _ _ _ h => h) (by repeat first | exact List.Sublist.refl _ | apply List.Sublist.cons_cons | apply List.Sublist.cons) (YF.move rfl) (by decide) ?_
          refine TD.take 11 rfl (by kernel_rfl) (by kernel_rfl) (by kernel_rfl) (fun _ _ _ h => h) (by repeat first | exact List.Sublist.refl _ | apply List.Sublist.cons_cons | apply List.Sublist.cons) (YF.nilCheck rfl) (by decide) ?_
          refine TD.take 12 rfl (by kernel_rfl) (by kernel_rfl) (by kernel_rfl) (fun _ _ _ h => h) (by repeat first | exact List.Sublist.refl _ | apply List.Sublist.cons_cons | apply List.Sublist.cons) (YF.indexArr arr_150 rfl rfl (by first | decide | omega) (show _ = 12 * m by omega)) (by decide) ?_
          refine TD.take 13 rfl (by kernel_rfl) (by kernel_rfl) (by kernel_rfl) (fun _ _ _ h => h) (by repeat first | exact List.Sublist.refl _ | apply List.Sublist.cons_cons | apply List.Sublist.cons) (YF.indexArr arr_137 rfl rfl (by first | decide | omega) (show _ = 12 * m + p by omega)) (by decide) ?_
          refine TD.take 14 rfl (by kernel_rfl) (by kernel_rfl) (by kernel_rfl) (fun _ _ _ h => h) (by repeat first | exact List.Sublist.refl _ | apply List.Sublist.cons_cons | apply List.Sublist.cons) (YF.load 0 sc_82 rfl rfl (tab_get (i := m) (j := p) rfl (by omega) (by omega))) (by decide) ?_
          refine TD.take 15 rfl (by kernel_rfl) (by kernel_rfl) (by kernel_rfl) (fun _ _ _ h => h) (by repeat first | exact List.Sublist.refl _ | apply List.Sublist.cons_cons | apply List.Sublist.cons) (YF.farith rfl rfl f1) (by decide) ?_
          refine TD.take 16 rfl (by kernel_rfl) (by kernel_rfl) (by kernel_rfl) (fun _ _ _ h => h) (by repeat first | exact List.Sublist.refl _ | apply List.Sublist.cons_cons | apply List.Sublist.cons) (YF.farith rfl rfl f2) (by decide) ?_
          refine TD.take 17 rfl (by kernel_rfl) (by kernel_rfl) (by kernel_rfl) (fun _ _ _ h => h) (by repeat first | exact List.Sublist.refl _ | apply List.Sublist.cons_cons | apply List.Sublist.cons) (YF.assign rfl) (by decide) ?_
          refine TD.end (by kernel_rfl) ?_
          refine Arr.block ?_
          refine Arr.seq ?_
          refine Tr.region ?_
          refine TL.val (YF.move rfl) (by decide) ?_
          refine TL.val (YF.add rfl rfl (IntWalk.i64_in _ (by omega))) (by decide) ?_
          refine TL.val (YF.assign rfl) (by decide) ?_
          refine TL.end ?_
          exact fun a w ha hw => ⟨_, by omega, m + 1, s2, rfl, by omega, hs2, (ha.cons rfl (ha.cons rfl (ha.cons rfl (ha.cons rfl (ha.cons rfl (ha.cons rfl (ha.cons rfl (ha.cons rfl (ha.nil))))))))), hw⟩
        ·
          replace h35 := of_decide_eq_false h35
          refine Tr.exitE ?_
          refine Arr.seqX ?_
          refine Arr.seqX ?_
          refine Arr.blockE ?_
          refine Arr.seq ?_
          obtain rfl : m = 6 := by omega
          obtain ⟨tt, r, g1, g2, hS2⟩ := short_step two_single hG0 hG (fun q hq => (hx q hq).2.2) (show u < 3 by omega) (show p < 12 by omega) hS hs (wn2_ok (by omega)).2.2.fc (self_near _)
          refine Tr.drawE (_ :: _ :: _ :: _) (fun H => (H.eraseIdx 3)) rfl mixed_ ?_
          refine TD.take 0 rfl (by kernel_rfl) (by kernel_rfl) (by kernel_rfl) (fun _ _ _ h => h) (by repeat first | exact List.Sublist.refl _ | apply List.Sublist.cons_cons | apply List.Sublist.cons) (YF.move rfl) (by decide) ?_
          refine TD.take 1 rfl (by kernel_rfl) (by kernel_rfl) (by kernel_rfl) (fun _ _ _ h => h) (by repeat first | exact List.Sublist.refl _ | apply List.Sublist.cons_cons | apply List.Sublist.cons) (YF.move rfl) (by decide) ?_
          refine TD.take 2 rfl (by kernel_rfl) (by kernel_rfl) (by kernel_rfl) (fun _ _ _ h => h) (by repeat first | exact List.Sublist.refl _ | apply List.Sublist.cons_cons | apply List.Sublist.cons) (YF.mul rfl rfl (IntWalk.i64_in _ (by omega))) (by decide) ?_
          refine TD.take 3 rfl (by kernel_rfl) (by kernel_rfl) (by kernel_rfl) (fun _ _ _ h => h) (by repeat first | exact List.Sublist.refl _ | apply List.Sublist.cons_cons | apply List.Sublist.cons) (YF.move rfl) (by decide) ?_
          refine TD.take 4 rfl (by kernel_rfl) (by kernel_rfl) (by kernel_rfl) (fun _ _ _ h => h) (by repeat first | exact List.Sublist.refl _ | apply List.Sublist.cons_cons | apply List.Sublist.cons) (YF.add rfl rfl (IntWalk.i64_in _ (by omega))) (by decide) ?_
          refine TD.take 5 rfl (by kernel_rfl) (by kernel_rfl) (by kernel_rfl) (fun _ _ _ h => h) (by repeat first | exact List.Sublist.refl _ | apply List.Sublist.cons_cons | apply List.Sublist.cons) (YF.add rfl rfl (IntWalk.i64_in _ (by omega))) (by decide) ?_
          refine TD.take 6 rfl (by kernel_rfl) (by kernel_rfl) (by kernel_rfl) (fun _ _ _ h => h) (by repeat first | exact List.Sublist.refl _ | apply List.Sublist.cons_cons | apply List.Sublist.cons) (YF.indexSl sl_43 rfl rfl (by first | decide | omega) (show _ = 6 * u + p + 6 by omega)) (by decide) ?_
          refine TD.take 8 rfl (by kernel_rfl) (by kernel_rfl) (by kernel_rfl) (fun _ _ _ h => h) (by repeat first | exact List.Sublist.refl _ | apply List.Sublist.cons_cons | apply List.Sublist.cons) (YF.move rfl) (by decide) ?_
          refine TD.take 9 rfl (by kernel_rfl) (by kernel_rfl) (by kernel_rfl) (fun _ _ _ h => h) (by repeat first | exact List.Sublist.refl _ | apply List.Sublist.cons_cons | apply List.Sublist.cons) (YF.move rfl) (by decide) ?_
          refine TD.take 10 rfl (by kernel_rfl) (by kernel_rfl) (by kernel_rfl) (fun _ _ _ h => h) (by repeat first | exact List.Sublist.refl _ | apply List.Sublist.cons_cons | apply List.Sublist.cons) (YF.indexArr arr_132 rfl rfl (by first | decide | omega) (show _ = p by omega)) (by decide) ?_
          refine TD.take 11 rfl (by kernel_rfl) (by kernel_rfl) (by kernel_rfl) (fun _ _ _ h => h) (by repeat first | exact List.Sublist.refl _ | apply List.Sublist.cons_cons | apply List.Sublist.cons) (YF.load 1 sc_82 rfl rfl (va_get (by omega) rfl)) (by decide) ?_
          refine TD.take 12 rfl (by kernel_rfl) (by kernel_rfl) (by kernel_rfl) (fun _ _ _ h => h) (by repeat first | exact List.Sublist.refl _ | apply List.Sublist.cons_cons | apply List.Sublist.cons) (YF.farith rfl rfl g1) (by decide) ?_
          refine TD.eff 7 rfl (by kernel_rfl) (YF.ef (YF.load 3 sc_82 rfl rfl (va_get (by omega) rfl))) (by decide) (by rintro _ _ ⟨rfl, rfl⟩; exact (by repeat first | exact List.Sublist.refl _ | apply List.Sublist.cons_cons | apply List.Sublist.cons)) ?_
          rintro _ _ ⟨rfl, rfl⟩
          refine TD.take 13 rfl (by kernel_rfl) (by kernel_rfl) (by kernel_rfl) (fun _ _ _ h => h) (by repeat first | exact List.Sublist.refl _ | apply List.Sublist.cons_cons | apply List.Sublist.cons) (YF.farith rfl rfl g2) (by decide) ?_
          refine TD.take 14 rfl (by kernel_rfl) (by kernel_rfl) (by kernel_rfl) (fun _ _ _ h => h) (by repeat first | exact List.Sublist.refl _ | apply List.Sublist.cons_cons | apply List.Sublist.cons) (YF.indexSl sl_43 rfl rfl (by first | decide | omega) (show _ = 6 * u + p + 6 by omega)) (by decide) ?_
          refine TD.eff0 15 rfl (by kernel_rfl) (EF.store 3 rfl rfl rfl sz_82 rfl (by rw [va_size]; omega)) (by rintro _ _ ⟨rfl, rfl⟩; exact (by repeat first | exact List.Sublist.refl _ | apply List.Sublist.cons_cons | apply List.Sublist.cons)) ?_
          rintro _ _ ⟨rfl, rfl⟩
          refine TD.heap (_ :: _ :: _ :: (bo, .cells (va 36 (fl .f32 (upd o (6 * u + p + 6) r))) 82 (0, 0)) :: _) (by rw [← fl_set]; rfl) ?_
          refine TD.end (by kernel_rfl) ?_
          refine Arr.block ?_
          refine Arr.seq ?_
          refine Tr.region ?_
          refine TL.val (YF.move rfl) (by decide) ?_
          refine TL.val (YF.add rfl rfl (IntWalk.i64_in _ (by omega))) (by decide) ?_
          refine TL.val (YF.assign rfl) (by decide) ?_
          refine TL.end ?_
          exact fun a w ha hw => ⟨_, by omega, p + 1, upd o (6 * u + p + 6) r, rfl, by omega, hS2, (ha.cons rfl (ha.cons rfl (ha.cons rfl (ha.cons rfl (ha.cons rfl (ha.cons rfl (ha.nil))))))), hw⟩
      ·
        replace h31 := of_decide_eq_false h31
        refine Tr.exitE ?_
        refine Arr.seqX ?_
        refine Arr.seqX ?_
        refine Arr.blockE ?_
        refine Arr.block ?_
        refine Arr.seq ?_
        refine Tr.region ?_
        refine TL.val (YF.move rfl) (by decide) ?_
        refine TL.val (YF.add rfl rfl (IntWalk.i64_in _ (by omega))) (by decide) ?_
        refine TL.val (YF.assign rfl) (by decide) ?_
        refine TL.end ?_
        exact fun a w ha hw => ⟨_, by omega, u + 1, o, rfl, by omega, (by have e : p = 12 := (by omega); subst e; exact SI.next hG0 hS), (ha.cons rfl (ha.cons rfl (ha.cons rfl (ha.cons rfl (ha.cons rfl (ha.nil)))))), hw⟩
    ·
      replace h27 := of_decide_eq_false h27
      refine Tr.exitE ?_
      refine Arr.seqX ?_
      refine Arr.seqX ?_
      refine Arr.blockE ?_
      refine Arr.seq ?_
      refine Tr.seq ?_
      refine Tr.region ?_
      refine TL.val (YF.move rfl) (by decide) ?_
      refine TL.val (YF.assign rfl) (by decide) ?_
      refine TL.end ?_
      refine Arr.seq ?_
      refine Tr.retE ?_
      refine Arr.seqR ?_
      first
        | (have e : u = 3 := by omega
           subst e
           refine Ends.sub (G := (bo, .cells (va 36 (fl .f32 o)) 82 (0, 0)) :: H) ?_ (Ends.tmp rfl rfl ⟨bo, o, rfl, fun q hq => short_out hG0 hS q hq, rfl⟩)
           exact (by repeat first | exact List.Sublist.refl _ | apply List.Sublist.cons_cons | apply List.Sublist.cons))
        | (have e : p = 36 := by omega
           subst e
           refine Ends.sub (G := (bo, .cells (va 36 (fl .f32 o)) 82 (0, 0)) :: H) ?_ (Ends.tmp rfl rfl ⟨bo, o, rfl, hO, rfl⟩)
           exact (by repeat first | exact List.Sublist.refl _ | apply List.Sublist.cons_cons | apply List.Sublist.cons))
  ·
    refine TL.val (YF.eql (b := false) rfl rfl (decide_eq_false (by omega))) (by decide) ?_
    refine TL.end ?_
    refine Arr.seq ?_
    refine Tr.condF rfl ?_
    refine Tr.skipE ?_
    refine Arr.seq ?_
    refine Tr.seq ?_
    refine Tr.region ?_
    refine TL.call (vs := []) call_60 rfl (by decide) (cosines36_ct w0 _ hsn hcn) ?_
    rintro _ _ ⟨bc, rfl, rfl⟩
    refine TL.val (YF.assign rfl) (by decide) ?_
    refine TL.end ?_
    refine Arr.seq ?_
    refine Tr.seq ?_
    refine Tr.region ?_
    refine TL.call (vs := []) call_58 rfl (by decide) (winData_ct w0 _ hsn hcn) ?_
    rintro _ _ ⟨bw, rfl, rfl⟩
    refine TL.val (YF.move rfl) (by decide) ?_
    refine TL.val (YF.nilCheck rfl) (by decide) ?_
    refine TL.val (YF.indexArr arr_149 rfl rfl (by first | decide | omega) (show _ = 36 * b by omega)) (by decide) ?_
    refine TL.val (YF.loadAgg (v := va 36 (fl .f32 (wnb b))) 0 agg_132 rfl rfl (by rw [va_size]; omega) (tab_row (i := b) rfl rfl (by omega))) (by decide) ?_
    refine TL.allocA zero_132 (by decide) (fun b13 => ?_)
    refine TL.storeAll 0 (_ :: _ :: _ :: _ :: _) rfl rfl rfl sz_132 (va_size _ _) Zsz_132 (va_one fun _ _ => rfl) rfl ?_
    refine TL.end ?_
    refine Arr.seq ?_
    refine Tr.seq ?_
    refine Tr.seq ?_
    refine Tr.region ?_
    refine TL.val (YF.assign rfl) (by decide) ?_
    refine TL.end ?_
    refine Arr.seq ?_
    refine Tr.block ?_
    refine Tr.loop (I := fun mq a w => ∃ (p : Nat) (o : Nat → Nat), mq = 36 - p ∧ (p ≤ 36) ∧ (∀ q, q < p → Ap single (o q) (Yw b X q) (WE G)) ∧ Agree 108 [(0, .slice (some ⟨bi, 0, none⟩) 18 18), (5, .slice (some ⟨bo, 0, none⟩) 36 36), (12, .pointer (some ⟨bc, 0, none⟩)), (13, .pointer (some ⟨b13, 0, none⟩)), (14, .int .i64 p)] a ∧ HS w0 ((b13, .cells (va 36 (fl .f32 (wnb b))) 132 (0, 0)) :: (bw, .cells (va 144 (fl .f32 (tab 36 wnb))) 149 (0, 0)) :: (bc, .cells (va 648 (fl .f32 (tab 36 c36))) 151 (0, 0)) :: (bo, .cells (va 36 (fl .f32 o)) 82 (0, 0)) :: H) w) (36) ?_ ?_
    · intro a w ha hw
      exact ⟨0, fun _ => 0, rfl, by omega, fun q hq => absurd hq (by omega), (ha.cons rfl (ha.cons rfl (ha.cons rfl (ha.cons rfl (ha.cons rfl (ha.nil)))))), hw⟩
    rintro _ a w ⟨p, o, rfl, hp, hO, ha, hw⟩
    refine Tr.use ha hw ?_
    refine Tr.seq ?_
    refine Tr.seq ?_
    refine Tr.region ?_
    refine TL.val (YF.move rfl) (by decide) ?_
    refine TL.val (YF.lss rfl rfl rfl) (by decide) ?_
    refine TL.end ?_
    refine Arr.seq ?_
    refine Tr.cond rfl (fun h78 => ?_) (fun h78 => ?_)
    ·
      replace h78 := of_decide_eq_true h78
      refine Tr.skipE ?_
      refine Arr.seq ?_
      refine Tr.seq ?_
      refine Tr.block ?_
      refine Tr.seq ?_
      refine Tr.region ?_
      refine TL.val (YF.assign rfl) (by decide) ?_
      refine TL.end ?_
      refine Arr.seq ?_
      refine Tr.seq ?_
      refine Tr.seq ?_
      refine Tr.region ?_
      refine TL.val (YF.assign rfl) (by decide) ?_
      refine TL.end ?_
      refine Arr.seq ?_
      refine Tr.block ?_
      refine Tr.loop (I := fun mq a w => ∃ (m : Nat) (s : Nat), mq = 18 - m ∧ (m ≤ 18) ∧ (Ap single s (dot X (C36 p) m) ((m : Nat) * EE G)) ∧ Agree 108 [(0, .slice (some ⟨bi, 0, none⟩) 18 18), (5, .slice (some ⟨bo, 0, none⟩) 36 36), (12, .pointer (some ⟨bc, 0, none⟩)), (13, .pointer (some ⟨b13, 0, none⟩)), (14, .int .i64 p), (15, .float .f32 s), (16, .int .i64 m)] a ∧ HS w0 ((b13, .cells (va 36 (fl .f32 (wnb b))) 132 (0, 0)) :: (bw, .cells (va 144 (fl .f32 (tab 36 wnb))) 149 (0, 0)) :: (bc, .cells (va 648 (fl .f32 (tab 36 c36))) 151 (0, 0)) :: (bo, .cells (va 36 (fl .f32 o)) 82 (0, 0)) :: H) w) (18) ?_ ?_
      · intro a w ha hw
        exact ⟨0, 0, rfl, by omega, ap_zero two_single, (ha.cons rfl (ha.cons rfl (ha.cons rfl (ha.cons rfl (ha.cons rfl (ha.cons rfl (ha.cons rfl (ha.nil)))))))), hw⟩
      rintro _ a w ⟨m, s, rfl, hm, hs, ha, hw⟩
      refine Tr.use ha hw ?_
      refine Tr.seq ?_
      refine Tr.seq ?_
      refine Tr.region ?_
      refine TL.val (YF.move rfl) (by decide) ?_
      refine TL.val (YF.lss rfl rfl rfl) (by decide) ?_
      refine TL.end ?_
      refine Arr.seq ?_
      refine Tr.cond rfl (fun h82 => ?_) (fun h82 => ?_)
      ·
        replace h82 := of_decide_eq_true h82
        refine Tr.skipE ?_
        refine Arr.seq ?_
        refine Tr.seq ?_
        refine Tr.block ?_
        obtain ⟨pr, s2, f1, f2, hs2⟩ := dot_step two_single (m := m) (x := x m) (c := c36 m p) (by omega) hG0 hG (fun q hq => (hx q (by omega)).2.2) (fun q hq => (c36_ok (by omega) (by omega)).2.2.le) hs (hx m (by omega)).1 (hx m (by omega)).2.1 (c36_ok (by omega) (by omega)).2.2.fc (self_near _)
        refine Tr.drawE (_ :: _ :: _ :: _ :: _) (fun H => H) rfl mixed_ ?_
        refine TD.take 0 rfl (by kernel_rfl) (by kernel_rfl) (by kernel_rfl) (fun _ _ _ h => h) (by repeat first | exact List.Sublist.refl _ | apply List.Sublist.cons_cons | apply List.Sublist.cons) (YF.move rfl) (by decide) ?_
        refine TD.take 1 rfl (by kernel_rfl) (by kernel_rfl) (by kernel_rfl) (fun _ _ _ h => h) (by repeat first | exact List.Sublist.refl _ | apply List.Sublist.cons_cons | apply List.Sublist.cons) (YF.move rfl) (by decide) ?_
        refine TD.take 2 rfl (by kernel_rfl) (by kernel_rfl) (by kernel_rfl) (fun _ _ _ h => h) (by repeat first | exact List.Sublist.refl _ | apply List.Sublist.cons_cons | apply List.Sublist.cons) (YF.move rfl) (by decide) ?_
        refine TD.take 3 rfl (by kernel_rfl) (by kernel_rfl) (by kernel_rfl) (fun _ _ _ h => h) (by repeat first | exact List.Sublist.refl _ | apply List.Sublist.cons_cons | apply List.Sublist.cons) (YF.indexSl sl_43 rfl rfl (by first | decide | omega) (show _ = m by omega)) (by decide) ?_
        refine TD.take 4 rfl (by kernel_rfl) (by kernel_rfl) (by kernel_rfl) (fun _ _ _ h => h) (by repeat first | exact List.Sublist.refl _ | apply List.Sublist.cons_cons | apply List.Sublist.cons) (YF.load (i + 4) sc_82 rfl hi (va_get (by omega) rfl)) (by decide) ?_
        refine TD.take 5 rfl (by kernel_rfl) (by kernel_rfl) (by kernel_rfl) (fun _ _ _ h => h) (by repeat first | exact List.Sublist.refl _ | apply List.Sublist.cons_cons | apply List.Sublist.cons) (YF.move rfl) (by decide) ?_
        refine TD.take 6 rfl (by kernel_rfl) (by kernel_rfl) (by kernel_rfl) (fun _ _ _ h => h) (by repeat first | exact List.Sublist.refl _ | apply List.Sublist.cons_cons | apply List.Sublist.cons) (YF.move rfl) (by decide) ?_
        refine TD.take 7 rfl (by kernel_rfl) (by kernel_rfl) (by kernel_rfl) (fun _ _ _ h => h) (by repeat first | exact List.Sublist.refl _ | apply List.Sublist.cons_cons | apply List.Sublist.cons) (YF.move rfl) (by decide) ?_
        refine TD.take 8 rfl (by kernel_rfl) (by kernel_rfl) (by kernel_rfl) (fun _ _ _ h => h) (by repeat first | exact List.Sublist.refl _ | apply List.Sublist.cons_cons | apply List.Sublist.cons) (YF.nilCheck rfl) (by decide) ?_
        refine TD.take 9 rfl (by kernel_rfl) (by kernel_rfl) (by kernel_rfl) (fun _ _ _ h => h) (by repeat first | exact List.Sublist.refl _ | apply List.Sublist.cons_cons | apply List.Sublist.cons) (YF.indexArr arr_151 rfl rfl (by first | decide | omega) (show _ = 36 * m by omega)) (by decide) ?_
        refine TD.take 10 rfl (by kernel_rfl) (by kernel_rfl) (by kernel_rfl) (fun _ _ _ h => h) (by repeat first | exact List.Sublist.refl _ | apply List.Sublist.cons_cons | apply List.Sublist.cons) (YF.indexArr arr_132 rfl rfl (by first | decide | omega) (show _ = 36 * m + p by omega)) (by decide) ?_
        refine TD.take 11 rfl (by kernel_rfl) (by kernel_rfl) (by kernel_rfl) (fun _ _ _ h => h) (by repeat first | exact List.Sublist.refl _ | apply List.Sublist.cons_cons | apply List.Sublist.cons) (YF.load 2 sc_82 rfl rfl (tab_get (i := m) (j := p) rfl (by omega) (by omega))) (by decide) ?_
        refine TD.take 12 rfl (by kernel_rfl) (by kernel_rfl) (by kernel_rfl) (fun _ _ _ h => h) (by repeat first | exact List.Sublist.refl _ | apply List.Sublist.cons_cons | apply List.Sublist.cons) (YF.farith rfl rfl f1) (by decide) ?_
        refine TD.take 13 rfl (by kernel_rfl) (by kernel_rfl) (by kernel_rfl) (fun _ _ _ h => h) (by repeat first | exact List.Sublist.refl _ | apply List.Sublist.cons_cons | apply List.Sublist.cons) (YF.farith rfl rfl f2) (by decide) ?_
        refine TD.take 14 rfl (by kernel_rfl) (by kernel_rfl) (by kernel_rfl) (fun _ _ _ h => h) (by repeat first | exact List.Sublist.refl _ | apply List.Sublist.cons_cons | apply List.Sublist.cons) (YF.assign rfl) (by decide) ?_
        refine TD.end (by kernel_rfl) ?_
        refine Arr.block ?_
        refine Arr.seq ?_
        refine Tr.region ?_
        refine TL.val (YF.move rfl) (by decide) ?_
        refine TL.val (YF.add rfl rfl (IntWalk.i64_in _ (by omega))) (by decide) ?_
        refine TL.val (YF.assign rfl) (by decide) ?_
        refine TL.end ?_
        exact fun a w ha hw => ⟨_, by omega, m + 1, s2, rfl, by omega, hs2, (ha.cons rfl (ha.cons rfl (ha.cons rfl (ha.cons rfl (ha.cons rfl (ha.cons rfl (ha.cons rfl (ha.nil)))))))), hw⟩
      ·
        replace h82 := of_decide_eq_false h82
        refine Tr.exitE ?_
        refine Arr.seqX ?_
        refine Arr.seqX ?_
        refine Arr.blockE ?_
        refine Arr.seq ?_
        obtain rfl : m = 18 := by omega
        obtain ⟨r, g1, hr⟩ := long_out two_single hb2 (show p < 36 by omega) hG0 hG (fun q hq => (hx q hq).2.2) hs (wn_ok (b := b) (k := p) (by omega) (by omega)).2.2.fc (self_near _) (wn_ok (b := b) (k := p) (by omega) (by omega)).2.2.le
        refine Tr.region ?_
        refine TL.val (YF.move rfl) (by decide) ?_
        refine TL.val (YF.move rfl) (by decide) ?_
        refine TL.val (YF.move rfl) (by decide) ?_
        refine TL.val (YF.move rfl) (by decide) ?_
        refine TL.val (YF.indexArr arr_132 rfl rfl (by first | decide | omega) (show _ = p by omega)) (by decide) ?_
        refine TL.val (YF.load 0 sc_82 rfl rfl (va_get (by omega) rfl)) (by decide) ?_
        refine TL.val (YF.farith rfl rfl g1) (by decide) ?_
        refine TL.val (YF.indexSl sl_43 rfl rfl (by first | decide | omega) (show _ = p by omega)) (by decide) ?_
        refine TL.storeV 3 (_ :: _ :: _ :: _ :: _) rfl rfl rfl sz_82 rfl (by rw [va_size]; omega) fl_set rfl ?_
        refine TL.end ?_
        refine Arr.block ?_
        refine Arr.seq ?_
        refine Tr.region ?_
        refine TL.val (YF.move rfl) (by decide) ?_
        refine TL.val (YF.add rfl rfl (IntWalk.i64_in _ (by omega))) (by decide) ?_
        refine TL.val (YF.assign rfl) (by decide) ?_
        refine TL.end ?_
        exact fun a w ha hw => ⟨_, by omega, p + 1, upd o p r, rfl, by omega, (fun q hq => by
            by_cases e : q = p
            · subst e; rw [upd_at]; exact hr
            · rw [upd_ne _ _ e]; exact hO q (by omega)), (ha.cons rfl (ha.cons rfl (ha.cons rfl (ha.cons rfl (ha.cons rfl (ha.nil)))))), hw⟩
    ·
      replace h78 := of_decide_eq_false h78
      refine Tr.exitE ?_
      refine Arr.seqX ?_
      refine Arr.seqX ?_
      refine Arr.blockE ?_
      refine Arr.seq ?_
      refine Tr.seq ?_
      refine Tr.region ?_
      refine TL.val (YF.move rfl) (by decide) ?_
      refine TL.val (YF.assign rfl) (by decide) ?_
      refine TL.end ?_
      refine Arr.seq ?_
      refine Tr.retE ?_
      first
        | (have e : u = 3 := by omega
           subst e
           refine Ends.sub (G := (bo, .cells (va 36 (fl .f32 o)) 82 (0, 0)) :: H) ?_ (Ends.tmp rfl rfl ⟨bo, o, rfl, fun q hq => short_out hG0 hS q hq, rfl⟩)
           exact (by repeat first | exact List.Sublist.refl _ | apply List.Sublist.cons_cons | apply List.Sublist.cons))
        | (have e : p = 36 := by omega
           subst e
           refine Ends.sub (G := (bo, .cells (va 36 (fl .f32 o)) 82 (0, 0)) :: H) ?_ (Ends.tmp rfl rfl ⟨bo, o, rfl, hO, rfl⟩)
           exact (by repeat first | exact List.Sublist.refl _ | apply List.Sublist.cons_cons | apply List.Sublist.cons))

end Go.Proofs.YtbcjhkncifckiaaDoor
