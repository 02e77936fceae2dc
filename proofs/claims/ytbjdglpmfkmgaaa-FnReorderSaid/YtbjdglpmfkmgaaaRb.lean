/- The walks of the order, in the package and in the reference. -/
import Derived.Test.YtbjdglpmfkmgaaaRa
namespace Go.Proofs.Ytbjdglpmfkmgaaa
open Go Go.RowKit Go.Proofs En
set_option maxRecDepth 100000
set_option maxHeartbeats 0

theorem ordered_ct (h s : Nat → Int) (x : Nat → Nat) (g c r i bx : Nat) (hg : g < 2) (hc : c < 2) (t' : TypeId) (f' : Nat × Nat) (w0 : World) (H : Hp) (hi : H[i]? = some (bx, .cells (va 576 (fl .f64 x)) t' f')) (hr : h 1 = (r : Int)) (hr3 : r < 3) (hmx : s (34 + 2 * g + c) = 0 ∨ s (34 + 2 * g + c) = 1) : Ct Try.prog 13 #[.agg (va 7 (sd h)), .agg (va 86 (sd s)), .int .i64 g, .int .i64 c, .slice (some ⟨bx, 0, none⟩) 576 576] w0 (H) (fun v H' => ∃ b' S cs y L, v = .slice (some ⟨b', 0, none⟩) 576 S ∧ H' = L ++ H ∧ (∃ (j : Nat) (t : TypeId) (fr : Nat × Nat), H'[j]? = some (b', .cells cs t fr)) ∧ (∀ k, k < 576 → cs[k]? = some (.float .f64 (y k))) ∧ RO r s g c x y) := by
  refine Ct.of_body (n := 88) (E := [(0, _), (1, _), (2, _), (3, _), (4, _)]) Try.func13 rfl rfl rfl rfl ?_
  refine Tr.seq ?_
  refine Tr.region ?_
  refine TL.box rfl (by decide) (fun b5 => ?_)
  refine TL.box rfl (by decide) (fun b6 => ?_)
  refine TL.val (YF.assign rfl) (by decide) ?_
  refine TL.end ?_
  refine Arr.seq ?_
  refine Tr.seq ?_
  refine Tr.seq ?_
  refine Tr.region ?_
  refine TL.val (YF.loadAll 0 agg_36 rfl rfl (va_size _ _)) (by decide) ?_
  refine TL.val (YF.move rfl) (by decide) ?_
  refine TL.val (YF.move rfl) (by decide) ?_
  refine TL.call (vs := [_, _, _]) call_16 rfl (by decide) (short_ct s g c hg hc w0 _) ?_
  rintro _ _ ⟨sb, rfl, hsb, rfl⟩
  refine TL.val (YF.not rfl rfl) (by decide) ?_
  refine TL.end ?_
  refine Arr.seq ?_
  refine Tr.cond rfl (fun h22 => ?_) (fun h22 => ?_)
  ·
    refine Tr.seq ?_
    refine Tr.region ?_
    refine TL.val (YF.move rfl) (by decide) ?_
    refine TL.val (YF.assign rfl) (by decide) ?_
    refine TL.end ?_
    refine Arr.seq ?_
    refine Tr.retE ?_
    refine Arr.seqR ?_
    first
      | (have hsb' : ¬ (s (26 + 2 * g + c) = 1 ∧ s (30 + 2 * g + c) = 2) := by
          intro hq; rw [hsb.2 hq] at h22; cases h22
         exact Ends.sub (List.Sublist.cons _ (List.Sublist.cons _ (List.Sublist.refl _))) (Ends.tmp rfl rfl ⟨bx, 576, _, x, [], rfl, rfl, ⟨i, _, _, hi⟩, fun k hk => va_get hk rfl, fun hq => absurd hq hsb', fun _ _ _ => rfl⟩))
      | (have hsb' : s (26 + 2 * g + c) = 1 ∧ s (30 + 2 * g + c) = 2 := hsb.1 (by cases sb; cases h22; rfl)
         have e : t = 13 := by omega
         subst e
         refine Ends.sub ?_ (Ends.tmp rfl rfl ⟨b9, S, _, y, [(b9, .cells (va S (zd z y)) 60 (0, 0))], rfl, rfl, ⟨0, _, _, rfl⟩, fun k hk => zd_get hk hS, fun _ => ⟨lo, hlo, hd, hh⟩, fun hq => absurd hsb' hq⟩)
         exact (by repeat first | exact List.Sublist.refl _ | apply List.Sublist.cons_cons | apply List.Sublist.cons))
  ·
    refine Tr.skipE ?_
    refine Arr.seq ?_
    refine Tr.seq ?_
    refine Tr.region ?_
    refine TL.buildSlice (vs := []) (cs := #[]) sl_54 zero_60 rfl rfl (by kernel_rfl) rfl (by decide) (fun b => ?_)
    refine TL.val (YF.move rfl) (by decide) ?_
    
    refine TL.eff (EF.appendRow 0 (i + 3) sl_54 bytes_60 zero_60 rfl rfl rfl rfl rfl hi) (by decide) ?_
    rintro _ _ ⟨b9, S, z, hS, rfl, rfl⟩
    refine TL.heap (_ :: _ :: _ :: _) rfl ?_
    refine TL.val (YF.assign rfl) (by decide) ?_
    refine TL.end ?_
    refine Arr.seq ?_
    refine Tr.seq ?_
    refine Tr.region ?_
    refine TL.val (YF.fieldAddr fo_27_1 rfl rfl) (by decide) ?_
    refine TL.val (YF.load (v := .int .i64 (r : Int)) 2 sc_3 rfl rfl (va_get (by decide) (by show Value.int .i64 (h 1) = _; rw [hr]))) (by decide) ?_
    refine TL.call (vs := [_]) call_23 rfl (by decide) (shortBands_ct r w0 _ hr3) ?_
    rintro _ _ ⟨bt, cs, hcs, rfl, rfl⟩
    subst hcs
    refine TL.val (YF.assign rfl) (by decide) ?_
    refine TL.end ?_
    refine Arr.seq ?_
    refine Tr.seq ?_
    refine Tr.region ?_
    refine TL.val (YF.assign rfl) (by decide) ?_
    refine TL.end ?_
    refine Arr.seq ?_
    refine Tr.seq ?_
    refine Tr.seq ?_
    refine Tr.region ?_
    refine TL.val (YF.move rfl) (by decide) ?_
    refine TL.val (YF.move rfl) (by decide) ?_
    refine TL.val (YF.fieldAddr fo_36_9 rfl rfl) (by decide) ?_
    refine TL.val (YF.indexArr arr_31 rfl rfl (by first | decide | omega) rfl) (by decide) ?_
    refine TL.val (YF.indexArr arr_30 rfl rfl (by first | decide | omega) (show _ = 34 + 2 * g + c by omega)) (by decide) ?_
    refine TL.val (YF.load 2 sc_3 rfl rfl (sd_int (by omega))) (by decide) ?_
    refine TL.val (YF.eql rfl rfl rfl) (by decide) ?_
    refine TL.end ?_
    refine Arr.seq ?_
    refine Tr.cutN (R := fun a w => ∃ lo : Nat, (s (34 + 2 * g + c) = 0 ∧ lo = 0 ∨ s (34 + 2 * g + c) ≠ 0 ∧ lo = 3) ∧ Agree 88 [(4, .slice (some ⟨bx, 0, none⟩) 576 576), (11, .slice (some ⟨b9, 0, none⟩) 576 S), (12, .slice (some ⟨bt, 0, none⟩) 14 14), (13, .int .i64 lo)] a ∧ HS w0 ((bt, .cells (va 14 (sd (sbi r))) 3 (0, 0)) :: (b9, .cells (va S (zd z x)) 60 (0, 0)) :: (b6, .cells (va 86 (sd s)) 36 (0, 0)) :: (b5, .cells (va 7 (sd h)) 27 (0, 0)) :: H) w) ?_ ?_
    ·
      refine Tr.cond rfl (fun h36 => ?_) (fun h36 => ?_)
      ·
        replace h36 := of_decide_eq_true h36
        refine Tr.region ?_
        refine TL.val (YF.assign rfl) (by decide) ?_
        refine TL.end ?_
        refine Arr.meet ?_
        first
          | exact fun a w ha hw => ⟨3, by omega, (ha.cons rfl (ha.cons rfl (ha.cons rfl (ha.cons rfl (ha.nil))))), hw⟩
          | exact fun a w ha hw => ⟨0, by omega, (ha.cons rfl (ha.cons rfl (ha.cons rfl (ha.cons rfl (ha.nil))))), hw⟩
      ·
        replace h36 := of_decide_eq_false h36
        refine Tr.skipE ?_
        refine Arr.meet ?_
        first
          | exact fun a w ha hw => ⟨3, by omega, (ha.cons rfl (ha.cons rfl (ha.cons rfl (ha.cons rfl (ha.nil))))), hw⟩
          | exact fun a w ha hw => ⟨0, by omega, (ha.cons rfl (ha.cons rfl (ha.cons rfl (ha.cons rfl (ha.nil))))), hw⟩
    rintro a w ⟨lo, hlo, ha, hw⟩
    refine Arr.use ha hw ?_
    refine Arr.seq ?_
    refine Tr.seq ?_
    refine Tr.seq ?_
    refine Tr.region ?_
    refine TL.val (YF.move rfl) (by decide) ?_
    refine TL.val (YF.assign rfl) (by decide) ?_
    refine TL.end ?_
    refine Arr.seq ?_
    refine Tr.block ?_
    refine Tr.loop (I := fun mq a w => ∃ (t : Nat) (y : Nat → Nat), mq = 13 - t ∧ (lo ≤ t ∧ t ≤ 13) ∧ (Done r lo t x y) ∧ (∀ q, q < 3 * sbn r lo → y q = x q) ∧ Agree 88 [(4, .slice (some ⟨bx, 0, none⟩) 576 576), (11, .slice (some ⟨b9, 0, none⟩) 576 S), (12, .slice (some ⟨bt, 0, none⟩) 14 14), (14, .int .i64 t)] a ∧ HS w0 ((bt, .cells (va 14 (sd (sbi r))) 3 (0, 0)) :: (b9, .cells (va S (zd z y)) 60 (0, 0)) :: (b6, .cells (va 86 (sd s)) 36 (0, 0)) :: (b5, .cells (va 7 (sd h)) 27 (0, 0)) :: H) w) (13 - lo) ?_ ?_
    · intro a w ha hw
      exact ⟨lo, x, rfl, by omega, Done.zero _ _ _ _, fun _ _ => rfl, (ha.cons rfl (ha.cons rfl (ha.cons rfl (ha.cons rfl (ha.nil))))), hw⟩
    rintro _ a w ⟨t, y, rfl, ht, hd, hh, ha, hw⟩
    refine Tr.use ha hw ?_
    refine Tr.seq ?_
    refine Tr.seq ?_
    refine Tr.region ?_
    refine TL.val (YF.move rfl) (by decide) ?_
    refine TL.val (YF.lss rfl rfl rfl) (by decide) ?_
    refine TL.end ?_
    refine Arr.seq ?_
    refine Tr.cond rfl (fun h39 => ?_) (fun h39 => ?_)
    ·
      replace h39 := of_decide_eq_true h39
      refine Tr.skipE ?_
      refine Arr.seq ?_
      refine Tr.seq ?_
      refine Tr.block ?_
      refine Tr.seq ?_
      have hb1 := sbn_lt r t (by omega)
      have hb2 := sbn_le r (show t + 1 ≤ 13 by omega) (Nat.le_refl _)
      rw [sbn_13] at hb2
      refine Tr.drawE (_ :: _ :: _ :: _ :: _) (fun H => H) rfl mixed_ ?_
      refine TD.take 0 rfl (by kernel_rfl) (by kernel_rfl) (by kernel_rfl) (fun _ _ _ h => h) (by repeat first | exact List.Sublist.refl _ | apply List.Sublist.cons_cons | apply List.Sublist.cons) (YF.move rfl) (by decide) ?_
      refine TD.take 1 rfl (by kernel_rfl) (by kernel_rfl) (by kernel_rfl) (fun _ _ _ h => h) (by repeat first | exact List.Sublist.refl _ | apply List.Sublist.cons_cons | apply List.Sublist.cons) (YF.move rfl) (by decide) ?_
      refine TD.take 2 rfl (by kernel_rfl) (by kernel_rfl) (by kernel_rfl) (fun _ _ _ h => h) (by repeat first | exact List.Sublist.refl _ | apply List.Sublist.cons_cons | apply List.Sublist.cons) (YF.add rfl rfl (IntWalk.i64_in _ (by omega))) (by decide) ?_
      refine TD.take 3 rfl (by kernel_rfl) (by kernel_rfl) (by kernel_rfl) (fun _ _ _ h => h) (by repeat first | exact List.Sublist.refl _ | apply List.Sublist.cons_cons | apply List.Sublist.cons) (YF.indexSl sl_69 rfl rfl (by first | decide | omega) (show _ = t + 1 by omega)) (by decide) ?_
      refine TD.take 4 rfl (by kernel_rfl) (by kernel_rfl) (by kernel_rfl) (fun _ _ _ h => h) (by repeat first | exact List.Sublist.refl _ | apply List.Sublist.cons_cons | apply List.Sublist.cons) (YF.load 0 sc_3 rfl rfl (sbi_get (by omega))) (by decide) ?_
      refine TD.take 5 rfl (by kernel_rfl) (by kernel_rfl) (by kernel_rfl) (fun _ _ _ h => h) (by repeat first | exact List.Sublist.refl _ | apply List.Sublist.cons_cons | apply List.Sublist.cons) (YF.move rfl) (by decide) ?_
      refine TD.take 6 rfl (by kernel_rfl) (by kernel_rfl) (by kernel_rfl) (fun _ _ _ h => h) (by repeat first | exact List.Sublist.refl _ | apply List.Sublist.cons_cons | apply List.Sublist.cons) (YF.move rfl) (by decide) ?_
      refine TD.take 7 rfl (by kernel_rfl) (by kernel_rfl) (by kernel_rfl) (fun _ _ _ h => h) (by repeat first | exact List.Sublist.refl _ | apply List.Sublist.cons_cons | apply List.Sublist.cons) (YF.indexSl sl_69 rfl rfl (by first | decide | omega) (show _ = t by omega)) (by decide) ?_
      refine TD.take 8 rfl (by kernel_rfl) (by kernel_rfl) (by kernel_rfl) (fun _ _ _ h => h) (by repeat first | exact List.Sublist.refl _ | apply List.Sublist.cons_cons | apply List.Sublist.cons) (YF.load 0 sc_3 rfl rfl (sbi_get (by omega))) (by decide) ?_
      refine TD.take 9 rfl (by kernel_rfl) (by kernel_rfl) (by kernel_rfl) (fun _ _ _ h => h) (by repeat first | exact List.Sublist.refl _ | apply List.Sublist.cons_cons | apply List.Sublist.cons) (YF.sub rfl rfl (IntWalk.i64_in _ (by omega))) (by decide) ?_
      refine TD.take 10 rfl (by kernel_rfl) (by kernel_rfl) (by kernel_rfl) (fun _ _ _ h => h) (by repeat first | exact List.Sublist.refl _ | apply List.Sublist.cons_cons | apply List.Sublist.cons) (YF.assign rfl) (by decide) ?_
      refine TD.end (by kernel_rfl) ?_
      refine Arr.seq ?_
      refine Tr.seq ?_
      refine Tr.region ?_
      refine TL.val (YF.move rfl) (by decide) ?_
      refine TL.end ?_
      refine Arr.seq ?_
      refine Tr.block ?_
      refine Tr.loop (I := fun mq a w => ∃ (v : Nat) (y : Nat → Nat), mq = 3 - v ∧ (v ≤ 3) ∧ (Part r t v 0 (3 * sbn r t) x y) ∧ (Done r lo t x y) ∧ (∀ q, q < 3 * sbn r lo → y q = x q) ∧ Agree 88 [(4, .slice (some ⟨bx, 0, none⟩) 576 576), (11, .slice (some ⟨b9, 0, none⟩) 576 S), (12, .slice (some ⟨bt, 0, none⟩) 14 14), (14, .int .i64 t), (15, .int .i64 ((sbn r (t + 1) : Int) - (sbn r t : Int))), (52, .int .i64 v)] a ∧ HS w0 ((bt, .cells (va 14 (sd (sbi r))) 3 (0, 0)) :: (b9, .cells (va S (zd z y)) 60 (0, 0)) :: (b6, .cells (va 86 (sd s)) 36 (0, 0)) :: (b5, .cells (va 7 (sd h)) 27 (0, 0)) :: H) w) (3) ?_ ?_
      · intro a w ha hw
        exact ⟨0, y, rfl, by omega, Part.zero _ _ _ _ _, hd, hh, (ha.cons rfl (ha.cons rfl (ha.cons rfl (ha.cons rfl (ha.cons rfl (ha.cons rfl (ha.nil))))))), hw⟩
      rintro _ a w ⟨v, y, rfl, hw3, hp, hd, hh, ha, hw⟩
      refine Tr.use ha hw ?_
      refine Tr.seq ?_
      refine Tr.region ?_
      refine TL.val (YF.lss rfl rfl rfl) (by decide) ?_
      refine TL.end ?_
      refine Arr.seq ?_
      refine Tr.seq ?_
      refine Tr.cond rfl (fun h53 => ?_) (fun h53 => ?_)
      ·
        replace h53 := of_decide_eq_true h53
        refine Tr.skipE ?_
        refine Arr.seq ?_
        refine Tr.seq ?_
        refine Tr.block ?_
        refine Tr.seq ?_
        refine Tr.region ?_
        refine TL.val (YF.move rfl) (by decide) ?_
        refine TL.val (YF.assign rfl) (by decide) ?_
        refine TL.end ?_
        refine Arr.seq ?_
        refine Tr.seq ?_
        refine Tr.region ?_
        refine TL.val (YF.move rfl) (by decide) ?_
        refine TL.val (YF.move rfl) (by decide) ?_
        refine TL.end ?_
        refine Arr.seq ?_
        refine Tr.block ?_
        refine Tr.loop (I := fun mq a w => ∃ (k : Nat) (y : Nat → Nat), mq = sbn r (t + 1) - sbn r t - k ∧ (k ≤ sbn r (t + 1) - sbn r t) ∧ (Part r t v k (3 * sbn r t) x y) ∧ (Done r lo t x y) ∧ (∀ q, q < 3 * sbn r lo → y q = x q) ∧ Agree 88 [(4, .slice (some ⟨bx, 0, none⟩) 576 576), (11, .slice (some ⟨b9, 0, none⟩) 576 S), (12, .slice (some ⟨bt, 0, none⟩) 14 14), (14, .int .i64 t), (15, .int .i64 ((sbn r (t + 1) : Int) - (sbn r t : Int))), (16, .int .i64 v), (52, .int .i64 v), (55, .int .i64 ((sbn r (t + 1) : Int) - (sbn r t : Int))), (56, .int .i64 k)] a ∧ HS w0 ((bt, .cells (va 14 (sd (sbi r))) 3 (0, 0)) :: (b9, .cells (va S (zd z y)) 60 (0, 0)) :: (b6, .cells (va 86 (sd s)) 36 (0, 0)) :: (b5, .cells (va 7 (sd h)) 27 (0, 0)) :: H) w) (sbn r (t + 1) - sbn r t) ?_ ?_
        · intro a w ha hw
          exact ⟨0, y, rfl, by omega, hp, hd, hh, (ha.cons rfl (ha.cons rfl (ha.cons rfl (ha.cons rfl (ha.cons rfl (ha.cons rfl (ha.cons rfl (ha.cons rfl (ha.cons rfl (ha.nil)))))))))), hw⟩
        rintro _ a w ⟨k, y, rfl, hk, hp, hd, hh, ha, hw⟩
        refine Tr.use ha hw ?_
        refine Tr.seq ?_
        refine Tr.region ?_
        refine TL.val (YF.lss rfl rfl rfl) (by decide) ?_
        refine TL.end ?_
        refine Arr.seq ?_
        refine Tr.seq ?_
        refine Tr.cond rfl (fun h57 => ?_) (fun h57 => ?_)
        ·
          replace h57 := of_decide_eq_true h57
          refine Tr.skipE ?_
          refine Arr.seq ?_
          refine Tr.seq ?_
          refine Tr.block ?_
          refine Tr.seq ?_
          refine Tr.region ?_
          refine TL.val (YF.move rfl) (by decide) ?_
          refine TL.val (YF.assign rfl) (by decide) ?_
          refine TL.end ?_
          refine Arr.seq ?_
          obtain ⟨wn, hwn1, hwn2, hwn3⟩ := prod_some v (sbn r t) (sbn r (t + 1)) (by omega) (by omega)
          refine Tr.drawE (_ :: _ :: _ :: _) (fun H => (H.eraseIdx 1)) rfl mixed_ ?_
          refine TD.take 0 rfl (by kernel_rfl) (by kernel_rfl) (by kernel_rfl) (fun _ _ _ h => h) (by repeat first | exact List.Sublist.refl _ | apply List.Sublist.cons_cons | apply List.Sublist.cons) (YF.move rfl) (by decide) ?_
          refine TD.take 1 rfl (by kernel_rfl) (by kernel_rfl) (by kernel_rfl) (fun _ _ _ h => h) (by repeat first | exact List.Sublist.refl _ | apply List.Sublist.cons_cons | apply List.Sublist.cons) (YF.move rfl) (by decide) ?_
          refine TD.take 2 rfl (by kernel_rfl) (by kernel_rfl) (by kernel_rfl) (fun _ _ _ h => h) (by repeat first | exact List.Sublist.refl _ | apply List.Sublist.cons_cons | apply List.Sublist.cons) (YF.move rfl) (by decide) ?_
          refine TD.take 3 rfl (by kernel_rfl) (by kernel_rfl) (by kernel_rfl) (fun _ _ _ h => h) (by repeat first | exact List.Sublist.refl _ | apply List.Sublist.cons_cons | apply List.Sublist.cons) (YF.indexSl sl_69 rfl rfl (by first | decide | omega) (show _ = t by omega)) (by decide) ?_
          refine TD.take 4 rfl (by kernel_rfl) (by kernel_rfl) (by kernel_rfl) (fun _ _ _ h => h) (by repeat first | exact List.Sublist.refl _ | apply List.Sublist.cons_cons | apply List.Sublist.cons) (YF.load 0 sc_3 rfl rfl (sbi_get (by omega))) (by decide) ?_
          refine TD.take 5 rfl (by kernel_rfl) (by kernel_rfl) (by kernel_rfl) (fun _ _ _ h => h) (by repeat first | exact List.Sublist.refl _ | apply List.Sublist.cons_cons | apply List.Sublist.cons) (YF.mul rfl rfl (IntWalk.i64_in _ (by omega))) (by decide) ?_
          refine TD.take 6 rfl (by kernel_rfl) (by kernel_rfl) (by kernel_rfl) (fun _ _ _ h => h) (by repeat first | exact List.Sublist.refl _ | apply List.Sublist.cons_cons | apply List.Sublist.cons) (YF.move rfl) (by decide) ?_
          refine TD.take 7 rfl (by kernel_rfl) (by kernel_rfl) (by kernel_rfl) (fun _ _ _ h => h) (by repeat first | exact List.Sublist.refl _ | apply List.Sublist.cons_cons | apply List.Sublist.cons) (YF.mul rfl rfl (IntWalk.i64_in _ (by omega))) (by decide) ?_
          refine TD.take 8 rfl (by kernel_rfl) (by kernel_rfl) (by kernel_rfl) (fun _ _ _ h => h) (by repeat first | exact List.Sublist.refl _ | apply List.Sublist.cons_cons | apply List.Sublist.cons) (YF.add rfl rfl (IntWalk.i64_in _ (by omega))) (by decide) ?_
          refine TD.take 9 rfl (by kernel_rfl) (by kernel_rfl) (by kernel_rfl) (fun _ _ _ h => h) (by repeat first | exact List.Sublist.refl _ | apply List.Sublist.cons_cons | apply List.Sublist.cons) (YF.move rfl) (by decide) ?_
          refine TD.take 10 rfl (by kernel_rfl) (by kernel_rfl) (by kernel_rfl) (fun _ _ _ h => h) (by repeat first | exact List.Sublist.refl _ | apply List.Sublist.cons_cons | apply List.Sublist.cons) (YF.add rfl rfl (IntWalk.i64_in _ (by omega))) (by decide) ?_
          refine TD.take 11 rfl (by kernel_rfl) (by kernel_rfl) (by kernel_rfl) (fun _ _ _ h => h) (by repeat first | exact List.Sublist.refl _ | apply List.Sublist.cons_cons | apply List.Sublist.cons) (YF.move rfl) (by decide) ?_
          refine TD.take 12 rfl (by kernel_rfl) (by kernel_rfl) (by kernel_rfl) (fun _ _ _ h => h) (by repeat first | exact List.Sublist.refl _ | apply List.Sublist.cons_cons | apply List.Sublist.cons) (YF.move rfl) (by decide) ?_
          refine TD.take 13 rfl (by kernel_rfl) (by kernel_rfl) (by kernel_rfl) (fun _ _ _ h => h) (by repeat first | exact List.Sublist.refl _ | apply List.Sublist.cons_cons | apply List.Sublist.cons) (YF.move rfl) (by decide) ?_
          refine TD.take 14 rfl (by kernel_rfl) (by kernel_rfl) (by kernel_rfl) (fun _ _ _ h => h) (by repeat first | exact List.Sublist.refl _ | apply List.Sublist.cons_cons | apply List.Sublist.cons) (YF.indexSl sl_69 rfl rfl (by first | decide | omega) (show _ = t by omega)) (by decide) ?_
          refine TD.take 15 rfl (by kernel_rfl) (by kernel_rfl) (by kernel_rfl) (fun _ _ _ h => h) (by repeat first | exact List.Sublist.refl _ | apply List.Sublist.cons_cons | apply List.Sublist.cons) (YF.load 0 sc_3 rfl rfl (sbi_get (by omega))) (by decide) ?_
          refine TD.take 16 rfl (by kernel_rfl) (by kernel_rfl) (by kernel_rfl) (fun _ _ _ h => h) (by repeat first | exact List.Sublist.refl _ | apply List.Sublist.cons_cons | apply List.Sublist.cons) (YF.mul rfl rfl (IntWalk.i64_in _ (by omega))) (by decide) ?_
          refine TD.take 17 rfl (by kernel_rfl) (by kernel_rfl) (by kernel_rfl) (fun _ _ _ h => h) (by repeat first | exact List.Sublist.refl _ | apply List.Sublist.cons_cons | apply List.Sublist.cons) (YF.move rfl) (by decide) ?_
          refine TD.take 18 rfl (by kernel_rfl) (by kernel_rfl) (by kernel_rfl) (fun _ _ _ h => h) (by repeat first | exact List.Sublist.refl _ | apply List.Sublist.cons_cons | apply List.Sublist.cons) (YF.move rfl) (by decide) ?_
          refine TD.take 19 rfl (by kernel_rfl) (by kernel_rfl) (by kernel_rfl) (fun _ _ _ h => h) (by repeat first | exact List.Sublist.refl _ | apply List.Sublist.cons_cons | apply List.Sublist.cons) (YF.mul rfl rfl (IntWalk.i64_in _ (by omega))) (by decide) ?_
          refine TD.take 20 rfl (by kernel_rfl) (by kernel_rfl) (by kernel_rfl) (fun _ _ _ h => h) (by repeat first | exact List.Sublist.refl _ | apply List.Sublist.cons_cons | apply List.Sublist.cons) (YF.add rfl rfl (IntWalk.i64_in _ (by omega))) (by decide) ?_
          refine TD.take 21 rfl (by kernel_rfl) (by kernel_rfl) (by kernel_rfl) (fun _ _ _ h => h) (by repeat first | exact List.Sublist.refl _ | apply List.Sublist.cons_cons | apply List.Sublist.cons) (YF.move rfl) (by decide) ?_
          refine TD.take 22 rfl (by kernel_rfl) (by kernel_rfl) (by kernel_rfl) (fun _ _ _ h => h) (by repeat first | exact List.Sublist.refl _ | apply List.Sublist.cons_cons | apply List.Sublist.cons) (YF.add rfl rfl (IntWalk.i64_in _ (by omega))) (by decide) ?_
          refine TD.take 23 rfl (by kernel_rfl) (by kernel_rfl) (by kernel_rfl) (fun _ _ _ h => h) (by repeat first | exact List.Sublist.refl _ | apply List.Sublist.cons_cons | apply List.Sublist.cons) (YF.indexSl sl_54 rfl rfl (by first | decide | omega) (show _ = 3 * sbn r t + wn + k by omega)) (by decide) ?_
          refine TD.take 24 rfl (by kernel_rfl) (by kernel_rfl) (by kernel_rfl) (fun _ _ _ h => h) (by repeat first | exact List.Sublist.refl _ | apply List.Sublist.cons_cons | apply List.Sublist.cons) (YF.load (i + 3) sc_60 rfl hi (va_get (by omega) rfl)) (by decide) ?_
          refine TD.take 25 rfl (by kernel_rfl) (by kernel_rfl) (by kernel_rfl) (fun _ _ _ h => h) (by repeat first | exact List.Sublist.refl _ | apply List.Sublist.cons_cons | apply List.Sublist.cons) (YF.indexSl sl_54 rfl rfl (by first | decide | omega) (show _ = 3 * sbn r t + 3 * k + v by omega)) (by decide) ?_
          refine TD.eff0 26 rfl (by kernel_rfl) (EF.store 1 rfl rfl rfl sz_60 rfl (by rw [va_size]; omega)) (by rintro _ _ ⟨rfl, rfl⟩; exact (by repeat first | exact List.Sublist.refl _ | apply List.Sublist.cons_cons | apply List.Sublist.cons)) ?_
          rintro _ _ ⟨rfl, rfl⟩
          refine TD.heap (_ :: (b9, .cells (va S (zd z (upd y (3 * sbn r t + 3 * k + v) (x (3 * sbn r t + wn + k))))) 60 (0, 0)) :: _ :: _ :: _) (by rw [← zd_set (by omega)]; rfl) ?_
          refine TD.end (by kernel_rfl) ?_
          refine Arr.block ?_
          refine Arr.seq ?_
          refine Tr.region ?_
          refine TL.val (YF.add rfl rfl (IntWalk.i64_in _ (by omega))) (by decide) ?_
          refine TL.val (YF.move rfl) (by decide) ?_
          refine TL.end ?_
          exact fun a w ha hw => ⟨_, by omega, k + 1, upd y (3 * sbn r t + 3 * k + v) (x (3 * sbn r t + wn + k)), rfl, by omega, hp.step (by omega) rfl (by rw [hwn2]), hd.upd (by omega) (by omega), (fun q hq => by
                            have := sbn_le r ht.1 ht.2
                            rw [upd_ne _ _ (by omega)]; exact hh q hq), (ha.cons rfl (ha.cons rfl (ha.cons rfl (ha.cons rfl (ha.cons rfl (ha.cons rfl (ha.cons rfl (ha.cons rfl (ha.cons rfl (ha.nil)))))))))), hw⟩
        ·
          replace h57 := of_decide_eq_false h57
          refine Tr.exitE ?_
          refine Arr.seqX ?_
          refine Arr.seqX ?_
          refine Arr.blockE ?_
          refine Arr.block ?_
          refine Arr.seq ?_
          refine Tr.region ?_
          refine TL.val (YF.add rfl rfl (IntWalk.i64_in _ (by omega))) (by decide) ?_
          refine TL.val (YF.move rfl) (by decide) ?_
          refine TL.end ?_
          exact fun a w ha hw => ⟨_, by omega, v + 1, y, rfl, by omega, (by have e : k = sbn r (t + 1) - sbn r t := (by omega); subst e; exact hp.next), hd, hh, (ha.cons rfl (ha.cons rfl (ha.cons rfl (ha.cons rfl (ha.cons rfl (ha.cons rfl (ha.nil))))))), hw⟩
      ·
        replace h53 := of_decide_eq_false h53
        refine Tr.exitE ?_
        refine Arr.seqX ?_
        refine Arr.seqX ?_
        refine Arr.blockE ?_
        refine Arr.block ?_
        refine Arr.seq ?_
        refine Tr.region ?_
        refine TL.val (YF.move rfl) (by decide) ?_
        refine TL.val (YF.add rfl rfl (IntWalk.i64_in _ (by omega))) (by decide) ?_
        refine TL.val (YF.assign rfl) (by decide) ?_
        refine TL.end ?_
        exact fun a w ha hw => ⟨_, by omega, t + 1, y, rfl, by omega, (by have e : v = 3 := (by omega); subst e; exact hd.step hp), hh, (ha.cons rfl (ha.cons rfl (ha.cons rfl (ha.cons rfl (ha.nil))))), hw⟩
    ·
      replace h39 := of_decide_eq_false h39
      refine Tr.exitE ?_
      refine Arr.seqX ?_
      refine Arr.seqX ?_
      refine Arr.blockE ?_
      refine Arr.seq ?_
      refine Tr.seq ?_
      refine Tr.region ?_
      refine TL.val (YF.move rfl) (by decide) ?_
      refine TL.val (YF.assign rfl) (by decide) ?_
      refine TL.end ?_
      refine Arr.seq ?_
      refine Tr.retE ?_
      first
        | (have hsb' : ¬ (s (26 + 2 * g + c) = 1 ∧ s (30 + 2 * g + c) = 2) := by
            intro hq; rw [hsb.2 hq] at h22; cases h22
           exact Ends.sub (List.Sublist.cons _ (List.Sublist.cons _ (List.Sublist.refl _))) (Ends.tmp rfl rfl ⟨bx, 576, _, x, [], rfl, rfl, ⟨i, _, _, hi⟩, fun k hk => va_get hk rfl, fun hq => absurd hq hsb', fun _ _ _ => rfl⟩))
        | (have hsb' : s (26 + 2 * g + c) = 1 ∧ s (30 + 2 * g + c) = 2 := hsb.1 (by cases sb; cases h22; rfl)
           have e : t = 13 := by omega
           subst e
           refine Ends.sub ?_ (Ends.tmp rfl rfl ⟨b9, S, _, y, [(b9, .cells (va S (zd z y)) 60 (0, 0))], rfl, rfl, ⟨0, _, _, rfl⟩, fun k hk => zd_get hk hS, fun _ => ⟨lo, hlo, hd, hh⟩, fun hq => absurd hsb' hq⟩)
           exact (by repeat first | exact List.Sublist.refl _ | apply List.Sublist.cons_cons | apply List.Sublist.cons))

theorem reorder_ct (wd : Int) (s : Nat → Int) (x : Nat → Nat) (z0 : Nat → Value) (g c r i bf bm bsi : Nat) (hg : g < 2) (hc : c < 2) (t' : TypeId) (f' : Nat × Nat) (w0 : World) (H : Hp) (hi : H[i]? = some (bsi, .cells (va 86 (sd s)) t' f')) (hwd : 0 ≤ wd ∧ wd < 4294967296) (h3 : wd / 524288 % 4 = 3) (hr : wd / 1024 % 4 = (r : Int)) (hr3 : r < 3) (hcn : s (82 + 2 * g + c) = 576) : Ct Try.prog 26 #[.pointer (some ⟨bf, 0, none⟩), .int .i64 g, .int .i64 c] w0 ((bf, .cells (va 3204 (ff wd (some ⟨bsi, 0, none⟩) bm)) 97 (0, 0)) :: (bm, .cells (va 2548 (zl z0 (244 + 576 * (2 * g + c)) x)) 82 (0, 0)) :: H) (fun v H' => ∃ y, RO r s g c x y ∧ H' = (bf, .cells (va 3204 (ff wd (some ⟨bsi, 0, none⟩) bm)) 97 (0, 0)) :: (bm, .cells (va 2548 (zl z0 (244 + 576 * (2 * g + c)) y)) 82 (0, 0)) :: H) := by
  refine Ct.of_body (n := 198) (E := [(0, _), (1, _), (2, _)]) Try.func26 rfl rfl rfl rfl ?_
  refine Tr.seq ?_
  refine Tr.region ?_
  refine TL.makeSlice (m := 576) sl_43 bytes_73 zero_73 rfl rfl rfl rfl (by decide) (by decide) rfl (by decide) (fun bre => ?_)
  refine TL.val (YF.assign rfl) (by decide) ?_
  refine TL.end ?_
  refine Arr.seq ?_
  refine Tr.seq ?_
  refine Tr.region ?_
  refine TL.heap ((bre, .cells (va 576 (fl .f32 fun _ => 0)) 73 (0, 0)) :: (bf, .cells (va 3204 (ff wd (some ⟨bsi, 0, none⟩) bm)) 97 (0, 0)) :: (bm, .cells (va 2548 (zl z0 (244 + 576 * (2 * g + c)) x)) 82 (0, 0)) :: H) (by rw [va_replicate]; rfl) ?_
  refine TL.val (YF.move rfl) (by decide) ?_
  refine TL.val (YF.nilCheck rfl) (by decide) ?_
  refine TL.val (YF.fieldAddr fo_97_0 rfl rfl) (by decide) ?_
  refine TL.call (vs := [_]) call_27 rfl (by decide) (getSf_ct 1 bf 0 r wd _ _ _ w0 _ rfl (va_get (by decide) rfl) hwd h3 hr hr3) ?_
  rintro _ _ ⟨bl, bs, cs, hcs, rfl, rfl⟩
  subst hcs
  refine TL.val (YF.move rfl) (by decide) ?_
  refine TL.val (YF.extract rfl rfl) (by decide) ?_
  refine TL.val (YF.extract rfl rfl) (by decide) ?_
  refine TL.val (YF.assign rfl) (by decide) ?_
  refine TL.val (YF.assign rfl) (by decide) ?_
  refine TL.end ?_
  refine Arr.seq ?_
  refine Tr.seq ?_
  refine Tr.region ?_
  refine TL.val (YF.move rfl) (by decide) ?_
  refine TL.val (YF.nilCheck rfl) (by decide) ?_
  refine TL.val (YF.fieldAddr fo_97_1 rfl rfl) (by decide) ?_
  refine TL.val (YF.load (v := .pointer (some ⟨bsi, 0, none⟩)) 2 sc_77 rfl rfl (va_get (by decide) rfl)) (by decide) ?_
  refine TL.val (YF.move rfl) (by decide) ?_
  refine TL.val (YF.move rfl) (by decide) ?_
  refine TL.val (YF.nilCheck rfl) (by decide) ?_
  refine TL.val (YF.fieldAddr fo_99_7 rfl rfl) (by decide) ?_
  refine TL.val (YF.indexArr arr_31 rfl rfl (by first | decide | omega) rfl) (by decide) ?_
  refine TL.val (YF.indexArr arr_30 rfl rfl (by first | decide | omega) (show _ = 26 + 2 * g + c by omega)) (by decide) ?_
  refine TL.val (YF.load (i + 4) sc_3 rfl hi (sd_int (by omega))) (by decide) ?_
  by_cases h1 : s (26 + 2 * g + c) = 1
  ·
    refine TL.val (YF.eql (b := true) rfl rfl (decide_eq_true h1)) (by decide) ?_
    refine TL.val (YF.move rfl) (by decide) ?_
    first
      | refine TL.gno rfl (by decide) ?_
      | refine TL.gval rfl (YF.move rfl) (by decide) ?_
    first
      | refine TL.gno rfl (by decide) ?_
      | refine TL.gval rfl (YF.nilCheck rfl) (by decide) ?_
    first
      | refine TL.gno rfl (by decide) ?_
      | refine TL.gval rfl (YF.fieldAddr fo_97_1 rfl rfl) (by decide) ?_
    first
      | refine TL.gno rfl (by decide) ?_
      | refine TL.gval rfl (YF.load (v := .pointer (some ⟨bsi, 0, none⟩)) 2 sc_77 rfl rfl (va_get (by decide) rfl)) (by decide) ?_
    first
      | refine TL.gno rfl (by decide) ?_
      | refine TL.gval rfl (YF.move rfl) (by decide) ?_
    first
      | refine TL.gno rfl (by decide) ?_
      | refine TL.gval rfl (YF.move rfl) (by decide) ?_
    first
      | refine TL.gno rfl (by decide) ?_
      | refine TL.gval rfl (YF.nilCheck rfl) (by decide) ?_
    first
      | refine TL.gno rfl (by decide) ?_
      | refine TL.gval rfl (YF.fieldAddr fo_99_8 rfl rfl) (by decide) ?_
    first
      | refine TL.gno rfl (by decide) ?_
      | refine TL.gval rfl (YF.indexArr arr_31 rfl rfl (by first | decide | omega) rfl) (by decide) ?_
    first
      | refine TL.gno rfl (by decide) ?_
      | refine TL.gval rfl (YF.indexArr arr_30 rfl rfl (by first | decide | omega) (show _ = 30 + 2 * g + c by omega)) (by decide) ?_
    first
      | refine TL.gno rfl (by decide) ?_
      | refine TL.gval rfl (YF.load (i + 4) sc_3 rfl hi (sd_int (by omega))) (by decide) ?_
    first
      | refine TL.gno rfl (by decide) ?_
      | refine TL.gval rfl (YF.eql rfl rfl rfl) (by decide) ?_
    first
      | refine TL.val (YF.pickT rfl rfl) (by decide) ?_
      | refine TL.val (YF.pickF rfl rfl) (by decide) ?_
      | refine TL.val (YF.pick rfl rfl rfl rfl) (by decide) ?_
    refine TL.end ?_
    refine Arr.seq ?_
    refine Tr.cond rfl (fun h50 => ?_) (fun h50 => ?_)
    ·
      replace h50 := of_decide_eq_true h50
      refine Tr.seq ?_
      refine Tr.region ?_
      refine TL.val (YF.assign rfl) (by decide) ?_
      refine TL.end ?_
      refine Arr.seq ?_
      refine Tr.seq ?_
      refine Tr.seq ?_
      refine Tr.region ?_
      refine TL.val (YF.move rfl) (by decide) ?_
      refine TL.val (YF.nilCheck rfl) (by decide) ?_
      refine TL.val (YF.fieldAddr fo_97_1 rfl rfl) (by decide) ?_
      refine TL.val (YF.load (v := .pointer (some ⟨bsi, 0, none⟩)) 2 sc_77 rfl rfl (va_get (by decide) rfl)) (by decide) ?_
      refine TL.val (YF.move rfl) (by decide) ?_
      refine TL.val (YF.move rfl) (by decide) ?_
      refine TL.val (YF.nilCheck rfl) (by decide) ?_
      refine TL.val (YF.fieldAddr fo_99_9 rfl rfl) (by decide) ?_
      refine TL.val (YF.indexArr arr_31 rfl rfl (by first | decide | omega) rfl) (by decide) ?_
      refine TL.val (YF.indexArr arr_30 rfl rfl (by first | decide | omega) (show _ = 34 + 2 * g + c by omega)) (by decide) ?_
      refine TL.val (YF.load (i + 4) sc_3 rfl hi (sd_int (by omega))) (by decide) ?_
      refine TL.val (YF.neq rfl rfl rfl) (by decide) ?_
      refine TL.end ?_
      refine Arr.seq ?_
      refine Tr.cutN (R := fun a w => ∃ lo : Nat, (s (34 + 2 * g + c) = 0 ∧ lo = 0 ∨ s (34 + 2 * g + c) ≠ 0 ∧ lo = 3) ∧ Agree 198 [(0, .pointer (some ⟨bf, 0, none⟩)), (1, .int .i64 g), (2, .int .i64 c), (6, .slice (some ⟨bre, 0, none⟩) 576 576), (8, .slice (some ⟨bs, 0, none⟩) 14 14), (9, .int .i64 lo)] a ∧ HS w0 ((bs, .cells (va 14 (sd (sbi r))) 3 (0, 0)) :: (bre, .cells (va 576 (fl .f32 fun _ => 0)) 73 (0, 0)) :: (bf, .cells (va 3204 (ff wd (some ⟨bsi, 0, none⟩) bm)) 97 (0, 0)) :: (bm, .cells (va 2548 (zl z0 (244 + 576 * (2 * g + c)) x)) 82 (0, 0)) :: H) w) ?_ ?_
      ·
        refine Tr.cond rfl (fun h62 => ?_) (fun h62 => ?_)
        ·
          replace h62 := of_decide_eq_true h62
          refine Tr.region ?_
          refine TL.val (YF.assign rfl) (by decide) ?_
          refine TL.end ?_
          refine Arr.meet ?_
          first
            | exact fun a w ha hw => ⟨3, by omega, (ha.cons rfl (ha.cons rfl (ha.cons rfl (ha.cons rfl (ha.cons rfl (ha.cons rfl (ha.nil))))))), hw⟩
            | exact fun a w ha hw => ⟨0, by omega, (ha.cons rfl (ha.cons rfl (ha.cons rfl (ha.cons rfl (ha.cons rfl (ha.cons rfl (ha.nil))))))), hw⟩
        ·
          replace h62 := of_decide_eq_false h62
          refine Tr.skipE ?_
          refine Arr.meet ?_
          first
            | exact fun a w ha hw => ⟨3, by omega, (ha.cons rfl (ha.cons rfl (ha.cons rfl (ha.cons rfl (ha.cons rfl (ha.cons rfl (ha.nil))))))), hw⟩
            | exact fun a w ha hw => ⟨0, by omega, (ha.cons rfl (ha.cons rfl (ha.cons rfl (ha.cons rfl (ha.cons rfl (ha.cons rfl (ha.nil))))))), hw⟩
      rintro a w ⟨lo, hlo, ha, hw⟩
      refine Arr.use ha hw ?_
      refine Arr.seq ?_
      refine Tr.seq ?_
      have hb1 := sbn_lt r lo (by omega)
      have hb2 := sbn_le r (show lo + 1 ≤ 13 by omega) (Nat.le_refl _)
      rw [sbn_13] at hb2
      refine Tr.region ?_
      refine TL.val (YF.move rfl) (by decide) ?_
      refine TL.val (YF.move rfl) (by decide) ?_
      refine TL.val (YF.add rfl rfl (IntWalk.i64_in _ (by omega))) (by decide) ?_
      refine TL.val (YF.indexSl sl_69 rfl rfl (by first | decide | omega) (show _ = lo + 1 by omega)) (by decide) ?_
      refine TL.val (YF.load 0 sc_3 rfl rfl (sbi_get (by omega))) (by decide) ?_
      refine TL.val (YF.mul rfl rfl (IntWalk.i64_in _ (by omega))) (by decide) ?_
      refine TL.val (YF.assign rfl) (by decide) ?_
      refine TL.end ?_
      refine Arr.seq ?_
      refine Tr.seq ?_
      refine Tr.drawE (_ :: _ :: _ :: _ :: _) (fun H => H) rfl mixed_ ?_
      refine TD.take 0 rfl (by kernel_rfl) (by kernel_rfl) (by kernel_rfl) (fun _ _ _ h => h) (by repeat first | exact List.Sublist.refl _ | apply List.Sublist.cons_cons | apply List.Sublist.cons) (YF.move rfl) (by decide) ?_
      refine TD.take 1 rfl (by kernel_rfl) (by kernel_rfl) (by kernel_rfl) (fun _ _ _ h => h) (by repeat first | exact List.Sublist.refl _ | apply List.Sublist.cons_cons | apply List.Sublist.cons) (YF.move rfl) (by decide) ?_
      refine TD.take 2 rfl (by kernel_rfl) (by kernel_rfl) (by kernel_rfl) (fun _ _ _ h => h) (by repeat first | exact List.Sublist.refl _ | apply List.Sublist.cons_cons | apply List.Sublist.cons) (YF.add rfl rfl (IntWalk.i64_in _ (by omega))) (by decide) ?_
      refine TD.take 3 rfl (by kernel_rfl) (by kernel_rfl) (by kernel_rfl) (fun _ _ _ h => h) (by repeat first | exact List.Sublist.refl _ | apply List.Sublist.cons_cons | apply List.Sublist.cons) (YF.indexSl sl_69 rfl rfl (by first | decide | omega) (show _ = lo + 1 by omega)) (by decide) ?_
      refine TD.take 4 rfl (by kernel_rfl) (by kernel_rfl) (by kernel_rfl) (fun _ _ _ h => h) (by repeat first | exact List.Sublist.refl _ | apply List.Sublist.cons_cons | apply List.Sublist.cons) (YF.load 0 sc_3 rfl rfl (sbi_get (by omega))) (by decide) ?_
      refine TD.take 5 rfl (by kernel_rfl) (by kernel_rfl) (by kernel_rfl) (fun _ _ _ h => h) (by repeat first | exact List.Sublist.refl _ | apply List.Sublist.cons_cons | apply List.Sublist.cons) (YF.move rfl) (by decide) ?_
      refine TD.take 6 rfl (by kernel_rfl) (by kernel_rfl) (by kernel_rfl) (fun _ _ _ h => h) (by repeat first | exact List.Sublist.refl _ | apply List.Sublist.cons_cons | apply List.Sublist.cons) (YF.move rfl) (by decide) ?_
      refine TD.take 7 rfl (by kernel_rfl) (by kernel_rfl) (by kernel_rfl) (fun _ _ _ h => h) (by repeat first | exact List.Sublist.refl _ | apply List.Sublist.cons_cons | apply List.Sublist.cons) (YF.indexSl sl_69 rfl rfl (by first | decide | omega) (show _ = lo by omega)) (by decide) ?_
      refine TD.take 8 rfl (by kernel_rfl) (by kernel_rfl) (by kernel_rfl) (fun _ _ _ h => h) (by repeat first | exact List.Sublist.refl _ | apply List.Sublist.cons_cons | apply List.Sublist.cons) (YF.load 0 sc_3 rfl rfl (sbi_get (by omega))) (by decide) ?_
      refine TD.take 9 rfl (by kernel_rfl) (by kernel_rfl) (by kernel_rfl) (fun _ _ _ h => h) (by repeat first | exact List.Sublist.refl _ | apply List.Sublist.cons_cons | apply List.Sublist.cons) (YF.sub rfl rfl (IntWalk.i64_in _ (by omega))) (by decide) ?_
      refine TD.take 10 rfl (by kernel_rfl) (by kernel_rfl) (by kernel_rfl) (fun _ _ _ h => h) (by repeat first | exact List.Sublist.refl _ | apply List.Sublist.cons_cons | apply List.Sublist.cons) (YF.assign rfl) (by decide) ?_
      refine TD.end (by kernel_rfl) ?_
      refine Arr.seq ?_
      refine Tr.seq ?_
      refine Tr.region ?_
      refine TL.val (YF.assign rfl) (by decide) ?_
      refine TL.end ?_
      refine Arr.seq ?_
      refine Tr.seq ?_
      refine Tr.seq ?_
      refine Tr.region ?_
      refine TL.val (YF.move rfl) (by decide) ?_
      refine TL.val (YF.eql rfl rfl rfl) (by decide) ?_
      refine TL.end ?_
      refine Arr.seq ?_
      refine Tr.cutN (R := fun a w => ∃ nx wl iv : Int, nx = 3 * (sbn r (lo + 1) : Int) ∧ wl = (sbn r (lo + 1) : Int) - (sbn r lo : Int) ∧ iv = 3 * (sbn r lo : Int) ∧ Agree 198 [(0, .pointer (some ⟨bf, 0, none⟩)), (1, .int .i64 g), (2, .int .i64 c), (6, .slice (some ⟨bre, 0, none⟩) 576 576), (8, .slice (some ⟨bs, 0, none⟩) 14 14), (9, .int .i64 lo), (10, .int .i64 nx), (11, .int .i64 wl), (12, .int .i64 iv)] a ∧ HS w0 ((bs, .cells (va 14 (sd (sbi r))) 3 (0, 0)) :: (bre, .cells (va 576 (fl .f32 fun _ => 0)) 73 (0, 0)) :: (bf, .cells (va 3204 (ff wd (some ⟨bsi, 0, none⟩) bm)) 97 (0, 0)) :: (bm, .cells (va 2548 (zl z0 (244 + 576 * (2 * g + c)) x)) 82 (0, 0)) :: H) w) ?_ ?_
      ·
        refine Tr.cond rfl (fun h80 => ?_) (fun h80 => ?_)
        ·
          replace h80 := of_decide_eq_true h80
          refine Tr.region ?_
          refine TL.val (YF.assign rfl) (by decide) ?_
          refine TL.end ?_
          refine Arr.meet ?_
          exact fun a w ha hw => ⟨_, _, _, by omega, by omega, (by first
            | (obtain rfl : lo = 0 := by omega
               rw [sbn_0]; rfl)
            | (obtain rfl : lo = 3 := by omega
               rw [sbn_3]; rfl)), (ha.cons rfl (ha.cons rfl (ha.cons rfl (ha.cons rfl (ha.cons rfl (ha.cons rfl (ha.cons rfl (ha.cons rfl (ha.cons rfl (ha.nil)))))))))), hw⟩
        ·
          replace h80 := of_decide_eq_false h80
          refine Tr.skipE ?_
          refine Arr.meet ?_
          exact fun a w ha hw => ⟨_, _, _, by omega, by omega, (by first
            | (obtain rfl : lo = 0 := by omega
               rw [sbn_0]; rfl)
            | (obtain rfl : lo = 3 := by omega
               rw [sbn_3]; rfl)), (ha.cons rfl (ha.cons rfl (ha.cons rfl (ha.cons rfl (ha.cons rfl (ha.cons rfl (ha.cons rfl (ha.cons rfl (ha.cons rfl (ha.nil)))))))))), hw⟩
      rintro a w ⟨nx, wl, iv, hnx0, hwl0, hiv0, ha, hw⟩
      refine Arr.use ha hw ?_
      refine Arr.seq ?_
      refine Tr.seq ?_
      refine Tr.block ?_
      refine Tr.loop (I := fun mq a w => ∃ (t : Nat) (u : Nat) (nx : Int) (wl : Int) (iv : Int) (l : Nat → Nat) (re : Nat → Nat), mq = 14 - t ∧ (t = u ∧ u = lo ∨ t = u + 1) ∧ (lo ≤ u ∧ u ≤ 12) ∧ (nx = 3 * (sbn r (u + 1) : Int)) ∧ (wl = (sbn r (u + 1) : Int) - (sbn r u : Int)) ∧ (iv = 3 * (sbn r t : Int)) ∧ (t = u + 1 → Part r u 3 0 0 x re) ∧ (Done r lo u x l) ∧ (∀ q, q < 3 * sbn r lo → l q = x q) ∧ (∀ q, 3 * sbn r u ≤ q → l q = x q) ∧ Agree 198 [(0, .pointer (some ⟨bf, 0, none⟩)), (1, .int .i64 g), (2, .int .i64 c), (6, .slice (some ⟨bre, 0, none⟩) 576 576), (8, .slice (some ⟨bs, 0, none⟩) 14 14), (9, .int .i64 u), (10, .int .i64 nx), (11, .int .i64 wl), (12, .int .i64 iv)] a ∧ HS w0 ((bs, .cells (va 14 (sd (sbi r))) 3 (0, 0)) :: (bre, .cells (va 576 (fl .f32 re)) 73 (0, 0)) :: (bf, .cells (va 3204 (ff wd (some ⟨bsi, 0, none⟩) bm)) 97 (0, 0)) :: (bm, .cells (va 2548 (zl z0 (244 + 576 * (2 * g + c)) l)) 82 (0, 0)) :: H) w) (14 - lo) ?_ ?_
      · intro a w ha hw
        exact ⟨lo, lo, nx, wl, iv, x, fun _ => 0, rfl, .inl ⟨rfl, rfl⟩, by omega, hnx0, hwl0, hiv0, fun h => absurd h (by omega), Done.zero _ _ _ _, fun _ _ => rfl, fun _ _ => rfl, (ha.cons rfl (ha.cons rfl (ha.cons rfl (ha.cons rfl (ha.cons rfl (ha.cons rfl (ha.cons rfl (ha.cons rfl (ha.cons rfl (ha.nil)))))))))), hw⟩
      rintro _ a w ⟨t, u, nx, wl, iv, l, re, rfl, hA, hu, hnx, hwl, hiv, hP, hD, hH, hT, ha, hw⟩
      refine Tr.use ha hw ?_
      refine Tr.seq ?_
      refine Tr.seq ?_
      refine Tr.region ?_
      refine TL.val (YF.move rfl) (by decide) ?_
      refine TL.val (YF.lss rfl rfl rfl) (by decide) ?_
      refine TL.end ?_
      refine Arr.seq ?_
      refine Tr.cond rfl (fun h82 => ?_) (fun h82 => ?_)
      ·
        replace h82 := of_decide_eq_true h82
        refine Tr.skipE ?_
        refine Arr.seq ?_
        refine Tr.block ?_
        refine Tr.seq ?_
        refine Tr.seq ?_
        have h13 := sbn_13 r
        have ht12 : t < 13 := by
          by_cases e : t = 13
          · subst e; omega
          · omega
        refine Tr.region ?_
        refine TL.val (YF.move rfl) (by decide) ?_
        refine TL.val (YF.move rfl) (by decide) ?_
        refine TL.val (YF.eql rfl rfl rfl) (by decide) ?_
        refine TL.end ?_
        refine Arr.seq ?_
        refine Tr.cutN (R := fun a w => ∃ (nx wl iv : Int) (l re : Nat → Nat), (nx = 3 * (sbn r (t + 1) : Int)) ∧ (wl = (sbn r (t + 1) : Int) - (sbn r t : Int)) ∧ (iv = 3 * (sbn r t : Int)) ∧ (Done r lo t x l) ∧ (∀ q, q < 3 * sbn r lo → l q = x q) ∧ (∀ q, 3 * sbn r t ≤ q → l q = x q) ∧ Agree 198 [(0, .pointer (some ⟨bf, 0, none⟩)), (1, .int .i64 g), (2, .int .i64 c), (6, .slice (some ⟨bre, 0, none⟩) 576 576), (8, .slice (some ⟨bs, 0, none⟩) 14 14), (9, .int .i64 t), (10, .int .i64 nx), (11, .int .i64 wl), (12, .int .i64 iv)] a ∧ HS w0 ((bs, .cells (va 14 (sd (sbi r))) 3 (0, 0)) :: (bre, .cells (va 576 (fl .f32 re)) 73 (0, 0)) :: (bf, .cells (va 3204 (ff wd (some ⟨bsi, 0, none⟩) bm)) 97 (0, 0)) :: (bm, .cells (va 2548 (zl z0 (244 + 576 * (2 * g + c)) l)) 82 (0, 0)) :: H) w) ?_ ?_
        ·
          refine Tr.cond rfl (fun h85 => ?_) (fun h85 => ?_)
          ·
            replace h85 := of_decide_eq_true h85
            refine Tr.seq ?_
            refine Tr.region ?_
            have hb1 := sbn_lt r u (by omega)
            have hb2 := sbn_le r (show u + 1 ≤ 13 by omega) (Nat.le_refl _)
            rw [sbn_13] at hb2
            obtain rfl : t = u + 1 := by
              rcases hA with ⟨rfl, _⟩ | h
              · omega
              · exact h
            have hp := hP rfl
            have hb3 : sbn r (u + 1) < 192 := by omega
            have hb4 := sbn_lt r (u + 1) (by
              by_cases e : u + 1 = 13
              · rw [e, sbn_13] at hb3; omega
              · omega)
            have hb5 : u + 1 ≤ 12 := by
              by_cases e : u + 1 = 13
              · rw [e, sbn_13] at hb3; omega
              · omega
            have hb6 := sbn_le r (show u + 1 + 1 ≤ 13 by omega) (Nat.le_refl _)
            rw [sbn_13] at hb6
            refine TL.val (YF.move rfl) (by decide) ?_
            refine TL.val (YF.move rfl) (by decide) ?_
            refine TL.val (YF.indexSl sl_69 rfl rfl (by first | decide | omega) (show _ = u by omega)) (by decide) ?_
            refine TL.val (YF.load 0 sc_3 rfl rfl (sbi_get (by omega))) (by decide) ?_
            refine TL.val (YF.mul rfl rfl (IntWalk.i64_in _ (by omega))) (by decide) ?_
            refine TL.val (YF.assign rfl) (by decide) ?_
            refine TL.end ?_
            refine Arr.seq ?_
            refine Tr.seq ?_
            refine Tr.drawE (_ :: _ :: _ :: _) (fun H => (H.eraseIdx 3)) rfl mixed_ ?_
            refine TD.take 0 rfl (by kernel_rfl) (by kernel_rfl) (by kernel_rfl) (fun _ _ _ h => h) (by repeat first | exact List.Sublist.refl _ | apply List.Sublist.cons_cons | apply List.Sublist.cons) (YF.move rfl) (by decide) ?_
            refine TD.take 1 rfl (by kernel_rfl) (by kernel_rfl) (by kernel_rfl) (fun _ _ _ h => h) (by repeat first | exact List.Sublist.refl _ | apply List.Sublist.cons_cons | apply List.Sublist.cons) (YF.nilCheck rfl) (by decide) ?_
            refine TD.take 2 rfl (by kernel_rfl) (by kernel_rfl) (by kernel_rfl) (fun _ _ _ h => h) (by repeat first | exact List.Sublist.refl _ | apply List.Sublist.cons_cons | apply List.Sublist.cons) (YF.fieldAddr fo_97_2 rfl rfl) (by decide) ?_
            refine TD.take 3 rfl (by kernel_rfl) (by kernel_rfl) (by kernel_rfl) (fun _ _ _ h => h) (by repeat first | exact List.Sublist.refl _ | apply List.Sublist.cons_cons | apply List.Sublist.cons) (YF.load (v := .pointer (some ⟨bm, 0, none⟩)) 2 sc_89 rfl rfl (va_get (by decide) rfl)) (by decide) ?_
            refine TD.take 4 rfl (by kernel_rfl) (by kernel_rfl) (by kernel_rfl) (fun _ _ _ h => h) (by repeat first | exact List.Sublist.refl _ | apply List.Sublist.cons_cons | apply List.Sublist.cons) (YF.move rfl) (by decide) ?_
            refine TD.take 5 rfl (by kernel_rfl) (by kernel_rfl) (by kernel_rfl) (fun _ _ _ h => h) (by repeat first | exact List.Sublist.refl _ | apply List.Sublist.cons_cons | apply List.Sublist.cons) (YF.move rfl) (by decide) ?_
            refine TD.take 6 rfl (by kernel_rfl) (by kernel_rfl) (by kernel_rfl) (fun _ _ _ h => h) (by repeat first | exact List.Sublist.refl _ | apply List.Sublist.cons_cons | apply List.Sublist.cons) (YF.nilCheck rfl) (by decide) ?_
            refine TD.take 7 rfl (by kernel_rfl) (by kernel_rfl) (by kernel_rfl) (fun _ _ _ h => h) (by repeat first | exact List.Sublist.refl _ | apply List.Sublist.cons_cons | apply List.Sublist.cons) (YF.fieldAddr fo_82_2 rfl rfl) (by decide) ?_
            refine TD.take 8 rfl (by kernel_rfl) (by kernel_rfl) (by kernel_rfl) (fun _ _ _ h => h) (by repeat first | exact List.Sublist.refl _ | apply List.Sublist.cons_cons | apply List.Sublist.cons) (YF.indexArr arr_80 rfl rfl (by first | decide | omega) rfl) (by decide) ?_
            refine TD.take 9 rfl (by kernel_rfl) (by kernel_rfl) (by kernel_rfl) (fun _ _ _ h => h) (by repeat first | exact List.Sublist.refl _ | apply List.Sublist.cons_cons | apply List.Sublist.cons) (YF.indexArr arr_79 rfl rfl (by first | decide | omega) (show _ = 244 + 576 * (2 * g + c) by omega)) (by decide) ?_
            refine TD.take 10 rfl (by kernel_rfl) (by kernel_rfl) (by kernel_rfl) (fun _ _ _ h => h) (by repeat first | exact List.Sublist.refl _ | apply List.Sublist.cons_cons | apply List.Sublist.cons) (YF.move rfl) (by decide) ?_
            refine TD.take 11 rfl (by kernel_rfl) (by kernel_rfl) (by kernel_rfl) (fun _ _ _ h => h) (by repeat first | exact List.Sublist.refl _ | apply List.Sublist.cons_cons | apply List.Sublist.cons) (YF.move rfl) (by decide) ?_
            refine TD.take 12 rfl (by kernel_rfl) (by kernel_rfl) (by kernel_rfl) (fun _ _ _ h => h) (by repeat first | exact List.Sublist.refl _ | apply List.Sublist.cons_cons | apply List.Sublist.cons) (YF.move rfl) (by decide) ?_
            refine TD.take 13 rfl (by kernel_rfl) (by kernel_rfl) (by kernel_rfl) (fun _ _ _ h => h) (by repeat first | exact List.Sublist.refl _ | apply List.Sublist.cons_cons | apply List.Sublist.cons) (YF.mul rfl rfl (IntWalk.i64_in _ (by omega))) (by decide) ?_
            refine TD.take 14 rfl (by kernel_rfl) (by kernel_rfl) (by kernel_rfl) (fun _ _ _ h => h) (by repeat first | exact List.Sublist.refl _ | apply List.Sublist.cons_cons | apply List.Sublist.cons) (YF.add rfl rfl (IntWalk.i64_in _ (by omega))) (by decide) ?_
            refine TD.take 15 rfl (by kernel_rfl) (by kernel_rfl) (by kernel_rfl) (fun _ _ _ h => h) (by repeat first | exact List.Sublist.refl _ | apply List.Sublist.cons_cons | apply List.Sublist.cons) (YF.sliceArrLH (lo' := 3 * sbn r u) (hi' := 3 * sbn r u + 3 * (sbn r (u + 1) - sbn r u)) (q := 244 + 576 * (2 * g + c) + 3 * sbn r u) arr_75 rfl rfl rfl (by omega) (by omega) (by omega) (by omega)) (by decide) ?_
            refine TD.take 16 rfl (by kernel_rfl) (by kernel_rfl) (by kernel_rfl) (fun _ _ _ h => h) (by repeat first | exact List.Sublist.refl _ | apply List.Sublist.cons_cons | apply List.Sublist.cons) (YF.move rfl) (by decide) ?_
            refine TD.take 17 rfl (by kernel_rfl) (by kernel_rfl) (by kernel_rfl) (fun _ _ _ h => h) (by repeat first | exact List.Sublist.refl _ | apply List.Sublist.cons_cons | apply List.Sublist.cons) (YF.move rfl) (by decide) ?_
            refine TD.take 18 rfl (by kernel_rfl) (by kernel_rfl) (by kernel_rfl) (fun _ _ _ h => h) (by repeat first | exact List.Sublist.refl _ | apply List.Sublist.cons_cons | apply List.Sublist.cons) (YF.mul rfl rfl (IntWalk.i64_in _ (by omega))) (by decide) ?_
            refine TD.take 19 rfl (by kernel_rfl) (by kernel_rfl) (by kernel_rfl) (fun _ _ _ h => h) (by repeat first | exact List.Sublist.refl _ | apply List.Sublist.cons_cons | apply List.Sublist.cons) (YF.sliceSl (l := 0) (h' := 3 * (sbn r (u + 1) - sbn r u)) (q := 0) sl_43 rfl rfl rfl rfl (by omega) (by omega) rfl) (by decide) ?_
            refine TD.eff 20 rfl (by kernel_rfl) (EF.copyZ 3 1 sl_43 rfl rfl rfl rfl (by omega) rfl (by omega) (by omega)) (by decide) (by rintro _ _ rfl; exact (by repeat first | exact List.Sublist.refl _ | apply List.Sublist.cons_cons | apply List.Sublist.cons)) ?_
            rintro _ _ rfl
            refine TD.heap (_ :: _ :: _ :: _ :: H) rfl ?_
            refine TD.end (by kernel_rfl) ?_
            refine Arr.seq ?_
            refine Tr.seq ?_
            refine Tr.seq ?_
            refine Tr.region ?_
            refine TL.val (YF.move rfl) (by decide) ?_
            refine TL.val (YF.move rfl) (by decide) ?_
            refine TL.val (YF.nilCheck rfl) (by decide) ?_
            refine TL.val (YF.fieldAddr fo_97_1 rfl rfl) (by decide) ?_
            refine TL.val (YF.load (v := .pointer (some ⟨bsi, 0, none⟩)) 2 sc_77 rfl rfl (va_get (by decide) rfl)) (by decide) ?_
            refine TL.val (YF.move rfl) (by decide) ?_
            refine TL.val (YF.move rfl) (by decide) ?_
            refine TL.val (YF.nilCheck rfl) (by decide) ?_
            refine TL.val (YF.fieldAddr fo_99_17 rfl rfl) (by decide) ?_
            refine TL.val (YF.indexArr arr_31 rfl rfl (by first | decide | omega) rfl) (by decide) ?_
            refine TL.val (YF.indexArr arr_30 rfl rfl (by first | decide | omega) (show _ = 82 + 2 * g + c by omega)) (by decide) ?_
            refine TL.val (YF.load (i + 4) sc_3 rfl hi (sd_int (by omega))) (by decide) ?_
            refine TL.val (YF.geq (b := false) rfl rfl (decide_eq_false (by omega))) (by decide) ?_
            refine TL.end ?_
            refine Arr.seq ?_
            refine Tr.condF rfl ?_
            refine Tr.skipE ?_
            refine Arr.seq ?_
            refine Tr.seq ?_
            refine Tr.region ?_
            refine TL.val (YF.move rfl) (by decide) ?_
            refine TL.val (YF.add rfl rfl (IntWalk.i64_in _ (by omega))) (by decide) ?_
            refine TL.val (YF.assign rfl) (by decide) ?_
            refine TL.end ?_
            refine Arr.seq ?_
            refine Tr.seq ?_
            refine Tr.region ?_
            refine TL.val (YF.move rfl) (by decide) ?_
            refine TL.val (YF.move rfl) (by decide) ?_
            refine TL.val (YF.add rfl rfl (IntWalk.i64_in _ (by omega))) (by decide) ?_
            refine TL.val (YF.indexSl sl_69 rfl rfl (by first | decide | omega) (show _ = (u + 1) + 1 by omega)) (by decide) ?_
            refine TL.val (YF.load 0 sc_3 rfl rfl (sbi_get (by omega))) (by decide) ?_
            refine TL.val (YF.mul rfl rfl (IntWalk.i64_in _ (by omega))) (by decide) ?_
            refine TL.val (YF.assign rfl) (by decide) ?_
            refine TL.end ?_
            refine Arr.seq ?_
            refine Tr.drawE (_ :: _ :: _ :: _ :: _) (fun H => H) rfl mixed_ ?_
            refine TD.take 0 rfl (by kernel_rfl) (by kernel_rfl) (by kernel_rfl) (fun _ _ _ h => h) (by repeat first | exact List.Sublist.refl _ | apply List.Sublist.cons_cons | apply List.Sublist.cons) (YF.move rfl) (by decide) ?_
            refine TD.take 1 rfl (by kernel_rfl) (by kernel_rfl) (by kernel_rfl) (fun _ _ _ h => h) (by repeat first | exact List.Sublist.refl _ | apply List.Sublist.cons_cons | apply List.Sublist.cons) (YF.move rfl) (by decide) ?_
            refine TD.take 2 rfl (by kernel_rfl) (by kernel_rfl) (by kernel_rfl) (fun _ _ _ h => h) (by repeat first | exact List.Sublist.refl _ | apply List.Sublist.cons_cons | apply List.Sublist.cons) (YF.add rfl rfl (IntWalk.i64_in _ (by omega))) (by decide) ?_
            refine TD.take 3 rfl (by kernel_rfl) (by kernel_rfl) (by kernel_rfl) (fun _ _ _ h => h) (by repeat first | exact List.Sublist.refl _ | apply List.Sublist.cons_cons | apply List.Sublist.cons) (YF.indexSl sl_69 rfl rfl (by first | decide | omega) (show _ = (u + 1) + 1 by omega)) (by decide) ?_
            refine TD.take 4 rfl (by kernel_rfl) (by kernel_rfl) (by kernel_rfl) (fun _ _ _ h => h) (by repeat first | exact List.Sublist.refl _ | apply List.Sublist.cons_cons | apply List.Sublist.cons) (YF.load 0 sc_3 rfl rfl (sbi_get (by omega))) (by decide) ?_
            refine TD.take 5 rfl (by kernel_rfl) (by kernel_rfl) (by kernel_rfl) (fun _ _ _ h => h) (by repeat first | exact List.Sublist.refl _ | apply List.Sublist.cons_cons | apply List.Sublist.cons) (YF.move rfl) (by decide) ?_
            refine TD.take 6 rfl (by kernel_rfl) (by kernel_rfl) (by kernel_rfl) (fun _ _ _ h => h) (by repeat first | exact List.Sublist.refl _ | apply List.Sublist.cons_cons | apply List.Sublist.cons) (YF.move rfl) (by decide) ?_
            refine TD.take 7 rfl (by kernel_rfl) (by kernel_rfl) (by kernel_rfl) (fun _ _ _ h => h) (by repeat first | exact List.Sublist.refl _ | apply List.Sublist.cons_cons | apply List.Sublist.cons) (YF.indexSl sl_69 rfl rfl (by first | decide | omega) (show _ = u + 1 by omega)) (by decide) ?_
            refine TD.take 8 rfl (by kernel_rfl) (by kernel_rfl) (by kernel_rfl) (fun _ _ _ h => h) (by repeat first | exact List.Sublist.refl _ | apply List.Sublist.cons_cons | apply List.Sublist.cons) (YF.load 0 sc_3 rfl rfl (sbi_get (by omega))) (by decide) ?_
            refine TD.take 9 rfl (by kernel_rfl) (by kernel_rfl) (by kernel_rfl) (fun _ _ _ h => h) (by repeat first | exact List.Sublist.refl _ | apply List.Sublist.cons_cons | apply List.Sublist.cons) (YF.sub rfl rfl (IntWalk.i64_in _ (by omega))) (by decide) ?_
            refine TD.take 10 rfl (by kernel_rfl) (by kernel_rfl) (by kernel_rfl) (fun _ _ _ h => h) (by repeat first | exact List.Sublist.refl _ | apply List.Sublist.cons_cons | apply List.Sublist.cons) (YF.assign rfl) (by decide) ?_
            refine TD.end (by kernel_rfl) ?_
            refine Arr.meet ?_
            first
              | exact fun a w ha hw => ⟨_, _, _, _, re, hnx, hwl, hiv, hD, hH, hT, (ha.cons rfl (ha.cons rfl (ha.cons rfl (ha.cons rfl (ha.cons rfl (ha.cons rfl (ha.cons rfl (ha.cons rfl (ha.cons rfl (ha.nil)))))))))), hw⟩
              | exact fun a w ha hw => ⟨_, _, _, _, re, by omega, by omega, by omega, hD.copy (by omega) hp rfl, (fun q hq => by
                  have := sbn_le r hu.1 (show u ≤ 13 by omega)
                  rw [if_neg (by omega)]; exact hH q hq), (fun q hq => by rw [if_neg (by omega)]; exact hT q (by omega)), (ha.cons rfl (ha.cons rfl (ha.cons rfl (ha.cons rfl (ha.cons rfl (ha.cons rfl (ha.cons rfl (ha.cons rfl (ha.cons rfl (ha.nil)))))))))), hw⟩
          ·
            replace h85 := of_decide_eq_false h85
            rcases hA with ⟨rfl, rfl⟩ | rfl
            rotate_left
            · exact absurd (by omega) h85
            refine Tr.skipE ?_
            refine Arr.meet ?_
            first
              | exact fun a w ha hw => ⟨_, _, _, _, re, hnx, hwl, hiv, hD, hH, hT, (ha.cons rfl (ha.cons rfl (ha.cons rfl (ha.cons rfl (ha.cons rfl (ha.cons rfl (ha.cons rfl (ha.cons rfl (ha.cons rfl (ha.nil)))))))))), hw⟩
              | exact fun a w ha hw => ⟨_, _, _, _, re, by omega, by omega, by omega, hD.copy (by omega) hp rfl, (fun q hq => by
                  have := sbn_le r hu.1 (show u ≤ 13 by omega)
                  rw [if_neg (by omega)]; exact hH q hq), (fun q hq => by rw [if_neg (by omega)]; exact hT q (by omega)), (ha.cons rfl (ha.cons rfl (ha.cons rfl (ha.cons rfl (ha.cons rfl (ha.cons rfl (ha.cons rfl (ha.cons rfl (ha.cons rfl (ha.nil)))))))))), hw⟩
        rintro a w ⟨nx, wl, iv, l, re, hnx, hwl, hiv, hD, hH, hT, ha, hw⟩
        refine Arr.use ha hw ?_
        refine Arr.seq ?_
        refine Tr.seq ?_
        have hb1 := sbn_lt r t ht12
        have hb2 := sbn_le r (show t + 1 ≤ 13 by omega) (Nat.le_refl _)
        rw [sbn_13] at hb2
        refine Tr.region ?_
        refine TL.val (YF.assign rfl) (by decide) ?_
        refine TL.end ?_
        refine Arr.seq ?_
        refine Tr.block ?_
        refine Tr.loop (I := fun mq a w => ∃ (v : Nat) (wn : Nat) (iv : Int) (re : Nat → Nat), mq = 3 - v ∧ (v ≤ 3) ∧ (wn = v * (sbn r (t + 1) - sbn r t)) ∧ (iv = 3 * (sbn r t : Int) + wn) ∧ (Part r t v 0 0 x re) ∧ Agree 198 [(0, .pointer (some ⟨bf, 0, none⟩)), (1, .int .i64 g), (2, .int .i64 c), (6, .slice (some ⟨bre, 0, none⟩) 576 576), (8, .slice (some ⟨bs, 0, none⟩) 14 14), (9, .int .i64 t), (10, .int .i64 nx), (11, .int .i64 wl), (12, .int .i64 iv), (14, .int .i64 v)] a ∧ HS w0 ((bs, .cells (va 14 (sd (sbi r))) 3 (0, 0)) :: (bre, .cells (va 576 (fl .f32 re)) 73 (0, 0)) :: (bf, .cells (va 3204 (ff wd (some ⟨bsi, 0, none⟩) bm)) 97 (0, 0)) :: (bm, .cells (va 2548 (zl z0 (244 + 576 * (2 * g + c)) l)) 82 (0, 0)) :: H) w) (3) ?_ ?_
        · intro a w ha hw
          exact ⟨0, 0, iv, re, rfl, by omega, by omega, by omega, Part.zero _ _ _ _ _, (ha.cons rfl (ha.cons rfl (ha.cons rfl (ha.cons rfl (ha.cons rfl (ha.cons rfl (ha.cons rfl (ha.cons rfl (ha.cons rfl (ha.cons rfl (ha.nil))))))))))), hw⟩
        rintro _ a w ⟨v, wn, iv, re, rfl, hw3, hwn, hiv, hp, ha, hw⟩
        refine Tr.use ha hw ?_
        refine Tr.seq ?_
        refine Tr.seq ?_
        refine Tr.region ?_
        refine TL.val (YF.move rfl) (by decide) ?_
        refine TL.val (YF.lss rfl rfl rfl) (by decide) ?_
        refine TL.end ?_
        refine Arr.seq ?_
        refine Tr.cond rfl (fun h144 => ?_) (fun h144 => ?_)
        ·
          replace h144 := of_decide_eq_true h144
          refine Tr.skipE ?_
          refine Arr.seq ?_
          refine Tr.seq ?_
          refine Tr.block ?_
          refine Tr.seq ?_
          refine Tr.region ?_
          refine TL.val (YF.assign rfl) (by decide) ?_
          refine TL.end ?_
          refine Arr.seq ?_
          refine Tr.block ?_
          refine Tr.loop (I := fun mq a w => ∃ (j : Nat) (iv : Int) (re : Nat → Nat), mq = sbn r (t + 1) - sbn r t - j ∧ (j ≤ sbn r (t + 1) - sbn r t) ∧ (iv = 3 * (sbn r t : Int) + wn + j) ∧ (Part r t v j 0 x re) ∧ Agree 198 [(0, .pointer (some ⟨bf, 0, none⟩)), (1, .int .i64 g), (2, .int .i64 c), (6, .slice (some ⟨bre, 0, none⟩) 576 576), (8, .slice (some ⟨bs, 0, none⟩) 14 14), (9, .int .i64 t), (10, .int .i64 nx), (11, .int .i64 wl), (12, .int .i64 iv), (14, .int .i64 v), (15, .int .i64 j)] a ∧ HS w0 ((bs, .cells (va 14 (sd (sbi r))) 3 (0, 0)) :: (bre, .cells (va 576 (fl .f32 re)) 73 (0, 0)) :: (bf, .cells (va 3204 (ff wd (some ⟨bsi, 0, none⟩) bm)) 97 (0, 0)) :: (bm, .cells (va 2548 (zl z0 (244 + 576 * (2 * g + c)) l)) 82 (0, 0)) :: H) w) (sbn r (t + 1) - sbn r t) ?_ ?_
          · intro a w ha hw
            exact ⟨0, iv, re, rfl, by omega, by omega, hp, (ha.cons rfl (ha.cons rfl (ha.cons rfl (ha.cons rfl (ha.cons rfl (ha.cons rfl (ha.cons rfl (ha.cons rfl (ha.cons rfl (ha.cons rfl (ha.cons rfl (ha.nil)))))))))))), hw⟩
          rintro _ a w ⟨j, iv, re, rfl, hj, hiv, hp, ha, hw⟩
          refine Tr.use ha hw ?_
          refine Tr.seq ?_
          refine Tr.seq ?_
          
          refine Tr.region ?_
          refine TL.val (YF.move rfl) (by decide) ?_
          refine TL.val (YF.move rfl) (by decide) ?_
          refine TL.val (YF.lss rfl rfl rfl) (by decide) ?_
          refine TL.end ?_
          refine Arr.seq ?_
          refine Tr.cond rfl (fun h149 => ?_) (fun h149 => ?_)
          ·
            replace h149 := of_decide_eq_true h149
            refine Tr.skipE ?_
            refine Arr.seq ?_
            refine Tr.seq ?_
            refine Tr.block ?_
            refine Tr.seq ?_
            have hwn3 : v * (sbn r (t + 1) - sbn r t) ≤ 2 * (sbn r (t + 1) - sbn r t) := Nat.mul_le_mul_right _ (by omega)
            rw [← hwn] at hwn3
            refine Tr.region ?_
            refine TL.val (YF.move rfl) (by decide) ?_
            refine TL.val (YF.move rfl) (by decide) ?_
            refine TL.val (YF.mul rfl rfl (IntWalk.i64_in _ (by omega))) (by decide) ?_
            refine TL.val (YF.move rfl) (by decide) ?_
            refine TL.val (YF.add rfl rfl (IntWalk.i64_in _ (by omega))) (by decide) ?_
            refine TL.val (YF.move rfl) (by decide) ?_
            refine TL.val (YF.nilCheck rfl) (by decide) ?_
            refine TL.val (YF.fieldAddr fo_97_2 rfl rfl) (by decide) ?_
            refine TL.val (YF.load (v := .pointer (some ⟨bm, 0, none⟩)) 2 sc_89 rfl rfl (va_get (by decide) rfl)) (by decide) ?_
            refine TL.val (YF.move rfl) (by decide) ?_
            refine TL.val (YF.move rfl) (by decide) ?_
            refine TL.val (YF.move rfl) (by decide) ?_
            refine TL.val (YF.nilCheck rfl) (by decide) ?_
            refine TL.val (YF.fieldAddr fo_82_2 rfl rfl) (by decide) ?_
            refine TL.val (YF.indexArr arr_80 rfl rfl (by first | decide | omega) rfl) (by decide) ?_
            refine TL.val (YF.indexArr arr_79 rfl rfl (by first | decide | omega) rfl) (by decide) ?_
            refine TL.val (YF.indexArr arr_75 rfl rfl (by first | decide | omega) (show _ = 244 + 576 * (2 * g + c) + (3 * sbn r t + wn + j) by omega)) (by decide) ?_
            refine TL.val (YF.load 3 sc_73 rfl rfl (zl_get (k := 3 * sbn r t + wn + j) (by omega) rfl (by omega))) (by decide) ?_
            refine TL.val (YF.indexSl sl_43 rfl rfl (by first | decide | omega) (show _ = 3 * j + v by omega)) (by decide) ?_
            refine TL.storeV 1 (_ :: _ :: _ :: _ :: _) rfl rfl rfl sz_73 rfl (by rw [va_size]; omega) fl_set rfl ?_
            refine TL.end ?_
            refine Arr.seq ?_
            refine Tr.region ?_
            refine TL.val (YF.move rfl) (by decide) ?_
            refine TL.val (YF.add rfl rfl (IntWalk.i64_in _ (by omega))) (by decide) ?_
            refine TL.val (YF.assign rfl) (by decide) ?_
            refine TL.end ?_
            refine Arr.block ?_
            refine Arr.seq ?_
            
            refine Tr.region ?_
            refine TL.val (YF.move rfl) (by decide) ?_
            refine TL.val (YF.add rfl rfl (IntWalk.i64_in _ (by omega))) (by decide) ?_
            refine TL.val (YF.assign rfl) (by decide) ?_
            refine TL.end ?_
            exact fun a w ha hw => ⟨_, by omega, j + 1, _, upd re (3 * j + v) (l (3 * sbn r t + wn + j)), rfl, by omega, by omega, hp.step (by omega) (by omega) (by rw [← hwn]; exact hT _ (by omega)), (ha.cons rfl (ha.cons rfl (ha.cons rfl (ha.cons rfl (ha.cons rfl (ha.cons rfl (ha.cons rfl (ha.cons rfl (ha.cons rfl (ha.cons rfl (ha.cons rfl (ha.nil)))))))))))), hw⟩
          ·
            replace h149 := of_decide_eq_false h149
            refine Tr.exitE ?_
            refine Arr.seqX ?_
            refine Arr.seqX ?_
            refine Arr.blockE ?_
            refine Arr.block ?_
            refine Arr.seq ?_
            have hsm : (v + 1) * (sbn r (t + 1) - sbn r t) = v * (sbn r (t + 1) - sbn r t) + (sbn r (t + 1) - sbn r t) := Nat.succ_mul _ _
            refine Tr.region ?_
            refine TL.val (YF.move rfl) (by decide) ?_
            refine TL.val (YF.add rfl rfl (IntWalk.i64_in _ (by omega))) (by decide) ?_
            refine TL.val (YF.assign rfl) (by decide) ?_
            refine TL.end ?_
            exact fun a w ha hw => ⟨_, by omega, v + 1, wn + (sbn r (t + 1) - sbn r t), iv, re, rfl, by omega, by rw [hsm, ← hwn], by omega, (by have e : j = sbn r (t + 1) - sbn r t := (by omega); subst e; exact hp.next), (ha.cons rfl (ha.cons rfl (ha.cons rfl (ha.cons rfl (ha.cons rfl (ha.cons rfl (ha.cons rfl (ha.cons rfl (ha.cons rfl (ha.cons rfl (ha.nil))))))))))), hw⟩
        ·
          replace h144 := of_decide_eq_false h144
          refine Tr.exitE ?_
          refine Arr.seqX ?_
          refine Arr.seqX ?_
          refine Arr.blockE ?_
          refine Arr.block ?_
          exact fun a w ha hw => ⟨_, by omega, t + 1, t, nx, wl, iv, l, re, rfl, .inr rfl, by omega, hnx, hwl, (by have e : v = 3 := (by omega); subst e; omega), (fun _ => by have e : v = 3 := (by omega); subst e; exact hp), hD, hH, hT, (ha.cons rfl (ha.cons rfl (ha.cons rfl (ha.cons rfl (ha.cons rfl (ha.cons rfl (ha.cons rfl (ha.cons rfl (ha.cons rfl (ha.nil)))))))))), hw⟩
      ·
        replace h82 := of_decide_eq_false h82
        refine Tr.exitE ?_
        refine Arr.seqX ?_
        refine Arr.seqX ?_
        refine Arr.blockE ?_
        refine Arr.seq ?_
        refine Tr.seq ?_
        refine Tr.region ?_
        obtain ⟨rfl, rfl⟩ : u = 12 ∧ t = 13 := by
          have h13 := sbn_13 r
          have hlt := fun k hk => sbn_lt r k hk
          by_cases e : t = 13
          · omega
          · have := sbn_le r (show t ≤ 12 by omega) (by omega)
            have : sbn r 12 < sbn r 13 := sbn_lt r 12 (by decide)
            omega
        have hb1 : sbn r 12 < sbn r 13 := sbn_lt r 12 (by decide)
        have hb2 := sbn_13 r
        have hwl : wl = (sbn r 13 : Int) - (sbn r 12 : Int) := hwl
        have hp := hP rfl
        refine TL.val (YF.move rfl) (by decide) ?_
        refine TL.val (YF.indexSl sl_69 rfl rfl (by first | decide | omega) (show _ = 12 by omega)) (by decide) ?_
        refine TL.val (YF.load 0 sc_3 rfl rfl (sbi_get (by omega))) (by decide) ?_
        refine TL.val (YF.mul rfl rfl (IntWalk.i64_in _ (by omega))) (by decide) ?_
        refine TL.val (YF.assign rfl) (by decide) ?_
        refine TL.end ?_
        refine Arr.seq ?_
        refine Tr.drawE (_ :: _ :: _ :: _) (fun H => (H.eraseIdx 3)) rfl mixed_ ?_
        refine TD.take 0 rfl (by kernel_rfl) (by kernel_rfl) (by kernel_rfl) (fun _ _ _ h => h) (by repeat first | exact List.Sublist.refl _ | apply List.Sublist.cons_cons | apply List.Sublist.cons) (YF.move rfl) (by decide) ?_
        refine TD.take 1 rfl (by kernel_rfl) (by kernel_rfl) (by kernel_rfl) (fun _ _ _ h => h) (by repeat first | exact List.Sublist.refl _ | apply List.Sublist.cons_cons | apply List.Sublist.cons) (YF.nilCheck rfl) (by decide) ?_
        refine TD.take 2 rfl (by kernel_rfl) (by kernel_rfl) (by kernel_rfl) (fun _ _ _ h => h) (by repeat first | exact List.Sublist.refl _ | apply List.Sublist.cons_cons | apply List.Sublist.cons) (YF.fieldAddr fo_97_2 rfl rfl) (by decide) ?_
        refine TD.take 3 rfl (by kernel_rfl) (by kernel_rfl) (by kernel_rfl) (fun _ _ _ h => h) (by repeat first | exact List.Sublist.refl _ | apply List.Sublist.cons_cons | apply List.Sublist.cons) (YF.load (v := .pointer (some ⟨bm, 0, none⟩)) 2 sc_89 rfl rfl (va_get (by decide) rfl)) (by decide) ?_
        refine TD.take 4 rfl (by kernel_rfl) (by kernel_rfl) (by kernel_rfl) (fun _ _ _ h => h) (by repeat first | exact List.Sublist.refl _ | apply List.Sublist.cons_cons | apply List.Sublist.cons) (YF.move rfl) (by decide) ?_
        refine TD.take 5 rfl (by kernel_rfl) (by kernel_rfl) (by kernel_rfl) (fun _ _ _ h => h) (by repeat first | exact List.Sublist.refl _ | apply List.Sublist.cons_cons | apply List.Sublist.cons) (YF.move rfl) (by decide) ?_
        refine TD.take 6 rfl (by kernel_rfl) (by kernel_rfl) (by kernel_rfl) (fun _ _ _ h => h) (by repeat first | exact List.Sublist.refl _ | apply List.Sublist.cons_cons | apply List.Sublist.cons) (YF.nilCheck rfl) (by decide) ?_
        refine TD.take 7 rfl (by kernel_rfl) (by kernel_rfl) (by kernel_rfl) (fun _ _ _ h => h) (by repeat first | exact List.Sublist.refl _ | apply List.Sublist.cons_cons | apply List.Sublist.cons) (YF.fieldAddr fo_82_2 rfl rfl) (by decide) ?_
        refine TD.take 8 rfl (by kernel_rfl) (by kernel_rfl) (by kernel_rfl) (fun _ _ _ h => h) (by repeat first | exact List.Sublist.refl _ | apply List.Sublist.cons_cons | apply List.Sublist.cons) (YF.indexArr arr_80 rfl rfl (by first | decide | omega) rfl) (by decide) ?_
        refine TD.take 9 rfl (by kernel_rfl) (by kernel_rfl) (by kernel_rfl) (fun _ _ _ h => h) (by repeat first | exact List.Sublist.refl _ | apply List.Sublist.cons_cons | apply List.Sublist.cons) (YF.indexArr arr_79 rfl rfl (by first | decide | omega) (show _ = 244 + 576 * (2 * g + c) by omega)) (by decide) ?_
        refine TD.take 10 rfl (by kernel_rfl) (by kernel_rfl) (by kernel_rfl) (fun _ _ _ h => h) (by repeat first | exact List.Sublist.refl _ | apply List.Sublist.cons_cons | apply List.Sublist.cons) (YF.move rfl) (by decide) ?_
        refine TD.take 11 rfl (by kernel_rfl) (by kernel_rfl) (by kernel_rfl) (fun _ _ _ h => h) (by repeat first | exact List.Sublist.refl _ | apply List.Sublist.cons_cons | apply List.Sublist.cons) (YF.move rfl) (by decide) ?_
        refine TD.take 12 rfl (by kernel_rfl) (by kernel_rfl) (by kernel_rfl) (fun _ _ _ h => h) (by repeat first | exact List.Sublist.refl _ | apply List.Sublist.cons_cons | apply List.Sublist.cons) (YF.move rfl) (by decide) ?_
        refine TD.take 13 rfl (by kernel_rfl) (by kernel_rfl) (by kernel_rfl) (fun _ _ _ h => h) (by repeat first | exact List.Sublist.refl _ | apply List.Sublist.cons_cons | apply List.Sublist.cons) (YF.mul rfl rfl (IntWalk.i64_in _ (by omega))) (by decide) ?_
        refine TD.take 14 rfl (by kernel_rfl) (by kernel_rfl) (by kernel_rfl) (fun _ _ _ h => h) (by repeat first | exact List.Sublist.refl _ | apply List.Sublist.cons_cons | apply List.Sublist.cons) (YF.add rfl rfl (IntWalk.i64_in _ (by omega))) (by decide) ?_
        refine TD.take 15 rfl (by kernel_rfl) (by kernel_rfl) (by kernel_rfl) (fun _ _ _ h => h) (by repeat first | exact List.Sublist.refl _ | apply List.Sublist.cons_cons | apply List.Sublist.cons) (YF.sliceArrLH (lo' := 3 * sbn r 12) (hi' := 3 * sbn r 12 + 3 * (sbn r 13 - sbn r 12)) (q := 244 + 576 * (2 * g + c) + 3 * sbn r 12) arr_75 rfl rfl rfl (by omega) (by omega) (by omega) (by omega)) (by decide) ?_
        refine TD.take 16 rfl (by kernel_rfl) (by kernel_rfl) (by kernel_rfl) (fun _ _ _ h => h) (by repeat first | exact List.Sublist.refl _ | apply List.Sublist.cons_cons | apply List.Sublist.cons) (YF.move rfl) (by decide) ?_
        refine TD.take 17 rfl (by kernel_rfl) (by kernel_rfl) (by kernel_rfl) (fun _ _ _ h => h) (by repeat first | exact List.Sublist.refl _ | apply List.Sublist.cons_cons | apply List.Sublist.cons) (YF.move rfl) (by decide) ?_
        refine TD.take 18 rfl (by kernel_rfl) (by kernel_rfl) (by kernel_rfl) (fun _ _ _ h => h) (by repeat first | exact List.Sublist.refl _ | apply List.Sublist.cons_cons | apply List.Sublist.cons) (YF.mul rfl rfl (IntWalk.i64_in _ (by omega))) (by decide) ?_
        refine TD.take 19 rfl (by kernel_rfl) (by kernel_rfl) (by kernel_rfl) (fun _ _ _ h => h) (by repeat first | exact List.Sublist.refl _ | apply List.Sublist.cons_cons | apply List.Sublist.cons) (YF.sliceSl (l := 0) (h' := 3 * (sbn r 13 - sbn r 12)) (q := 0) sl_43 rfl rfl rfl rfl (by omega) (by omega) rfl) (by decide) ?_
        refine TD.eff 20 rfl (by kernel_rfl) (EF.copyZ 3 1 sl_43 rfl rfl rfl rfl (by omega) rfl (by omega) (by omega)) (by decide) (by rintro _ _ rfl; exact (by repeat first | exact List.Sublist.refl _ | apply List.Sublist.cons_cons | apply List.Sublist.cons)) ?_
        rintro _ _ rfl
        refine TD.heap (_ :: _ :: _ :: _ :: H) rfl ?_
        refine TD.end (by kernel_rfl) ?_
        first
          | exact Ends.sub (by repeat first | exact List.Sublist.refl _ | apply List.Sublist.cons) (Ends.noRes rfl ⟨x, ⟨fun hq => absurd hq.1 (by assumption), fun _ _ _ => rfl⟩, rfl⟩)
          | exact Ends.sub (by repeat first | exact List.Sublist.refl _ | apply List.Sublist.cons) (Ends.noRes rfl ⟨x, ⟨fun hq => absurd hq.2 (by assumption), fun _ _ _ => rfl⟩, rfl⟩)
          | exact Ends.sub (by repeat first | exact List.Sublist.refl _ | apply List.Sublist.cons) (Ends.noRes rfl ⟨_, ⟨fun _ => ⟨lo, hlo, hD.copy (by omega) hp rfl, fun q hq => by
              have := sbn_le r hu.1 (show 12 ≤ 13 by omega)
              rw [if_neg (by omega)]; exact hH q hq⟩, fun hq => absurd ⟨h1, by assumption⟩ hq⟩, rfl⟩)
    ·
      replace h50 := of_decide_eq_false h50
      refine Tr.skipE ?_
      first
        | exact Ends.sub (by repeat first | exact List.Sublist.refl _ | apply List.Sublist.cons) (Ends.noRes rfl ⟨x, ⟨fun hq => absurd hq.1 (by assumption), fun _ _ _ => rfl⟩, rfl⟩)
        | exact Ends.sub (by repeat first | exact List.Sublist.refl _ | apply List.Sublist.cons) (Ends.noRes rfl ⟨x, ⟨fun hq => absurd hq.2 (by assumption), fun _ _ _ => rfl⟩, rfl⟩)
        | exact Ends.sub (by repeat first | exact List.Sublist.refl _ | apply List.Sublist.cons) (Ends.noRes rfl ⟨_, ⟨fun _ => ⟨lo, hlo, hD.copy (by omega) hp rfl, fun q hq => by
            have := sbn_le r hu.1 (show 12 ≤ 13 by omega)
            rw [if_neg (by omega)]; exact hH q hq⟩, fun hq => absurd ⟨h1, by assumption⟩ hq⟩, rfl⟩)
  ·
    refine TL.val (YF.eql (b := false) rfl rfl (decide_eq_false h1)) (by decide) ?_
    refine TL.val (YF.move rfl) (by decide) ?_
    first
      | refine TL.gno rfl (by decide) ?_
      | refine TL.gval rfl (YF.move rfl) (by decide) ?_
    first
      | refine TL.gno rfl (by decide) ?_
      | refine TL.gval rfl (YF.nilCheck rfl) (by decide) ?_
    first
      | refine TL.gno rfl (by decide) ?_
      | refine TL.gval rfl (YF.fieldAddr fo_97_1 rfl rfl) (by decide) ?_
    first
      | refine TL.gno rfl (by decide) ?_
      | refine TL.gval rfl (YF.load (v := .pointer (some ⟨bsi, 0, none⟩)) 2 sc_77 rfl rfl (va_get (by decide) rfl)) (by decide) ?_
    first
      | refine TL.gno rfl (by decide) ?_
      | refine TL.gval rfl (YF.move rfl) (by decide) ?_
    first
      | refine TL.gno rfl (by decide) ?_
      | refine TL.gval rfl (YF.move rfl) (by decide) ?_
    first
      | refine TL.gno rfl (by decide) ?_
      | refine TL.gval rfl (YF.nilCheck rfl) (by decide) ?_
    first
      | refine TL.gno rfl (by decide) ?_
      | refine TL.gval rfl (YF.fieldAddr fo_99_8 rfl rfl) (by decide) ?_
    first
      | refine TL.gno rfl (by decide) ?_
      | refine TL.gval rfl (YF.indexArr arr_31 rfl rfl (by first | decide | omega) rfl) (by decide) ?_
    first
      | refine TL.gno rfl (by decide) ?_
      | refine TL.gval rfl (YF.indexArr arr_30 rfl rfl (by first | decide | omega) (show _ = 30 + 2 * g + c by omega)) (by decide) ?_
    first
      | refine TL.gno rfl (by decide) ?_
      | refine TL.gval rfl (YF.load (i + 4) sc_3 rfl hi (sd_int (by omega))) (by decide) ?_
    first
      | refine TL.gno rfl (by decide) ?_
      | refine TL.gval rfl (YF.eql rfl rfl rfl) (by decide) ?_
    first
      | refine TL.val (YF.pickT rfl rfl) (by decide) ?_
      | refine TL.val (YF.pickF rfl rfl) (by decide) ?_
      | refine TL.val (YF.pick rfl rfl rfl rfl) (by decide) ?_
    refine TL.end ?_
    refine Arr.seq ?_
    refine Tr.condF rfl ?_
    refine Tr.skipE ?_
    first
      | exact Ends.sub (by repeat first | exact List.Sublist.refl _ | apply List.Sublist.cons) (Ends.noRes rfl ⟨x, ⟨fun hq => absurd hq.1 (by assumption), fun _ _ _ => rfl⟩, rfl⟩)
      | exact Ends.sub (by repeat first | exact List.Sublist.refl _ | apply List.Sublist.cons) (Ends.noRes rfl ⟨x, ⟨fun hq => absurd hq.2 (by assumption), fun _ _ _ => rfl⟩, rfl⟩)
      | exact Ends.sub (by repeat first | exact List.Sublist.refl _ | apply List.Sublist.cons) (Ends.noRes rfl ⟨_, ⟨fun _ => ⟨lo, hlo, hD.copy (by omega) hp rfl, fun q hq => by
          have := sbn_le r hu.1 (show 12 ≤ 13 by omega)
          rw [if_neg (by omega)]; exact hH q hq⟩, fun hq => absurd ⟨h1, by assumption⟩ hq⟩, rfl⟩)

end Go.Proofs.Ytbjdglpmfkmgaaa
