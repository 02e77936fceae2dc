/- The walks of the tables of cosines and windows. -/
import Derived.Test.YtbcjhkncifckiaaDoorHm
import Derived.Test.YtbcjhkncifckiaaDoorHn
namespace Go.Proofs.YtbcjhkncifckiaaDoor
open Go Go.RowKit Go.Proofs En Fl Ieee
set_option maxRecDepth 100000
set_option maxHeartbeats 0

theorem Zt151 : Zv_151 = va 648 (fl .f32 fun _ => 0) := by kernel_rfl

theorem cosines36_ct  (w0 : World) (H : Hp) (hsn : ∀ i, i < 6 → w0.cell? ⟨4, i, none⟩ = some (.float .f64 (snb i))) (hcn : ∀ i, i < 6 → w0.cell? ⟨5, i, none⟩ = some (.float .f64 (cnb i))) : Ct Tryd.prog 60 #[] w0 (H) (fun v H' => ∃ b, v = .pointer (some ⟨b, 0, none⟩) ∧ H' = (b, .cells (va 648 (fl .f32 (tab 36 c36))) 151 (0, 0)) :: H) := by
  refine Ct.of_body (n := 33) (E := []) Tryd.func60 rfl rfl rfl rfl ?_
  refine Tr.seq ?_
  refine Tr.region ?_
  refine TL.val (YF.assign rfl) (by decide) ?_
  refine TL.end ?_
  refine Arr.seq ?_
  refine Tr.seq ?_
  refine Tr.region ?_
  refine TL.allocA zero_151 (by decide) (fun bt => ?_)
  refine TL.val (YF.assign rfl) (by decide) ?_
  refine TL.end ?_
  refine Arr.seq ?_
  refine Tr.seq ?_
  refine Tr.seq ?_
  refine Tr.drop (G := (bt, .cells (va 648 (fl .f32 fun _ => 0)) 151 (0, 0)) :: H) (by rw [Zt151]; exact List.Sublist.refl _) ?_
  refine Tr.region ?_
  
  refine TL.val (YF.assign rfl) (by decide) ?_
  refine TL.end ?_
  refine Arr.seq ?_
  refine Tr.block ?_
  refine Tr.loop (I := fun mq a w => ∃ (i : Nat) (l : Nat → Nat), mq = 18 - i ∧ (i ≤ 18) ∧ (∀ q, q < 36 * i + 0 → l q = tab 36 c36 q) ∧ Agree 33 [(1, .pointer (some ⟨bt, 0, none⟩)), (2, .int .i64 i)] a ∧ HS w0 ((bt, .cells (va 648 (fl .f32 l)) 151 (0, 0)) :: H) w) (18) ?_ ?_
  · intro a w ha hw
    exact ⟨0, fun _ => 0, rfl, by omega, fun q hq => absurd hq (by omega), (ha.cons rfl (ha.cons rfl (ha.nil))), hw⟩
  rintro _ a w ⟨i, l, rfl, hi, hl, ha, hw⟩
  refine Tr.use ha hw ?_
  refine Tr.seq ?_
  refine Tr.seq ?_
  refine Tr.region ?_
  refine TL.val (YF.move rfl) (by decide) ?_
  refine TL.val (YF.lss rfl rfl rfl) (by decide) ?_
  refine TL.end ?_
  refine Arr.seq ?_
  refine Tr.cond rfl (fun h6 => ?_) (fun h6 => ?_)
  ·
    replace h6 := of_decide_eq_true h6
    refine Tr.skipE ?_
    refine Arr.seq ?_
    refine Tr.seq ?_
    refine Tr.block ?_
    refine Tr.seq ?_
    refine Tr.region ?_
    refine TL.val (YF.assign rfl) (by decide) ?_
    refine TL.end ?_
    refine Arr.seq ?_
    refine Tr.block ?_
    refine Tr.loop (I := fun mq a w => ∃ (j : Nat) (l : Nat → Nat), mq = 36 - j ∧ (j ≤ 36) ∧ (∀ q, q < 36 * i + j → l q = tab 36 c36 q) ∧ Agree 33 [(1, .pointer (some ⟨bt, 0, none⟩)), (2, .int .i64 i), (3, .int .i64 j)] a ∧ HS w0 ((bt, .cells (va 648 (fl .f32 l)) 151 (0, 0)) :: H) w) (36) ?_ ?_
    · intro a w ha hw
      exact ⟨0, l, rfl, by omega, hl, (ha.cons rfl (ha.cons rfl (ha.cons rfl (ha.nil)))), hw⟩
    rintro _ a w ⟨j, l, rfl, hj, hl, ha, hw⟩
    refine Tr.use ha hw ?_
    refine Tr.seq ?_
    refine Tr.seq ?_
    refine Tr.region ?_
    refine TL.val (YF.move rfl) (by decide) ?_
    refine TL.val (YF.lss rfl rfl rfl) (by decide) ?_
    refine TL.end ?_
    refine Arr.seq ?_
    refine Tr.cond rfl (fun h10 => ?_) (fun h10 => ?_)
    ·
      replace h10 := of_decide_eq_true h10
      refine Tr.skipE ?_
      refine Arr.seq ?_
      refine Tr.seq ?_
      refine Tr.block ?_
      obtain ⟨x1, x2, x3, x4, x5, x6, x7, y, e1, e2, e3, e4, e5, e6, e7, e8, e9⟩ := cosP_spec (c36_ok (show i < 18 by omega) (show j < 36 by omega)).1
      refine Tr.drawE (_) (fun H => (H.eraseIdx 0)) rfl mixed_ ?_
      refine TD.take 0 rfl (by kernel_rfl) (by kernel_rfl) (by kernel_rfl) (fun _ _ _ h => h) (by repeat first | exact List.Sublist.refl _ | apply List.Sublist.cons_cons | apply List.Sublist.cons) (YF.move rfl) (by decide) ?_
      refine TD.take 1 rfl (by kernel_rfl) (by kernel_rfl) (by kernel_rfl) (fun _ _ _ h => h) (by repeat first | exact List.Sublist.refl _ | apply List.Sublist.cons_cons | apply List.Sublist.cons) (YF.move rfl) (by decide) ?_
      refine TD.take 2 rfl (by kernel_rfl) (by kernel_rfl) (by kernel_rfl) (fun _ _ _ h => h) (by repeat first | exact List.Sublist.refl _ | apply List.Sublist.cons_cons | apply List.Sublist.cons) (YF.move rfl) (by decide) ?_
      refine TD.take 3 rfl (by kernel_rfl) (by kernel_rfl) (by kernel_rfl) (fun _ _ _ h => h) (by repeat first | exact List.Sublist.refl _ | apply List.Sublist.cons_cons | apply List.Sublist.cons) (YF.move rfl) (by decide) ?_
      refine TD.take 4 rfl (by kernel_rfl) (by kernel_rfl) (by kernel_rfl) (fun _ _ _ h => h) (by repeat first | exact List.Sublist.refl _ | apply List.Sublist.cons_cons | apply List.Sublist.cons) (YF.convIF und_3 und_60 rfl rfl) (by decide) ?_
      refine TD.take 5 rfl (by kernel_rfl) (by kernel_rfl) (by kernel_rfl) (fun _ _ _ h => h) (by repeat first | exact List.Sublist.refl _ | apply List.Sublist.cons_cons | apply List.Sublist.cons) (YF.farith rfl rfl e1) (by decide) ?_
      refine TD.take 6 rfl (by kernel_rfl) (by kernel_rfl) (by kernel_rfl) (fun _ _ _ h => h) (by repeat first | exact List.Sublist.refl _ | apply List.Sublist.cons_cons | apply List.Sublist.cons) (YF.farith rfl rfl e2) (by decide) ?_
      refine TD.take 7 rfl (by kernel_rfl) (by kernel_rfl) (by kernel_rfl) (fun _ _ _ h => h) (by repeat first | exact List.Sublist.refl _ | apply List.Sublist.cons_cons | apply List.Sublist.cons) (YF.farith rfl rfl e3) (by decide) ?_
      refine TD.take 8 rfl (by kernel_rfl) (by kernel_rfl) (by kernel_rfl) (fun _ _ _ h => h) (by repeat first | exact List.Sublist.refl _ | apply List.Sublist.cons_cons | apply List.Sublist.cons) (YF.farith rfl rfl e4) (by decide) ?_
      refine TD.take 9 rfl (by kernel_rfl) (by kernel_rfl) (by kernel_rfl) (fun _ _ _ h => h) (by repeat first | exact List.Sublist.refl _ | apply List.Sublist.cons_cons | apply List.Sublist.cons) (YF.move rfl) (by decide) ?_
      refine TD.take 10 rfl (by kernel_rfl) (by kernel_rfl) (by kernel_rfl) (fun _ _ _ h => h) (by repeat first | exact List.Sublist.refl _ | apply List.Sublist.cons_cons | apply List.Sublist.cons) (YF.convIF und_3 und_60 rfl rfl) (by decide) ?_
      refine TD.take 11 rfl (by kernel_rfl) (by kernel_rfl) (by kernel_rfl) (fun _ _ _ h => h) (by repeat first | exact List.Sublist.refl _ | apply List.Sublist.cons_cons | apply List.Sublist.cons) (YF.farith rfl rfl e5) (by decide) ?_
      refine TD.take 12 rfl (by kernel_rfl) (by kernel_rfl) (by kernel_rfl) (fun _ _ _ h => h) (by repeat first | exact List.Sublist.refl _ | apply List.Sublist.cons_cons | apply List.Sublist.cons) (YF.farith rfl rfl e6) (by decide) ?_
      refine TD.take 13 rfl (by kernel_rfl) (by kernel_rfl) (by kernel_rfl) (fun _ _ _ h => h) (by repeat first | exact List.Sublist.refl _ | apply List.Sublist.cons_cons | apply List.Sublist.cons) (YF.farith rfl rfl e7) (by decide) ?_
      refine TD.take 16 rfl (by kernel_rfl) (by kernel_rfl) (by kernel_rfl) (fun _ _ _ h => h) (by repeat first | exact List.Sublist.refl _ | apply List.Sublist.cons_cons | apply List.Sublist.cons) (YF.nilCheck rfl) (by decide) ?_
      refine TD.take 17 rfl (by kernel_rfl) (by kernel_rfl) (by kernel_rfl) (fun _ _ _ h => h) (by repeat first | exact List.Sublist.refl _ | apply List.Sublist.cons_cons | apply List.Sublist.cons) (YF.indexArr arr_151 rfl rfl (by first | decide | omega) (show _ = 36 * i by omega)) (by decide) ?_
      refine TD.eff 14 rfl (by kernel_rfl) (EF.call (vs := [_]) call_41 rfl (Cos_ct _ y w0 _ hsn hcn e8)) (by decide) (by rintro _ _ ⟨rfl, rfl⟩; exact (by repeat first | exact List.Sublist.refl _ | apply List.Sublist.cons_cons | apply List.Sublist.cons)) ?_
      rintro _ _ ⟨rfl, rfl⟩
      refine TD.take 15 rfl (by kernel_rfl) (by kernel_rfl) (by kernel_rfl) (fun _ _ _ h => h) (by repeat first | exact List.Sublist.refl _ | apply List.Sublist.cons_cons | apply List.Sublist.cons) (YF.convFF undS_60 und_82 rfl e9) (by decide) ?_
      refine TD.take 18 rfl (by kernel_rfl) (by kernel_rfl) (by kernel_rfl) (fun _ _ _ h => h) (by repeat first | exact List.Sublist.refl _ | apply List.Sublist.cons_cons | apply List.Sublist.cons) (YF.indexArr arr_132 rfl rfl (by first | decide | omega) (show _ = 36 * i + j by omega)) (by decide) ?_
      refine TD.eff0 19 rfl (by kernel_rfl) (EF.store 0 rfl rfl rfl sz_82 rfl (by rw [va_size]; omega)) (by rintro _ _ ⟨rfl, rfl⟩; exact (by repeat first | exact List.Sublist.refl _ | apply List.Sublist.cons_cons | apply List.Sublist.cons)) ?_
      rintro _ _ ⟨rfl, rfl⟩
      refine TD.heap ((bt, .cells (va 648 (fl .f32 (upd l (36 * i + j) (c36 i j)))) 151 (0, 0)) :: _) (by rw [← fl_set]; rfl) ?_
      refine TD.end (by kernel_rfl) ?_
      refine Arr.block ?_
      refine Arr.seq ?_
      refine Tr.region ?_
      refine TL.val (YF.move rfl) (by decide) ?_
      refine TL.val (YF.add rfl rfl (IntWalk.i64_in _ (by omega))) (by decide) ?_
      refine TL.val (YF.assign rfl) (by decide) ?_
      refine TL.end ?_
      exact fun a w ha hw => ⟨_, by omega, j + 1, upd l (36 * i + j) (c36 i j), rfl, by omega, tab_step (by omega) hl rfl, (ha.cons rfl (ha.cons rfl (ha.cons rfl (ha.nil)))), hw⟩
    ·
      replace h10 := of_decide_eq_false h10
      refine Tr.exitE ?_
      refine Arr.seqX ?_
      refine Arr.seqX ?_
      refine Arr.blockE ?_
      refine Arr.block ?_
      refine Arr.seq ?_
      refine Tr.region ?_
      refine TL.val (YF.move rfl) (by decide) ?_
      refine TL.val (YF.add rfl rfl (IntWalk.i64_in _ (by omega))) (by decide) ?_
      refine TL.val (YF.assign rfl) (by decide) ?_
      refine TL.end ?_
      exact fun a w ha hw => ⟨_, by omega, i + 1, l, rfl, by omega, fun q hq => hl q (by omega), (ha.cons rfl (ha.cons rfl (ha.nil))), hw⟩
  ·
    replace h6 := of_decide_eq_false h6
    refine Tr.exitE ?_
    refine Arr.seqX ?_
    refine Arr.seqX ?_
    refine Arr.blockE ?_
    refine Arr.seq ?_
    refine Tr.seq ?_
    refine Tr.region ?_
    refine TL.val (YF.move rfl) (by decide) ?_
    refine TL.val (YF.assign rfl) (by decide) ?_
    refine TL.end ?_
    refine Arr.seq ?_
    refine Tr.retE ?_
    exact Ends.tmp rfl rfl ⟨bt, rfl, by rw [va_tab (m := tab 36 c36) fun q hq => hl q (by omega)]⟩

theorem Zt150 : Zv_150 = va 72 (fl .f32 fun _ => 0) := by kernel_rfl

theorem cosines12_ct  (w0 : World) (H : Hp) (hsn : ∀ i, i < 6 → w0.cell? ⟨4, i, none⟩ = some (.float .f64 (snb i))) (hcn : ∀ i, i < 6 → w0.cell? ⟨5, i, none⟩ = some (.float .f64 (cnb i))) : Ct Tryd.prog 59 #[] w0 (H) (fun v H' => ∃ b, v = .pointer (some ⟨b, 0, none⟩) ∧ H' = (b, .cells (va 72 (fl .f32 (tab 12 c12))) 150 (0, 0)) :: H) := by
  refine Ct.of_body (n := 33) (E := []) Tryd.func59 rfl rfl rfl rfl ?_
  refine Tr.seq ?_
  refine Tr.region ?_
  refine TL.val (YF.assign rfl) (by decide) ?_
  refine TL.end ?_
  refine Arr.seq ?_
  refine Tr.seq ?_
  refine Tr.region ?_
  refine TL.allocA zero_150 (by decide) (fun bt => ?_)
  refine TL.val (YF.assign rfl) (by decide) ?_
  refine TL.end ?_
  refine Arr.seq ?_
  refine Tr.seq ?_
  refine Tr.seq ?_
  refine Tr.drop (G := (bt, .cells (va 72 (fl .f32 fun _ => 0)) 150 (0, 0)) :: H) (by rw [Zt150]; exact List.Sublist.refl _) ?_
  refine Tr.region ?_
  
  refine TL.val (YF.assign rfl) (by decide) ?_
  refine TL.end ?_
  refine Arr.seq ?_
  refine Tr.block ?_
  refine Tr.loop (I := fun mq a w => ∃ (i : Nat) (l : Nat → Nat), mq = 6 - i ∧ (i ≤ 6) ∧ (∀ q, q < 12 * i + 0 → l q = tab 12 c12 q) ∧ Agree 33 [(1, .pointer (some ⟨bt, 0, none⟩)), (2, .int .i64 i)] a ∧ HS w0 ((bt, .cells (va 72 (fl .f32 l)) 150 (0, 0)) :: H) w) (6) ?_ ?_
  · intro a w ha hw
    exact ⟨0, fun _ => 0, rfl, by omega, fun q hq => absurd hq (by omega), (ha.cons rfl (ha.cons rfl (ha.nil))), hw⟩
  rintro _ a w ⟨i, l, rfl, hi, hl, ha, hw⟩
  refine Tr.use ha hw ?_
  refine Tr.seq ?_
  refine Tr.seq ?_
  refine Tr.region ?_
  refine TL.val (YF.move rfl) (by decide) ?_
  refine TL.val (YF.lss rfl rfl rfl) (by decide) ?_
  refine TL.end ?_
  refine Arr.seq ?_
  refine Tr.cond rfl (fun h6 => ?_) (fun h6 => ?_)
  ·
    replace h6 := of_decide_eq_true h6
    refine Tr.skipE ?_
    refine Arr.seq ?_
    refine Tr.seq ?_
    refine Tr.block ?_
    refine Tr.seq ?_
    refine Tr.region ?_
    refine TL.val (YF.assign rfl) (by decide) ?_
    refine TL.end ?_
    refine Arr.seq ?_
    refine Tr.block ?_
    refine Tr.loop (I := fun mq a w => ∃ (j : Nat) (l : Nat → Nat), mq = 12 - j ∧ (j ≤ 12) ∧ (∀ q, q < 12 * i + j → l q = tab 12 c12 q) ∧ Agree 33 [(1, .pointer (some ⟨bt, 0, none⟩)), (2, .int .i64 i), (3, .int .i64 j)] a ∧ HS w0 ((bt, .cells (va 72 (fl .f32 l)) 150 (0, 0)) :: H) w) (12) ?_ ?_
    · intro a w ha hw
      exact ⟨0, l, rfl, by omega, hl, (ha.cons rfl (ha.cons rfl (ha.cons rfl (ha.nil)))), hw⟩
    rintro _ a w ⟨j, l, rfl, hj, hl, ha, hw⟩
    refine Tr.use ha hw ?_
    refine Tr.seq ?_
    refine Tr.seq ?_
    refine Tr.region ?_
    refine TL.val (YF.move rfl) (by decide) ?_
    refine TL.val (YF.lss rfl rfl rfl) (by decide) ?_
    refine TL.end ?_
    refine Arr.seq ?_
    refine Tr.cond rfl (fun h10 => ?_) (fun h10 => ?_)
    ·
      replace h10 := of_decide_eq_true h10
      refine Tr.skipE ?_
      refine Arr.seq ?_
      refine Tr.seq ?_
      refine Tr.block ?_
      obtain ⟨x1, x2, x3, x4, x5, x6, x7, y, e1, e2, e3, e4, e5, e6, e7, e8, e9⟩ := cosP_spec (c12_ok (show i < 6 by omega) (show j < 12 by omega)).1
      refine Tr.drawE (_) (fun H => (H.eraseIdx 0)) rfl mixed_ ?_
      refine TD.take 0 rfl (by kernel_rfl) (by kernel_rfl) (by kernel_rfl) (fun _ _ _ h => h) (by repeat first | exact List.Sublist.refl _ | apply List.Sublist.cons_cons | apply List.Sublist.cons) (YF.move rfl) (by decide) ?_
      refine TD.take 1 rfl (by kernel_rfl) (by kernel_rfl) (by kernel_rfl) (fun _ _ _ h => h) (by repeat first | exact List.Sublist.refl _ | apply List.Sublist.cons_cons | apply List.Sublist.cons) (YF.move rfl) (by decide) ?_
      refine TD.take 2 rfl (by kernel_rfl) (by kernel_rfl) (by kernel_rfl) (fun _ _ _ h => h) (by repeat first | exact List.Sublist.refl _ | apply List.Sublist.cons_cons | apply List.Sublist.cons) (YF.move rfl) (by decide) ?_
      refine TD.take 3 rfl (by kernel_rfl) (by kernel_rfl) (by kernel_rfl) (fun _ _ _ h => h) (by repeat first | exact List.Sublist.refl _ | apply List.Sublist.cons_cons | apply List.Sublist.cons) (YF.move rfl) (by decide) ?_
      refine TD.take 4 rfl (by kernel_rfl) (by kernel_rfl) (by kernel_rfl) (fun _ _ _ h => h) (by repeat first | exact List.Sublist.refl _ | apply List.Sublist.cons_cons | apply List.Sublist.cons) (YF.convIF und_3 und_60 rfl rfl) (by decide) ?_
      refine TD.take 5 rfl (by kernel_rfl) (by kernel_rfl) (by kernel_rfl) (fun _ _ _ h => h) (by repeat first | exact List.Sublist.refl _ | apply List.Sublist.cons_cons | apply List.Sublist.cons) (YF.farith rfl rfl e1) (by decide) ?_
      refine TD.take 6 rfl (by kernel_rfl) (by kernel_rfl) (by kernel_rfl) (fun _ _ _ h => h) (by repeat first | exact List.Sublist.refl _ | apply List.Sublist.cons_cons | apply List.Sublist.cons) (YF.farith rfl rfl e2) (by decide) ?_
      refine TD.take 7 rfl (by kernel_rfl) (by kernel_rfl) (by kernel_rfl) (fun _ _ _ h => h) (by repeat first | exact List.Sublist.refl _ | apply List.Sublist.cons_cons | apply List.Sublist.cons) (YF.farith rfl rfl e3) (by decide) ?_
      refine TD.take 8 rfl (by kernel_rfl) (by kernel_rfl) (by kernel_rfl) (fun _ _ _ h => h) (by repeat first | exact List.Sublist.refl _ | apply List.Sublist.cons_cons | apply List.Sublist.cons) (YF.farith rfl rfl e4) (by decide) ?_
      refine TD.take 9 rfl (by kernel_rfl) (by kernel_rfl) (by kernel_rfl) (fun _ _ _ h => h) (by repeat first | exact List.Sublist.refl _ | apply List.Sublist.cons_cons | apply List.Sublist.cons) (YF.move rfl) (by decide) ?_
      refine TD.take 10 rfl (by kernel_rfl) (by kernel_rfl) (by kernel_rfl) (fun _ _ _ h => h) (by repeat first | exact List.Sublist.refl _ | apply List.Sublist.cons_cons | apply List.Sublist.cons) (YF.convIF und_3 und_60 rfl rfl) (by decide) ?_
      refine TD.take 11 rfl (by kernel_rfl) (by kernel_rfl) (by kernel_rfl) (fun _ _ _ h => h) (by repeat first | exact List.Sublist.refl _ | apply List.Sublist.cons_cons | apply List.Sublist.cons) (YF.farith rfl rfl e5) (by decide) ?_
      refine TD.take 12 rfl (by kernel_rfl) (by kernel_rfl) (by kernel_rfl) (fun _ _ _ h => h) (by repeat first | exact List.Sublist.refl _ | apply List.Sublist.cons_cons | apply List.Sublist.cons) (YF.farith rfl rfl e6) (by decide) ?_
      refine TD.take 13 rfl (by kernel_rfl) (by kernel_rfl) (by kernel_rfl) (fun _ _ _ h => h) (by repeat first | exact List.Sublist.refl _ | apply List.Sublist.cons_cons | apply List.Sublist.cons) (YF.farith rfl rfl e7) (by decide) ?_
      refine TD.take 16 rfl (by kernel_rfl) (by kernel_rfl) (by kernel_rfl) (fun _ _ _ h => h) (by repeat first | exact List.Sublist.refl _ | apply List.Sublist.cons_cons | apply List.Sublist.cons) (YF.nilCheck rfl) (by decide) ?_
      refine TD.take 17 rfl (by kernel_rfl) (by kernel_rfl) (by kernel_rfl) (fun _ _ _ h => h) (by repeat first | exact List.Sublist.refl _ | apply List.Sublist.cons_cons | apply List.Sublist.cons) (YF.indexArr arr_150 rfl rfl (by first | decide | omega) (show _ = 12 * i by omega)) (by decide) ?_
      refine TD.eff 14 rfl (by kernel_rfl) (EF.call (vs := [_]) call_41 rfl (Cos_ct _ y w0 _ hsn hcn e8)) (by decide) (by rintro _ _ ⟨rfl, rfl⟩; exact (by repeat first | exact List.Sublist.refl _ | apply List.Sublist.cons_cons | apply List.Sublist.cons)) ?_
      rintro _ _ ⟨rfl, rfl⟩
      refine TD.take 15 rfl (by kernel_rfl) (by kernel_rfl) (by kernel_rfl) (fun _ _ _ h => h) (by repeat first | exact List.Sublist.refl _ | apply List.Sublist.cons_cons | apply List.Sublist.cons) (YF.convFF undS_60 und_82 rfl e9) (by decide) ?_
      refine TD.take 18 rfl (by kernel_rfl) (by kernel_rfl) (by kernel_rfl) (fun _ _ _ h => h) (by repeat first | exact List.Sublist.refl _ | apply List.Sublist.cons_cons | apply List.Sublist.cons) (YF.indexArr arr_137 rfl rfl (by first | decide | omega) (show _ = 12 * i + j by omega)) (by decide) ?_
      refine TD.eff0 19 rfl (by kernel_rfl) (EF.store 0 rfl rfl rfl sz_82 rfl (by rw [va_size]; omega)) (by rintro _ _ ⟨rfl, rfl⟩; exact (by repeat first | exact List.Sublist.refl _ | apply List.Sublist.cons_cons | apply List.Sublist.cons)) ?_
      rintro _ _ ⟨rfl, rfl⟩
      refine TD.heap ((bt, .cells (va 72 (fl .f32 (upd l (12 * i + j) (c12 i j)))) 150 (0, 0)) :: _) (by rw [← fl_set]; rfl) ?_
      refine TD.end (by kernel_rfl) ?_
      refine Arr.block ?_
      refine Arr.seq ?_
      refine Tr.region ?_
      refine TL.val (YF.move rfl) (by decide) ?_
      refine TL.val (YF.add rfl rfl (IntWalk.i64_in _ (by omega))) (by decide) ?_
      refine TL.val (YF.assign rfl) (by decide) ?_
      refine TL.end ?_
      exact fun a w ha hw => ⟨_, by omega, j + 1, upd l (12 * i + j) (c12 i j), rfl, by omega, tab_step (by omega) hl rfl, (ha.cons rfl (ha.cons rfl (ha.cons rfl (ha.nil)))), hw⟩
    ·
      replace h10 := of_decide_eq_false h10
      refine Tr.exitE ?_
      refine Arr.seqX ?_
      refine Arr.seqX ?_
      refine Arr.blockE ?_
      refine Arr.block ?_
      refine Arr.seq ?_
      refine Tr.region ?_
      refine TL.val (YF.move rfl) (by decide) ?_
      refine TL.val (YF.add rfl rfl (IntWalk.i64_in _ (by omega))) (by decide) ?_
      refine TL.val (YF.assign rfl) (by decide) ?_
      refine TL.end ?_
      exact fun a w ha hw => ⟨_, by omega, i + 1, l, rfl, by omega, fun q hq => hl q (by omega), (ha.cons rfl (ha.cons rfl (ha.nil))), hw⟩
  ·
    replace h6 := of_decide_eq_false h6
    refine Tr.exitE ?_
    refine Arr.seqX ?_
    refine Arr.seqX ?_
    refine Arr.blockE ?_
    refine Arr.seq ?_
    refine Tr.seq ?_
    refine Tr.region ?_
    refine TL.val (YF.move rfl) (by decide) ?_
    refine TL.val (YF.assign rfl) (by decide) ?_
    refine TL.end ?_
    refine Arr.seq ?_
    refine Tr.retE ?_
    exact Ends.tmp rfl rfl ⟨bt, rfl, by rw [va_tab (m := tab 12 c12) fun q hq => hl q (by omega)]⟩

theorem Zt149 : Zv_149 = va 144 (fl .f32 fun _ => 0) := by kernel_rfl

theorem winData_ct  (w0 : World) (H : Hp) (hsn : ∀ i, i < 6 → w0.cell? ⟨4, i, none⟩ = some (.float .f64 (snb i))) (hcn : ∀ i, i < 6 → w0.cell? ⟨5, i, none⟩ = some (.float .f64 (cnb i))) : Ct Tryd.prog 58 #[] w0 (H) (fun v H' => ∃ b, v = .pointer (some ⟨b, 0, none⟩) ∧ H' = (b, .cells (va 144 (fl .f32 (tab 36 wnb))) 149 (0, 0)) :: H) := by
  refine Ct.of_body (n := 152) (E := []) Tryd.func58 rfl rfl rfl rfl ?_
  refine Tr.seq ?_
  refine Tr.region ?_
  refine TL.val (YF.assign rfl) (by decide) ?_
  refine TL.end ?_
  refine Arr.seq ?_
  refine Tr.seq ?_
  refine Tr.region ?_
  refine TL.allocA zero_149 (by decide) (fun bt => ?_)
  refine TL.val (YF.assign rfl) (by decide) ?_
  refine TL.end ?_
  refine Arr.seq ?_
  refine Tr.seq ?_
  refine Tr.seq ?_
  refine Tr.drop (G := (bt, .cells (va 144 (fl .f32 fun _ => 0)) 149 (0, 0)) :: H) (by rw [Zt149]; exact List.Sublist.refl _) ?_
  refine Tr.region ?_
  refine TL.val (YF.assign rfl) (by decide) ?_
  refine TL.end ?_
  refine Arr.seq ?_
  refine Tr.block ?_
  refine Tr.loop (I := fun mq a w => ∃ (j : Nat) (l : Nat → Nat), mq = 36 - j ∧ (0 ≤ j ∧ j ≤ 36) ∧ (∀ q, q < 36 * 0 + j → l q = tab 36 wnb q) ∧ Agree 152 [(1, .pointer (some ⟨bt, 0, none⟩)), (2, .int .i64 j)] a ∧ HS w0 ((bt, .cells (va 144 (fl .f32 l)) 149 (0, 0)) :: H) w) (36) ?_ ?_
  · intro a w ha hw
    exact ⟨0, fun _ => 0, rfl, ⟨by omega, by omega⟩, fun q hq => absurd hq (by omega), (ha.cons rfl (ha.cons rfl (ha.nil))), hw⟩
  rintro _ a w ⟨j, l, rfl, hj, hl, ha, hw⟩
  refine Tr.use ha hw ?_
  refine Tr.seq ?_
  refine Tr.seq ?_
  refine Tr.region ?_
  refine TL.val (YF.move rfl) (by decide) ?_
  refine TL.val (YF.lss rfl rfl rfl) (by decide) ?_
  refine TL.end ?_
  refine Arr.seq ?_
  refine Tr.cond rfl (fun h15 => ?_) (fun h15 => ?_)
  ·
    replace h15 := of_decide_eq_true h15
    refine Tr.skipE ?_
    refine Arr.seq ?_
    refine Tr.seq ?_
    refine Tr.block ?_
    obtain ⟨x1, x2, y, e1, e2, e3, e4⟩ := sinA_spec (wseg0 (show j < 36 by omega))
    refine Tr.drawE (_) (fun H => (H.eraseIdx 0)) rfl mixed_ ?_
    refine TD.take 0 rfl (by kernel_rfl) (by kernel_rfl) (by kernel_rfl) (fun _ _ _ h => h) (by repeat first | exact List.Sublist.refl _ | apply List.Sublist.cons_cons | apply List.Sublist.cons) (YF.move rfl) (by decide) ?_
    refine TD.take 1 rfl (by kernel_rfl) (by kernel_rfl) (by kernel_rfl) (fun _ _ _ h => h) (by repeat first | exact List.Sublist.refl _ | apply List.Sublist.cons_cons | apply List.Sublist.cons) (YF.move rfl) (by decide) ?_
    refine TD.take 2 rfl (by kernel_rfl) (by kernel_rfl) (by kernel_rfl) (fun _ _ _ h => h) (by repeat first | exact List.Sublist.refl _ | apply List.Sublist.cons_cons | apply List.Sublist.cons) (YF.move rfl) (by decide) ?_
    refine TD.take 3 rfl (by kernel_rfl) (by kernel_rfl) (by kernel_rfl) (fun _ _ _ h => h) (by repeat first | exact List.Sublist.refl _ | apply List.Sublist.cons_cons | apply List.Sublist.cons) (YF.convIF und_3 und_60 rfl rfl) (by decide) ?_
    refine TD.take 4 rfl (by kernel_rfl) (by kernel_rfl) (by kernel_rfl) (fun _ _ _ h => h) (by repeat first | exact List.Sublist.refl _ | apply List.Sublist.cons_cons | apply List.Sublist.cons) (YF.farith rfl rfl e1) (by decide) ?_
    refine TD.take 5 rfl (by kernel_rfl) (by kernel_rfl) (by kernel_rfl) (fun _ _ _ h => h) (by repeat first | exact List.Sublist.refl _ | apply List.Sublist.cons_cons | apply List.Sublist.cons) (YF.farith rfl rfl e2) (by decide) ?_
    refine TD.take 8 rfl (by kernel_rfl) (by kernel_rfl) (by kernel_rfl) (fun _ _ _ h => h) (by repeat first | exact List.Sublist.refl _ | apply List.Sublist.cons_cons | apply List.Sublist.cons) (YF.nilCheck rfl) (by decide) ?_
    refine TD.take 9 rfl (by kernel_rfl) (by kernel_rfl) (by kernel_rfl) (fun _ _ _ h => h) (by repeat first | exact List.Sublist.refl _ | apply List.Sublist.cons_cons | apply List.Sublist.cons) (YF.indexArr arr_149 rfl rfl (by first | decide | omega) (show _ = 36 * 0 by omega)) (by decide) ?_
    refine TD.eff 6 rfl (by kernel_rfl) (EF.call (vs := [_]) call_52 rfl (Sin_ct _ y w0 _ hsn hcn e3)) (by decide) (by rintro _ _ ⟨rfl, rfl⟩; exact (by repeat first | exact List.Sublist.refl _ | apply List.Sublist.cons_cons | apply List.Sublist.cons)) ?_
    rintro _ _ ⟨rfl, rfl⟩
    refine TD.take 7 rfl (by kernel_rfl) (by kernel_rfl) (by kernel_rfl) (fun _ _ _ h => h) (by repeat first | exact List.Sublist.refl _ | apply List.Sublist.cons_cons | apply List.Sublist.cons) (YF.convFF undS_60 und_82 rfl e4) (by decide) ?_
    refine TD.take 10 rfl (by kernel_rfl) (by kernel_rfl) (by kernel_rfl) (fun _ _ _ h => h) (by repeat first | exact List.Sublist.refl _ | apply List.Sublist.cons_cons | apply List.Sublist.cons) (YF.indexArr arr_132 rfl rfl (by first | decide | omega) (show _ = 36 * 0 + j by omega)) (by decide) ?_
    refine TD.eff0 11 rfl (by kernel_rfl) (EF.store 0 rfl rfl rfl sz_82 rfl (by rw [va_size]; omega)) (by rintro _ _ ⟨rfl, rfl⟩; exact (by repeat first | exact List.Sublist.refl _ | apply List.Sublist.cons_cons | apply List.Sublist.cons)) ?_
    rintro _ _ ⟨rfl, rfl⟩
    refine TD.heap ((bt, .cells (va 144 (fl .f32 (upd l (36 * 0 + j) (wnb 0 j)))) 149 (0, 0)) :: _) (by rw [← fl_set]; rfl) ?_
    refine TD.end (by kernel_rfl) ?_
    refine Arr.block ?_
    refine Arr.seq ?_
    refine Tr.region ?_
    refine TL.val (YF.move rfl) (by decide) ?_
    refine TL.val (YF.add rfl rfl (IntWalk.i64_in _ (by omega))) (by decide) ?_
    refine TL.val (YF.assign rfl) (by decide) ?_
    refine TL.end ?_
    exact fun a w ha hw => ⟨_, by omega, j + 1, upd l (36 * 0 + j) (wnb 0 j), rfl, ⟨by omega, by omega⟩, tab_step (by omega) hl rfl, (ha.cons rfl (ha.cons rfl (ha.nil))), hw⟩
  ·
    replace h15 := of_decide_eq_false h15
    refine Tr.exitE ?_
    refine Arr.seqX ?_
    refine Arr.seqX ?_
    refine Arr.blockE ?_
    refine Arr.seq ?_
    refine Tr.seq ?_
    refine Tr.seq ?_
    refine Tr.region ?_
    refine TL.val (YF.assign rfl) (by decide) ?_
    refine TL.end ?_
    refine Arr.seq ?_
    refine Tr.block ?_
    refine Tr.loop (I := fun mq a w => ∃ (j : Nat) (l : Nat → Nat), mq = 18 - j ∧ (0 ≤ j ∧ j ≤ 18) ∧ (∀ q, q < 36 * 1 + j → l q = tab 36 wnb q) ∧ Agree 152 [(1, .pointer (some ⟨bt, 0, none⟩)), (3, .int .i64 j)] a ∧ HS w0 ((bt, .cells (va 144 (fl .f32 l)) 149 (0, 0)) :: H) w) (18) ?_ ?_
    · intro a w ha hw
      exact ⟨0, l, rfl, ⟨by omega, by omega⟩, fun q hq => hl q (by omega), (ha.cons rfl (ha.cons rfl (ha.nil))), hw⟩
    rintro _ a w ⟨j, l, rfl, hj, hl, ha, hw⟩
    refine Tr.use ha hw ?_
    refine Tr.seq ?_
    refine Tr.seq ?_
    refine Tr.region ?_
    refine TL.val (YF.move rfl) (by decide) ?_
    refine TL.val (YF.lss rfl rfl rfl) (by decide) ?_
    refine TL.end ?_
    refine Arr.seq ?_
    refine Tr.cond rfl (fun h30 => ?_) (fun h30 => ?_)
    ·
      replace h30 := of_decide_eq_true h30
      refine Tr.skipE ?_
      refine Arr.seq ?_
      refine Tr.seq ?_
      refine Tr.block ?_
      obtain ⟨x1, x2, y, e1, e2, e3, e4⟩ := sinA_spec ((wseg1 (show j < 36 by omega)).1 (by omega))
      refine Tr.drawE (_) (fun H => (H.eraseIdx 0)) rfl mixed_ ?_
      refine TD.take 0 rfl (by kernel_rfl) (by kernel_rfl) (by kernel_rfl) (fun _ _ _ h => h) (by repeat first | exact List.Sublist.refl _ | apply List.Sublist.cons_cons | apply List.Sublist.cons) (YF.move rfl) (by decide) ?_
      refine TD.take 1 rfl (by kernel_rfl) (by kernel_rfl) (by kernel_rfl) (fun _ _ _ h => h) (by repeat first | exact List.Sublist.refl _ | apply List.Sublist.cons_cons | apply List.Sublist.cons) (YF.move rfl) (by decide) ?_
      refine TD.take 2 rfl (by kernel_rfl) (by kernel_rfl) (by kernel_rfl) (fun _ _ _ h => h) (by repeat first | exact List.Sublist.refl _ | apply List.Sublist.cons_cons | apply List.Sublist.cons) (YF.move rfl) (by decide) ?_
      refine TD.take 3 rfl (by kernel_rfl) (by kernel_rfl) (by kernel_rfl) (fun _ _ _ h => h) (by repeat first | exact List.Sublist.refl _ | apply List.Sublist.cons_cons | apply List.Sublist.cons) (YF.convIF und_3 und_60 rfl rfl) (by decide) ?_
      refine TD.take 4 rfl (by kernel_rfl) (by kernel_rfl) (by kernel_rfl) (fun _ _ _ h => h) (by repeat first | exact List.Sublist.refl _ | apply List.Sublist.cons_cons | apply List.Sublist.cons) (YF.farith rfl rfl e1) (by decide) ?_
      refine TD.take 5 rfl (by kernel_rfl) (by kernel_rfl) (by kernel_rfl) (fun _ _ _ h => h) (by repeat first | exact List.Sublist.refl _ | apply List.Sublist.cons_cons | apply List.Sublist.cons) (YF.farith rfl rfl e2) (by decide) ?_
      refine TD.take 8 rfl (by kernel_rfl) (by kernel_rfl) (by kernel_rfl) (fun _ _ _ h => h) (by repeat first | exact List.Sublist.refl _ | apply List.Sublist.cons_cons | apply List.Sublist.cons) (YF.nilCheck rfl) (by decide) ?_
      refine TD.take 9 rfl (by kernel_rfl) (by kernel_rfl) (by kernel_rfl) (fun _ _ _ h => h) (by repeat first | exact List.Sublist.refl _ | apply List.Sublist.cons_cons | apply List.Sublist.cons) (YF.indexArr arr_149 rfl rfl (by first | decide | omega) (show _ = 36 * 1 by omega)) (by decide) ?_
      refine TD.eff 6 rfl (by kernel_rfl) (EF.call (vs := [_]) call_52 rfl (Sin_ct _ y w0 _ hsn hcn e3)) (by decide) (by rintro _ _ ⟨rfl, rfl⟩; exact (by repeat first | exact List.Sublist.refl _ | apply List.Sublist.cons_cons | apply List.Sublist.cons)) ?_
      rintro _ _ ⟨rfl, rfl⟩
      refine TD.take 7 rfl (by kernel_rfl) (by kernel_rfl) (by kernel_rfl) (fun _ _ _ h => h) (by repeat first | exact List.Sublist.refl _ | apply List.Sublist.cons_cons | apply List.Sublist.cons) (YF.convFF undS_60 und_82 rfl e4) (by decide) ?_
      refine TD.take 10 rfl (by kernel_rfl) (by kernel_rfl) (by kernel_rfl) (fun _ _ _ h => h) (by repeat first | exact List.Sublist.refl _ | apply List.Sublist.cons_cons | apply List.Sublist.cons) (YF.indexArr arr_132 rfl rfl (by first | decide | omega) (show _ = 36 * 1 + j by omega)) (by decide) ?_
      refine TD.eff0 11 rfl (by kernel_rfl) (EF.store 0 rfl rfl rfl sz_82 rfl (by rw [va_size]; omega)) (by rintro _ _ ⟨rfl, rfl⟩; exact (by repeat first | exact List.Sublist.refl _ | apply List.Sublist.cons_cons | apply List.Sublist.cons)) ?_
      rintro _ _ ⟨rfl, rfl⟩
      refine TD.heap ((bt, .cells (va 144 (fl .f32 (upd l (36 * 1 + j) (wnb 1 j)))) 149 (0, 0)) :: _) (by rw [← fl_set]; rfl) ?_
      refine TD.end (by kernel_rfl) ?_
      refine Arr.block ?_
      refine Arr.seq ?_
      refine Tr.region ?_
      refine TL.val (YF.move rfl) (by decide) ?_
      refine TL.val (YF.add rfl rfl (IntWalk.i64_in _ (by omega))) (by decide) ?_
      refine TL.val (YF.assign rfl) (by decide) ?_
      refine TL.end ?_
      exact fun a w ha hw => ⟨_, by omega, j + 1, upd l (36 * 1 + j) (wnb 1 j), rfl, ⟨by omega, by omega⟩, tab_step (by omega) hl rfl, (ha.cons rfl (ha.cons rfl (ha.nil))), hw⟩
    ·
      replace h30 := of_decide_eq_false h30
      refine Tr.exitE ?_
      refine Arr.seqX ?_
      refine Arr.seqX ?_
      refine Arr.blockE ?_
      refine Arr.seq ?_
      refine Tr.seq ?_
      refine Tr.seq ?_
      refine Tr.region ?_
      refine TL.val (YF.assign rfl) (by decide) ?_
      refine TL.end ?_
      refine Arr.seq ?_
      refine Tr.block ?_
      refine Tr.loop (I := fun mq a w => ∃ (j : Nat) (l : Nat → Nat), mq = 24 - j ∧ (18 ≤ j ∧ j ≤ 24) ∧ (∀ q, q < 36 * 1 + j → l q = tab 36 wnb q) ∧ Agree 152 [(1, .pointer (some ⟨bt, 0, none⟩)), (4, .int .i64 j)] a ∧ HS w0 ((bt, .cells (va 144 (fl .f32 l)) 149 (0, 0)) :: H) w) (6) ?_ ?_
      · intro a w ha hw
        exact ⟨18, l, rfl, ⟨by omega, by omega⟩, fun q hq => hl q (by omega), (ha.cons rfl (ha.cons rfl (ha.nil))), hw⟩
      rintro _ a w ⟨j, l, rfl, hj, hl, ha, hw⟩
      refine Tr.use ha hw ?_
      refine Tr.seq ?_
      refine Tr.seq ?_
      refine Tr.region ?_
      refine TL.val (YF.move rfl) (by decide) ?_
      refine TL.val (YF.lss rfl rfl rfl) (by decide) ?_
      refine TL.end ?_
      refine Arr.seq ?_
      refine Tr.cond rfl (fun h45 => ?_) (fun h45 => ?_)
      ·
        replace h45 := of_decide_eq_true h45
        refine Tr.skipE ?_
        refine Arr.seq ?_
        refine Tr.seq ?_
        refine Tr.block ?_
        refine Tr.region ?_
        refine TL.val (YF.move rfl) (by decide) ?_
        refine TL.val (YF.move rfl) (by decide) ?_
        refine TL.val (YF.nilCheck rfl) (by decide) ?_
        refine TL.val (YF.indexArr arr_149 rfl rfl (by first | decide | omega) (show _ = 36 * 1 by omega)) (by decide) ?_
        refine TL.val (YF.indexArr arr_132 rfl rfl (by first | decide | omega) (show _ = 36 * 1 + j by omega)) (by decide) ?_
        refine TL.storeV 0 (_ :: _) rfl rfl rfl sz_82 rfl (by rw [va_size]; omega) fl_set rfl ?_
        refine TL.end ?_
        refine Arr.block ?_
        refine Arr.seq ?_
        refine Tr.region ?_
        refine TL.val (YF.move rfl) (by decide) ?_
        refine TL.val (YF.add rfl rfl (IntWalk.i64_in _ (by omega))) (by decide) ?_
        refine TL.val (YF.assign rfl) (by decide) ?_
        refine TL.end ?_
        exact fun a w ha hw => ⟨_, by omega, j + 1, upd l (36 * 1 + j) 1065353216, rfl, ⟨by omega, by omega⟩, tab_step (by omega) hl ((wseg1 (show j < 36 by omega)).2.1 (by omega) (by omega)), (ha.cons rfl (ha.cons rfl (ha.nil))), hw⟩
      ·
        replace h45 := of_decide_eq_false h45
        refine Tr.exitE ?_
        refine Arr.seqX ?_
        refine Arr.seqX ?_
        refine Arr.blockE ?_
        refine Arr.seq ?_
        refine Tr.seq ?_
        refine Tr.seq ?_
        refine Tr.region ?_
        refine TL.val (YF.assign rfl) (by decide) ?_
        refine TL.end ?_
        refine Arr.seq ?_
        refine Tr.block ?_
        refine Tr.loop (I := fun mq a w => ∃ (j : Nat) (l : Nat → Nat), mq = 30 - j ∧ (24 ≤ j ∧ j ≤ 30) ∧ (∀ q, q < 36 * 1 + j → l q = tab 36 wnb q) ∧ Agree 152 [(1, .pointer (some ⟨bt, 0, none⟩)), (5, .int .i64 j)] a ∧ HS w0 ((bt, .cells (va 144 (fl .f32 l)) 149 (0, 0)) :: H) w) (6) ?_ ?_
        · intro a w ha hw
          exact ⟨24, l, rfl, ⟨by omega, by omega⟩, fun q hq => hl q (by omega), (ha.cons rfl (ha.cons rfl (ha.nil))), hw⟩
        rintro _ a w ⟨j, l, rfl, hj, hl, ha, hw⟩
        refine Tr.use ha hw ?_
        refine Tr.seq ?_
        refine Tr.seq ?_
        refine Tr.region ?_
        refine TL.val (YF.move rfl) (by decide) ?_
        refine TL.val (YF.lss rfl rfl rfl) (by decide) ?_
        refine TL.end ?_
        refine Arr.seq ?_
        refine Tr.cond rfl (fun h54 => ?_) (fun h54 => ?_)
        ·
          replace h54 := of_decide_eq_true h54
          refine Tr.skipE ?_
          refine Arr.seq ?_
          refine Tr.seq ?_
          refine Tr.block ?_
          obtain ⟨x1, x1', x2, y, e1, e1', e2, e3, e4⟩ := sinB_spec ((wseg1 (show j < 36 by omega)).2.2.1 (by omega) (by omega))
          refine Tr.drawE (_) (fun H => (H.eraseIdx 0)) rfl mixed_ ?_
          refine TD.take 0 rfl (by kernel_rfl) (by kernel_rfl) (by kernel_rfl) (fun _ _ _ h => h) (by repeat first | exact List.Sublist.refl _ | apply List.Sublist.cons_cons | apply List.Sublist.cons) (YF.move rfl) (by decide) ?_
          refine TD.take 1 rfl (by kernel_rfl) (by kernel_rfl) (by kernel_rfl) (fun _ _ _ h => h) (by repeat first | exact List.Sublist.refl _ | apply List.Sublist.cons_cons | apply List.Sublist.cons) (YF.move rfl) (by decide) ?_
          refine TD.take 2 rfl (by kernel_rfl) (by kernel_rfl) (by kernel_rfl) (fun _ _ _ h => h) (by repeat first | exact List.Sublist.refl _ | apply List.Sublist.cons_cons | apply List.Sublist.cons) (YF.move rfl) (by decide) ?_
          refine TD.take 3 rfl (by kernel_rfl) (by kernel_rfl) (by kernel_rfl) (fun _ _ _ h => h) (by repeat first | exact List.Sublist.refl _ | apply List.Sublist.cons_cons | apply List.Sublist.cons) (YF.convIF und_3 und_60 rfl rfl) (by decide) ?_
          refine TD.take 4 rfl (by kernel_rfl) (by kernel_rfl) (by kernel_rfl) (fun _ _ _ h => h) (by repeat first | exact List.Sublist.refl _ | apply List.Sublist.cons_cons | apply List.Sublist.cons) (YF.farith rfl rfl e1) (by decide) ?_
          refine TD.take 5 rfl (by kernel_rfl) (by kernel_rfl) (by kernel_rfl) (fun _ _ _ h => h) (by repeat first | exact List.Sublist.refl _ | apply List.Sublist.cons_cons | apply List.Sublist.cons) (YF.farith rfl rfl e1') (by decide) ?_
          refine TD.take 6 rfl (by kernel_rfl) (by kernel_rfl) (by kernel_rfl) (fun _ _ _ h => h) (by repeat first | exact List.Sublist.refl _ | apply List.Sublist.cons_cons | apply List.Sublist.cons) (YF.farith rfl rfl e2) (by decide) ?_
          refine TD.take 9 rfl (by kernel_rfl) (by kernel_rfl) (by kernel_rfl) (fun _ _ _ h => h) (by repeat first | exact List.Sublist.refl _ | apply List.Sublist.cons_cons | apply List.Sublist.cons) (YF.nilCheck rfl) (by decide) ?_
          refine TD.take 10 rfl (by kernel_rfl) (by kernel_rfl) (by kernel_rfl) (fun _ _ _ h => h) (by repeat first | exact List.Sublist.refl _ | apply List.Sublist.cons_cons | apply List.Sublist.cons) (YF.indexArr arr_149 rfl rfl (by first | decide | omega) (show _ = 36 * 1 by omega)) (by decide) ?_
          refine TD.eff 7 rfl (by kernel_rfl) (EF.call (vs := [_]) call_52 rfl (Sin_ct _ y w0 _ hsn hcn e3)) (by decide) (by rintro _ _ ⟨rfl, rfl⟩; exact (by repeat first | exact List.Sublist.refl _ | apply List.Sublist.cons_cons | apply List.Sublist.cons)) ?_
          rintro _ _ ⟨rfl, rfl⟩
          refine TD.take 8 rfl (by kernel_rfl) (by kernel_rfl) (by kernel_rfl) (fun _ _ _ h => h) (by repeat first | exact List.Sublist.refl _ | apply List.Sublist.cons_cons | apply List.Sublist.cons) (YF.convFF undS_60 und_82 rfl e4) (by decide) ?_
          refine TD.take 11 rfl (by kernel_rfl) (by kernel_rfl) (by kernel_rfl) (fun _ _ _ h => h) (by repeat first | exact List.Sublist.refl _ | apply List.Sublist.cons_cons | apply List.Sublist.cons) (YF.indexArr arr_132 rfl rfl (by first | decide | omega) (show _ = 36 * 1 + j by omega)) (by decide) ?_
          refine TD.eff0 12 rfl (by kernel_rfl) (EF.store 0 rfl rfl rfl sz_82 rfl (by rw [va_size]; omega)) (by rintro _ _ ⟨rfl, rfl⟩; exact (by repeat first | exact List.Sublist.refl _ | apply List.Sublist.cons_cons | apply List.Sublist.cons)) ?_
          rintro _ _ ⟨rfl, rfl⟩
          refine TD.heap ((bt, .cells (va 144 (fl .f32 (upd l (36 * 1 + j) (wnb 1 j)))) 149 (0, 0)) :: _) (by rw [← fl_set]; rfl) ?_
          refine TD.end (by kernel_rfl) ?_
          refine Arr.block ?_
          refine Arr.seq ?_
          refine Tr.region ?_
          refine TL.val (YF.move rfl) (by decide) ?_
          refine TL.val (YF.add rfl rfl (IntWalk.i64_in _ (by omega))) (by decide) ?_
          refine TL.val (YF.assign rfl) (by decide) ?_
          refine TL.end ?_
          exact fun a w ha hw => ⟨_, by omega, j + 1, upd l (36 * 1 + j) (wnb 1 j), rfl, ⟨by omega, by omega⟩, tab_step (by omega) hl rfl, (ha.cons rfl (ha.cons rfl (ha.nil))), hw⟩
        ·
          replace h54 := of_decide_eq_false h54
          refine Tr.exitE ?_
          refine Arr.seqX ?_
          refine Arr.seqX ?_
          refine Arr.blockE ?_
          refine Arr.seq ?_
          refine Tr.seq ?_
          refine Tr.seq ?_
          refine Tr.region ?_
          refine TL.val (YF.assign rfl) (by decide) ?_
          refine TL.end ?_
          refine Arr.seq ?_
          refine Tr.block ?_
          refine Tr.loop (I := fun mq a w => ∃ (j : Nat) (l : Nat → Nat), mq = 36 - j ∧ (30 ≤ j ∧ j ≤ 36) ∧ (∀ q, q < 36 * 1 + j → l q = tab 36 wnb q) ∧ Agree 152 [(1, .pointer (some ⟨bt, 0, none⟩)), (6, .int .i64 j)] a ∧ HS w0 ((bt, .cells (va 144 (fl .f32 l)) 149 (0, 0)) :: H) w) (6) ?_ ?_
          · intro a w ha hw
            exact ⟨30, l, rfl, ⟨by omega, by omega⟩, fun q hq => hl q (by omega), (ha.cons rfl (ha.cons rfl (ha.nil))), hw⟩
          rintro _ a w ⟨j, l, rfl, hj, hl, ha, hw⟩
          refine Tr.use ha hw ?_
          refine Tr.seq ?_
          refine Tr.seq ?_
          refine Tr.region ?_
          refine TL.val (YF.move rfl) (by decide) ?_
          refine TL.val (YF.lss rfl rfl rfl) (by decide) ?_
          refine TL.end ?_
          refine Arr.seq ?_
          refine Tr.cond rfl (fun h70 => ?_) (fun h70 => ?_)
          ·
            replace h70 := of_decide_eq_true h70
            refine Tr.skipE ?_
            refine Arr.seq ?_
            refine Tr.seq ?_
            refine Tr.block ?_
            refine Tr.region ?_
            refine TL.val (YF.move rfl) (by decide) ?_
            refine TL.val (YF.move rfl) (by decide) ?_
            refine TL.val (YF.nilCheck rfl) (by decide) ?_
            refine TL.val (YF.indexArr arr_149 rfl rfl (by first | decide | omega) (show _ = 36 * 1 by omega)) (by decide) ?_
            refine TL.val (YF.indexArr arr_132 rfl rfl (by first | decide | omega) (show _ = 36 * 1 + j by omega)) (by decide) ?_
            refine TL.storeV 0 (_ :: _) rfl rfl rfl sz_82 rfl (by rw [va_size]; omega) fl_set rfl ?_
            refine TL.end ?_
            refine Arr.block ?_
            refine Arr.seq ?_
            refine Tr.region ?_
            refine TL.val (YF.move rfl) (by decide) ?_
            refine TL.val (YF.add rfl rfl (IntWalk.i64_in _ (by omega))) (by decide) ?_
            refine TL.val (YF.assign rfl) (by decide) ?_
            refine TL.end ?_
            exact fun a w ha hw => ⟨_, by omega, j + 1, upd l (36 * 1 + j) 0, rfl, ⟨by omega, by omega⟩, tab_step (by omega) hl ((wseg1 (show j < 36 by omega)).2.2.2 (by omega)), (ha.cons rfl (ha.cons rfl (ha.nil))), hw⟩
          ·
            replace h70 := of_decide_eq_false h70
            refine Tr.exitE ?_
            refine Arr.seqX ?_
            refine Arr.seqX ?_
            refine Arr.blockE ?_
            refine Arr.seq ?_
            refine Tr.seq ?_
            refine Tr.seq ?_
            refine Tr.region ?_
            refine TL.val (YF.assign rfl) (by decide) ?_
            refine TL.end ?_
            refine Arr.seq ?_
            refine Tr.block ?_
            refine Tr.loop (I := fun mq a w => ∃ (j : Nat) (l : Nat → Nat), mq = 12 - j ∧ (0 ≤ j ∧ j ≤ 12) ∧ (∀ q, q < 36 * 2 + j → l q = tab 36 wnb q) ∧ Agree 152 [(1, .pointer (some ⟨bt, 0, none⟩)), (7, .int .i64 j)] a ∧ HS w0 ((bt, .cells (va 144 (fl .f32 l)) 149 (0, 0)) :: H) w) (12) ?_ ?_
            · intro a w ha hw
              exact ⟨0, l, rfl, ⟨by omega, by omega⟩, fun q hq => hl q (by omega), (ha.cons rfl (ha.cons rfl (ha.nil))), hw⟩
            rintro _ a w ⟨j, l, rfl, hj, hl, ha, hw⟩
            refine Tr.use ha hw ?_
            refine Tr.seq ?_
            refine Tr.seq ?_
            refine Tr.region ?_
            refine TL.val (YF.move rfl) (by decide) ?_
            refine TL.val (YF.lss rfl rfl rfl) (by decide) ?_
            refine TL.end ?_
            refine Arr.seq ?_
            refine Tr.cond rfl (fun h79 => ?_) (fun h79 => ?_)
            ·
              replace h79 := of_decide_eq_true h79
              refine Tr.skipE ?_
              refine Arr.seq ?_
              refine Tr.seq ?_
              refine Tr.block ?_
              obtain ⟨x1, x2, y, e1, e2, e3, e4⟩ := sinA_spec ((wseg2 (show j < 36 by omega)).1 (by omega))
              refine Tr.drawE (_) (fun H => (H.eraseIdx 0)) rfl mixed_ ?_
              refine TD.take 0 rfl (by kernel_rfl) (by kernel_rfl) (by kernel_rfl) (fun _ _ _ h => h) (by repeat first | exact List.Sublist.refl _ | apply List.Sublist.cons_cons | apply List.Sublist.cons) (YF.move rfl) (by decide) ?_
              refine TD.take 1 rfl (by kernel_rfl) (by kernel_rfl) (by kernel_rfl) (fun _ _ _ h => h) (by repeat first | exact List.Sublist.refl _ | apply List.Sublist.cons_cons | apply List.Sublist.cons) (YF.move rfl) (by decide) ?_
              refine TD.take 2 rfl (by kernel_rfl) (by kernel_rfl) (by kernel_rfl) (fun _ _ _ h => h) (by repeat first | exact List.Sublist.refl _ | apply List.Sublist.cons_cons | apply List.Sublist.cons) (YF.move rfl) (by decide) ?_
              refine TD.take 3 rfl (by kernel_rfl) (by kernel_rfl) (by kernel_rfl) (fun _ _ _ h => h) (by repeat first | exact List.Sublist.refl _ | apply List.Sublist.cons_cons | apply List.Sublist.cons) (YF.convIF und_3 und_60 rfl rfl) (by decide) ?_
              refine TD.take 4 rfl (by kernel_rfl) (by kernel_rfl) (by kernel_rfl) (fun _ _ _ h => h) (by repeat first | exact List.Sublist.refl _ | apply List.Sublist.cons_cons | apply List.Sublist.cons) (YF.farith rfl rfl e1) (by decide) ?_
              refine TD.take 5 rfl (by kernel_rfl) (by kernel_rfl) (by kernel_rfl) (fun _ _ _ h => h) (by repeat first | exact List.Sublist.refl _ | apply List.Sublist.cons_cons | apply List.Sublist.cons) (YF.farith rfl rfl e2) (by decide) ?_
              refine TD.take 8 rfl (by kernel_rfl) (by kernel_rfl) (by kernel_rfl) (fun _ _ _ h => h) (by repeat first | exact List.Sublist.refl _ | apply List.Sublist.cons_cons | apply List.Sublist.cons) (YF.nilCheck rfl) (by decide) ?_
              refine TD.take 9 rfl (by kernel_rfl) (by kernel_rfl) (by kernel_rfl) (fun _ _ _ h => h) (by repeat first | exact List.Sublist.refl _ | apply List.Sublist.cons_cons | apply List.Sublist.cons) (YF.indexArr arr_149 rfl rfl (by first | decide | omega) (show _ = 36 * 2 by omega)) (by decide) ?_
              refine TD.eff 6 rfl (by kernel_rfl) (EF.call (vs := [_]) call_52 rfl (Sin_ct _ y w0 _ hsn hcn e3)) (by decide) (by rintro _ _ ⟨rfl, rfl⟩; exact (by repeat first | exact List.Sublist.refl _ | apply List.Sublist.cons_cons | apply List.Sublist.cons)) ?_
              rintro _ _ ⟨rfl, rfl⟩
              refine TD.take 7 rfl (by kernel_rfl) (by kernel_rfl) (by kernel_rfl) (fun _ _ _ h => h) (by repeat first | exact List.Sublist.refl _ | apply List.Sublist.cons_cons | apply List.Sublist.cons) (YF.convFF undS_60 und_82 rfl e4) (by decide) ?_
              refine TD.take 10 rfl (by kernel_rfl) (by kernel_rfl) (by kernel_rfl) (fun _ _ _ h => h) (by repeat first | exact List.Sublist.refl _ | apply List.Sublist.cons_cons | apply List.Sublist.cons) (YF.indexArr arr_132 rfl rfl (by first | decide | omega) (show _ = 36 * 2 + j by omega)) (by decide) ?_
              refine TD.eff0 11 rfl (by kernel_rfl) (EF.store 0 rfl rfl rfl sz_82 rfl (by rw [va_size]; omega)) (by rintro _ _ ⟨rfl, rfl⟩; exact (by repeat first | exact List.Sublist.refl _ | apply List.Sublist.cons_cons | apply List.Sublist.cons)) ?_
              rintro _ _ ⟨rfl, rfl⟩
              refine TD.heap ((bt, .cells (va 144 (fl .f32 (upd l (36 * 2 + j) (wnb 2 j)))) 149 (0, 0)) :: _) (by rw [← fl_set]; rfl) ?_
              refine TD.end (by kernel_rfl) ?_
              refine Arr.block ?_
              refine Arr.seq ?_
              refine Tr.region ?_
              refine TL.val (YF.move rfl) (by decide) ?_
              refine TL.val (YF.add rfl rfl (IntWalk.i64_in _ (by omega))) (by decide) ?_
              refine TL.val (YF.assign rfl) (by decide) ?_
              refine TL.end ?_
              exact fun a w ha hw => ⟨_, by omega, j + 1, upd l (36 * 2 + j) (wnb 2 j), rfl, ⟨by omega, by omega⟩, tab_step (by omega) hl rfl, (ha.cons rfl (ha.cons rfl (ha.nil))), hw⟩
            ·
              replace h79 := of_decide_eq_false h79
              refine Tr.exitE ?_
              refine Arr.seqX ?_
              refine Arr.seqX ?_
              refine Arr.blockE ?_
              refine Arr.seq ?_
              refine Tr.seq ?_
              refine Tr.seq ?_
              refine Tr.region ?_
              refine TL.val (YF.assign rfl) (by decide) ?_
              refine TL.end ?_
              refine Arr.seq ?_
              refine Tr.block ?_
              refine Tr.loop (I := fun mq a w => ∃ (j : Nat) (l : Nat → Nat), mq = 36 - j ∧ (12 ≤ j ∧ j ≤ 36) ∧ (∀ q, q < 36 * 2 + j → l q = tab 36 wnb q) ∧ Agree 152 [(1, .pointer (some ⟨bt, 0, none⟩)), (8, .int .i64 j)] a ∧ HS w0 ((bt, .cells (va 144 (fl .f32 l)) 149 (0, 0)) :: H) w) (24) ?_ ?_
              · intro a w ha hw
                exact ⟨12, l, rfl, ⟨by omega, by omega⟩, fun q hq => hl q (by omega), (ha.cons rfl (ha.cons rfl (ha.nil))), hw⟩
              rintro _ a w ⟨j, l, rfl, hj, hl, ha, hw⟩
              refine Tr.use ha hw ?_
              refine Tr.seq ?_
              refine Tr.seq ?_
              refine Tr.region ?_
              refine TL.val (YF.move rfl) (by decide) ?_
              refine TL.val (YF.lss rfl rfl rfl) (by decide) ?_
              refine TL.end ?_
              refine Arr.seq ?_
              refine Tr.cond rfl (fun h94 => ?_) (fun h94 => ?_)
              ·
                replace h94 := of_decide_eq_true h94
                refine Tr.skipE ?_
                refine Arr.seq ?_
                refine Tr.seq ?_
                refine Tr.block ?_
                refine Tr.region ?_
                refine TL.val (YF.move rfl) (by decide) ?_
                refine TL.val (YF.move rfl) (by decide) ?_
                refine TL.val (YF.nilCheck rfl) (by decide) ?_
                refine TL.val (YF.indexArr arr_149 rfl rfl (by first | decide | omega) (show _ = 36 * 2 by omega)) (by decide) ?_
                refine TL.val (YF.indexArr arr_132 rfl rfl (by first | decide | omega) (show _ = 36 * 2 + j by omega)) (by decide) ?_
                refine TL.storeV 0 (_ :: _) rfl rfl rfl sz_82 rfl (by rw [va_size]; omega) fl_set rfl ?_
                refine TL.end ?_
                refine Arr.block ?_
                refine Arr.seq ?_
                refine Tr.region ?_
                refine TL.val (YF.move rfl) (by decide) ?_
                refine TL.val (YF.add rfl rfl (IntWalk.i64_in _ (by omega))) (by decide) ?_
                refine TL.val (YF.assign rfl) (by decide) ?_
                refine TL.end ?_
                exact fun a w ha hw => ⟨_, by omega, j + 1, upd l (36 * 2 + j) 0, rfl, ⟨by omega, by omega⟩, tab_step (by omega) hl ((wseg2 (show j < 36 by omega)).2 (by omega)), (ha.cons rfl (ha.cons rfl (ha.nil))), hw⟩
              ·
                replace h94 := of_decide_eq_false h94
                refine Tr.exitE ?_
                refine Arr.seqX ?_
                refine Arr.seqX ?_
                refine Arr.blockE ?_
                refine Arr.seq ?_
                refine Tr.seq ?_
                refine Tr.seq ?_
                refine Tr.region ?_
                refine TL.val (YF.assign rfl) (by decide) ?_
                refine TL.end ?_
                refine Arr.seq ?_
                refine Tr.block ?_
                refine Tr.loop (I := fun mq a w => ∃ (j : Nat) (l : Nat → Nat), mq = 6 - j ∧ (0 ≤ j ∧ j ≤ 6) ∧ (∀ q, q < 36 * 3 + j → l q = tab 36 wnb q) ∧ Agree 152 [(1, .pointer (some ⟨bt, 0, none⟩)), (9, .int .i64 j)] a ∧ HS w0 ((bt, .cells (va 144 (fl .f32 l)) 149 (0, 0)) :: H) w) (6) ?_ ?_
                · intro a w ha hw
                  exact ⟨0, l, rfl, ⟨by omega, by omega⟩, fun q hq => hl q (by omega), (ha.cons rfl (ha.cons rfl (ha.nil))), hw⟩
                rintro _ a w ⟨j, l, rfl, hj, hl, ha, hw⟩
                refine Tr.use ha hw ?_
                refine Tr.seq ?_
                refine Tr.seq ?_
                refine Tr.region ?_
                refine TL.val (YF.move rfl) (by decide) ?_
                refine TL.val (YF.lss rfl rfl rfl) (by decide) ?_
                refine TL.end ?_
                refine Arr.seq ?_
                refine Tr.cond rfl (fun h103 => ?_) (fun h103 => ?_)
                ·
                  replace h103 := of_decide_eq_true h103
                  refine Tr.skipE ?_
                  refine Arr.seq ?_
                  refine Tr.seq ?_
                  refine Tr.block ?_
                  refine Tr.region ?_
                  refine TL.val (YF.move rfl) (by decide) ?_
                  refine TL.val (YF.move rfl) (by decide) ?_
                  refine TL.val (YF.nilCheck rfl) (by decide) ?_
                  refine TL.val (YF.indexArr arr_149 rfl rfl (by first | decide | omega) (show _ = 36 * 3 by omega)) (by decide) ?_
                  refine TL.val (YF.indexArr arr_132 rfl rfl (by first | decide | omega) (show _ = 36 * 3 + j by omega)) (by decide) ?_
                  refine TL.storeV 0 (_ :: _) rfl rfl rfl sz_82 rfl (by rw [va_size]; omega) fl_set rfl ?_
                  refine TL.end ?_
                  refine Arr.block ?_
                  refine Arr.seq ?_
                  refine Tr.region ?_
                  refine TL.val (YF.move rfl) (by decide) ?_
                  refine TL.val (YF.add rfl rfl (IntWalk.i64_in _ (by omega))) (by decide) ?_
                  refine TL.val (YF.assign rfl) (by decide) ?_
                  refine TL.end ?_
                  exact fun a w ha hw => ⟨_, by omega, j + 1, upd l (36 * 3 + j) 0, rfl, ⟨by omega, by omega⟩, tab_step (by omega) hl ((wseg3 (show j < 36 by omega)).1 (by omega)), (ha.cons rfl (ha.cons rfl (ha.nil))), hw⟩
                ·
                  replace h103 := of_decide_eq_false h103
                  refine Tr.exitE ?_
                  refine Arr.seqX ?_
                  refine Arr.seqX ?_
                  refine Arr.blockE ?_
                  refine Arr.seq ?_
                  refine Tr.seq ?_
                  refine Tr.seq ?_
                  refine Tr.region ?_
                  refine TL.val (YF.assign rfl) (by decide) ?_
                  refine TL.end ?_
                  refine Arr.seq ?_
                  refine Tr.block ?_
                  refine Tr.loop (I := fun mq a w => ∃ (j : Nat) (l : Nat → Nat), mq = 12 - j ∧ (6 ≤ j ∧ j ≤ 12) ∧ (∀ q, q < 36 * 3 + j → l q = tab 36 wnb q) ∧ Agree 152 [(1, .pointer (some ⟨bt, 0, none⟩)), (10, .int .i64 j)] a ∧ HS w0 ((bt, .cells (va 144 (fl .f32 l)) 149 (0, 0)) :: H) w) (6) ?_ ?_
                  · intro a w ha hw
                    exact ⟨6, l, rfl, ⟨by omega, by omega⟩, fun q hq => hl q (by omega), (ha.cons rfl (ha.cons rfl (ha.nil))), hw⟩
                  rintro _ a w ⟨j, l, rfl, hj, hl, ha, hw⟩
                  refine Tr.use ha hw ?_
                  refine Tr.seq ?_
                  refine Tr.seq ?_
                  refine Tr.region ?_
                  refine TL.val (YF.move rfl) (by decide) ?_
                  refine TL.val (YF.lss rfl rfl rfl) (by decide) ?_
                  refine TL.end ?_
                  refine Arr.seq ?_
                  refine Tr.cond rfl (fun h112 => ?_) (fun h112 => ?_)
                  ·
                    replace h112 := of_decide_eq_true h112
                    refine Tr.skipE ?_
                    refine Arr.seq ?_
                    refine Tr.seq ?_
                    refine Tr.block ?_
                    obtain ⟨x1, x1', x2, y, e1, e1', e2, e3, e4⟩ := sinB_spec ((wseg3 (show j < 36 by omega)).2.1 (by omega) (by omega))
                    refine Tr.drawE (_) (fun H => (H.eraseIdx 0)) rfl mixed_ ?_
                    refine TD.take 0 rfl (by kernel_rfl) (by kernel_rfl) (by kernel_rfl) (fun _ _ _ h => h) (by repeat first | exact List.Sublist.refl _ | apply List.Sublist.cons_cons | apply List.Sublist.cons) (YF.move rfl) (by decide) ?_
                    refine TD.take 1 rfl (by kernel_rfl) (by kernel_rfl) (by kernel_rfl) (fun _ _ _ h => h) (by repeat first | exact List.Sublist.refl _ | apply List.Sublist.cons_cons | apply List.Sublist.cons) (YF.move rfl) (by decide) ?_
                    refine TD.take 2 rfl (by kernel_rfl) (by kernel_rfl) (by kernel_rfl) (fun _ _ _ h => h) (by repeat first | exact List.Sublist.refl _ | apply List.Sublist.cons_cons | apply List.Sublist.cons) (YF.move rfl) (by decide) ?_
                    refine TD.take 3 rfl (by kernel_rfl) (by kernel_rfl) (by kernel_rfl) (fun _ _ _ h => h) (by repeat first | exact List.Sublist.refl _ | apply List.Sublist.cons_cons | apply List.Sublist.cons) (YF.convIF und_3 und_60 rfl rfl) (by decide) ?_
                    refine TD.take 4 rfl (by kernel_rfl) (by kernel_rfl) (by kernel_rfl) (fun _ _ _ h => h) (by repeat first | exact List.Sublist.refl _ | apply List.Sublist.cons_cons | apply List.Sublist.cons) (YF.farith rfl rfl e1) (by decide) ?_
                    refine TD.take 5 rfl (by kernel_rfl) (by kernel_rfl) (by kernel_rfl) (fun _ _ _ h => h) (by repeat first | exact List.Sublist.refl _ | apply List.Sublist.cons_cons | apply List.Sublist.cons) (YF.farith rfl rfl e1') (by decide) ?_
                    refine TD.take 6 rfl (by kernel_rfl) (by kernel_rfl) (by kernel_rfl) (fun _ _ _ h => h) (by repeat first | exact List.Sublist.refl _ | apply List.Sublist.cons_cons | apply List.Sublist.cons) (YF.farith rfl rfl e2) (by decide) ?_
                    refine TD.take 9 rfl (by kernel_rfl) (by kernel_rfl) (by kernel_rfl) (fun _ _ _ h => h) (by repeat first | exact List.Sublist.refl _ | apply List.Sublist.cons_cons | apply List.Sublist.cons) (YF.nilCheck rfl) (by decide) ?_
                    refine TD.take 10 rfl (by kernel_rfl) (by kernel_rfl) (by kernel_rfl) (fun _ _ _ h => h) (by repeat first | exact List.Sublist.refl _ | apply List.Sublist.cons_cons | apply List.Sublist.cons) (YF.indexArr arr_149 rfl rfl (by first | decide | omega) (show _ = 36 * 3 by omega)) (by decide) ?_
                    refine TD.eff 7 rfl (by kernel_rfl) (EF.call (vs := [_]) call_52 rfl (Sin_ct _ y w0 _ hsn hcn e3)) (by decide) (by rintro _ _ ⟨rfl, rfl⟩; exact (by repeat first | exact List.Sublist.refl _ | apply List.Sublist.cons_cons | apply List.Sublist.cons)) ?_
                    rintro _ _ ⟨rfl, rfl⟩
                    refine TD.take 8 rfl (by kernel_rfl) (by kernel_rfl) (by kernel_rfl) (fun _ _ _ h => h) (by repeat first | exact List.Sublist.refl _ | apply List.Sublist.cons_cons | apply List.Sublist.cons) (YF.convFF undS_60 und_82 rfl e4) (by decide) ?_
                    refine TD.take 11 rfl (by kernel_rfl) (by kernel_rfl) (by kernel_rfl) (fun _ _ _ h => h) (by repeat first | exact List.Sublist.refl _ | apply List.Sublist.cons_cons | apply List.Sublist.cons) (YF.indexArr arr_132 rfl rfl (by first | decide | omega) (show _ = 36 * 3 + j by omega)) (by decide) ?_
                    refine TD.eff0 12 rfl (by kernel_rfl) (EF.store 0 rfl rfl rfl sz_82 rfl (by rw [va_size]; omega)) (by rintro _ _ ⟨rfl, rfl⟩; exact (by repeat first | exact List.Sublist.refl _ | apply List.Sublist.cons_cons | apply List.Sublist.cons)) ?_
                    rintro _ _ ⟨rfl, rfl⟩
                    refine TD.heap ((bt, .cells (va 144 (fl .f32 (upd l (36 * 3 + j) (wnb 3 j)))) 149 (0, 0)) :: _) (by rw [← fl_set]; rfl) ?_
                    refine TD.end (by kernel_rfl) ?_
                    refine Arr.block ?_
                    refine Arr.seq ?_
                    refine Tr.region ?_
                    refine TL.val (YF.move rfl) (by decide) ?_
                    refine TL.val (YF.add rfl rfl (IntWalk.i64_in _ (by omega))) (by decide) ?_
                    refine TL.val (YF.assign rfl) (by decide) ?_
                    refine TL.end ?_
                    exact fun a w ha hw => ⟨_, by omega, j + 1, upd l (36 * 3 + j) (wnb 3 j), rfl, ⟨by omega, by omega⟩, tab_step (by omega) hl rfl, (ha.cons rfl (ha.cons rfl (ha.nil))), hw⟩
                  ·
                    replace h112 := of_decide_eq_false h112
                    refine Tr.exitE ?_
                    refine Arr.seqX ?_
                    refine Arr.seqX ?_
                    refine Arr.blockE ?_
                    refine Arr.seq ?_
                    refine Tr.seq ?_
                    refine Tr.seq ?_
                    refine Tr.region ?_
                    refine TL.val (YF.assign rfl) (by decide) ?_
                    refine TL.end ?_
                    refine Arr.seq ?_
                    refine Tr.block ?_
                    refine Tr.loop (I := fun mq a w => ∃ (j : Nat) (l : Nat → Nat), mq = 18 - j ∧ (12 ≤ j ∧ j ≤ 18) ∧ (∀ q, q < 36 * 3 + j → l q = tab 36 wnb q) ∧ Agree 152 [(1, .pointer (some ⟨bt, 0, none⟩)), (11, .int .i64 j)] a ∧ HS w0 ((bt, .cells (va 144 (fl .f32 l)) 149 (0, 0)) :: H) w) (6) ?_ ?_
                    · intro a w ha hw
                      exact ⟨12, l, rfl, ⟨by omega, by omega⟩, fun q hq => hl q (by omega), (ha.cons rfl (ha.cons rfl (ha.nil))), hw⟩
                    rintro _ a w ⟨j, l, rfl, hj, hl, ha, hw⟩
                    refine Tr.use ha hw ?_
                    refine Tr.seq ?_
                    refine Tr.seq ?_
                    refine Tr.region ?_
                    refine TL.val (YF.move rfl) (by decide) ?_
                    refine TL.val (YF.lss rfl rfl rfl) (by decide) ?_
                    refine TL.end ?_
                    refine Arr.seq ?_
                    refine Tr.cond rfl (fun h128 => ?_) (fun h128 => ?_)
                    ·
                      replace h128 := of_decide_eq_true h128
                      refine Tr.skipE ?_
                      refine Arr.seq ?_
                      refine Tr.seq ?_
                      refine Tr.block ?_
                      refine Tr.region ?_
                      refine TL.val (YF.move rfl) (by decide) ?_
                      refine TL.val (YF.move rfl) (by decide) ?_
                      refine TL.val (YF.nilCheck rfl) (by decide) ?_
                      refine TL.val (YF.indexArr arr_149 rfl rfl (by first | decide | omega) (show _ = 36 * 3 by omega)) (by decide) ?_
                      refine TL.val (YF.indexArr arr_132 rfl rfl (by first | decide | omega) (show _ = 36 * 3 + j by omega)) (by decide) ?_
                      refine TL.storeV 0 (_ :: _) rfl rfl rfl sz_82 rfl (by rw [va_size]; omega) fl_set rfl ?_
                      refine TL.end ?_
                      refine Arr.block ?_
                      refine Arr.seq ?_
                      refine Tr.region ?_
                      refine TL.val (YF.move rfl) (by decide) ?_
                      refine TL.val (YF.add rfl rfl (IntWalk.i64_in _ (by omega))) (by decide) ?_
                      refine TL.val (YF.assign rfl) (by decide) ?_
                      refine TL.end ?_
                      exact fun a w ha hw => ⟨_, by omega, j + 1, upd l (36 * 3 + j) 1065353216, rfl, ⟨by omega, by omega⟩, tab_step (by omega) hl ((wseg3 (show j < 36 by omega)).2.2.1 (by omega) (by omega)), (ha.cons rfl (ha.cons rfl (ha.nil))), hw⟩
                    ·
                      replace h128 := of_decide_eq_false h128
                      refine Tr.exitE ?_
                      refine Arr.seqX ?_
                      refine Arr.seqX ?_
                      refine Arr.blockE ?_
                      refine Arr.seq ?_
                      refine Tr.seq ?_
                      refine Tr.seq ?_
                      refine Tr.region ?_
                      refine TL.val (YF.assign rfl) (by decide) ?_
                      refine TL.end ?_
                      refine Arr.seq ?_
                      refine Tr.block ?_
                      refine Tr.loop (I := fun mq a w => ∃ (j : Nat) (l : Nat → Nat), mq = 36 - j ∧ (18 ≤ j ∧ j ≤ 36) ∧ (∀ q, q < 36 * 3 + j → l q = tab 36 wnb q) ∧ Agree 152 [(1, .pointer (some ⟨bt, 0, none⟩)), (12, .int .i64 j)] a ∧ HS w0 ((bt, .cells (va 144 (fl .f32 l)) 149 (0, 0)) :: H) w) (18) ?_ ?_
                      · intro a w ha hw
                        exact ⟨18, l, rfl, ⟨by omega, by omega⟩, fun q hq => hl q (by omega), (ha.cons rfl (ha.cons rfl (ha.nil))), hw⟩
                      rintro _ a w ⟨j, l, rfl, hj, hl, ha, hw⟩
                      refine Tr.use ha hw ?_
                      refine Tr.seq ?_
                      refine Tr.seq ?_
                      refine Tr.region ?_
                      refine TL.val (YF.move rfl) (by decide) ?_
                      refine TL.val (YF.lss rfl rfl rfl) (by decide) ?_
                      refine TL.end ?_
                      refine Arr.seq ?_
                      refine Tr.cond rfl (fun h137 => ?_) (fun h137 => ?_)
                      ·
                        replace h137 := of_decide_eq_true h137
                        refine Tr.skipE ?_
                        refine Arr.seq ?_
                        refine Tr.seq ?_
                        refine Tr.block ?_
                        obtain ⟨x1, x2, y, e1, e2, e3, e4⟩ := sinA_spec ((wseg3 (show j < 36 by omega)).2.2.2 (by omega))
                        refine Tr.drawE (_) (fun H => (H.eraseIdx 0)) rfl mixed_ ?_
                        refine TD.take 0 rfl (by kernel_rfl) (by kernel_rfl) (by kernel_rfl) (fun _ _ _ h => h) (by repeat first | exact List.Sublist.refl _ | apply List.Sublist.cons_cons | apply List.Sublist.cons) (YF.move rfl) (by decide) ?_
                        refine TD.take 1 rfl (by kernel_rfl) (by kernel_rfl) (by kernel_rfl) (fun _ _ _ h => h) (by repeat first | exact List.Sublist.refl _ | apply List.Sublist.cons_cons | apply List.Sublist.cons) (YF.move rfl) (by decide) ?_
                        refine TD.take 2 rfl (by kernel_rfl) (by kernel_rfl) (by kernel_rfl) (fun _ _ _ h => h) (by repeat first | exact List.Sublist.refl _ | apply List.Sublist.cons_cons | apply List.Sublist.cons) (YF.move rfl) (by decide) ?_
                        refine TD.take 3 rfl (by kernel_rfl) (by kernel_rfl) (by kernel_rfl) (fun _ _ _ h => h) (by repeat first | exact List.Sublist.refl _ | apply List.Sublist.cons_cons | apply List.Sublist.cons) (YF.convIF und_3 und_60 rfl rfl) (by decide) ?_
                        refine TD.take 4 rfl (by kernel_rfl) (by kernel_rfl) (by kernel_rfl) (fun _ _ _ h => h) (by repeat first | exact List.Sublist.refl _ | apply List.Sublist.cons_cons | apply List.Sublist.cons) (YF.farith rfl rfl e1) (by decide) ?_
                        refine TD.take 5 rfl (by kernel_rfl) (by kernel_rfl) (by kernel_rfl) (fun _ _ _ h => h) (by repeat first | exact List.Sublist.refl _ | apply List.Sublist.cons_cons | apply List.Sublist.cons) (YF.farith rfl rfl e2) (by decide) ?_
                        refine TD.take 8 rfl (by kernel_rfl) (by kernel_rfl) (by kernel_rfl) (fun _ _ _ h => h) (by repeat first | exact List.Sublist.refl _ | apply List.Sublist.cons_cons | apply List.Sublist.cons) (YF.nilCheck rfl) (by decide) ?_
                        refine TD.take 9 rfl (by kernel_rfl) (by kernel_rfl) (by kernel_rfl) (fun _ _ _ h => h) (by repeat first | exact List.Sublist.refl _ | apply List.Sublist.cons_cons | apply List.Sublist.cons) (YF.indexArr arr_149 rfl rfl (by first | decide | omega) (show _ = 36 * 3 by omega)) (by decide) ?_
                        refine TD.eff 6 rfl (by kernel_rfl) (EF.call (vs := [_]) call_52 rfl (Sin_ct _ y w0 _ hsn hcn e3)) (by decide) (by rintro _ _ ⟨rfl, rfl⟩; exact (by repeat first | exact List.Sublist.refl _ | apply List.Sublist.cons_cons | apply List.Sublist.cons)) ?_
                        rintro _ _ ⟨rfl, rfl⟩
                        refine TD.take 7 rfl (by kernel_rfl) (by kernel_rfl) (by kernel_rfl) (fun _ _ _ h => h) (by repeat first | exact List.Sublist.refl _ | apply List.Sublist.cons_cons | apply List.Sublist.cons) (YF.convFF undS_60 und_82 rfl e4) (by decide) ?_
                        refine TD.take 10 rfl (by kernel_rfl) (by kernel_rfl) (by kernel_rfl) (fun _ _ _ h => h) (by repeat first | exact List.Sublist.refl _ | apply List.Sublist.cons_cons | apply List.Sublist.cons) (YF.indexArr arr_132 rfl rfl (by first | decide | omega) (show _ = 36 * 3 + j by omega)) (by decide) ?_
                        refine TD.eff0 11 rfl (by kernel_rfl) (EF.store 0 rfl rfl rfl sz_82 rfl (by rw [va_size]; omega)) (by rintro _ _ ⟨rfl, rfl⟩; exact (by repeat first | exact List.Sublist.refl _ | apply List.Sublist.cons_cons | apply List.Sublist.cons)) ?_
                        rintro _ _ ⟨rfl, rfl⟩
                        refine TD.heap ((bt, .cells (va 144 (fl .f32 (upd l (36 * 3 + j) (wnb 3 j)))) 149 (0, 0)) :: _) (by rw [← fl_set]; rfl) ?_
                        refine TD.end (by kernel_rfl) ?_
                        refine Arr.block ?_
                        refine Arr.seq ?_
                        refine Tr.region ?_
                        refine TL.val (YF.move rfl) (by decide) ?_
                        refine TL.val (YF.add rfl rfl (IntWalk.i64_in _ (by omega))) (by decide) ?_
                        refine TL.val (YF.assign rfl) (by decide) ?_
                        refine TL.end ?_
                        exact fun a w ha hw => ⟨_, by omega, j + 1, upd l (36 * 3 + j) (wnb 3 j), rfl, ⟨by omega, by omega⟩, tab_step (by omega) hl rfl, (ha.cons rfl (ha.cons rfl (ha.nil))), hw⟩
                      ·
                        replace h137 := of_decide_eq_false h137
                        refine Tr.exitE ?_
                        refine Arr.seqX ?_
                        refine Arr.seqX ?_
                        refine Arr.blockE ?_
                        refine Arr.seq ?_
                        refine Tr.seq ?_
                        refine Tr.region ?_
                        refine TL.val (YF.move rfl) (by decide) ?_
                        refine TL.val (YF.assign rfl) (by decide) ?_
                        refine TL.end ?_
                        refine Arr.seq ?_
                        refine Tr.retE ?_
                        exact Ends.tmp rfl rfl ⟨bt, rfl, by rw [va_tab (m := tab 36 wnb) fun q hq => hl q (by omega)]⟩

end Go.Proofs.YtbcjhkncifckiaaDoor
