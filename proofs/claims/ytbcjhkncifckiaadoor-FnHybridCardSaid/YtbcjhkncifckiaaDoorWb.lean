/- The walks of functions on rows of floats. -/
import Derived.Test.YtbcjhkncifckiaaDoorTy
import Derived.Test.YtbcjhkncifckiaaDoorFr
import Derived.Test.YtbcjhkncifckiaaDoorFo
namespace Go.Proofs.YtbcjhkncifckiaaDoor
open Go Go.RowKit Go.Proofs En Fl Ieee

theorem wide_ct (i b : Nat) (l : Nat → Nat) (t : TypeId) (fr : Nat × Nat) (w0 : World) (H : Hp) (hi : H[i]? = some (b, .cells (va 576 (fl .f32 l)) t fr)) (hl : ∀ k, k < 576 → Fin single (l k) ∧ mg (V single (l k)) ≤ big) : Ct Tryd.prog 12 #[.slice (some ⟨b, 0, none⟩) 576 576] w0 (H) (fun v H' => ∃ b' m, v = .slice (some ⟨b', 0, none⟩) 576 576 ∧ (∀ k, k < 576 → Fin double (m k) ∧ V double (m k) = V single (l k)) ∧ H' = (b', .cells (va 576 (fl .f64 m)) 60 (0, 0)) :: H) := by
  refine Ct.of_body (n := 21) (E := [(0, _)]) Tryd.func12 rfl rfl rfl rfl ?_
  refine Tr.seq ?_
  refine Tr.region ?_
  refine TL.val (YF.assign rfl) (by decide) ?_
  refine TL.end ?_
  refine Arr.seq ?_
  refine Tr.seq ?_
  refine Tr.region ?_
  refine TL.makeSlice (m := 576) sl_54 bytes_60 zero_60 rfl rfl rfl rfl (by decide) (by decide) rfl (by decide) (fun b' => ?_)
  refine TL.val (YF.assign rfl) (by decide) ?_
  refine TL.end ?_
  refine Arr.seq ?_
  refine Tr.seq ?_
  refine Tr.seq ?_
  refine Tr.region ?_
  refine TL.heap ((b', .cells (va 576 (fl .f64 fun _ => 0)) 60 (0, 0)) :: H) (by rw [va_replicate]; rfl) ?_
  refine TL.val (YF.move rfl) (by decide) ?_
  refine TL.val (YF.lenSl sl_43 rfl) (by decide) ?_
  refine TL.val (YF.move rfl) (by decide) ?_
  refine TL.end ?_
  refine Arr.seq ?_
  refine Tr.block ?_
  refine Tr.loop (I := fun mq a w => ∃ (j : Nat) (m : Nat → Nat), mq = 576 - j ∧ (j ≤ 576) ∧ (∀ q, q < j → Fin double (m q) ∧ V double (m q) = V single (l q)) ∧ Agree 21 [(3, .slice (some ⟨b', 0, none⟩) 576 576), (7, .slice (some ⟨b, 0, none⟩) 576 576), (8, .int .i64 576), (9, .int .i64 j)] a ∧ HS w0 ((b', .cells (va 576 (fl .f64 m)) 60 (0, 0)) :: H) w) (576) ?_ ?_
  · intro a w ha hw
    exact ⟨0, fun _ => 0, rfl, by omega, fun q h => absurd h (by omega), (ha.cons rfl (ha.cons rfl (ha.cons rfl (ha.cons rfl (ha.nil))))), hw⟩
  rintro _ a w ⟨j, m, rfl, hj, hm, ha, hw⟩
  refine Tr.use ha hw ?_
  refine Tr.seq ?_
  refine Tr.region ?_
  refine TL.val (YF.lss rfl rfl rfl) (by decide) ?_
  refine TL.end ?_
  refine Arr.seq ?_
  refine Tr.seq ?_
  refine Tr.cond rfl (fun h10 => ?_) (fun h10 => ?_)
  ·
    replace h10 := of_decide_eq_true h10
    refine Tr.skipE ?_
    refine Arr.seq ?_
    refine Tr.seq ?_
    refine Tr.block ?_
    refine Tr.seq ?_
    refine Tr.region ?_
    refine TL.val (YF.move rfl) (by decide) ?_
    have hlt : (j : Int) < 576 := h10
    refine TL.val (YF.indexSl sl_43 rfl rfl (by first | decide | omega) (show _ = j by omega)) (by decide) ?_
    refine TL.val (YF.load (i + 1) sc_82 rfl hi (va_get (by omega) rfl)) (by decide) ?_
    refine TL.val (YF.assign rfl) (by decide) ?_
    refine TL.val (YF.assign rfl) (by decide) ?_
    refine TL.end ?_
    refine Arr.seq ?_
    refine Tr.region ?_
    refine TL.val (YF.move rfl) (by decide) ?_
    refine TL.val (YF.move rfl) (by decide) ?_
    refine TL.val (YF.move rfl) (by decide) ?_
    obtain ⟨r, hr, hr1, hr2⟩ := wide_val (hl j (by omega)).1 (hl j (by omega)).2
    refine TL.val (YF.convFF undS_82 und_60 rfl hr) (by decide) ?_
    refine TL.val (YF.indexSl sl_54 rfl rfl (by first | decide | omega) (show _ = j by omega)) (by decide) ?_
    refine TL.storeV 0 (_ :: _) rfl rfl rfl sz_60 rfl (by rw [va_size]; omega) fl_set rfl ?_
    refine TL.end ?_
    refine Arr.block ?_
    refine Arr.seq ?_
    refine Tr.region ?_
    refine TL.val (YF.add rfl rfl (IntWalk.i64_in _ (by omega))) (by decide) ?_
    refine TL.val (YF.move rfl) (by decide) ?_
    refine TL.end ?_
    exact fun a w ha hw => ⟨_, by omega, j + 1, upd m j r, rfl, by omega, fun q h => by
        by_cases e : q = j
        · subst e; rw [upd_at]; exact ⟨hr1, hr2⟩
        · rw [upd_ne _ _ e]; exact hm q (by omega), (ha.cons rfl (ha.cons rfl (ha.cons rfl (ha.cons rfl (ha.nil))))), hw⟩
  ·
    replace h10 := of_decide_eq_false h10
    refine Tr.exitE ?_
    refine Arr.seqX ?_
    refine Arr.seqX ?_
    refine Arr.blockE ?_
    refine Arr.seq ?_
    refine Tr.seq ?_
    refine Tr.region ?_
    refine TL.val (YF.move rfl) (by decide) ?_
    refine TL.val (YF.assign rfl) (by decide) ?_
    refine TL.end ?_
    refine Arr.seq ?_
    refine Tr.retE ?_
    exact Ends.tmp rfl rfl ⟨b', m, rfl, fun k hk => hm k (by have : ¬ (j : Int) < 576 := h10; omega), rfl⟩

theorem greatest_ct (i b : Nat) (m : Nat → Nat) (t : TypeId) (fr : Nat × Nat) (w0 : World) (H : Hp) (hi : H[i]? = some (b, .cells (va 576 (fl .f64 m)) t fr)) (hl : ∀ k, k < 576 → Fin double (m k)) : Ct Tryd.prog 17 #[.slice (some ⟨b, 0, none⟩) 576 576] w0 (H) (fun v H' => ∃ top, v = .float .f64 top ∧ (Fin double top ∧ 0 ≤ V double top) ∧ (∀ k, k < 576 → mg (V double (m k)) ≤ V double top) ∧ (∀ M, 0 ≤ M → (∀ k, k < 576 → mg (V double (m k)) ≤ M) → V double top ≤ M) ∧ H' = H) := by
  refine Ct.of_body (n := 19) (E := [(0, _)]) Tryd.func17 rfl rfl rfl rfl ?_
  refine Tr.seq ?_
  refine Tr.region ?_
  refine TL.val (YF.assign rfl) (by decide) ?_
  refine TL.end ?_
  refine Arr.seq ?_
  refine Tr.seq ?_
  refine Tr.region ?_
  refine TL.val (YF.assign rfl) (by decide) ?_
  refine TL.end ?_
  refine Arr.seq ?_
  refine Tr.seq ?_
  refine Tr.seq ?_
  refine Tr.region ?_
  refine TL.val (YF.move rfl) (by decide) ?_
  refine TL.val (YF.lenSl sl_54 rfl) (by decide) ?_
  refine TL.val (YF.move rfl) (by decide) ?_
  refine TL.end ?_
  refine Arr.seq ?_
  refine Tr.block ?_
  refine Tr.loop (I := fun mq a w => ∃ (j : Nat) (t : Nat), mq = 576 - j ∧ (j ≤ 576) ∧ (Fin double t ∧ 0 ≤ V double t) ∧ (∀ q, q < j → mg (V double (m q)) ≤ V double t) ∧ (∀ M, 0 ≤ M → (∀ q, q < 576 → mg (V double (m q)) ≤ M) → V double t ≤ M) ∧ Agree 19 [(3, .float .f64 t), (6, .slice (some ⟨b, 0, none⟩) 576 576), (7, .int .i64 576), (8, .int .i64 j)] a ∧ HS w0 (H) w) (576) ?_ ?_
  · intro a w ha hw
    exact ⟨0, 0, rfl, by omega, ⟨by unfold Fl.Fin; decide +kernel, by decide +kernel⟩, fun q h => absurd h (by omega), fun M h _ => by rw [show V double 0 = 0 by decide +kernel]; exact h, (ha.cons rfl (ha.cons rfl (ha.cons rfl (ha.cons rfl (ha.nil))))), hw⟩
  rintro _ a w ⟨j, t, rfl, hj, ht, hm, hM, ha, hw⟩
  refine Tr.use ha hw ?_
  refine Tr.seq ?_
  refine Tr.region ?_
  refine TL.val (YF.lss rfl rfl rfl) (by decide) ?_
  refine TL.end ?_
  refine Arr.seq ?_
  refine Tr.seq ?_
  refine Tr.cond rfl (fun h9 => ?_) (fun h9 => ?_)
  ·
    replace h9 := of_decide_eq_true h9
    refine Tr.skipE ?_
    refine Arr.seq ?_
    refine Tr.seq ?_
    refine Tr.block ?_
    refine Tr.seq ?_
    refine Tr.region ?_
    have hlt : (j : Int) < 576 := h9
    refine TL.val (YF.indexSl sl_54 rfl rfl (by first | decide | omega) (show _ = j by omega)) (by decide) ?_
    refine TL.val (YF.load i sc_60 rfl hi (va_get (by omega) rfl)) (by decide) ?_
    refine TL.val (YF.assign rfl) (by decide) ?_
    refine TL.end ?_
    refine Arr.seq ?_
    refine Tr.region ?_
    refine TL.val (YF.move rfl) (by decide) ?_
    refine TL.val (YF.move rfl) (by decide) ?_
    refine TL.val (YF.move rfl) (by decide) ?_
    refine TL.val (YF.fneg rfl rfl) (by decide) ?_
    obtain ⟨r, hr, hr1, hr2, hr3, hr4⟩ := fmax_val (k := .f64) ht.1 (hl j (by omega))
    obtain ⟨u, hu, hu1, hu2, hu3, hu4⟩ := fmax_val (k := .f64) hr1 (neg_fin (k := .f64) (hl j (by omega)))
    refine TL.val (YF.max3 rfl rfl rfl hr hu) (by decide) ?_
    refine TL.val (YF.assign rfl) (by decide) ?_
    refine TL.end ?_
    refine Arr.block ?_
    refine Arr.seq ?_
    refine Tr.region ?_
    refine TL.val (YF.add rfl rfl (IntWalk.i64_in _ (by omega))) (by decide) ?_
    refine TL.val (YF.move rfl) (by decide) ?_
    refine TL.end ?_
    exact fun a w ha hw => ⟨_, by omega, j + 1, u, rfl, by omega, ⟨hu1, Rat.le_trans ht.2 (Rat.le_trans hr2 hu2)⟩, fun q h => by
        by_cases e : q = j
        · subst e; rw [mg_le]; rw [neg_val .f64] at hu3; exact ⟨Rat.le_trans hr3 hu2, hu3⟩
        · exact Rat.le_trans (hm q (by omega)) (Rat.le_trans hr2 hu2), fun M h0 h => by
        have h1 := hM M h0 h
        have h2 := h j (by omega)
        rw [mg_le] at h2
        rcases hu4 with rfl | rfl
        · rcases hr4 with rfl | rfl
          · exact h1
          · exact h2.1
        · have e : V double (Op.negFloat .f64 (m j)) = -V double (m j) := neg_val .f64 (m j)
          rw [e]; exact h2.2, (ha.cons rfl (ha.cons rfl (ha.cons rfl (ha.cons rfl (ha.nil))))), hw⟩
  ·
    replace h9 := of_decide_eq_false h9
    refine Tr.exitE ?_
    refine Arr.seqX ?_
    refine Arr.seqX ?_
    refine Arr.blockE ?_
    refine Arr.seq ?_
    refine Tr.seq ?_
    refine Tr.region ?_
    refine TL.val (YF.move rfl) (by decide) ?_
    refine TL.val (YF.assign rfl) (by decide) ?_
    refine TL.end ?_
    refine Arr.seq ?_
    refine Tr.retE ?_
    exact Ends.tmp rfl rfl ⟨t, rfl, ht, fun k hk => hm k (by have : ¬ (j : Int) < 576 := h9; omega), hM, rfl⟩

/-- How far numbers may lie apart that 'near' takes. -/
theorem near_gap {X D T d1 q s : Rat} (hX : mg (X - D) ≤ T / 20000 + 1 / 10 ^ 10) (hT0 : -(1 / 10 ^ 20) ≤ T) (hT : T ≤ 100000) (h1 : mg (d1 - (X - D)) ≤ mg (X - D) * U double + tiny) (h2 : mg (q - T / 20000) ≤ mg (T / 20000) * (3 * U double) + tiny)
    (h3 : mg (s - (q + V double 4472406533629990549)) ≤ mg (q + V double 4472406533629990549) * U double + tiny) : d1 ≤ s ∧ -d1 ≤ s := by
  have e1 : 99 / 10 ^ 11 ≤ V double 4472406533629990549 := by decide +kernel
  have e2 : V double 4472406533629990549 ≤ 101 / 10 ^ 11 := by decide +kernel
  generalize V double 4472406533629990549 = k at *
  have eU : U double = 1 / 9007199254740992 := by decide +kernel
  have et : tiny ≤ 1 / 10 ^ 30 := by decide +kernel
  have et0 := tiny_nonneg
  rw [eU] at h1 h2 h3
  rw [show T / 20000 = T * (1 / 20000) by grind] at hX h2
  generalize tiny = y at *
  have hm : mg (T * (1 / 20000)) ≤ T * (1 / 20000) + 1 / 10 ^ 20 := by rw [mg_le]; constructor <;> grind
  generalize mg (T * (1 / 20000)) = mt at hm h2
  have hg := (mg_le (x := X - D)).1 Rat.le_refl
  generalize mg (X - D) = g at *
  rw [mg_le] at h1 h2
  have hq : mg (q + k) = q + k := by unfold mg; rw [if_pos (by grind)]
  rw [hq, mg_le] at h3
  constructor <;> grind

theorem near_ct (i i' b c t o1 c1 c2 : Nat) (x y : Nat → Nat) (cs1 cs2 : Array Value) (t1 t2 : TypeId) (f1 f2 : Nat × Nat) (w0 : World) (H : Hp) (hi : H[i]? = some (b, .cells cs1 t1 f1)) (hi' : H[i']? = some (c, .cells cs2 t2 f2)) (hc1 : ∀ k, k < 576 → cs1[o1 + k]? = some (.float .f32 (x k))) (hc2 : ∀ k, k < 576 → cs2[k]? = some (.float .f64 (y k))) (ht : Fin double t) (ht0 : -(1 / 10 ^ 20) ≤ V double t) (ht1 : V double t ≤ 100000) (hx : ∀ k, k < 576 → Fin single (x k) ∧ Fin double (y k) ∧ mg (V single (x k)) ≤ 100000 ∧ mg (V single (x k) - V double (y k)) ≤ V double t / 20000 + 1 / 10 ^ 10) : Ct Tryd.prog 13 #[.slice (some ⟨b, o1, none⟩) 576 c1, .slice (some ⟨c, 0, none⟩) 576 c2, .float .f64 t] w0 (H) (fun v H' => v = .bool true ∧ H' = H) := by
  refine Ct.of_body (n := 48) (E := [(0, _), (1, _), (2, _)]) Tryd.func13 rfl rfl rfl rfl ?_
  refine Tr.seq ?_
  refine Tr.region ?_
  refine TL.val (YF.assign rfl) (by decide) ?_
  refine TL.end ?_
  refine Arr.seq ?_
  refine Tr.seq ?_
  refine Tr.seq ?_
  refine Tr.region ?_
  refine TL.val (YF.move rfl) (by decide) ?_
  refine TL.val (YF.lenSl sl_43 rfl) (by decide) ?_
  refine TL.val (YF.move rfl) (by decide) ?_
  refine TL.val (YF.lenSl sl_54 rfl) (by decide) ?_
  refine TL.val (YF.neq rfl rfl rfl) (by decide) ?_
  refine TL.end ?_
  refine Arr.seq ?_
  refine Tr.condF rfl ?_
  refine Tr.skipE ?_
  refine Arr.seq ?_
  refine Tr.seq ?_
  refine Tr.seq ?_
  refine Tr.region ?_
  refine TL.val (YF.move rfl) (by decide) ?_
  refine TL.val (YF.lenSl sl_43 rfl) (by decide) ?_
  refine TL.val (YF.move rfl) (by decide) ?_
  refine TL.end ?_
  refine Arr.seq ?_
  refine Tr.block ?_
  refine Tr.loop (I := fun mq a w => ∃ (j : Nat), mq = 576 - j ∧ (j ≤ 576) ∧ Agree 48 [(0, .slice (some ⟨b, o1, none⟩) 576 c1), (1, .slice (some ⟨c, 0, none⟩) 576 c2), (2, .float .f64 t), (15, .int .i64 576), (16, .int .i64 j)] a ∧ HS w0 (H) w) (576) ?_ ?_
  · intro a w ha hw
    exact ⟨0, rfl, by omega, (ha.cons rfl (ha.cons rfl (ha.cons rfl (ha.cons rfl (ha.cons rfl (ha.nil)))))), hw⟩
  rintro _ a w ⟨j, rfl, hj, ha, hw⟩
  refine Tr.use ha hw ?_
  refine Tr.seq ?_
  refine Tr.region ?_
  refine TL.val (YF.lss rfl rfl rfl) (by decide) ?_
  refine TL.end ?_
  refine Arr.seq ?_
  refine Tr.seq ?_
  refine Tr.cond rfl (fun h17 => ?_) (fun h17 => ?_)
  ·
    replace h17 := of_decide_eq_true h17
    refine Tr.skipE ?_
    refine Arr.seq ?_
    refine Tr.seq ?_
    refine Tr.block ?_
    refine Tr.seq ?_
    refine Tr.region ?_
    refine TL.val (YF.move rfl) (by decide) ?_
    refine TL.val (YF.assign rfl) (by decide) ?_
    refine TL.end ?_
    refine Arr.seq ?_
    refine Tr.seq ?_
    have hlt : (j : Int) < 576 := h17
    obtain ⟨hx1, hx2, hx3, hx4⟩ := hx j (by omega)
    obtain ⟨r, hr, hr1, hr2⟩ := wide_val hx1 (Rat.le_trans hx3 (by decide +kernel))
    have hb0 : mg (V single (x j) - V double (y j)) ≤ 100 := Rat.le_trans hx4 (by rw [show V double t / 20000 = V double t * (1 / 20000) by grind]; grind)
    obtain ⟨d, hd, hd1⟩ := sub_near two_double hr1 hx2 (by rw [hr2]; exact Rat.le_trans hb0 (by decide +kernel))
    obtain ⟨q, hq, hq1⟩ := div_near two_double ht (b := 4671226772094713856) (by unfold Fl.Fin; decide +kernel) (by decide +kernel) (by rw [show V double 4671226772094713856 = 20000 by decide +kernel, show V double t / 20000 = V double t * (1 / 20000) by grind, mg_le, show big = 1267650600228229401496703205376 by decide +kernel]; constructor <;> grind)
    rw [show V double 4671226772094713856 = 20000 by decide +kernel] at hq1
    have hqb : mg (V double q) ≤ 100 := by
      have h1 := hq1.size
      rw [show V double t / 20000 = V double t * (1 / 20000) by grind] at h1
      have h2 : mg (V double t * (1 / 20000)) ≤ 5 := by rw [mg_le]; constructor <;> grind
      have h3 : mg (V double t * (1 / 20000)) * (3 * U double) ≤ 5 * (3 * U double) := Rat.mul_le_mul_of_nonneg_right h2 (by decide +kernel)
      have h4 : 5 * (3 * U double) ≤ 1 := by decide +kernel
      have h5 : tiny ≤ 1 := by decide +kernel
      grind
    obtain ⟨s, hs, hs1⟩ := add_near two_double hq1.fin (b := 4472406533629990549) (by unfold Fl.Fin; decide +kernel) (by
      refine Rat.le_trans (mg_add _ _) ?_
      have : mg (V double 4472406533629990549) ≤ 1 := by decide +kernel
      have h2 : (101 : Rat) ≤ big := by decide +kernel
      grind)
    have hg := near_gap hx4 ht0 ht1 (by rw [← hr2]; exact hd1.near) hq1.near hs1.near
    have hn1 : ¬ V FloatKind.f64.format s < V FloatKind.f64.format d := Rat.not_lt.2 hg.1
    have hn2 : ¬ V FloatKind.f64.format s < V FloatKind.f64.format (Op.negFloat .f64 d) := by rw [neg_val]; exact Rat.not_lt.2 hg.2
    refine Tr.drawE (_) (fun H => H) rfl mixed_ ?_
    refine TD.take 0 rfl (by kernel_rfl) (by kernel_rfl) (by kernel_rfl) (fun _ _ _ h => h) (by repeat first | exact List.Sublist.refl _ | apply List.Sublist.cons_cons | apply List.Sublist.cons) (YF.move rfl) (by decide) ?_
    refine TD.take 1 rfl (by kernel_rfl) (by kernel_rfl) (by kernel_rfl) (fun _ _ _ h => h) (by repeat first | exact List.Sublist.refl _ | apply List.Sublist.cons_cons | apply List.Sublist.cons) (YF.move rfl) (by decide) ?_
    refine TD.take 2 rfl (by kernel_rfl) (by kernel_rfl) (by kernel_rfl) (fun _ _ _ h => h) (by repeat first | exact List.Sublist.refl _ | apply List.Sublist.cons_cons | apply List.Sublist.cons) (YF.indexSl sl_43 rfl rfl (by first | decide | omega) (show _ = o1 + j by omega)) (by decide) ?_
    refine TD.take 3 rfl (by kernel_rfl) (by kernel_rfl) (by kernel_rfl) (fun _ _ _ h => h) (by repeat first | exact List.Sublist.refl _ | apply List.Sublist.cons_cons | apply List.Sublist.cons) (YF.load i sc_82 rfl hi (hc1 j (by omega))) (by decide) ?_
    refine TD.take 4 rfl (by kernel_rfl) (by kernel_rfl) (by kernel_rfl) (fun _ _ _ h => h) (by repeat first | exact List.Sublist.refl _ | apply List.Sublist.cons_cons | apply List.Sublist.cons) (YF.convFF undS_82 und_60 rfl hr) (by decide) ?_
    refine TD.take 5 rfl (by kernel_rfl) (by kernel_rfl) (by kernel_rfl) (fun _ _ _ h => h) (by repeat first | exact List.Sublist.refl _ | apply List.Sublist.cons_cons | apply List.Sublist.cons) (YF.move rfl) (by decide) ?_
    refine TD.take 6 rfl (by kernel_rfl) (by kernel_rfl) (by kernel_rfl) (fun _ _ _ h => h) (by repeat first | exact List.Sublist.refl _ | apply List.Sublist.cons_cons | apply List.Sublist.cons) (YF.move rfl) (by decide) ?_
    refine TD.take 7 rfl (by kernel_rfl) (by kernel_rfl) (by kernel_rfl) (fun _ _ _ h => h) (by repeat first | exact List.Sublist.refl _ | apply List.Sublist.cons_cons | apply List.Sublist.cons) (YF.indexSl sl_54 rfl rfl (by first | decide | omega) (show _ = j by omega)) (by decide) ?_
    refine TD.take 8 rfl (by kernel_rfl) (by kernel_rfl) (by kernel_rfl) (fun _ _ _ h => h) (by repeat first | exact List.Sublist.refl _ | apply List.Sublist.cons_cons | apply List.Sublist.cons) (YF.load i' sc_60 rfl hi' (hc2 j (by omega))) (by decide) ?_
    refine TD.take 9 rfl (by kernel_rfl) (by kernel_rfl) (by kernel_rfl) (fun _ _ _ h => h) (by repeat first | exact List.Sublist.refl _ | apply List.Sublist.cons_cons | apply List.Sublist.cons) (YF.farith rfl rfl hd) (by decide) ?_
    refine TD.take 10 rfl (by kernel_rfl) (by kernel_rfl) (by kernel_rfl) (fun _ _ _ h => h) (by repeat first | exact List.Sublist.refl _ | apply List.Sublist.cons_cons | apply List.Sublist.cons) (YF.assign rfl) (by decide) ?_
    refine TD.end (by kernel_rfl) ?_
    refine Arr.seq ?_
    refine Tr.seq ?_
    refine Tr.region ?_
    refine TL.val (YF.move rfl) (by decide) ?_
    refine TL.val (YF.move rfl) (by decide) ?_
    refine TL.val (YF.farith rfl rfl hq) (by decide) ?_
    refine TL.val (YF.farith rfl rfl hs) (by decide) ?_
    refine TL.val (YF.fcmp (b := false) rfl rfl (by rw [cmp_gt (k := .f64) hd1.fin hs1.fin, decide_eq_false hn1]) (by decide)) (by decide) ?_
    refine TL.val (YF.move rfl) (by decide) ?_
    first
      | refine TL.gno rfl (by decide) ?_
      | refine TL.gval rfl (YF.move rfl) (by decide) ?_
    first
      | refine TL.gno rfl (by decide) ?_
      | refine TL.gval rfl (YF.fneg rfl rfl) (by decide) ?_
    first
      | refine TL.gno rfl (by decide) ?_
      | refine TL.gval rfl (YF.move rfl) (by decide) ?_
    first
      | refine TL.gno rfl (by decide) ?_
      | refine TL.gval rfl (YF.farith rfl rfl hq) (by decide) ?_
    first
      | refine TL.gno rfl (by decide) ?_
      | refine TL.gval rfl (YF.farith rfl rfl hs) (by decide) ?_
    first
      | refine TL.gno rfl (by decide) ?_
      | refine TL.gval rfl (YF.fcmp (b := false) rfl rfl (by rw [cmp_gt (k := .f64) (neg_fin (k := .f64) hd1.fin) hs1.fin, decide_eq_false hn2]) (by decide)) (by decide) ?_
    first
      | refine TL.val (YF.pickT rfl rfl) (by decide) ?_
      | refine TL.val (YF.pickF rfl rfl) (by decide) ?_
      | refine TL.val (YF.pick rfl rfl rfl rfl) (by decide) ?_
    refine TL.val (YF.move rfl) (by decide) ?_
    first
      | refine TL.gno rfl (by decide) ?_
      | refine TL.gval rfl (YF.move rfl) (by decide) ?_
    first
      | refine TL.gno rfl (by decide) ?_
      | refine TL.gval rfl (YF.move rfl) (by decide) ?_
    first
      | refine TL.gno rfl (by decide) ?_
      | refine TL.gval rfl (YF.fcmp rfl rfl (cmp_neq_self (k := .f64) hd1.fin) (by decide)) (by decide) ?_
    first
      | refine TL.val (YF.pickT rfl rfl) (by decide) ?_
      | refine TL.val (YF.pickF rfl rfl) (by decide) ?_
      | refine TL.val (YF.pick rfl rfl rfl rfl) (by decide) ?_
    refine TL.end ?_
    refine Arr.seq ?_
    refine Tr.condF rfl ?_
    refine Tr.skipE ?_
    refine Arr.block ?_
    refine Arr.seq ?_
    refine Tr.region ?_
    refine TL.val (YF.add rfl rfl (IntWalk.i64_in _ (by omega))) (by decide) ?_
    refine TL.val (YF.move rfl) (by decide) ?_
    refine TL.end ?_
    exact fun a w ha hw => ⟨_, by omega, j + 1, rfl, by omega, (ha.cons rfl (ha.cons rfl (ha.cons rfl (ha.cons rfl (ha.cons rfl (ha.nil)))))), hw⟩
  ·
    replace h17 := of_decide_eq_false h17
    refine Tr.exitE ?_
    refine Arr.seqX ?_
    refine Arr.seqX ?_
    refine Arr.blockE ?_
    refine Arr.seq ?_
    refine Tr.seq ?_
    refine Tr.region ?_
    refine TL.val (YF.assign rfl) (by decide) ?_
    refine TL.end ?_
    refine Arr.seq ?_
    refine Tr.retE ?_
    exact Ends.tmp rfl rfl ⟨rfl, rfl⟩

theorem spread_ct (ad : Option Addr) (vl vc : Nat) (sk : Int) (w0 : World) (H : Hp) (hs : 0 ≤ sk ∧ sk ≤ 255) (hv : I8s w0 ad vl) (hvl : vl ≤ 1000) : Ct Tryd.prog 11 #[.slice ad vl vc, .int .u8 sk] w0 (H) (fun v H' => ∃ b' l, v = .slice (some ⟨b', 0, none⟩) 576 576 ∧ (∀ k, k < 576 → Fin single (l k) ∧ mg (V single (l k)) ≤ 9) ∧ H' = (b', .cells (va 576 (fl .f32 l)) 82 (0, 0)) :: H) := by
  refine Ct.of_body (n := 43) (E := [(0, _), (1, _)]) Tryd.func11 rfl rfl rfl rfl ?_
  refine Tr.seq ?_
  refine Tr.region ?_
  refine TL.val (YF.assign rfl) (by decide) ?_
  refine TL.end ?_
  refine Arr.seq ?_
  refine Tr.seq ?_
  refine Tr.region ?_
  refine TL.makeSlice (m := 576) sl_43 bytes_82 zero_82 rfl rfl rfl rfl (by decide) (by decide) rfl (by decide) (fun b' => ?_)
  refine TL.val (YF.assign rfl) (by decide) ?_
  refine TL.end ?_
  refine Arr.seq ?_
  refine Tr.seq ?_
  refine Tr.seq ?_
  refine Tr.region ?_
  refine TL.heap ((b', .cells (va 576 (fl .f32 fun _ => 0)) 82 (0, 0)) :: H) (by rw [va_replicate]; rfl) ?_
  refine TL.val (YF.move rfl) (by decide) ?_
  refine TL.val (YF.lenSl sl_43 rfl) (by decide) ?_
  refine TL.val (YF.move rfl) (by decide) ?_
  refine TL.end ?_
  refine Arr.seq ?_
  refine Tr.block ?_
  refine Tr.loop (I := fun mq a w => ∃ (j : Nat) (l : Nat → Nat), mq = 576 - j ∧ (j ≤ 576) ∧ (∀ q, q < 576 → Fin single (l q) ∧ mg (V single (l q)) ≤ 9) ∧ Agree 43 [(0, .slice ad vl vc), (1, .int .u8 sk), (5, .slice (some ⟨b', 0, none⟩) 576 576), (8, .slice (some ⟨b', 0, none⟩) 576 576), (9, .int .i64 576), (10, .int .i64 j)] a ∧ HS w0 ((b', .cells (va 576 (fl .f32 l)) 82 (0, 0)) :: H) w) (576) ?_ ?_
  · intro a w ha hw
    exact ⟨0, fun _ => 0, rfl, by omega, fun q _ => ⟨show Fl.Fin single 0 by unfold Fl.Fin; decide +kernel, show mg (V single 0) ≤ 9 by decide +kernel⟩, (ha.cons rfl (ha.cons rfl (ha.cons rfl (ha.cons rfl (ha.cons rfl (ha.cons rfl (ha.nil))))))), hw⟩
  rintro _ a w ⟨j, l, rfl, hj, hl, ha, hw⟩
  refine Tr.use ha hw ?_
  refine Tr.seq ?_
  refine Tr.region ?_
  refine TL.val (YF.lss rfl rfl rfl) (by decide) ?_
  refine TL.end ?_
  refine Arr.seq ?_
  refine Tr.seq ?_
  refine Tr.cond rfl (fun h11 => ?_) (fun h11 => ?_)
  ·
    replace h11 := of_decide_eq_true h11
    refine Tr.skipE ?_
    refine Arr.seq ?_
    refine Tr.seq ?_
    refine Tr.block ?_
    refine Tr.seq ?_
    refine Tr.region ?_
    have hlt : (j : Int) < 576 := h11
    refine TL.val (YF.move rfl) (by decide) ?_
    refine TL.val (YF.assign rfl) (by decide) ?_
    refine TL.end ?_
    refine Arr.seq ?_
    refine Tr.seq ?_
    refine Tr.region ?_
    refine TL.val (YF.move rfl) (by decide) ?_
    refine TL.val (YF.move rfl) (by decide) ?_
    refine TL.val (YF.rem rfl rfl (by omega) (IntWalk.rem_in _ _ (by omega))) (by decide) ?_
    refine TL.val (YF.conv und_5 und_3 rfl (IntWalk.i64_in _ (by omega))) (by decide) ?_
    refine TL.val (YF.add rfl rfl (IntWalk.i64_in _ (by omega))) (by decide) ?_
    refine TL.val (YF.rem rfl rfl (by omega) (IntWalk.rem_in _ _ (by omega))) (by decide) ?_
    by_cases hc : (j : Int) % (1 + sk % 9) = 0
    ·
      refine TL.val (YF.eql (b := true) rfl rfl (decide_eq_true hc)) (by decide) ?_
      refine TL.val (YF.move rfl) (by decide) ?_
      first
        | refine TL.gno rfl (by decide) ?_
        | refine TL.gval rfl (YF.move rfl) (by decide) ?_
      first
        | refine TL.gno rfl (by decide) ?_
        | refine TL.gval rfl (YF.lenSl sl_24 rfl) (by decide) ?_
      first
        | refine TL.gno rfl (by decide) ?_
        | refine TL.gval rfl (YF.gtr rfl rfl rfl) (by decide) ?_
      first
        | refine TL.val (YF.pickT rfl rfl) (by decide) ?_
        | refine TL.val (YF.pickF rfl rfl) (by decide) ?_
        | refine TL.val (YF.pick rfl rfl rfl rfl) (by decide) ?_
      refine TL.end ?_
      refine Arr.seq ?_
      refine Tr.cond rfl (fun h24 => ?_) (fun h24 => ?_)
      ·
        replace h24 := of_decide_eq_true h24
        refine Tr.region ?_
        rcases hv with hv0 | ⟨b, o, rfl, hv⟩
        · omega
        refine TL.val (YF.move rfl) (by decide) ?_
        refine TL.val (YF.move rfl) (by decide) ?_
        refine TL.val (YF.move rfl) (by decide) ?_
        refine TL.val (YF.move rfl) (by decide) ?_
        refine TL.val (YF.mul rfl rfl (IntWalk.i64_in _ (by omega))) (by decide) ?_
        refine TL.val (YF.move rfl) (by decide) ?_
        refine TL.val (YF.quo rfl rfl (by omega) (IntWalk.i64_quo _ _ (by omega))) (by decide) ?_
        refine TL.val (YF.add rfl rfl (IntWalk.i64_in _ (by omega))) (by decide) ?_
        refine TL.val (YF.move rfl) (by decide) ?_
        refine TL.val (YF.lenSl sl_24 rfl) (by decide) ?_
        have hq0 := Int.emod_nonneg ((j : Int) * 7 + (j : Int) / 13) (b := (vl : Int)) (by omega)
        have hq1 := Int.emod_lt_of_pos ((j : Int) * 7 + (j : Int) / 13) (b := (vl : Int)) (by omega)
        obtain ⟨z, hz, hz0, hz1⟩ := hv (((j : Int) * 7 + (j : Int) / 13) % (vl : Int)).toNat (by omega)
        have hw12 : Fl.Fin single (FloatKind.nearest .f32 z) ∧ V single (FloatKind.nearest .f32 z) = (z : Rat) := whole_val .f32 z (by omega)
        obtain ⟨hw1, hw2⟩ := hw12
        have hzr : mg (z : Rat) ≤ 128 := by
          rw [mg_le]
          have h1 : (z : Rat) ≤ ((128 : Int) : Rat) := Rat.intCast_le_intCast.2 (by omega)
          have h2 : ((-128 : Int) : Rat) ≤ (z : Rat) := Rat.intCast_le_intCast.2 (by omega)
          rw [show ((128 : Int) : Rat) = 128 by rfl] at h1
          rw [show ((-128 : Int) : Rat) = -128 by rfl] at h2
          constructor <;> grind
        have hzs : mg ((z : Rat) / 16) ≤ 8 := by
          rw [show (z : Rat) / 16 = (z : Rat) * (1 / 16) by grind, mg_mul, show mg (1 / 16 : Rat) = 1 / 16 by decide +kernel]
          grind
        obtain ⟨r, hr, hr1⟩ := div_near two_single hw1 (b := 1098907648) (by unfold Fl.Fin; decide +kernel) (by decide +kernel) (by
          rw [hw2]
          refine Rat.le_trans (show _ ≤ (8 : Rat) from ?_) (by decide +kernel)
          rw [show V single 1098907648 = 16 by decide +kernel]; exact hzs)
        rw [hw2, show V single 1098907648 = 16 by decide +kernel] at hr1
        have hr2 : mg (V single r) ≤ 9 := by
          have h1 := hr1.size
          have h3 : mg ((z : Rat) / 16) * (3 * U single) ≤ 8 * (3 * U single) := Rat.mul_le_mul_of_nonneg_right hzs (by decide +kernel)
          have h4 : 8 * (3 * U single) + tiny ≤ 1 := by decide +kernel
          grind
        refine TL.val (YF.rem rfl rfl (by omega) (IntWalk.rem_in _ _ (by omega))) (by decide) ?_
        refine TL.val (YF.indexSl sl_24 rfl rfl ⟨hq0, hq1⟩ (by rw [Nat.mul_one])) (by decide) ?_
        refine TL.val (YF.load_old sc_73 rfl hz) (by decide) ?_
        refine TL.val (YF.convIF und_73 und_82 rfl rfl) (by decide) ?_
        refine TL.val (YF.farith rfl rfl hr) (by decide) ?_
        refine TL.val (YF.indexSl sl_43 rfl rfl (by first | decide | omega) (show _ = j by omega)) (by decide) ?_
        refine TL.storeV 0 (_ :: _) rfl rfl rfl sz_82 rfl (by rw [va_size]; omega) fl_set rfl ?_
        refine TL.end ?_
        refine Arr.block ?_
        refine Arr.seq ?_
        refine Tr.region ?_
        refine TL.val (YF.add rfl rfl (IntWalk.i64_in _ (by omega))) (by decide) ?_
        refine TL.val (YF.move rfl) (by decide) ?_
        refine TL.end ?_
        first
          | exact fun a w ha hw => ⟨_, by omega, j + 1, l, rfl, by omega, hl, (ha.cons rfl (ha.cons rfl (ha.cons rfl (ha.cons rfl (ha.cons rfl (ha.cons rfl (ha.nil))))))), hw⟩
          | exact fun a w ha hw => ⟨_, by omega, j + 1, upd l j r, rfl, by omega, (fun q h => by
            by_cases e : q = j
            · subst e; rw [upd_at]; exact ⟨hr1.fin, hr2⟩
            · rw [upd_ne _ _ e]; exact hl q h), (ha.cons rfl (ha.cons rfl (ha.cons rfl (ha.cons rfl (ha.cons rfl (ha.cons rfl (ha.nil))))))), hw⟩
      ·
        replace h24 := of_decide_eq_false h24
        refine Tr.skipE ?_
        refine Arr.block ?_
        refine Arr.seq ?_
        refine Tr.region ?_
        refine TL.val (YF.add rfl rfl (IntWalk.i64_in _ (by omega))) (by decide) ?_
        refine TL.val (YF.move rfl) (by decide) ?_
        refine TL.end ?_
        first
          | exact fun a w ha hw => ⟨_, by omega, j + 1, l, rfl, by omega, hl, (ha.cons rfl (ha.cons rfl (ha.cons rfl (ha.cons rfl (ha.cons rfl (ha.cons rfl (ha.nil))))))), hw⟩
          | exact fun a w ha hw => ⟨_, by omega, j + 1, upd l j r, rfl, by omega, (fun q h => by
            by_cases e : q = j
            · subst e; rw [upd_at]; exact ⟨hr1.fin, hr2⟩
            · rw [upd_ne _ _ e]; exact hl q h), (ha.cons rfl (ha.cons rfl (ha.cons rfl (ha.cons rfl (ha.cons rfl (ha.cons rfl (ha.nil))))))), hw⟩
    ·
      refine TL.val (YF.eql (b := false) rfl rfl (decide_eq_false hc)) (by decide) ?_
      refine TL.val (YF.move rfl) (by decide) ?_
      first
        | refine TL.gno rfl (by decide) ?_
        | refine TL.gval rfl (YF.move rfl) (by decide) ?_
      first
        | refine TL.gno rfl (by decide) ?_
        | refine TL.gval rfl (YF.lenSl sl_24 rfl) (by decide) ?_
      first
        | refine TL.gno rfl (by decide) ?_
        | refine TL.gval rfl (YF.gtr rfl rfl rfl) (by decide) ?_
      first
        | refine TL.val (YF.pickT rfl rfl) (by decide) ?_
        | refine TL.val (YF.pickF rfl rfl) (by decide) ?_
        | refine TL.val (YF.pick rfl rfl rfl rfl) (by decide) ?_
      refine TL.end ?_
      refine Arr.seq ?_
      refine Tr.condF rfl ?_
      refine Tr.skipE ?_
      refine Arr.block ?_
      refine Arr.seq ?_
      refine Tr.region ?_
      refine TL.val (YF.add rfl rfl (IntWalk.i64_in _ (by omega))) (by decide) ?_
      refine TL.val (YF.move rfl) (by decide) ?_
      refine TL.end ?_
      first
        | exact fun a w ha hw => ⟨_, by omega, j + 1, l, rfl, by omega, hl, (ha.cons rfl (ha.cons rfl (ha.cons rfl (ha.cons rfl (ha.cons rfl (ha.cons rfl (ha.nil))))))), hw⟩
        | exact fun a w ha hw => ⟨_, by omega, j + 1, upd l j r, rfl, by omega, (fun q h => by
          by_cases e : q = j
          · subst e; rw [upd_at]; exact ⟨hr1.fin, hr2⟩
          · rw [upd_ne _ _ e]; exact hl q h), (ha.cons rfl (ha.cons rfl (ha.cons rfl (ha.cons rfl (ha.cons rfl (ha.cons rfl (ha.nil))))))), hw⟩
  ·
    replace h11 := of_decide_eq_false h11
    refine Tr.exitE ?_
    refine Arr.seqX ?_
    refine Arr.seqX ?_
    refine Arr.blockE ?_
    refine Arr.seq ?_
    refine Tr.seq ?_
    refine Tr.region ?_
    refine TL.val (YF.move rfl) (by decide) ?_
    refine TL.val (YF.assign rfl) (by decide) ?_
    refine TL.end ?_
    refine Arr.seq ?_
    refine Tr.retE ?_
    exact Ends.tmp rfl rfl ⟨b', l, rfl, hl, rfl⟩

end Go.Proofs.YtbcjhkncifckiaaDoor
