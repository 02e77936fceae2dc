/- The walks of functions that hand the data to the package. -/
import Derived.Test.YtbcjhkncifckiaaDoorWc
import Derived.Test.YtbcjhkncifckiaaDoorOp3
namespace Go.Proofs.YtbcjhkncifckiaaDoor
open Go Go.RowKit Go.Proofs En
set_option maxRecDepth 100000

theorem Zsi : Zv_114 = va 86 (fun q => if q < 0 then .bool true else .int .i64 0) := by kernel_rfl
theorem built_side (s : Nat → Int) : Tryd.prog.built 114 [(0, .int .i64 (s 0)), (1, .int .i64 (s 1)), (2, .agg (va 8 (fun j => sd s (2 + j)))), (3, .agg (va 4 (fun j => sd s (10 + j)))), (4, .agg (va 4 (fun j => sd s (14 + j)))), (5, .agg (va 4 (fun j => sd s (18 + j)))), (6, .agg (va 4 (fun j => sd s (22 + j)))), (7, .agg (va 4 (fun j => sd s (26 + j)))), (8, .agg (va 4 (fun j => sd s (30 + j)))), (9, .agg (va 4 (fun j => sd s (34 + j)))), (10, .agg (va 12 (fun j => sd s (38 + j)))), (11, .agg (va 12 (fun j => sd s (50 + j)))), (12, .agg (va 4 (fun j => sd s (62 + j)))), (13, .agg (va 4 (fun j => sd s (66 + j)))), (14, .agg (va 4 (fun j => sd s (70 + j)))), (15, .agg (va 4 (fun j => sd s (74 + j)))), (16, .agg (va 4 (fun j => sd s (78 + j)))), (17, .agg (va 4 (fun j => sd s (82 + j))))] = some (va 86 (sd s)) := by
  rw [built_struct zero_114 places_114, show Zv_114 = va 86 (fun q => if q < 0 then sd s q else (fun _ => Value.int .i64 0) q) from Zsi.trans (va_ext rfl fun q _ => by rw [if_neg (by omega), if_neg (by omega)])]
  rw [fill_pre _ (i := 0) (v := .int .i64 (s 0)) (n := 86) (f := sd s) (g := (fun _ => Value.int .i64 0)) (o := 0) (m := 1) (e := 1) _ rfl (va_one1 (fun j => (sd s) (0 + j))).symm (by decide) rfl,
    fill_pre _ (i := 1) (v := .int .i64 (s 1)) (n := 86) (f := sd s) (g := (fun _ => Value.int .i64 0)) (o := 1) (m := 1) (e := 2) _ rfl (va_one1 (fun j => (sd s) (1 + j))).symm (by decide) rfl,
    fill_pre _ (i := 2) (v := .agg (va 8 (fun j => (sd s) (2 + j)))) (n := 86) (f := sd s) (g := (fun _ => Value.int .i64 0)) (o := 2) (m := 8) (e := 10) _ rfl rfl (by decide) rfl,
    fill_pre _ (i := 3) (v := .agg (va 4 (fun j => (sd s) (10 + j)))) (n := 86) (f := sd s) (g := (fun _ => Value.int .i64 0)) (o := 10) (m := 4) (e := 14) _ rfl rfl (by decide) rfl,
    fill_pre _ (i := 4) (v := .agg (va 4 (fun j => (sd s) (14 + j)))) (n := 86) (f := sd s) (g := (fun _ => Value.int .i64 0)) (o := 14) (m := 4) (e := 18) _ rfl rfl (by decide) rfl,
    fill_pre _ (i := 5) (v := .agg (va 4 (fun j => (sd s) (18 + j)))) (n := 86) (f := sd s) (g := (fun _ => Value.int .i64 0)) (o := 18) (m := 4) (e := 22) _ rfl rfl (by decide) rfl,
    fill_pre _ (i := 6) (v := .agg (va 4 (fun j => (sd s) (22 + j)))) (n := 86) (f := sd s) (g := (fun _ => Value.int .i64 0)) (o := 22) (m := 4) (e := 26) _ rfl rfl (by decide) rfl,
    fill_pre _ (i := 7) (v := .agg (va 4 (fun j => (sd s) (26 + j)))) (n := 86) (f := sd s) (g := (fun _ => Value.int .i64 0)) (o := 26) (m := 4) (e := 30) _ rfl rfl (by decide) rfl,
    fill_pre _ (i := 8) (v := .agg (va 4 (fun j => (sd s) (30 + j)))) (n := 86) (f := sd s) (g := (fun _ => Value.int .i64 0)) (o := 30) (m := 4) (e := 34) _ rfl rfl (by decide) rfl,
    fill_pre _ (i := 9) (v := .agg (va 4 (fun j => (sd s) (34 + j)))) (n := 86) (f := sd s) (g := (fun _ => Value.int .i64 0)) (o := 34) (m := 4) (e := 38) _ rfl rfl (by decide) rfl,
    fill_pre _ (i := 10) (v := .agg (va 12 (fun j => (sd s) (38 + j)))) (n := 86) (f := sd s) (g := (fun _ => Value.int .i64 0)) (o := 38) (m := 12) (e := 50) _ rfl rfl (by decide) rfl,
    fill_pre _ (i := 11) (v := .agg (va 12 (fun j => (sd s) (50 + j)))) (n := 86) (f := sd s) (g := (fun _ => Value.int .i64 0)) (o := 50) (m := 12) (e := 62) _ rfl rfl (by decide) rfl,
    fill_pre _ (i := 12) (v := .agg (va 4 (fun j => (sd s) (62 + j)))) (n := 86) (f := sd s) (g := (fun _ => Value.int .i64 0)) (o := 62) (m := 4) (e := 66) _ rfl rfl (by decide) rfl,
    fill_pre _ (i := 13) (v := .agg (va 4 (fun j => (sd s) (66 + j)))) (n := 86) (f := sd s) (g := (fun _ => Value.int .i64 0)) (o := 66) (m := 4) (e := 70) _ rfl rfl (by decide) rfl,
    fill_pre _ (i := 14) (v := .agg (va 4 (fun j => (sd s) (70 + j)))) (n := 86) (f := sd s) (g := (fun _ => Value.int .i64 0)) (o := 70) (m := 4) (e := 74) _ rfl rfl (by decide) rfl,
    fill_pre _ (i := 15) (v := .agg (va 4 (fun j => (sd s) (74 + j)))) (n := 86) (f := sd s) (g := (fun _ => Value.int .i64 0)) (o := 74) (m := 4) (e := 78) _ rfl rfl (by decide) rfl,
    fill_pre _ (i := 16) (v := .agg (va 4 (fun j => (sd s) (78 + j)))) (n := 86) (f := sd s) (g := (fun _ => Value.int .i64 0)) (o := 78) (m := 4) (e := 82) _ rfl rfl (by decide) rfl,
    fill_pre _ (i := 17) (v := .agg (va 4 (fun j => (sd s) (82 + j)))) (n := 86) (f := sd s) (g := (fun _ => Value.int .i64 0)) (o := 82) (m := 4) (e := 86) _ rfl rfl (by decide) rfl, Instr.fill]
  exact congrArg some (va_ext rfl fun q hq => if_pos hq)

theorem made_ct (s : Nat → Int) (w0 : World) (H : Hp) : Ct Tryd.prog 28 #[.agg (va 86 (sd s))] w0 (H) (fun v H' => ∃ b, v = .pointer (some ⟨b, 0, none⟩) ∧ H' = (b, .cells (va 86 (sd s)) 114 (0, 0)) :: H) := by
  refine Ct.of_body (n := 41) (E := [(0, _)]) Tryd.func28 rfl rfl rfl rfl ?_
  refine Tr.seq ?_
  refine Tr.region ?_
  refine TL.box rfl (by decide) (fun b => ?_)
  refine TL.val (YF.assign rfl) (by decide) ?_
  refine TL.end ?_
  refine Arr.seq ?_
  refine Tr.seq ?_
  refine Tr.region ?_
  refine TL.val (YF.fieldAddr fo_36_0 rfl rfl) (by decide) ?_
  refine TL.val (YF.load (v := .int .i64 (s 0)) 0 sc_3 rfl rfl (sd_int (by decide))) (by decide) ?_
  refine TL.val (YF.fieldAddr fo_36_1 rfl rfl) (by decide) ?_
  refine TL.val (YF.load (v := .int .i64 (s 1)) 0 sc_3 rfl rfl (sd_int (by decide))) (by decide) ?_
  refine TL.val (YF.fieldAddr fo_36_2 rfl rfl) (by decide) ?_
  refine TL.val (YF.loadAgg (v := va 8 (fun j => sd s (2 + j))) 0 agg_29 rfl rfl (by rw [show (Value.agg (va 86 (sd s))).cells = va 86 (sd s) from rfl, va_size]; decide) (va_extract (by decide))) (by decide) ?_
  refine TL.val (YF.fieldAddr fo_36_3 rfl rfl) (by decide) ?_
  refine TL.val (YF.loadAgg (v := va 4 (fun j => sd s (10 + j))) 0 agg_31 rfl rfl (by rw [show (Value.agg (va 86 (sd s))).cells = va 86 (sd s) from rfl, va_size]; decide) (va_extract (by decide))) (by decide) ?_
  refine TL.val (YF.fieldAddr fo_36_4 rfl rfl) (by decide) ?_
  refine TL.val (YF.loadAgg (v := va 4 (fun j => sd s (14 + j))) 0 agg_31 rfl rfl (by rw [show (Value.agg (va 86 (sd s))).cells = va 86 (sd s) from rfl, va_size]; decide) (va_extract (by decide))) (by decide) ?_
  refine TL.val (YF.fieldAddr fo_36_5 rfl rfl) (by decide) ?_
  refine TL.val (YF.loadAgg (v := va 4 (fun j => sd s (18 + j))) 0 agg_31 rfl rfl (by rw [show (Value.agg (va 86 (sd s))).cells = va 86 (sd s) from rfl, va_size]; decide) (va_extract (by decide))) (by decide) ?_
  refine TL.val (YF.fieldAddr fo_36_6 rfl rfl) (by decide) ?_
  refine TL.val (YF.loadAgg (v := va 4 (fun j => sd s (22 + j))) 0 agg_31 rfl rfl (by rw [show (Value.agg (va 86 (sd s))).cells = va 86 (sd s) from rfl, va_size]; decide) (va_extract (by decide))) (by decide) ?_
  refine TL.val (YF.fieldAddr fo_36_7 rfl rfl) (by decide) ?_
  refine TL.val (YF.loadAgg (v := va 4 (fun j => sd s (26 + j))) 0 agg_31 rfl rfl (by rw [show (Value.agg (va 86 (sd s))).cells = va 86 (sd s) from rfl, va_size]; decide) (va_extract (by decide))) (by decide) ?_
  refine TL.val (YF.fieldAddr fo_36_8 rfl rfl) (by decide) ?_
  refine TL.val (YF.loadAgg (v := va 4 (fun j => sd s (30 + j))) 0 agg_31 rfl rfl (by rw [show (Value.agg (va 86 (sd s))).cells = va 86 (sd s) from rfl, va_size]; decide) (va_extract (by decide))) (by decide) ?_
  refine TL.val (YF.fieldAddr fo_36_9 rfl rfl) (by decide) ?_
  refine TL.val (YF.loadAgg (v := va 4 (fun j => sd s (34 + j))) 0 agg_31 rfl rfl (by rw [show (Value.agg (va 86 (sd s))).cells = va 86 (sd s) from rfl, va_size]; decide) (va_extract (by decide))) (by decide) ?_
  refine TL.val (YF.fieldAddr fo_36_10 rfl rfl) (by decide) ?_
  refine TL.val (YF.loadAgg (v := va 12 (fun j => sd s (38 + j))) 0 agg_34 rfl rfl (by rw [show (Value.agg (va 86 (sd s))).cells = va 86 (sd s) from rfl, va_size]; decide) (va_extract (by decide))) (by decide) ?_
  refine TL.val (YF.fieldAddr fo_36_11 rfl rfl) (by decide) ?_
  refine TL.val (YF.loadAgg (v := va 12 (fun j => sd s (50 + j))) 0 agg_34 rfl rfl (by rw [show (Value.agg (va 86 (sd s))).cells = va 86 (sd s) from rfl, va_size]; decide) (va_extract (by decide))) (by decide) ?_
  refine TL.val (YF.fieldAddr fo_36_12 rfl rfl) (by decide) ?_
  refine TL.val (YF.loadAgg (v := va 4 (fun j => sd s (62 + j))) 0 agg_31 rfl rfl (by rw [show (Value.agg (va 86 (sd s))).cells = va 86 (sd s) from rfl, va_size]; decide) (va_extract (by decide))) (by decide) ?_
  refine TL.val (YF.fieldAddr fo_36_13 rfl rfl) (by decide) ?_
  refine TL.val (YF.loadAgg (v := va 4 (fun j => sd s (66 + j))) 0 agg_31 rfl rfl (by rw [show (Value.agg (va 86 (sd s))).cells = va 86 (sd s) from rfl, va_size]; decide) (va_extract (by decide))) (by decide) ?_
  refine TL.val (YF.fieldAddr fo_36_14 rfl rfl) (by decide) ?_
  refine TL.val (YF.loadAgg (v := va 4 (fun j => sd s (70 + j))) 0 agg_31 rfl rfl (by rw [show (Value.agg (va 86 (sd s))).cells = va 86 (sd s) from rfl, va_size]; decide) (va_extract (by decide))) (by decide) ?_
  refine TL.val (YF.fieldAddr fo_36_15 rfl rfl) (by decide) ?_
  refine TL.val (YF.loadAgg (v := va 4 (fun j => sd s (74 + j))) 0 agg_31 rfl rfl (by rw [show (Value.agg (va 86 (sd s))).cells = va 86 (sd s) from rfl, va_size]; decide) (va_extract (by decide))) (by decide) ?_
  refine TL.val (YF.fieldAddr fo_36_16 rfl rfl) (by decide) ?_
  refine TL.val (YF.loadAgg (v := va 4 (fun j => sd s (78 + j))) 0 agg_31 rfl rfl (by rw [show (Value.agg (va 86 (sd s))).cells = va 86 (sd s) from rfl, va_size]; decide) (va_extract (by decide))) (by decide) ?_
  refine TL.val (YF.fieldAddr fo_36_17 rfl rfl) (by decide) ?_
  refine TL.val (YF.loadAgg (v := va 4 (fun j => sd s (82 + j))) 0 agg_31 rfl rfl (by rw [show (Value.agg (va 86 (sd s))).cells = va 86 (sd s) from rfl, va_size]; decide) (va_extract (by decide))) (by decide) ?_
  refine TL.val (YF.build (vs := [(0, _), (1, _), (2, _), (3, _), (4, _), (5, _), (6, _), (7, _), (8, _), (9, _), (10, _), (11, _), (12, _), (13, _), (14, _), (15, _), (16, _), (17, _)]) rfl (built_side s)) (by decide) ?_
  refine TL.box rfl (by decide) (fun bs => ?_)
  refine TL.val (YF.assign rfl) (by decide) ?_
  refine TL.end ?_
  refine Arr.seq ?_
  refine Tr.retE ?_
  exact Ends.sub (G := _ :: H) (by repeat first | exact List.Sublist.refl _ | apply List.Sublist.cons_cons | apply List.Sublist.cons) (Ends.tmp rfl rfl ⟨_, rfl, rfl⟩)

theorem Zmd : Zv_91 = va 2548 (fun q => if q < 244 then .int .i64 0 else .float .f32 0) := by kernel_rfl
theorem built_main (x : Nat → Int) (y : Nat → Value) (ls : Nat → Nat → Value) : Tryd.prog.built 91 [(0, .agg (va 88 (fun j => mn x y (0 + j)))), (1, .agg (va 156 (fun j => mn x y (88 + j))))] = some (va 2548 (mdk x ls 0)) := by
  rw [built_struct zero_91 places_91, show Zv_91 = va 2548 (fun q => if q < 0 then mn x y q else (fun q => if q < 244 then .int .i64 0 else .float .f32 0) q) from Zmd.trans (va_ext rfl fun q _ => by rw [if_neg (by omega : ¬ q < 0)])]
  rw [fill_pre _ (i := 0) (v := .agg (va 88 (fun j => (mn x y) (0 + j)))) (n := 2548) (f := mn x y) (g := (fun q => if q < 244 then Value.int .i64 0 else .float .f32 0)) (o := 0) (m := 88) (e := 88) _ rfl rfl (by decide) rfl,
    fill_pre _ (i := 1) (v := .agg (va 156 (fun j => (mn x y) (88 + j)))) (n := 2548) (f := mn x y) (g := (fun q => if q < 244 then Value.int .i64 0 else .float .f32 0)) (o := 88) (m := 156) (e := 244) _ rfl rfl (by decide) rfl, Instr.fill]
  refine congrArg some (va_ext rfl fun q hq => ?_)
  unfold mdk mn
  by_cases h : q < 244
  · rw [if_pos h, if_pos h, if_pos h]
  · rw [if_neg h, if_neg h, if_neg (by omega), if_neg (by omega)]

theorem lined_ct (x : Nat → Int) (y : Nat → Value) (ls : Nat → Nat → Value) (w0 : World) (H : Hp) (hls : ∀ i, i < 4 → LL H (y i) (ls i)) : Ct Tryd.prog 29 #[.agg (va 248 (mn x y))] w0 (H) (fun v H' => v = .agg (va 2548 (mdk x ls 4)) ∧ H' = H) := by
  refine Ct.of_body (n := 33) (E := [(0, _)]) Tryd.func29 rfl rfl rfl rfl ?_
  refine Tr.seq ?_
  refine Tr.region ?_
  refine TL.box rfl (by decide) (fun b1 => ?_)
  refine TL.allocA zero_91 (by decide) (fun b2 => ?_)
  refine TL.end ?_
  refine Arr.seq ?_
  refine Tr.seq ?_
  refine Tr.region ?_
  refine TL.val (YF.fieldAddr fo_47_0 rfl rfl) (by decide) ?_
  refine TL.val (YF.loadAgg (v := va 88 (fun j => mn x y (0 + j))) 1 agg_39 rfl rfl (by rw [show (Value.agg (va 248 (mn x y))).cells = va 248 (mn x y) from rfl, va_size]; decide) (va_extract (by decide))) (by decide) ?_
  refine TL.val (YF.fieldAddr fo_47_1 rfl rfl) (by decide) ?_
  refine TL.val (YF.loadAgg (v := va 156 (fun j => mn x y (88 + j))) 1 agg_42 rfl rfl (by rw [show (Value.agg (va 248 (mn x y))).cells = va 248 (mn x y) from rfl, va_size]; decide) (va_extract (by decide))) (by decide) ?_
  refine TL.val (YF.build (vs := [(0, _), (1, _)]) rfl (built_main x y ls)) (by decide) ?_
  refine TL.allocA zero_91 (by decide) (fun b3 => ?_)
  refine TL.storeAll 0 (_ :: _ :: _ :: _) rfl rfl rfl sz_91 (va_size _ _) Zsz_91 (va_one (mdk_one (fun i hi => (hls i hi).one) (by decide))) rfl ?_
  refine TL.end ?_
  refine Arr.seq ?_
  refine Tr.seq ?_
  refine Tr.seq ?_
  refine Tr.region ?_
  refine TL.val (YF.move rfl) (by decide) ?_
  refine TL.end ?_
  refine Arr.seq ?_
  refine Tr.block ?_
  refine Tr.loop (I := fun mq a w => ∃ (g : Nat), mq = 2 - g ∧ (g ≤ 2) ∧ Agree 33 [(1, .pointer (some ⟨b1, 0, none⟩)), (2, .pointer (some ⟨b2, 0, none⟩)), (3, .pointer (some ⟨b3, 0, none⟩)), (11, .int .i64 g)] a ∧ HS w0 ((b3, .cells (va 2548 (mdk x ls (2 * g))) 91 (0, 0)) :: (b2, .cells Zv_91 91 (0, 0)) :: (b1, .cells (va 248 (mn x y)) 47 (0, 0)) :: H) w) (2) ?_ ?_
  · intro a w ha hw
    exact ⟨0, rfl, by omega, (ha.cons rfl (ha.cons rfl (ha.cons rfl (ha.cons rfl (ha.nil))))), hw⟩
  rintro _ a w ⟨g, rfl, hg, ha, hw⟩
  refine Tr.use ha hw ?_
  refine Tr.seq ?_
  refine Tr.region ?_
  refine TL.val (YF.lss rfl rfl rfl) (by decide) ?_
  refine TL.end ?_
  refine Arr.seq ?_
  refine Tr.seq ?_
  refine Tr.cond rfl (fun h12 => ?_) (fun h12 => ?_)
  ·
    replace h12 := of_decide_eq_true h12
    refine Tr.skipE ?_
    refine Arr.seq ?_
    refine Tr.seq ?_
    refine Tr.block ?_
    refine Tr.seq ?_
    refine Tr.region ?_
    refine TL.val (YF.move rfl) (by decide) ?_
    refine TL.val (YF.assign rfl) (by decide) ?_
    refine TL.end ?_
    refine Arr.seq ?_
    refine Tr.seq ?_
    refine Tr.region ?_
    refine TL.val (YF.move rfl) (by decide) ?_
    refine TL.end ?_
    refine Arr.seq ?_
    refine Tr.block ?_
    refine Tr.loop (I := fun mq a w => ∃ (c : Nat), mq = 2 - c ∧ (c ≤ 2) ∧ Agree 33 [(1, .pointer (some ⟨b1, 0, none⟩)), (2, .pointer (some ⟨b2, 0, none⟩)), (3, .pointer (some ⟨b3, 0, none⟩)), (4, .int .i64 g), (11, .int .i64 g), (14, .int .i64 c)] a ∧ HS w0 ((b3, .cells (va 2548 (mdk x ls (2 * g + c))) 91 (0, 0)) :: (b2, .cells Zv_91 91 (0, 0)) :: (b1, .cells (va 248 (mn x y)) 47 (0, 0)) :: H) w) (2) ?_ ?_
    · intro a w ha hw
      exact ⟨0, rfl, by omega, (ha.cons rfl (ha.cons rfl (ha.cons rfl (ha.cons rfl (ha.cons rfl (ha.cons rfl (ha.nil))))))), hw⟩
    rintro _ a w ⟨c, rfl, hc, ha, hw⟩
    refine Tr.use ha hw ?_
    refine Tr.seq ?_
    refine Tr.region ?_
    refine TL.val (YF.lss rfl rfl rfl) (by decide) ?_
    refine TL.end ?_
    refine Arr.seq ?_
    refine Tr.seq ?_
    refine Tr.cond rfl (fun h15 => ?_) (fun h15 => ?_)
    ·
      replace h15 := of_decide_eq_true h15
      refine Tr.skipE ?_
      refine Arr.seq ?_
      refine Tr.seq ?_
      refine Tr.block ?_
      refine Tr.seq ?_
      refine Tr.region ?_
      refine TL.val (YF.move rfl) (by decide) ?_
      refine TL.val (YF.assign rfl) (by decide) ?_
      refine TL.end ?_
      refine Arr.seq ?_
      refine Tr.drawE (_ :: _ :: _) (fun H => (H.eraseIdx 0)) rfl mixed_ ?_
      refine TD.take 0 rfl (by kernel_rfl) (by kernel_rfl) (by kernel_rfl) (fun _ _ _ h => h) (by repeat first | exact List.Sublist.refl _ | apply List.Sublist.cons_cons | apply List.Sublist.cons) (YF.move rfl) (by decide) ?_
      refine TD.take 1 rfl (by kernel_rfl) (by kernel_rfl) (by kernel_rfl) (fun _ _ _ h => h) (by repeat first | exact List.Sublist.refl _ | apply List.Sublist.cons_cons | apply List.Sublist.cons) (YF.move rfl) (by decide) ?_
      refine TD.take 2 rfl (by kernel_rfl) (by kernel_rfl) (by kernel_rfl) (fun _ _ _ h => h) (by repeat first | exact List.Sublist.refl _ | apply List.Sublist.cons_cons | apply List.Sublist.cons) (YF.fieldAddr fo_91_2 rfl rfl) (by decide) ?_
      refine TD.take 3 rfl (by kernel_rfl) (by kernel_rfl) (by kernel_rfl) (fun _ _ _ h => h) (by repeat first | exact List.Sublist.refl _ | apply List.Sublist.cons_cons | apply List.Sublist.cons) (YF.indexArr arr_89 rfl rfl (by first | decide | omega) rfl) (by decide) ?_
      refine TD.take 4 rfl (by kernel_rfl) (by kernel_rfl) (by kernel_rfl) (fun _ _ _ h => h) (by repeat first | exact List.Sublist.refl _ | apply List.Sublist.cons_cons | apply List.Sublist.cons) (YF.indexArr arr_88 rfl rfl (by first | decide | omega) (show _ = 244 + 576 * (2 * g + c) by omega)) (by decide) ?_
      refine TD.take 5 rfl (by kernel_rfl) (by kernel_rfl) (by kernel_rfl) (fun _ _ _ h => h) (by repeat first | exact List.Sublist.refl _ | apply List.Sublist.cons_cons | apply List.Sublist.cons) (YF.sliceArr arr_84 rfl) (by decide) ?_
      refine TD.take 6 rfl (by kernel_rfl) (by kernel_rfl) (by kernel_rfl) (fun _ _ _ h => h) (by repeat first | exact List.Sublist.refl _ | apply List.Sublist.cons_cons | apply List.Sublist.cons) (YF.move rfl) (by decide) ?_
      refine TD.take 7 rfl (by kernel_rfl) (by kernel_rfl) (by kernel_rfl) (fun _ _ _ h => h) (by repeat first | exact List.Sublist.refl _ | apply List.Sublist.cons_cons | apply List.Sublist.cons) (YF.move rfl) (by decide) ?_
      refine TD.take 8 rfl (by kernel_rfl) (by kernel_rfl) (by kernel_rfl) (fun _ _ _ h => h) (by repeat first | exact List.Sublist.refl _ | apply List.Sublist.cons_cons | apply List.Sublist.cons) (YF.fieldAddr fo_47_2 rfl rfl) (by decide) ?_
      refine TD.take 9 rfl (by kernel_rfl) (by kernel_rfl) (by kernel_rfl) (fun _ _ _ h => h) (by repeat first | exact List.Sublist.refl _ | apply List.Sublist.cons_cons | apply List.Sublist.cons) (YF.indexArr arr_45 rfl rfl (by first | decide | omega) rfl) (by decide) ?_
      refine TD.take 10 rfl (by kernel_rfl) (by kernel_rfl) (by kernel_rfl) (fun _ _ _ h => h) (by repeat first | exact List.Sublist.refl _ | apply List.Sublist.cons_cons | apply List.Sublist.cons) (YF.indexArr arr_44 rfl rfl (by first | decide | omega) (show _ = 244 + (2 * g + c) by omega)) (by decide) ?_
      refine TD.take 11 rfl (by kernel_rfl) (by kernel_rfl) (by kernel_rfl) (fun _ _ _ h => h) (by repeat first | exact List.Sublist.refl _ | apply List.Sublist.cons_cons | apply List.Sublist.cons) (YF.load (v := y (2 * g + c)) 1 sc_43 rfl rfl (va_get (by omega) (by unfold mn; rw [if_neg (by omega), show 244 + (2 * g + c) - 244 = 2 * g + c by omega]))) (by decide) ?_
      refine TD.eff 12 rfl (by kernel_rfl) (EF.copyLL 0 sl_43 rfl rfl rfl (((hls (2 * g + c) (by omega)).cons _).cons _ |>.cons _) rfl (by omega) (fun k hk => by unfold mdk; rw [if_neg (by omega), if_neg (by omega)])) (by decide) (by rintro _ _ rfl; exact (by repeat first | exact List.Sublist.refl _ | apply List.Sublist.cons_cons | apply List.Sublist.cons)) ?_
      rintro _ _ rfl
      refine TD.heap (_ :: _ :: _ :: H) rfl ?_
      rw [mdk_next (by omega) rfl]
      refine TD.end (by kernel_rfl) ?_
      refine Arr.block ?_
      refine Arr.seq ?_
      refine Tr.region ?_
      refine TL.val (YF.add rfl rfl (IntWalk.i64_in _ (by omega))) (by decide) ?_
      refine TL.val (YF.move rfl) (by decide) ?_
      refine TL.end ?_
      exact fun a w ha hw => ⟨_, by omega, c + 1, rfl, by omega, (ha.cons rfl (ha.cons rfl (ha.cons rfl (ha.cons rfl (ha.cons rfl (ha.cons rfl (ha.nil))))))), hw⟩
    ·
      replace h15 := of_decide_eq_false h15
      refine Tr.exitE ?_
      refine Arr.seqX ?_
      refine Arr.seqX ?_
      refine Arr.blockE ?_
      refine Arr.block ?_
      refine Arr.seq ?_
      refine Tr.region ?_
      refine TL.val (YF.add rfl rfl (IntWalk.i64_in _ (by omega))) (by decide) ?_
      refine TL.val (YF.move rfl) (by decide) ?_
      refine TL.end ?_
      rw [show 2 * g + c = 2 * (g + 1) by omega]
      exact fun a w ha hw => ⟨_, by omega, g + 1, rfl, by omega, (ha.cons rfl (ha.cons rfl (ha.cons rfl (ha.cons rfl (ha.nil))))), hw⟩
  ·
    replace h12 := of_decide_eq_false h12
    refine Tr.exitE ?_
    refine Arr.seqX ?_
    refine Arr.seqX ?_
    refine Arr.blockE ?_
    refine Arr.seq ?_
    refine Tr.seq ?_
    refine Tr.region ?_
    obtain rfl : g = 2 := by omega
    refine TL.val (YF.loadAll 0 agg_91 rfl rfl (va_size _ _)) (by decide) ?_
    refine TL.storeAll 1 (_ :: _ :: _) rfl rfl rfl sz_91 (va_size _ _) Zsz_91 (va_one (mdk_one (fun i hi => (hls i hi).one) (by omega))) rfl ?_
    refine TL.end ?_
    refine Arr.seq ?_
    refine Tr.retE ?_
    exact Ends.cellG (G := H) 1 rfl rfl agg_91 rfl (va_size _ _) (by repeat first | exact List.Sublist.refl _ | apply List.Sublist.cons) ⟨rfl, rfl⟩

/-- As 'lined', one row told as floats. -/
theorem lined1_ct (x : Nat → Int) (y : Nat → Value) (ls : Nat → Nat → Value) (n : Nat) (l : Nat → Nat) (w0 : World) (H : Hp) (hls : ∀ i, i < 4 → LL H (y i) (ls i)) (hn : n < 4) (hl : ∀ k, k < 576 → ls n k = .float .f32 (l k)) :
    Ct Tryd.prog 29 #[.agg (va 248 (mn x y))] w0 H (fun v H' => v = .agg (va 2548 (zl (mdk x ls 4) (244 + 576 * n) l)) ∧ H' = H) :=
  (lined_ct x y ls w0 H hls).mono fun v H' h => ⟨by rw [h.1, mdk_zl hn hl], h.2⟩

def zf : Nat → Value := fun q => if q = 0 then .int .u32 0 else if q < 4 then .pointer none else .float .f32 0
theorem Zff : Zv_112 = va 3204 zf := by kernel_rfl
theorem built_ff (w : Int) (si : Option Addr) (bm : Nat) : Tryd.prog.built 112 [(0, .int .u32 w), (1, .pointer si), (2, .pointer (some ⟨bm, 0, none⟩))] = some (va 3204 (ff w si bm)) := by
  rw [built_struct zero_112 places_112, show Zv_112 = va 3204 (fun q => if q < 0 then ff w si bm q else zf q) from Zff.trans (va_ext rfl fun q _ => by rw [if_neg (by omega)])]
  rw [fill_pre _ (i := 0) (v := .int .u32 w) (n := 3204) (f := ff w si bm) (g := zf) (o := 0) (m := 1) (e := 1) _ rfl (va_one1 (fun j => (ff w si bm) (0 + j))).symm (by decide) rfl,
    fill_pre _ (i := 1) (v := .pointer si) (n := 3204) (f := ff w si bm) (g := zf) (o := 1) (m := 1) (e := 2) _ rfl (va_one1 (fun j => (ff w si bm) (1 + j))).symm (by decide) rfl,
    fill_pre _ (i := 2) (v := .pointer (some ⟨bm, 0, none⟩)) (n := 3204) (f := ff w si bm) (g := zf) (o := 2) (m := 1) (e := 3) _ rfl (va_one1 (fun j => (ff w si bm) (2 + j))).symm (by decide) rfl, Instr.fill]
  refine congrArg some (va_ext rfl fun q hq => ?_)
  by_cases h : q < 3
  · rw [if_pos h]
  · rw [if_neg h]; unfold zf ff
    have h0 : ¬ q = 0 := by omega
    have h1 : ¬ q = 1 := by omega
    have h2 : ¬ q = 2 := by omega
    simp only [if_neg h0, if_neg h1, if_neg h2]
    by_cases h3 : q = 3
    · rw [if_pos (by omega), if_pos h3]
    · rw [if_neg (by omega), if_neg h3]

theorem zzFrame_ct (w : Int) (si : Option Addr) (z : Nat → Value) (w0 : World) (H : Hp) : Ct Tryd.prog 36 #[.int .u32 w, .pointer si, .agg (va 2548 z)] w0 (H) (fun v H' => ∃ bf bm, v = .pointer (some ⟨bf, 0, none⟩) ∧ H' = (bf, .cells (va 3204 (ff w si bm)) 112 (0, 0)) :: (bm, .cells (va 2548 z) 91 (0, 0)) :: H) := by
  refine Ct.of_body (n := 11) (E := [(0, _), (1, _), (2, _)]) Tryd.func36 rfl rfl rfl rfl ?_
  refine Tr.seq ?_
  refine Tr.region ?_
  refine TL.box rfl (by decide) (fun bm => ?_)
  refine TL.val (YF.assign rfl) (by decide) ?_
  refine TL.end ?_
  refine Arr.seq ?_
  refine Tr.seq ?_
  refine Tr.region ?_
  refine TL.val (YF.move rfl) (by decide) ?_
  refine TL.val (YF.move rfl) (by decide) ?_
  refine TL.val (YF.build (vs := [(0, _), (1, _), (2, _)]) rfl (built_ff w si bm)) (by decide) ?_
  refine TL.box rfl (by decide) (fun bf => ?_)
  refine TL.val (YF.assign rfl) (by decide) ?_
  refine TL.end ?_
  refine Arr.seq ?_
  refine Tr.retE ?_
  exact Ends.tmp rfl rfl ⟨_, _, rfl, rfl⟩

end Go.Proofs.YtbcjhkncifckiaaDoor
