/- The walks of the step of both channels. -/
import Derived.Test.YtbcjhkncifckiaaDoorWe
import Derived.Test.YtbcjhkncifckiaaDoorSt
namespace Go.Proofs.YtbcjhkncifckiaaDoor
open Go Go.RowKit Go.Proofs En Fl Ieee
set_option maxRecDepth 100000
set_option maxHeartbeats 0

theorem mode_ct (wd : Int) (w0 : World) (H : Hp) (hwd : 0 ≤ wd ∧ wd < 4294967296) : Ct Tryd.prog 53 #[.int .u32 wd] w0 (H) (fun v H' => ∃ r, r = wd / 64 % 4 ∧ v = .int .i64 r ∧ H' = H) := by
  refine Ct.of_body (n := 7) (E := [(0, _)]) Tryd.func53 rfl rfl rfl rfl ?_
  refine Tr.seq ?_
  refine Tr.region ?_
  refine TL.val (YF.assign rfl) (by decide) ?_
  refine TL.end ?_
  refine Arr.seq ?_
  refine Tr.seq ?_
  refine Tr.region ?_
  refine TL.val (YF.move rfl) (by decide) ?_
  refine TL.val (YF.band rfl rfl (u32_maskv (p := 64) (q := 4) 6 2 192 (by decide) (by decide) (by decide) (by decide) (by omega) (by omega))) (by decide) ?_
  refine TL.val (YF.shr rfl rfl (by decide) (shrv (p := 64) 6 rfl (by decide) (by decide))) (by decide) ?_
  refine TL.val (YF.conv und_105 und_123 rfl (IntWalk.i64_in _ (by omega))) (by decide) ?_
  refine TL.val (YF.assign rfl) (by decide) ?_
  refine TL.end ?_
  refine Arr.seq ?_
  refine Tr.retE ?_
  exact Ends.tmp rfl rfl ⟨_, by omega, rfl, rfl⟩

theorem ext_ct (wd : Int) (w0 : World) (H : Hp) (hwd : 0 ≤ wd ∧ wd < 4294967296) : Ct Tryd.prog 54 #[.int .u32 wd] w0 (H) (fun v H' => ∃ r, r = wd / 16 % 4 ∧ v = .int .i64 r ∧ H' = H) := by
  refine Ct.of_body (n := 7) (E := [(0, _)]) Tryd.func54 rfl rfl rfl rfl ?_
  refine Tr.seq ?_
  refine Tr.region ?_
  refine TL.val (YF.assign rfl) (by decide) ?_
  refine TL.end ?_
  refine Arr.seq ?_
  refine Tr.seq ?_
  refine Tr.region ?_
  refine TL.val (YF.move rfl) (by decide) ?_
  refine TL.val (YF.band rfl rfl (u32_maskv (p := 16) (q := 4) 4 2 48 (by decide) (by decide) (by decide) (by decide) (by omega) (by omega))) (by decide) ?_
  refine TL.val (YF.conv und_105 und_3 rfl (IntWalk.i64_in _ (by omega))) (by decide) ?_
  refine TL.val (YF.shr rfl rfl (by decide) (shrv (p := 16) 4 rfl (by decide) (by decide))) (by decide) ?_
  refine TL.val (YF.assign rfl) (by decide) ?_
  refine TL.end ?_
  refine Arr.seq ?_
  refine Tr.retE ?_
  exact Ends.tmp rfl rfl ⟨_, by omega, rfl, rfl⟩

theorem ms_ct (wd : Int) (w0 : World) (H : Hp) (hwd : 0 ≤ wd ∧ wd < 4294967296) (hJ : wd / 16 % 4 = 0 ∨ wd / 16 % 4 = 2) : Ct Tryd.prog 44 #[.int .u32 wd] w0 (H) (fun v H' => ∃ b, v = .bool b ∧ (b = true ↔ wd / 64 % 4 = 1 ∧ wd / 16 % 4 = 2) ∧ H' = H) := by
  refine Ct.of_body (n := 10) (E := [(0, _)]) Tryd.func44 rfl rfl rfl rfl ?_
  refine Tr.seq ?_
  refine Tr.region ?_
  refine TL.val (YF.assign rfl) (by decide) ?_
  refine TL.end ?_
  refine Arr.seq ?_
  refine Tr.seq ?_
  refine Tr.seq ?_
  refine Tr.region ?_
  refine TL.val (YF.move rfl) (by decide) ?_
  refine TL.call (vs := [_]) call_53 rfl (by decide) (mode_ct _ w0 _ hwd) ?_
  rintro _ _ ⟨r, hr, rfl, rfl⟩
  refine TL.val (YF.neq rfl rfl rfl) (by decide) ?_
  refine TL.end ?_
  refine Arr.seq ?_
  refine Tr.cond rfl (fun h5 => ?_) (fun h5 => ?_)
  ·
    replace h5 := of_decide_eq_true h5
    refine Tr.seq ?_
    refine Tr.region ?_
    refine TL.val (YF.assign rfl) (by decide) ?_
    refine TL.end ?_
    refine Arr.seq ?_
    refine Tr.retE ?_
    refine Arr.seqR ?_
    first
      | exact Ends.tmp rfl rfl ⟨false, rfl, ⟨fun h => (by cases h), fun h => absurd (by omega) h5⟩, rfl⟩
      | exact Ends.tmp rfl rfl ⟨_, rfl, by rw [decide_eq_true_iff]; omega, rfl⟩
  ·
    replace h5 := of_decide_eq_false h5
    refine Tr.skipE ?_
    refine Arr.seq ?_
    refine Tr.seq ?_
    refine Tr.region ?_
    refine TL.val (YF.move rfl) (by decide) ?_
    refine TL.call (vs := [_]) call_54 rfl (by decide) (ext_ct _ w0 _ hwd) ?_
    rintro _ _ ⟨q, hq, rfl, rfl⟩
    refine TL.val (YF.band rfl rfl (i64_maskv (p := 2) (q := 2) 1 1 2 (by decide) (by decide) (by decide) (by decide) (by omega) (by omega))) (by decide) ?_
    refine TL.val (YF.neq rfl rfl rfl) (by decide) ?_
    refine TL.val (YF.assign rfl) (by decide) ?_
    refine TL.end ?_
    refine Arr.seq ?_
    refine Tr.retE ?_
    first
      | exact Ends.tmp rfl rfl ⟨false, rfl, ⟨fun h => (by cases h), fun h => absurd (by omega) h5⟩, rfl⟩
      | exact Ends.tmp rfl rfl ⟨_, rfl, by rw [decide_eq_true_iff]; omega, rfl⟩

theorem intensity_ct (wd : Int) (w0 : World) (H : Hp) (hwd : 0 ≤ wd ∧ wd < 4294967296) (hJ : wd / 16 % 4 = 0 ∨ wd / 16 % 4 = 2) : Ct Tryd.prog 45 #[.int .u32 wd] w0 (H) (fun v H' => v = .bool false ∧ H' = H) := by
  refine Ct.of_body (n := 10) (E := [(0, _)]) Tryd.func45 rfl rfl rfl rfl ?_
  refine Tr.seq ?_
  refine Tr.region ?_
  refine TL.val (YF.assign rfl) (by decide) ?_
  refine TL.end ?_
  refine Arr.seq ?_
  refine Tr.seq ?_
  refine Tr.seq ?_
  refine Tr.region ?_
  refine TL.val (YF.move rfl) (by decide) ?_
  refine TL.call (vs := [_]) call_53 rfl (by decide) (mode_ct _ w0 _ hwd) ?_
  rintro _ _ ⟨r, hr, rfl, rfl⟩
  refine TL.val (YF.neq rfl rfl rfl) (by decide) ?_
  refine TL.end ?_
  refine Arr.seq ?_
  refine Tr.cond rfl (fun h5 => ?_) (fun h5 => ?_)
  ·
    replace h5 := of_decide_eq_true h5
    refine Tr.seq ?_
    refine Tr.region ?_
    refine TL.val (YF.assign rfl) (by decide) ?_
    refine TL.end ?_
    refine Arr.seq ?_
    refine Tr.retE ?_
    refine Arr.seqR ?_
    exact Ends.tmp rfl rfl ⟨rfl, rfl⟩
  ·
    replace h5 := of_decide_eq_false h5
    refine Tr.skipE ?_
    refine Arr.seq ?_
    refine Tr.seq ?_
    refine Tr.region ?_
    refine TL.val (YF.move rfl) (by decide) ?_
    refine TL.call (vs := [_]) call_54 rfl (by decide) (ext_ct _ w0 _ hwd) ?_
    rintro _ _ ⟨q, hq, rfl, rfl⟩
    refine TL.val (YF.band rfl rfl (i64_mask0 (q := 2) 1 1 (by decide) (by decide) (by decide) (by omega) (by omega))) (by decide) ?_
    refine TL.val (YF.neq (b := false) rfl rfl (decide_eq_false (by omega))) (by decide) ?_
    refine TL.val (YF.assign rfl) (by decide) ?_
    refine TL.end ?_
    refine Arr.seq ?_
    refine Tr.retE ?_
    exact Ends.tmp rfl rfl ⟨rfl, rfl⟩

theorem stereo_ct (wd : Int) (s : Nat → Int) (x y : Nat → Nat) (z0 : Nat → Value) (g : Nat) (G : Rat) (i bf bm bsi : Nat) (hg : g < 2) (t' : TypeId) (f' : Nat × Nat) (w0 : World) (H : Hp) (hi : H[i]? = some (bsi, .cells (va 86 (sd s)) t' f')) (hwd : 0 ≤ wd ∧ wd < 4294967296) (hJ : wd / 16 % 4 = 0 ∨ wd / 16 % 4 = 2) (hG0 : 0 ≤ G) (hG : G ≤ 100) (hx : ∀ q, q < 576 → Fin single (x q) ∧ mg (V single (x q)) ≤ G) (hy : ∀ q, q < 576 → Fin single (y q) ∧ mg (V single (y q)) ≤ G) (hc0 : s (82 + 2 * g) = 576) (hc1 : s (82 + 2 * g + 1) = 576) : Ct Tryd.prog 39 #[.pointer (some ⟨bf, 0, none⟩), .int .i64 g] w0 ((bf, .cells (va 3204 (ff wd (some ⟨bsi, 0, none⟩) bm)) 112 (0, 0)) :: (bm, .cells (va 2548 (zz z0 (244 + 1152 * g) x y)) 91 (0, 0)) :: H) (fun v H' => ∃ l r, SR (wd / 64 % 4) (wd / 16 % 4) (G / 1000000 + 1 / 10 ^ 30) x y l r ∧ H' = (bf, .cells (va 3204 (ff wd (some ⟨bsi, 0, none⟩) bm)) 112 (0, 0)) :: (bm, .cells (va 2548 (zz z0 (244 + 1152 * g) l r)) 91 (0, 0)) :: H) := by
  refine Ct.of_body (n := 274) (E := [(0, _), (1, _)]) Tryd.func39 rfl rfl rfl rfl ?_
  refine Tr.seq ?_
  refine Tr.seq ?_
  refine Tr.region ?_
  refine TL.val (YF.move rfl) (by decide) ?_
  refine TL.val (YF.nilCheck rfl) (by decide) ?_
  refine TL.val (YF.fieldAddr fo_112_0 rfl rfl) (by decide) ?_
  refine TL.val (YF.load (v := .int .u32 wd) 0 sc_105 rfl rfl (va_get (by decide) rfl)) (by decide) ?_
  refine TL.call (vs := [_]) call_44 rfl (by decide) (ms_ct _ w0 _ hwd hJ) ?_
  rintro _ _ ⟨sb, rfl, hsb, rfl⟩
  refine TL.end ?_
  refine Arr.seq ?_
  refine Tr.cutN (R := fun a w => ∃ l r : Nat → Nat, SR (wd / 64 % 4) (wd / 16 % 4) (G / 1000000 + 1 / 10 ^ 30) x y l r ∧ Agree 274 [(0, .pointer (some ⟨bf, 0, none⟩)), (1, .int .i64 g)] a ∧ HS w0 ((bf, .cells (va 3204 (ff wd (some ⟨bsi, 0, none⟩) bm)) 112 (0, 0)) :: (bm, .cells (va 2548 (zz z0 (244 + 1152 * g) l r)) 91 (0, 0)) :: H) w) ?_ ?_
  ·
    refine Tr.cond rfl (fun h19 => ?_) (fun h19 => ?_)
    ·
      refine Tr.seq ?_
      refine Tr.region ?_
      refine TL.val (YF.assign rfl) (by decide) ?_
      refine TL.end ?_
      refine Arr.seq ?_
      refine Tr.seq ?_
      refine Tr.seq ?_
      refine Tr.drawE (_ :: _ :: _) (fun H => H) rfl mixed_ ?_
      refine TD.take 0 rfl (by kernel_rfl) (by kernel_rfl) (by kernel_rfl) (fun _ _ _ h => h) (by repeat first | exact List.Sublist.refl _ | apply List.Sublist.cons_cons | apply List.Sublist.cons) (YF.move rfl) (by decide) ?_
      refine TD.take 1 rfl (by kernel_rfl) (by kernel_rfl) (by kernel_rfl) (fun _ _ _ h => h) (by repeat first | exact List.Sublist.refl _ | apply List.Sublist.cons_cons | apply List.Sublist.cons) (YF.nilCheck rfl) (by decide) ?_
      refine TD.take 2 rfl (by kernel_rfl) (by kernel_rfl) (by kernel_rfl) (fun _ _ _ h => h) (by repeat first | exact List.Sublist.refl _ | apply List.Sublist.cons_cons | apply List.Sublist.cons) (YF.fieldAddr fo_112_1 rfl rfl) (by decide) ?_
      refine TD.take 3 rfl (by kernel_rfl) (by kernel_rfl) (by kernel_rfl) (fun _ _ _ h => h) (by repeat first | exact List.Sublist.refl _ | apply List.Sublist.cons_cons | apply List.Sublist.cons) (YF.load (v := .pointer (some ⟨bsi, 0, none⟩)) 0 sc_86 rfl rfl (va_get (by decide) rfl)) (by decide) ?_
      refine TD.take 4 rfl (by kernel_rfl) (by kernel_rfl) (by kernel_rfl) (fun _ _ _ h => h) (by repeat first | exact List.Sublist.refl _ | apply List.Sublist.cons_cons | apply List.Sublist.cons) (YF.move rfl) (by decide) ?_
      refine TD.take 5 rfl (by kernel_rfl) (by kernel_rfl) (by kernel_rfl) (fun _ _ _ h => h) (by repeat first | exact List.Sublist.refl _ | apply List.Sublist.cons_cons | apply List.Sublist.cons) (YF.nilCheck rfl) (by decide) ?_
      refine TD.take 6 rfl (by kernel_rfl) (by kernel_rfl) (by kernel_rfl) (fun _ _ _ h => h) (by repeat first | exact List.Sublist.refl _ | apply List.Sublist.cons_cons | apply List.Sublist.cons) (YF.fieldAddr fo_114_17 rfl rfl) (by decide) ?_
      refine TD.take 7 rfl (by kernel_rfl) (by kernel_rfl) (by kernel_rfl) (fun _ _ _ h => h) (by repeat first | exact List.Sublist.refl _ | apply List.Sublist.cons_cons | apply List.Sublist.cons) (YF.indexArr arr_31 rfl rfl (by first | decide | omega) rfl) (by decide) ?_
      refine TD.take 8 rfl (by kernel_rfl) (by kernel_rfl) (by kernel_rfl) (fun _ _ _ h => h) (by repeat first | exact List.Sublist.refl _ | apply List.Sublist.cons_cons | apply List.Sublist.cons) (YF.indexArr arr_30 rfl rfl (by first | decide | omega) (show _ = 82 + 2 * g by omega)) (by decide) ?_
      refine TD.take 9 rfl (by kernel_rfl) (by kernel_rfl) (by kernel_rfl) (fun _ _ _ h => h) (by repeat first | exact List.Sublist.refl _ | apply List.Sublist.cons_cons | apply List.Sublist.cons) (YF.load (v := .int .i64 576) (i + 2) sc_3 rfl hi (by rw [sd_int (by omega), hc0])) (by decide) ?_
      refine TD.take 10 rfl (by kernel_rfl) (by kernel_rfl) (by kernel_rfl) (fun _ _ _ h => h) (by repeat first | exact List.Sublist.refl _ | apply List.Sublist.cons_cons | apply List.Sublist.cons) (YF.move rfl) (by decide) ?_
      refine TD.take 11 rfl (by kernel_rfl) (by kernel_rfl) (by kernel_rfl) (fun _ _ _ h => h) (by repeat first | exact List.Sublist.refl _ | apply List.Sublist.cons_cons | apply List.Sublist.cons) (YF.nilCheck rfl) (by decide) ?_
      refine TD.take 12 rfl (by kernel_rfl) (by kernel_rfl) (by kernel_rfl) (fun _ _ _ h => h) (by repeat first | exact List.Sublist.refl _ | apply List.Sublist.cons_cons | apply List.Sublist.cons) (YF.fieldAddr fo_112_1 rfl rfl) (by decide) ?_
      refine TD.take 13 rfl (by kernel_rfl) (by kernel_rfl) (by kernel_rfl) (fun _ _ _ h => h) (by repeat first | exact List.Sublist.refl _ | apply List.Sublist.cons_cons | apply List.Sublist.cons) (YF.load (v := .pointer (some ⟨bsi, 0, none⟩)) 0 sc_86 rfl rfl (va_get (by decide) rfl)) (by decide) ?_
      refine TD.take 14 rfl (by kernel_rfl) (by kernel_rfl) (by kernel_rfl) (fun _ _ _ h => h) (by repeat first | exact List.Sublist.refl _ | apply List.Sublist.cons_cons | apply List.Sublist.cons) (YF.move rfl) (by decide) ?_
      refine TD.take 15 rfl (by kernel_rfl) (by kernel_rfl) (by kernel_rfl) (fun _ _ _ h => h) (by repeat first | exact List.Sublist.refl _ | apply List.Sublist.cons_cons | apply List.Sublist.cons) (YF.nilCheck rfl) (by decide) ?_
      refine TD.take 16 rfl (by kernel_rfl) (by kernel_rfl) (by kernel_rfl) (fun _ _ _ h => h) (by repeat first | exact List.Sublist.refl _ | apply List.Sublist.cons_cons | apply List.Sublist.cons) (YF.fieldAddr fo_114_17 rfl rfl) (by decide) ?_
      refine TD.take 17 rfl (by kernel_rfl) (by kernel_rfl) (by kernel_rfl) (fun _ _ _ h => h) (by repeat first | exact List.Sublist.refl _ | apply List.Sublist.cons_cons | apply List.Sublist.cons) (YF.indexArr arr_31 rfl rfl (by first | decide | omega) rfl) (by decide) ?_
      refine TD.take 18 rfl (by kernel_rfl) (by kernel_rfl) (by kernel_rfl) (fun _ _ _ h => h) (by repeat first | exact List.Sublist.refl _ | apply List.Sublist.cons_cons | apply List.Sublist.cons) (YF.indexArr arr_30 rfl rfl (by first | decide | omega) (show _ = 82 + 2 * g + 1 by omega)) (by decide) ?_
      refine TD.take 19 rfl (by kernel_rfl) (by kernel_rfl) (by kernel_rfl) (fun _ _ _ h => h) (by repeat first | exact List.Sublist.refl _ | apply List.Sublist.cons_cons | apply List.Sublist.cons) (YF.load (v := .int .i64 576) (i + 2) sc_3 rfl hi (by rw [sd_int (by omega), hc1])) (by decide) ?_
      refine TD.take 20 rfl (by kernel_rfl) (by kernel_rfl) (by kernel_rfl) (fun _ _ _ h => h) (by repeat first | exact List.Sublist.refl _ | apply List.Sublist.cons_cons | apply List.Sublist.cons) (YF.gtr (b := false) rfl rfl (decide_eq_false (by omega))) (by decide) ?_
      refine TD.end (by kernel_rfl) ?_
      refine Arr.seq ?_
      refine Tr.condF rfl ?_
      refine Tr.skipE ?_
      refine Arr.seq ?_
      refine Tr.seq ?_
      refine Tr.region ?_
      refine TL.val (YF.move rfl) (by decide) ?_
      refine TL.val (YF.nilCheck rfl) (by decide) ?_
      refine TL.val (YF.fieldAddr fo_112_1 rfl rfl) (by decide) ?_
      refine TL.val (YF.load (v := .pointer (some ⟨bsi, 0, none⟩)) 0 sc_86 rfl rfl (va_get (by decide) rfl)) (by decide) ?_
      refine TL.val (YF.move rfl) (by decide) ?_
      refine TL.val (YF.move rfl) (by decide) ?_
      refine TL.val (YF.nilCheck rfl) (by decide) ?_
      refine TL.val (YF.fieldAddr fo_114_17 rfl rfl) (by decide) ?_
      refine TL.val (YF.indexArr arr_31 rfl rfl (by first | decide | omega) rfl) (by decide) ?_
      refine TL.val (YF.indexArr arr_30 rfl rfl (by first | decide | omega) (show _ = 82 + 2 * g + 1 by omega)) (by decide) ?_
      refine TL.val (YF.load (v := .int .i64 576) (i + 2) sc_3 rfl hi (by rw [sd_int (by omega), hc1])) (by decide) ?_
      refine TL.val (YF.assign rfl) (by decide) ?_
      refine TL.end ?_
      refine Arr.seq ?_
      refine Tr.seq ?_
      refine Tr.region ?_
      refine TL.val (YF.assign rfl) (by decide) ?_
      refine TL.end ?_
      refine Arr.seq ?_
      refine Tr.block ?_
      refine Tr.loop (I := fun mq a w => ∃ (j : Nat) (l : Nat → Nat) (r : Nat → Nat), mq = 576 - j ∧ (j ≤ 576) ∧ (MS single (G / 1000000 + 1 / 10 ^ 30) (fun q => V single (x q)) (fun q => V single (y q)) x y j l r) ∧ Agree 274 [(0, .pointer (some ⟨bf, 0, none⟩)), (1, .int .i64 g), (5, .int .i64 576), (6, .int .i64 j)] a ∧ HS w0 ((bf, .cells (va 3204 (ff wd (some ⟨bsi, 0, none⟩) bm)) 112 (0, 0)) :: (bm, .cells (va 2548 (zz z0 (244 + 1152 * g) l r)) 91 (0, 0)) :: H) w) (576) ?_ ?_
      · intro a w ha hw
        exact ⟨0, x, y, rfl, by omega, MS.zero, (ha.cons rfl (ha.cons rfl (ha.cons rfl (ha.cons rfl (ha.nil))))), hw⟩
      rintro _ a w ⟨j, l, r, rfl, hj, hM, ha, hw⟩
      refine Tr.use ha hw ?_
      refine Tr.seq ?_
      refine Tr.seq ?_
      refine Tr.region ?_
      refine TL.val (YF.move rfl) (by decide) ?_
      refine TL.val (YF.move rfl) (by decide) ?_
      refine TL.val (YF.lss rfl rfl rfl) (by decide) ?_
      refine TL.end ?_
      refine Arr.seq ?_
      refine Tr.cond rfl (fun h54 => ?_) (fun h54 => ?_)
      ·
        replace h54 := of_decide_eq_true h54
        refine Tr.skipE ?_
        refine Arr.seq ?_
        refine Tr.seq ?_
        refine Tr.block ?_
        refine Tr.seq ?_
        have hl0 := ((hM j (by omega)).2 (Nat.le_refl j)).1
        have hr0 := ((hM j (by omega)).2 (Nat.le_refl j)).2
        obtain ⟨ss, pp, dd, qq, e1, e2, e3, e4, p1, q1⟩ := both_impl (hx j (by omega)).1 (hy j (by omega)).1 hG0 hG (hx j (by omega)).2 (hy j (by omega)).2
        refine Tr.drawE (_ :: _ :: _) (fun H => H) rfl mixed_ ?_
        refine TD.take 0 rfl (by kernel_rfl) (by kernel_rfl) (by kernel_rfl) (fun _ _ _ h => h) (by repeat first | exact List.Sublist.refl _ | apply List.Sublist.cons_cons | apply List.Sublist.cons) (YF.move rfl) (by decide) ?_
        refine TD.take 1 rfl (by kernel_rfl) (by kernel_rfl) (by kernel_rfl) (fun _ _ _ h => h) (by repeat first | exact List.Sublist.refl _ | apply List.Sublist.cons_cons | apply List.Sublist.cons) (YF.nilCheck rfl) (by decide) ?_
        refine TD.take 2 rfl (by kernel_rfl) (by kernel_rfl) (by kernel_rfl) (fun _ _ _ h => h) (by repeat first | exact List.Sublist.refl _ | apply List.Sublist.cons_cons | apply List.Sublist.cons) (YF.fieldAddr fo_112_2 rfl rfl) (by decide) ?_
        refine TD.take 3 rfl (by kernel_rfl) (by kernel_rfl) (by kernel_rfl) (fun _ _ _ h => h) (by repeat first | exact List.Sublist.refl _ | apply List.Sublist.cons_cons | apply List.Sublist.cons) (YF.load (v := .pointer (some ⟨bm, 0, none⟩)) 0 sc_106 rfl rfl (va_get (by decide) rfl)) (by decide) ?_
        refine TD.take 4 rfl (by kernel_rfl) (by kernel_rfl) (by kernel_rfl) (fun _ _ _ h => h) (by repeat first | exact List.Sublist.refl _ | apply List.Sublist.cons_cons | apply List.Sublist.cons) (YF.move rfl) (by decide) ?_
        refine TD.take 5 rfl (by kernel_rfl) (by kernel_rfl) (by kernel_rfl) (fun _ _ _ h => h) (by repeat first | exact List.Sublist.refl _ | apply List.Sublist.cons_cons | apply List.Sublist.cons) (YF.move rfl) (by decide) ?_
        refine TD.take 6 rfl (by kernel_rfl) (by kernel_rfl) (by kernel_rfl) (fun _ _ _ h => h) (by repeat first | exact List.Sublist.refl _ | apply List.Sublist.cons_cons | apply List.Sublist.cons) (YF.nilCheck rfl) (by decide) ?_
        refine TD.take 7 rfl (by kernel_rfl) (by kernel_rfl) (by kernel_rfl) (fun _ _ _ h => h) (by repeat first | exact List.Sublist.refl _ | apply List.Sublist.cons_cons | apply List.Sublist.cons) (YF.fieldAddr fo_91_2 rfl rfl) (by decide) ?_
        refine TD.take 8 rfl (by kernel_rfl) (by kernel_rfl) (by kernel_rfl) (fun _ _ _ h => h) (by repeat first | exact List.Sublist.refl _ | apply List.Sublist.cons_cons | apply List.Sublist.cons) (YF.indexArr arr_89 rfl rfl (by first | decide | omega) rfl) (by decide) ?_
        refine TD.take 9 rfl (by kernel_rfl) (by kernel_rfl) (by kernel_rfl) (fun _ _ _ h => h) (by repeat first | exact List.Sublist.refl _ | apply List.Sublist.cons_cons | apply List.Sublist.cons) (YF.indexArr arr_88 rfl rfl (by first | decide | omega) rfl) (by decide) ?_
        refine TD.take 10 rfl (by kernel_rfl) (by kernel_rfl) (by kernel_rfl) (fun _ _ _ h => h) (by repeat first | exact List.Sublist.refl _ | apply List.Sublist.cons_cons | apply List.Sublist.cons) (YF.indexArr arr_84 rfl rfl (by first | decide | omega) (show _ = 244 + 1152 * g + j by omega)) (by decide) ?_
        refine TD.take 11 rfl (by kernel_rfl) (by kernel_rfl) (by kernel_rfl) (fun _ _ _ h => h) (by repeat first | exact List.Sublist.refl _ | apply List.Sublist.cons_cons | apply List.Sublist.cons) (YF.load (v := .float .f32 (x j)) 1 sc_82 rfl rfl (by rw [← hl0]; exact zz_get0 (by omega) rfl (by omega))) (by decide) ?_
        refine TD.take 12 rfl (by kernel_rfl) (by kernel_rfl) (by kernel_rfl) (fun _ _ _ h => h) (by repeat first | exact List.Sublist.refl _ | apply List.Sublist.cons_cons | apply List.Sublist.cons) (YF.move rfl) (by decide) ?_
        refine TD.take 13 rfl (by kernel_rfl) (by kernel_rfl) (by kernel_rfl) (fun _ _ _ h => h) (by repeat first | exact List.Sublist.refl _ | apply List.Sublist.cons_cons | apply List.Sublist.cons) (YF.nilCheck rfl) (by decide) ?_
        refine TD.take 14 rfl (by kernel_rfl) (by kernel_rfl) (by kernel_rfl) (fun _ _ _ h => h) (by repeat first | exact List.Sublist.refl _ | apply List.Sublist.cons_cons | apply List.Sublist.cons) (YF.fieldAddr fo_112_2 rfl rfl) (by decide) ?_
        refine TD.take 15 rfl (by kernel_rfl) (by kernel_rfl) (by kernel_rfl) (fun _ _ _ h => h) (by repeat first | exact List.Sublist.refl _ | apply List.Sublist.cons_cons | apply List.Sublist.cons) (YF.load (v := .pointer (some ⟨bm, 0, none⟩)) 0 sc_106 rfl rfl (va_get (by decide) rfl)) (by decide) ?_
        refine TD.take 16 rfl (by kernel_rfl) (by kernel_rfl) (by kernel_rfl) (fun _ _ _ h => h) (by repeat first | exact List.Sublist.refl _ | apply List.Sublist.cons_cons | apply List.Sublist.cons) (YF.move rfl) (by decide) ?_
        refine TD.take 17 rfl (by kernel_rfl) (by kernel_rfl) (by kernel_rfl) (fun _ _ _ h => h) (by repeat first | exact List.Sublist.refl _ | apply List.Sublist.cons_cons | apply List.Sublist.cons) (YF.move rfl) (by decide) ?_
        refine TD.take 18 rfl (by kernel_rfl) (by kernel_rfl) (by kernel_rfl) (fun _ _ _ h => h) (by repeat first | exact List.Sublist.refl _ | apply List.Sublist.cons_cons | apply List.Sublist.cons) (YF.nilCheck rfl) (by decide) ?_
        refine TD.take 19 rfl (by kernel_rfl) (by kernel_rfl) (by kernel_rfl) (fun _ _ _ h => h) (by repeat first | exact List.Sublist.refl _ | apply List.Sublist.cons_cons | apply List.Sublist.cons) (YF.fieldAddr fo_91_2 rfl rfl) (by decide) ?_
        refine TD.take 20 rfl (by kernel_rfl) (by kernel_rfl) (by kernel_rfl) (fun _ _ _ h => h) (by repeat first | exact List.Sublist.refl _ | apply List.Sublist.cons_cons | apply List.Sublist.cons) (YF.indexArr arr_89 rfl rfl (by first | decide | omega) rfl) (by decide) ?_
        refine TD.take 21 rfl (by kernel_rfl) (by kernel_rfl) (by kernel_rfl) (fun _ _ _ h => h) (by repeat first | exact List.Sublist.refl _ | apply List.Sublist.cons_cons | apply List.Sublist.cons) (YF.indexArr arr_88 rfl rfl (by first | decide | omega) rfl) (by decide) ?_
        refine TD.take 22 rfl (by kernel_rfl) (by kernel_rfl) (by kernel_rfl) (fun _ _ _ h => h) (by repeat first | exact List.Sublist.refl _ | apply List.Sublist.cons_cons | apply List.Sublist.cons) (YF.indexArr arr_84 rfl rfl (by first | decide | omega) (show _ = 244 + 1152 * g + 576 + j by omega)) (by decide) ?_
        refine TD.take 23 rfl (by kernel_rfl) (by kernel_rfl) (by kernel_rfl) (fun _ _ _ h => h) (by repeat first | exact List.Sublist.refl _ | apply List.Sublist.cons_cons | apply List.Sublist.cons) (YF.load (v := .float .f32 (y j)) 1 sc_82 rfl rfl (by rw [← hr0]; exact zz_get1 (by omega) rfl (by omega))) (by decide) ?_
        refine TD.take 24 rfl (by kernel_rfl) (by kernel_rfl) (by kernel_rfl) (fun _ _ _ h => h) (by repeat first | exact List.Sublist.refl _ | apply List.Sublist.cons_cons | apply List.Sublist.cons) (YF.farith rfl rfl e1) (by decide) ?_
        refine TD.take 25 rfl (by kernel_rfl) (by kernel_rfl) (by kernel_rfl) (fun _ _ _ h => h) (by repeat first | exact List.Sublist.refl _ | apply List.Sublist.cons_cons | apply List.Sublist.cons) (YF.farith rfl rfl e2) (by decide) ?_
        refine TD.take 26 rfl (by kernel_rfl) (by kernel_rfl) (by kernel_rfl) (fun _ _ _ h => h) (by repeat first | exact List.Sublist.refl _ | apply List.Sublist.cons_cons | apply List.Sublist.cons) (YF.assign rfl) (by decide) ?_
        refine TD.end (by kernel_rfl) ?_
        refine Arr.seq ?_
        refine Tr.seq ?_
        refine Tr.drawE (_ :: _ :: _) (fun H => H) rfl mixed_ ?_
        refine TD.take 0 rfl (by kernel_rfl) (by kernel_rfl) (by kernel_rfl) (fun _ _ _ h => h) (by repeat first | exact List.Sublist.refl _ | apply List.Sublist.cons_cons | apply List.Sublist.cons) (YF.move rfl) (by decide) ?_
        refine TD.take 1 rfl (by kernel_rfl) (by kernel_rfl) (by kernel_rfl) (fun _ _ _ h => h) (by repeat first | exact List.Sublist.refl _ | apply List.Sublist.cons_cons | apply List.Sublist.cons) (YF.nilCheck rfl) (by decide) ?_
        refine TD.take 2 rfl (by kernel_rfl) (by kernel_rfl) (by kernel_rfl) (fun _ _ _ h => h) (by repeat first | exact List.Sublist.refl _ | apply List.Sublist.cons_cons | apply List.Sublist.cons) (YF.fieldAddr fo_112_2 rfl rfl) (by decide) ?_
        refine TD.take 3 rfl (by kernel_rfl) (by kernel_rfl) (by kernel_rfl) (fun _ _ _ h => h) (by repeat first | exact List.Sublist.refl _ | apply List.Sublist.cons_cons | apply List.Sublist.cons) (YF.load (v := .pointer (some ⟨bm, 0, none⟩)) 0 sc_106 rfl rfl (va_get (by decide) rfl)) (by decide) ?_
        refine TD.take 4 rfl (by kernel_rfl) (by kernel_rfl) (by kernel_rfl) (fun _ _ _ h => h) (by repeat first | exact List.Sublist.refl _ | apply List.Sublist.cons_cons | apply List.Sublist.cons) (YF.move rfl) (by decide) ?_
        refine TD.take 5 rfl (by kernel_rfl) (by kernel_rfl) (by kernel_rfl) (fun _ _ _ h => h) (by repeat first | exact List.Sublist.refl _ | apply List.Sublist.cons_cons | apply List.Sublist.cons) (YF.move rfl) (by decide) ?_
        refine TD.take 6 rfl (by kernel_rfl) (by kernel_rfl) (by kernel_rfl) (fun _ _ _ h => h) (by repeat first | exact List.Sublist.refl _ | apply List.Sublist.cons_cons | apply List.Sublist.cons) (YF.nilCheck rfl) (by decide) ?_
        refine TD.take 7 rfl (by kernel_rfl) (by kernel_rfl) (by kernel_rfl) (fun _ _ _ h => h) (by repeat first | exact List.Sublist.refl _ | apply List.Sublist.cons_cons | apply List.Sublist.cons) (YF.fieldAddr fo_91_2 rfl rfl) (by decide) ?_
        refine TD.take 8 rfl (by kernel_rfl) (by kernel_rfl) (by kernel_rfl) (fun _ _ _ h => h) (by repeat first | exact List.Sublist.refl _ | apply List.Sublist.cons_cons | apply List.Sublist.cons) (YF.indexArr arr_89 rfl rfl (by first | decide | omega) rfl) (by decide) ?_
        refine TD.take 9 rfl (by kernel_rfl) (by kernel_rfl) (by kernel_rfl) (fun _ _ _ h => h) (by repeat first | exact List.Sublist.refl _ | apply List.Sublist.cons_cons | apply List.Sublist.cons) (YF.indexArr arr_88 rfl rfl (by first | decide | omega) rfl) (by decide) ?_
        refine TD.take 10 rfl (by kernel_rfl) (by kernel_rfl) (by kernel_rfl) (fun _ _ _ h => h) (by repeat first | exact List.Sublist.refl _ | apply List.Sublist.cons_cons | apply List.Sublist.cons) (YF.indexArr arr_84 rfl rfl (by first | decide | omega) (show _ = 244 + 1152 * g + j by omega)) (by decide) ?_
        refine TD.take 11 rfl (by kernel_rfl) (by kernel_rfl) (by kernel_rfl) (fun _ _ _ h => h) (by repeat first | exact List.Sublist.refl _ | apply List.Sublist.cons_cons | apply List.Sublist.cons) (YF.load (v := .float .f32 (x j)) 1 sc_82 rfl rfl (by rw [← hl0]; exact zz_get0 (by omega) rfl (by omega))) (by decide) ?_
        refine TD.take 12 rfl (by kernel_rfl) (by kernel_rfl) (by kernel_rfl) (fun _ _ _ h => h) (by repeat first | exact List.Sublist.refl _ | apply List.Sublist.cons_cons | apply List.Sublist.cons) (YF.move rfl) (by decide) ?_
        refine TD.take 13 rfl (by kernel_rfl) (by kernel_rfl) (by kernel_rfl) (fun _ _ _ h => h) (by repeat first | exact List.Sublist.refl _ | apply List.Sublist.cons_cons | apply List.Sublist.cons) (YF.nilCheck rfl) (by decide) ?_
        refine TD.take 14 rfl (by kernel_rfl) (by kernel_rfl) (by kernel_rfl) (fun _ _ _ h => h) (by repeat first | exact List.Sublist.refl _ | apply List.Sublist.cons_cons | apply List.Sublist.cons) (YF.fieldAddr fo_112_2 rfl rfl) (by decide) ?_
        refine TD.take 15 rfl (by kernel_rfl) (by kernel_rfl) (by kernel_rfl) (fun _ _ _ h => h) (by repeat first | exact List.Sublist.refl _ | apply List.Sublist.cons_cons | apply List.Sublist.cons) (YF.load (v := .pointer (some ⟨bm, 0, none⟩)) 0 sc_106 rfl rfl (va_get (by decide) rfl)) (by decide) ?_
        refine TD.take 16 rfl (by kernel_rfl) (by kernel_rfl) (by kernel_rfl) (fun _ _ _ h => h) (by repeat first | exact List.Sublist.refl _ | apply List.Sublist.cons_cons | apply List.Sublist.cons) (YF.move rfl) (by decide) ?_
        refine TD.take 17 rfl (by kernel_rfl) (by kernel_rfl) (by kernel_rfl) (fun _ _ _ h => h) (by repeat first | exact List.Sublist.refl _ | apply List.Sublist.cons_cons | apply List.Sublist.cons) (YF.move rfl) (by decide) ?_
        refine TD.take 18 rfl (by kernel_rfl) (by kernel_rfl) (by kernel_rfl) (fun _ _ _ h => h) (by repeat first | exact List.Sublist.refl _ | apply List.Sublist.cons_cons | apply List.Sublist.cons) (YF.nilCheck rfl) (by decide) ?_
        refine TD.take 19 rfl (by kernel_rfl) (by kernel_rfl) (by kernel_rfl) (fun _ _ _ h => h) (by repeat first | exact List.Sublist.refl _ | apply List.Sublist.cons_cons | apply List.Sublist.cons) (YF.fieldAddr fo_91_2 rfl rfl) (by decide) ?_
        refine TD.take 20 rfl (by kernel_rfl) (by kernel_rfl) (by kernel_rfl) (fun _ _ _ h => h) (by repeat first | exact List.Sublist.refl _ | apply List.Sublist.cons_cons | apply List.Sublist.cons) (YF.indexArr arr_89 rfl rfl (by first | decide | omega) rfl) (by decide) ?_
        refine TD.take 21 rfl (by kernel_rfl) (by kernel_rfl) (by kernel_rfl) (fun _ _ _ h => h) (by repeat first | exact List.Sublist.refl _ | apply List.Sublist.cons_cons | apply List.Sublist.cons) (YF.indexArr arr_88 rfl rfl (by first | decide | omega) rfl) (by decide) ?_
        refine TD.take 22 rfl (by kernel_rfl) (by kernel_rfl) (by kernel_rfl) (fun _ _ _ h => h) (by repeat first | exact List.Sublist.refl _ | apply List.Sublist.cons_cons | apply List.Sublist.cons) (YF.indexArr arr_84 rfl rfl (by first | decide | omega) (show _ = 244 + 1152 * g + 576 + j by omega)) (by decide) ?_
        refine TD.take 23 rfl (by kernel_rfl) (by kernel_rfl) (by kernel_rfl) (fun _ _ _ h => h) (by repeat first | exact List.Sublist.refl _ | apply List.Sublist.cons_cons | apply List.Sublist.cons) (YF.load (v := .float .f32 (y j)) 1 sc_82 rfl rfl (by rw [← hr0]; exact zz_get1 (by omega) rfl (by omega))) (by decide) ?_
        refine TD.take 24 rfl (by kernel_rfl) (by kernel_rfl) (by kernel_rfl) (fun _ _ _ h => h) (by repeat first | exact List.Sublist.refl _ | apply List.Sublist.cons_cons | apply List.Sublist.cons) (YF.farith rfl rfl e3) (by decide) ?_
        refine TD.take 25 rfl (by kernel_rfl) (by kernel_rfl) (by kernel_rfl) (fun _ _ _ h => h) (by repeat first | exact List.Sublist.refl _ | apply List.Sublist.cons_cons | apply List.Sublist.cons) (YF.farith rfl rfl e4) (by decide) ?_
        refine TD.take 26 rfl (by kernel_rfl) (by kernel_rfl) (by kernel_rfl) (fun _ _ _ h => h) (by repeat first | exact List.Sublist.refl _ | apply List.Sublist.cons_cons | apply List.Sublist.cons) (YF.assign rfl) (by decide) ?_
        refine TD.end (by kernel_rfl) ?_
        refine Arr.seq ?_
        refine Tr.seq ?_
        refine Tr.region ?_
        refine TL.val (YF.move rfl) (by decide) ?_
        refine TL.val (YF.nilCheck rfl) (by decide) ?_
        refine TL.val (YF.fieldAddr fo_112_2 rfl rfl) (by decide) ?_
        refine TL.val (YF.load (v := .pointer (some ⟨bm, 0, none⟩)) 0 sc_106 rfl rfl (va_get (by decide) rfl)) (by decide) ?_
        refine TL.val (YF.move rfl) (by decide) ?_
        refine TL.val (YF.move rfl) (by decide) ?_
        refine TL.val (YF.move rfl) (by decide) ?_
        refine TL.val (YF.nilCheck rfl) (by decide) ?_
        refine TL.val (YF.fieldAddr fo_91_2 rfl rfl) (by decide) ?_
        refine TL.val (YF.indexArr arr_89 rfl rfl (by first | decide | omega) rfl) (by decide) ?_
        refine TL.val (YF.indexArr arr_88 rfl rfl (by first | decide | omega) rfl) (by decide) ?_
        refine TL.val (YF.indexArr arr_84 rfl rfl (by first | decide | omega) (show _ = 244 + 1152 * g + j by omega)) (by decide) ?_
        refine TL.storeV 1 (_ :: _ :: _) rfl rfl rfl sz_82 rfl (by rw [va_size]; omega) (zz_set0 (by omega) rfl) rfl ?_
        refine TL.end ?_
        refine Arr.seq ?_
        refine Tr.region ?_
        refine TL.val (YF.move rfl) (by decide) ?_
        refine TL.val (YF.nilCheck rfl) (by decide) ?_
        refine TL.val (YF.fieldAddr fo_112_2 rfl rfl) (by decide) ?_
        refine TL.val (YF.load (v := .pointer (some ⟨bm, 0, none⟩)) 0 sc_106 rfl rfl (va_get (by decide) rfl)) (by decide) ?_
        refine TL.val (YF.move rfl) (by decide) ?_
        refine TL.val (YF.move rfl) (by decide) ?_
        refine TL.val (YF.move rfl) (by decide) ?_
        refine TL.val (YF.nilCheck rfl) (by decide) ?_
        refine TL.val (YF.fieldAddr fo_91_2 rfl rfl) (by decide) ?_
        refine TL.val (YF.indexArr arr_89 rfl rfl (by first | decide | omega) rfl) (by decide) ?_
        refine TL.val (YF.indexArr arr_88 rfl rfl (by first | decide | omega) rfl) (by decide) ?_
        refine TL.val (YF.indexArr arr_84 rfl rfl (by first | decide | omega) (show _ = 244 + 1152 * g + 576 + j by omega)) (by decide) ?_
        refine TL.storeV 1 (_ :: _ :: _) rfl rfl rfl sz_82 rfl (by rw [va_size]; omega) (zz_set1 (by omega) rfl) rfl ?_
        refine TL.end ?_
        refine Arr.block ?_
        refine Arr.seq ?_
        refine Tr.region ?_
        refine TL.val (YF.move rfl) (by decide) ?_
        refine TL.val (YF.add rfl rfl (IntWalk.i64_in _ (by omega))) (by decide) ?_
        refine TL.val (YF.assign rfl) (by decide) ?_
        refine TL.end ?_
        exact fun a w ha hw => ⟨_, by omega, j + 1, upd l j pp, upd r j qq, rfl, by omega, hM.step p1 q1, (ha.cons rfl (ha.cons rfl (ha.cons rfl (ha.cons rfl (ha.nil))))), hw⟩
      ·
        replace h54 := of_decide_eq_false h54
        refine Tr.exitE ?_
        refine Arr.seqX ?_
        refine Arr.seqX ?_
        refine Arr.blockE ?_
        refine Arr.meet ?_
        first
          | (have e : j = 576 := by omega
             subst e
             exact fun a w ha hw => ⟨l, r, ⟨fun _ => hM, fun hn => absurd (hsb.1 h19) hn⟩, (ha.cons rfl (ha.cons rfl (ha.nil))), hw⟩)
          | exact fun a w ha hw => ⟨x, y, ⟨fun hn => (by rw [hsb.2 hn] at h19; cases h19), fun _ => ⟨rfl, rfl⟩⟩, (ha.cons rfl (ha.cons rfl (ha.nil))), hw⟩
    ·
      refine Tr.skipE ?_
      refine Arr.meet ?_
      first
        | (have e : j = 576 := by omega
           subst e
           exact fun a w ha hw => ⟨l, r, ⟨fun _ => hM, fun hn => absurd (hsb.1 h19) hn⟩, (ha.cons rfl (ha.cons rfl (ha.nil))), hw⟩)
        | exact fun a w ha hw => ⟨x, y, ⟨fun hn => (by rw [hsb.2 hn] at h19; cases h19), fun _ => ⟨rfl, rfl⟩⟩, (ha.cons rfl (ha.cons rfl (ha.nil))), hw⟩
  rintro a w ⟨l, r, hS, ha, hw⟩
  refine Arr.use ha hw ?_
  refine Arr.seq ?_
  refine Tr.seq ?_
  refine Tr.region ?_
  refine TL.val (YF.move rfl) (by decide) ?_
  refine TL.val (YF.nilCheck rfl) (by decide) ?_
  refine TL.val (YF.fieldAddr fo_112_0 rfl rfl) (by decide) ?_
  refine TL.val (YF.load (v := .int .u32 wd) 0 sc_105 rfl rfl (va_get (by decide) rfl)) (by decide) ?_
  refine TL.call (vs := [_]) call_45 rfl (by decide) (intensity_ct _ w0 _ hwd hJ) ?_
  rintro _ _ ⟨rfl, rfl⟩
  refine TL.end ?_
  refine Arr.seq ?_
  refine Tr.condF rfl ?_
  refine Tr.skipE ?_
  exact Ends.noRes rfl ⟨l, r, hS, rfl⟩

/-- As 'lined', two rows told as floats. -/
theorem lined2_ct (x : Nat → Int) (y : Nat → Value) (ls : Nat → Nat → Value) (g : Nat) (l r : Nat → Nat) (w0 : World) (H : Hp) (hls : ∀ i, i < 4 → LL H (y i) (ls i)) (hg : g < 2) (hl : ∀ k, k < 576 → ls (2 * g) k = .float .f32 (l k)) (hr : ∀ k, k < 576 → ls (2 * g + 1) k = .float .f32 (r k)) :
    Ct Tryd.prog 29 #[.agg (va 248 (mn x y))] w0 H (fun v H' => v = .agg (va 2548 (zz (mdk x ls 4) (244 + 1152 * g) l r)) ∧ H' = H) :=
  (lined_ct x y ls w0 H hls).mono fun v H' h => ⟨by rw [h.1, mdk_zz hg hl hr], h.2⟩

theorem zzStereo_ct (wd : Int) (s : Nat → Int) (x y : Nat → Nat) (z0 : Nat → Value) (g : Nat) (G : Rat) (i bsi : Nat) (hg : g < 2) (t' : TypeId) (f' : Nat × Nat) (w0 : World) (H : Hp) (hi : H[i]? = some (bsi, .cells (va 86 (sd s)) t' f')) (hwd : 0 ≤ wd ∧ wd < 4294967296) (hJ : wd / 16 % 4 = 0 ∨ wd / 16 % 4 = 2) (hG0 : 0 ≤ G) (hG : G ≤ 100) (hx : ∀ q, q < 576 → Fin single (x q) ∧ mg (V single (x q)) ≤ G) (hy : ∀ q, q < 576 → Fin single (y q) ∧ mg (V single (y q)) ≤ G) (hc0 : s (82 + 2 * g) = 576) (hc1 : s (82 + 2 * g + 1) = 576) : Ct Tryd.prog 31 #[.int .u32 wd, .pointer (some ⟨bsi, 0, none⟩), .agg (va 2548 (zz z0 (244 + 1152 * g) x y)), .int .i64 g] w0 (H) (fun v H' => ∃ l r, SR (wd / 64 % 4) (wd / 16 % 4) (G / 1000000 + 1 / 10 ^ 30) x y l r ∧ v = .agg (va 1152 (two l r)) ∧ H' = H) := by
  refine Ct.of_body (n := 26) (E := [(0, _), (1, _), (2, _), (3, _)]) Tryd.func31 rfl rfl rfl rfl ?_
  refine Tr.seq ?_
  refine Tr.region ?_
  refine TL.box rfl (by decide) (fun b7 => ?_)
  refine TL.allocA zero_88 (by decide) (fun b10 => ?_)
  refine TL.end ?_
  refine Arr.seq ?_
  refine Tr.seq ?_
  refine Tr.region ?_
  refine TL.val (YF.move rfl) (by decide) ?_
  refine TL.val (YF.move rfl) (by decide) ?_
  refine TL.val (YF.loadAll 1 agg_91 rfl rfl (va_size _ _)) (by decide) ?_
  refine TL.call (vs := [_, _, _]) call_36 rfl (by decide) (zzFrame_ct wd (some ⟨bsi, 0, none⟩) (zz z0 (244 + 1152 * g) x y) w0 _) ?_
  rintro _ _ ⟨bf, bm, rfl, rfl⟩
  refine TL.val (YF.assign rfl) (by decide) ?_
  refine TL.end ?_
  refine Arr.seq ?_
  refine Tr.seq ?_
  refine Tr.region ?_
  refine TL.val (YF.move rfl) (by decide) ?_
  refine TL.val (YF.move rfl) (by decide) ?_
  refine TL.call (vs := [_, _]) call_39 rfl (by decide) (stereo_ct wd s x y z0 g G (i + 2) bf bm bsi hg _ _ w0 _ hi hwd hJ hG0 hG hx hy hc0 hc1) ?_
  rintro _ _ ⟨l, r, hS, rfl⟩
  refine TL.heap (_ :: _ :: _) rfl ?_
  refine TL.end ?_
  refine Arr.seq ?_
  refine Tr.seq ?_
  refine Tr.region ?_
  refine TL.val (YF.move rfl) (by decide) ?_
  refine TL.val (YF.nilCheck rfl) (by decide) ?_
  refine TL.val (YF.fieldAddr fo_112_2 rfl rfl) (by decide) ?_
  refine TL.val (YF.load (v := .pointer (some ⟨bm, 0, none⟩)) 0 sc_106 rfl rfl (va_get (by decide) rfl)) (by decide) ?_
  refine TL.val (YF.move rfl) (by decide) ?_
  refine TL.val (YF.nilCheck rfl) (by decide) ?_
  refine TL.val (YF.fieldAddr fo_91_2 rfl rfl) (by decide) ?_
  refine TL.val (YF.indexArr arr_89 rfl rfl (by first | decide | omega) (show _ = 244 + 1152 * g by omega)) (by decide) ?_
  refine TL.val (YF.loadAgg (v := va 1152 (two l r)) 1 agg_88 rfl rfl (by rw [va_size]; omega) (zz_rows (by omega) rfl)) (by decide) ?_
  refine TL.storeAll 2 (_ :: _ :: _ :: _ :: H) rfl rfl rfl sz_88 (va_size _ _) Zsz_88 (two_one _ _ _) rfl ?_
  refine TL.end ?_
  refine Arr.seq ?_
  refine Tr.retE ?_
  refine Ends.cellG 2 rfl rfl agg_88 rfl (va_size _ _) ?_ ⟨l, r, hS, rfl, rfl⟩
  exact (by repeat first | exact List.Sublist.refl _ | apply List.Sublist.cons_cons | apply List.Sublist.cons)

theorem implStereo_ct (wd : Int) (s xm : Nat → Int) (ym : Nat → Value) (ls : Nat → Nat → Value) (x y : Nat → Nat) (g : Nat) (G : Rat) (hg : g < 2) (w0 : World) (H : Hp) (hls : ∀ i, i < 4 → LL H (ym i) (ls i)) (hlx : ∀ k, k < 576 → ls (2 * g) k = .float .f32 (x k)) (hly : ∀ k, k < 576 → ls (2 * g + 1) k = .float .f32 (y k)) (hwd : 0 ≤ wd ∧ wd < 4294967296) (hJ : wd / 16 % 4 = 0 ∨ wd / 16 % 4 = 2) (hG0 : 0 ≤ G) (hG : G ≤ 100) (hx : ∀ q, q < 576 → Fin single (x q) ∧ mg (V single (x q)) ≤ G) (hy : ∀ q, q < 576 → Fin single (y q) ∧ mg (V single (y q)) ≤ G) (hc0 : s (82 + 2 * g) = 576) (hc1 : s (82 + 2 * g + 1) = 576) : Ct Tryd.prog 18 #[.int .u32 wd, .agg (va 86 (sd s)), .agg (va 248 (mn xm ym)), .int .i64 g] w0 (H) (fun v H' => ∃ b l r, SR (wd / 64 % 4) (wd / 16 % 4) (G / 1000000 + 1 / 10 ^ 30) x y l r ∧ v = .tuple #[.slice (some ⟨b, 0, none⟩) 576 576, .slice (some ⟨b, 576, none⟩) 576 576] ∧ H' = (b, .cells (va 1152 (two l r)) 88 (0, 0)) :: H) := by
  refine Ct.of_body (n := 25) (E := [(0, _), (1, _), (2, _), (3, _)]) Tryd.func18 rfl rfl rfl rfl ?_
  refine Tr.seq ?_
  refine Tr.region ?_
  refine TL.box rfl (by decide) (fun b6 => ?_)
  refine TL.box rfl (by decide) (fun b7 => ?_)
  refine TL.val (YF.assign rfl) (by decide) ?_
  refine TL.val (YF.assign rfl) (by decide) ?_
  refine TL.end ?_
  refine Arr.seq ?_
  refine Tr.seq ?_
  refine Tr.seq ?_
  refine Tr.region ?_
  refine TL.val (YF.move rfl) (by decide) ?_
  refine TL.call (vs := [_, _]) call_26 rfl (by decide) (place_ct g 0 hg (by decide) w0 _) ?_
  rintro _ _ ⟨rfl, rfl⟩
  refine TL.val (YF.not rfl rfl) (by decide) ?_
  refine TL.end ?_
  refine Arr.seq ?_
  refine Tr.condF rfl ?_
  refine Tr.skipE ?_
  refine Arr.seq ?_
  refine Tr.seq ?_
  refine Tr.drawE (_ :: _ :: _) (fun H => H) rfl mixed_ ?_
  refine TD.take 0 rfl (by kernel_rfl) (by kernel_rfl) (by kernel_rfl) (fun _ _ _ h => h) (by repeat first | exact List.Sublist.refl _ | apply List.Sublist.cons_cons | apply List.Sublist.cons) (YF.move rfl) (by decide) ?_
  refine TD.take 1 rfl (by kernel_rfl) (by kernel_rfl) (by kernel_rfl) (fun _ _ _ h => h) (by repeat first | exact List.Sublist.refl _ | apply List.Sublist.cons_cons | apply List.Sublist.cons) (YF.loadAll 1 agg_36 rfl rfl (va_size _ _)) (by decide) ?_
  refine TD.take 3 rfl (by kernel_rfl) (by kernel_rfl) (by kernel_rfl) (fun _ _ _ h => h) (by repeat first | exact List.Sublist.refl _ | apply List.Sublist.cons_cons | apply List.Sublist.cons) (YF.loadAll 0 agg_47 rfl rfl (va_size _ _)) (by decide) ?_
  refine TD.take 5 rfl (by kernel_rfl) (by kernel_rfl) (by kernel_rfl) (fun _ _ _ h => h) (by repeat first | exact List.Sublist.refl _ | apply List.Sublist.cons_cons | apply List.Sublist.cons) (YF.move rfl) (by decide) ?_
  refine TD.two 2 7 (by kernel_rfl) ?_ ?_
  ·
    refine TO.eff 2 rfl (EF.call (vs := [_]) call_28 rfl (made_ct s w0 _)) (by decide) (by rintro _ _ ⟨b, rfl, rfl⟩; exact (by repeat first | exact List.Sublist.refl _ | apply List.Sublist.cons_cons | apply List.Sublist.cons)) ?_
    rintro _ _ ⟨bs, rfl, rfl⟩
    refine TD.two 4 7 (by kernel_rfl) ?_ ?_
    ·
      refine TO.eff 4 rfl (EF.call (vs := [_]) call_29 rfl (lined2_ct xm ym ls g x y w0 _ (fun k hk => (hls k hk).mono fun q hq => by repeat (first | exact hq | apply List.mem_cons_of_mem)) hg hlx hly)) (by decide) (by rintro _ _ ⟨rfl, rfl⟩; exact (by repeat first | exact List.Sublist.refl _ | apply List.Sublist.cons_cons | apply List.Sublist.cons)) ?_
      rintro _ _ ⟨rfl, rfl⟩
      refine TD.two 6 7 (by kernel_rfl) ?_ ?_
      ·
        refine TO.eff 6 rfl (EF.call (vs := [_, _, _, _]) call_31 rfl (zzStereo_ct wd s x y (mdk xm ls 4) g G 0 bs hg _ _ w0 _ rfl hwd hJ hG0 hG hx hy hc0 hc1)) (by decide) (by rintro _ _ ⟨l, r, hS, rfl, rfl⟩; exact (by repeat first | exact List.Sublist.refl _ | apply List.Sublist.cons_cons | apply List.Sublist.cons)) ?_
        rintro _ _ ⟨l, r, hS, rfl, rfl⟩
        refine TD.eff 7 rfl (by kernel_rfl) (EF.alloc zero_88) (by decide) (by rintro _ _ ⟨_, rfl, rfl⟩; exact (by repeat first | exact List.Sublist.refl _ | apply List.Sublist.cons_cons | apply List.Sublist.cons)) ?_
        rintro _ _ ⟨b11, rfl, rfl⟩
        refine TD.eff0 8 rfl (by kernel_rfl) (EF.storeAll 0 rfl rfl rfl sz_88 (va_size _ _) Zsz_88 (two_one _ _ _)) (by rintro _ _ rfl; exact (by repeat first | exact List.Sublist.refl _ | apply List.Sublist.cons_cons | apply List.Sublist.cons)) ?_
        rintro _ _ rfl
        refine TD.heap (_ :: _ :: _ :: _ :: _) rfl ?_
        refine TD.end (by kernel_rfl) ?_
        refine Arr.seq ?_
        refine Tr.seq ?_
        refine Tr.drawE (_ :: _ :: _ :: _ :: _) (fun H => H) rfl mixed_ ?_
        refine TD.take 0 rfl (by kernel_rfl) (by kernel_rfl) (by kernel_rfl) (fun _ _ _ h => h) (by repeat first | exact List.Sublist.refl _ | apply List.Sublist.cons_cons | apply List.Sublist.cons) (YF.indexArr arr_88 rfl rfl (by first | decide | omega) (show _ = 0 by omega)) (by decide) ?_
        refine TD.take 1 rfl (by kernel_rfl) (by kernel_rfl) (by kernel_rfl) (fun _ _ _ h => h) (by repeat first | exact List.Sublist.refl _ | apply List.Sublist.cons_cons | apply List.Sublist.cons) (YF.sliceArr arr_84 rfl) (by decide) ?_
        refine TD.take 2 rfl (by kernel_rfl) (by kernel_rfl) (by kernel_rfl) (fun _ _ _ h => h) (by repeat first | exact List.Sublist.refl _ | apply List.Sublist.cons_cons | apply List.Sublist.cons) (YF.indexArr arr_88 rfl rfl (by first | decide | omega) (show _ = 576 by omega)) (by decide) ?_
        refine TD.take 3 rfl (by kernel_rfl) (by kernel_rfl) (by kernel_rfl) (fun _ _ _ h => h) (by repeat first | exact List.Sublist.refl _ | apply List.Sublist.cons_cons | apply List.Sublist.cons) (YF.sliceArr arr_84 rfl) (by decide) ?_
        refine TD.take 4 rfl (by kernel_rfl) (by kernel_rfl) (by kernel_rfl) (fun _ _ _ h => h) (by repeat first | exact List.Sublist.refl _ | apply List.Sublist.cons_cons | apply List.Sublist.cons) (YF.assign rfl) (by decide) ?_
        refine TD.take 5 rfl (by kernel_rfl) (by kernel_rfl) (by kernel_rfl) (fun _ _ _ h => h) (by repeat first | exact List.Sublist.refl _ | apply List.Sublist.cons_cons | apply List.Sublist.cons) (YF.assign rfl) (by decide) ?_
        refine TD.end (by kernel_rfl) ?_
        refine Arr.seq ?_
        refine Tr.retE ?_
        refine Ends.sub ?_ (Ends.tmp2 rfl rfl rfl ⟨b11, l, r, hS, rfl, rfl⟩)
        exact (by repeat first | exact List.Sublist.refl _ | apply List.Sublist.cons_cons | apply List.Sublist.cons)
      ·
        refine TO.eff 7 rfl (EF.alloc zero_88) (by decide) (by rintro _ _ ⟨_, rfl, rfl⟩; exact (by repeat first | exact List.Sublist.refl _ | apply List.Sublist.cons_cons | apply List.Sublist.cons)) ?_
        rintro _ _ ⟨b11, rfl, rfl⟩
        refine TD.eff 6 rfl (by kernel_rfl) (EF.call (vs := [_, _, _, _]) call_31 rfl (zzStereo_ct wd s x y (mdk xm ls 4) g G 1 bs hg _ _ w0 _ rfl hwd hJ hG0 hG hx hy hc0 hc1)) (by decide) (by rintro _ _ ⟨l, r, hS, rfl, rfl⟩; exact (by repeat first | exact List.Sublist.refl _ | apply List.Sublist.cons_cons | apply List.Sublist.cons)) ?_
        rintro _ _ ⟨l, r, hS, rfl, rfl⟩
        refine TD.eff0 8 rfl (by kernel_rfl) (EF.storeAll 0 rfl rfl rfl sz_88 (va_size _ _) Zsz_88 (two_one _ _ _)) (by rintro _ _ rfl; exact (by repeat first | exact List.Sublist.refl _ | apply List.Sublist.cons_cons | apply List.Sublist.cons)) ?_
        rintro _ _ rfl
        refine TD.heap (_ :: _ :: _ :: _ :: _) rfl ?_
        refine TD.end (by kernel_rfl) ?_
        refine Arr.seq ?_
        refine Tr.seq ?_
        refine Tr.drawE (_ :: _ :: _ :: _ :: _) (fun H => H) rfl mixed_ ?_
        refine TD.take 0 rfl (by kernel_rfl) (by kernel_rfl) (by kernel_rfl) (fun _ _ _ h => h) (by repeat first | exact List.Sublist.refl _ | apply List.Sublist.cons_cons | apply List.Sublist.cons) (YF.indexArr arr_88 rfl rfl (by first | decide | omega) (show _ = 0 by omega)) (by decide) ?_
        refine TD.take 1 rfl (by kernel_rfl) (by kernel_rfl) (by kernel_rfl) (fun _ _ _ h => h) (by repeat first | exact List.Sublist.refl _ | apply List.Sublist.cons_cons | apply List.Sublist.cons) (YF.sliceArr arr_84 rfl) (by decide) ?_
        refine TD.take 2 rfl (by kernel_rfl) (by kernel_rfl) (by kernel_rfl) (fun _ _ _ h => h) (by repeat first | exact List.Sublist.refl _ | apply List.Sublist.cons_cons | apply List.Sublist.cons) (YF.indexArr arr_88 rfl rfl (by first | decide | omega) (show _ = 576 by omega)) (by decide) ?_
        refine TD.take 3 rfl (by kernel_rfl) (by kernel_rfl) (by kernel_rfl) (fun _ _ _ h => h) (by repeat first | exact List.Sublist.refl _ | apply List.Sublist.cons_cons | apply List.Sublist.cons) (YF.sliceArr arr_84 rfl) (by decide) ?_
        refine TD.take 4 rfl (by kernel_rfl) (by kernel_rfl) (by kernel_rfl) (fun _ _ _ h => h) (by repeat first | exact List.Sublist.refl _ | apply List.Sublist.cons_cons | apply List.Sublist.cons) (YF.assign rfl) (by decide) ?_
        refine TD.take 5 rfl (by kernel_rfl) (by kernel_rfl) (by kernel_rfl) (fun _ _ _ h => h) (by repeat first | exact List.Sublist.refl _ | apply List.Sublist.cons_cons | apply List.Sublist.cons) (YF.assign rfl) (by decide) ?_
        refine TD.end (by kernel_rfl) ?_
        refine Arr.seq ?_
        refine Tr.retE ?_
        refine Ends.sub ?_ (Ends.tmp2 rfl rfl rfl ⟨b11, l, r, hS, rfl, rfl⟩)
        exact (by repeat first | exact List.Sublist.refl _ | apply List.Sublist.cons_cons | apply List.Sublist.cons)
    ·
      refine TO.eff 7 rfl (EF.alloc zero_88) (by decide) (by rintro _ _ ⟨_, rfl, rfl⟩; exact (by repeat first | exact List.Sublist.refl _ | apply List.Sublist.cons_cons | apply List.Sublist.cons)) ?_
      rintro _ _ ⟨b11, rfl, rfl⟩
      refine TD.eff 4 rfl (by kernel_rfl) (EF.call (vs := [_]) call_29 rfl (lined2_ct xm ym ls g x y w0 _ (fun k hk => (hls k hk).mono fun q hq => by repeat (first | exact hq | apply List.mem_cons_of_mem)) hg hlx hly)) (by decide) (by rintro _ _ ⟨rfl, rfl⟩; exact (by repeat first | exact List.Sublist.refl _ | apply List.Sublist.cons_cons | apply List.Sublist.cons)) ?_
      rintro _ _ ⟨rfl, rfl⟩
      refine TD.eff 6 rfl (by kernel_rfl) (EF.call (vs := [_, _, _, _]) call_31 rfl (zzStereo_ct wd s x y (mdk xm ls 4) g G 1 bs hg _ _ w0 _ rfl hwd hJ hG0 hG hx hy hc0 hc1)) (by decide) (by rintro _ _ ⟨l, r, hS, rfl, rfl⟩; exact (by repeat first | exact List.Sublist.refl _ | apply List.Sublist.cons_cons | apply List.Sublist.cons)) ?_
      rintro _ _ ⟨l, r, hS, rfl, rfl⟩
      refine TD.eff0 8 rfl (by kernel_rfl) (EF.storeAll 0 rfl rfl rfl sz_88 (va_size _ _) Zsz_88 (two_one _ _ _)) (by rintro _ _ rfl; exact (by repeat first | exact List.Sublist.refl _ | apply List.Sublist.cons_cons | apply List.Sublist.cons)) ?_
      rintro _ _ rfl
      refine TD.heap (_ :: _ :: _ :: _ :: _) rfl ?_
      refine TD.end (by kernel_rfl) ?_
      refine Arr.seq ?_
      refine Tr.seq ?_
      refine Tr.drawE (_ :: _ :: _ :: _ :: _) (fun H => H) rfl mixed_ ?_
      refine TD.take 0 rfl (by kernel_rfl) (by kernel_rfl) (by kernel_rfl) (fun _ _ _ h => h) (by repeat first | exact List.Sublist.refl _ | apply List.Sublist.cons_cons | apply List.Sublist.cons) (YF.indexArr arr_88 rfl rfl (by first | decide | omega) (show _ = 0 by omega)) (by decide) ?_
      refine TD.take 1 rfl (by kernel_rfl) (by kernel_rfl) (by kernel_rfl) (fun _ _ _ h => h) (by repeat first | exact List.Sublist.refl _ | apply List.Sublist.cons_cons | apply List.Sublist.cons) (YF.sliceArr arr_84 rfl) (by decide) ?_
      refine TD.take 2 rfl (by kernel_rfl) (by kernel_rfl) (by kernel_rfl) (fun _ _ _ h => h) (by repeat first | exact List.Sublist.refl _ | apply List.Sublist.cons_cons | apply List.Sublist.cons) (YF.indexArr arr_88 rfl rfl (by first | decide | omega) (show _ = 576 by omega)) (by decide) ?_
      refine TD.take 3 rfl (by kernel_rfl) (by kernel_rfl) (by kernel_rfl) (fun _ _ _ h => h) (by repeat first | exact List.Sublist.refl _ | apply List.Sublist.cons_cons | apply List.Sublist.cons) (YF.sliceArr arr_84 rfl) (by decide) ?_
      refine TD.take 4 rfl (by kernel_rfl) (by kernel_rfl) (by kernel_rfl) (fun _ _ _ h => h) (by repeat first | exact List.Sublist.refl _ | apply List.Sublist.cons_cons | apply List.Sublist.cons) (YF.assign rfl) (by decide) ?_
      refine TD.take 5 rfl (by kernel_rfl) (by kernel_rfl) (by kernel_rfl) (fun _ _ _ h => h) (by repeat first | exact List.Sublist.refl _ | apply List.Sublist.cons_cons | apply List.Sublist.cons) (YF.assign rfl) (by decide) ?_
      refine TD.end (by kernel_rfl) ?_
      refine Arr.seq ?_
      refine Tr.retE ?_
      refine Ends.sub ?_ (Ends.tmp2 rfl rfl rfl ⟨b11, l, r, hS, rfl, rfl⟩)
      exact (by repeat first | exact List.Sublist.refl _ | apply List.Sublist.cons_cons | apply List.Sublist.cons)
  ·
    refine TO.eff 7 rfl (EF.alloc zero_88) (by decide) (by rintro _ _ ⟨_, rfl, rfl⟩; exact (by repeat first | exact List.Sublist.refl _ | apply List.Sublist.cons_cons | apply List.Sublist.cons)) ?_
    rintro _ _ ⟨b11, rfl, rfl⟩
    refine TD.eff 2 rfl (by kernel_rfl) (EF.call (vs := [_]) call_28 rfl (made_ct s w0 _)) (by decide) (by rintro _ _ ⟨b, rfl, rfl⟩; exact (by repeat first | exact List.Sublist.refl _ | apply List.Sublist.cons_cons | apply List.Sublist.cons)) ?_
    rintro _ _ ⟨bs, rfl, rfl⟩
    refine TD.eff 4 rfl (by kernel_rfl) (EF.call (vs := [_]) call_29 rfl (lined2_ct xm ym ls g x y w0 _ (fun k hk => (hls k hk).mono fun q hq => by repeat (first | exact hq | apply List.mem_cons_of_mem)) hg hlx hly)) (by decide) (by rintro _ _ ⟨rfl, rfl⟩; exact (by repeat first | exact List.Sublist.refl _ | apply List.Sublist.cons_cons | apply List.Sublist.cons)) ?_
    rintro _ _ ⟨rfl, rfl⟩
    refine TD.eff 6 rfl (by kernel_rfl) (EF.call (vs := [_, _, _, _]) call_31 rfl (zzStereo_ct wd s x y (mdk xm ls 4) g G 0 bs hg _ _ w0 _ rfl hwd hJ hG0 hG hx hy hc0 hc1)) (by decide) (by rintro _ _ ⟨l, r, hS, rfl, rfl⟩; exact (by repeat first | exact List.Sublist.refl _ | apply List.Sublist.cons_cons | apply List.Sublist.cons)) ?_
    rintro _ _ ⟨l, r, hS, rfl, rfl⟩
    refine TD.eff0 8 rfl (by kernel_rfl) (EF.storeAll 1 rfl rfl rfl sz_88 (va_size _ _) Zsz_88 (two_one _ _ _)) (by rintro _ _ rfl; exact (by repeat first | exact List.Sublist.refl _ | apply List.Sublist.cons_cons | apply List.Sublist.cons)) ?_
    rintro _ _ rfl
    refine TD.heap (_ :: _ :: _ :: _ :: _) rfl ?_
    refine TD.end (by kernel_rfl) ?_
    refine Arr.seq ?_
    refine Tr.seq ?_
    refine Tr.drawE (_ :: _ :: _ :: _ :: _) (fun H => H) rfl mixed_ ?_
    refine TD.take 0 rfl (by kernel_rfl) (by kernel_rfl) (by kernel_rfl) (fun _ _ _ h => h) (by repeat first | exact List.Sublist.refl _ | apply List.Sublist.cons_cons | apply List.Sublist.cons) (YF.indexArr arr_88 rfl rfl (by first | decide | omega) (show _ = 0 by omega)) (by decide) ?_
    refine TD.take 1 rfl (by kernel_rfl) (by kernel_rfl) (by kernel_rfl) (fun _ _ _ h => h) (by repeat first | exact List.Sublist.refl _ | apply List.Sublist.cons_cons | apply List.Sublist.cons) (YF.sliceArr arr_84 rfl) (by decide) ?_
    refine TD.take 2 rfl (by kernel_rfl) (by kernel_rfl) (by kernel_rfl) (fun _ _ _ h => h) (by repeat first | exact List.Sublist.refl _ | apply List.Sublist.cons_cons | apply List.Sublist.cons) (YF.indexArr arr_88 rfl rfl (by first | decide | omega) (show _ = 576 by omega)) (by decide) ?_
    refine TD.take 3 rfl (by kernel_rfl) (by kernel_rfl) (by kernel_rfl) (fun _ _ _ h => h) (by repeat first | exact List.Sublist.refl _ | apply List.Sublist.cons_cons | apply List.Sublist.cons) (YF.sliceArr arr_84 rfl) (by decide) ?_
    refine TD.take 4 rfl (by kernel_rfl) (by kernel_rfl) (by kernel_rfl) (fun _ _ _ h => h) (by repeat first | exact List.Sublist.refl _ | apply List.Sublist.cons_cons | apply List.Sublist.cons) (YF.assign rfl) (by decide) ?_
    refine TD.take 5 rfl (by kernel_rfl) (by kernel_rfl) (by kernel_rfl) (fun _ _ _ h => h) (by repeat first | exact List.Sublist.refl _ | apply List.Sublist.cons_cons | apply List.Sublist.cons) (YF.assign rfl) (by decide) ?_
    refine TD.end (by kernel_rfl) ?_
    refine Arr.seq ?_
    refine Tr.retE ?_
    refine Ends.sub ?_ (Ends.tmp2 rfl rfl rfl ⟨b11, l, r, hS, rfl, rfl⟩)
    exact (by repeat first | exact List.Sublist.refl _ | apply List.Sublist.cons_cons | apply List.Sublist.cons)

theorem both_ct (m n : Nat → Nat) (X Y : Nat → Rat) (G : Rat) (i i' bx by' : Nat) (t1 t2 : TypeId) (f1 f2 : Nat × Nat) (w0 : World) (H : Hp) (hi : H[i]? = some (bx, .cells (va 576 (fl .f64 m)) t1 f1)) (hi' : H[i']? = some (by', .cells (va 576 (fl .f64 n)) t2 f2)) (hG0 : 0 ≤ G) (hG : G ≤ 100) (hm : ∀ q, q < 576 → Fin double (m q) ∧ mg (V double (m q)) ≤ G) (hn : ∀ q, q < 576 → Fin double (n q) ∧ mg (V double (n q)) ≤ G) (hX : ∀ q, q < 576 → V double (m q) = X q) (hY : ∀ q, q < 576 → V double (n q) = Y q) : Ct Tryd.prog 19 #[.slice (some ⟨bx, 0, none⟩) 576 576, .slice (some ⟨by', 0, none⟩) 576 576] w0 (H) (fun v H' => ∃ (b0 S0 : Nat) (c0 : Array Value) (l : Nat → Nat) (b1 S1 : Nat) (c1 : Array Value) (r : Nat → Nat) (L : Hp), v = .tuple #[.slice (some ⟨b0, 0, none⟩) 576 S0, .slice (some ⟨b1, 0, none⟩) 576 S1] ∧ H' = L ++ H ∧ (∃ (j : Nat) (t : TypeId) (fr : Nat × Nat), H'[j]? = some (b0, .cells c0 t fr)) ∧ (∃ (j : Nat) (t : TypeId) (fr : Nat × Nat), H'[j]? = some (b1, .cells c1 t fr)) ∧ (∀ k, k < 576 → c0[k]? = some (.float .f64 (l k))) ∧ (∀ k, k < 576 → c1[k]? = some (.float .f64 (r k))) ∧ ∀ k, k < 576 → Ap double (l k) ((X k + Y k) * Cm) (G / 1000000 + 1 / 10 ^ 30) ∧ Ap double (r k) ((X k - Y k) * Cm) (G / 1000000 + 1 / 10 ^ 30)) := by
  refine Ct.of_body (n := 45) (E := [(0, _), (1, _)]) Tryd.func19 rfl rfl rfl rfl ?_
  refine Tr.seq ?_
  refine Tr.region ?_
  refine TL.val (YF.assign rfl) (by decide) ?_
  refine TL.val (YF.assign rfl) (by decide) ?_
  refine TL.end ?_
  refine Arr.seq ?_
  refine Tr.seq ?_
  refine Tr.region ?_
  refine TL.buildSlice (vs := []) (cs := #[]) sl_54 zero_60 rfl rfl (by kernel_rfl) rfl (by decide) (fun b6 => ?_)
  refine TL.buildSlice (vs := []) (cs := #[]) sl_54 zero_60 rfl rfl (by kernel_rfl) rfl (by decide) (fun b7 => ?_)
  refine TL.val (YF.assign rfl) (by decide) ?_
  refine TL.val (YF.assign rfl) (by decide) ?_
  refine TL.end ?_
  refine Arr.seq ?_
  refine Tr.seq ?_
  refine Tr.seq ?_
  refine Tr.region ?_
  refine TL.val (YF.move rfl) (by decide) ?_
  refine TL.val (YF.lenSl sl_54 rfl) (by decide) ?_
  refine TL.val (YF.move rfl) (by decide) ?_
  refine TL.end ?_
  refine Arr.seq ?_
  refine Tr.block ?_
  refine Tr.loop (I := fun mq a w => ∃ (j : Nat) (ba : Nat) (bb : Nat) (ca : Nat) (cb : Nat) (za : Nat → Value) (zb : Nat → Value) (l : Nat → Nat) (r : Nat → Nat), mq = 576 - j ∧ (j ≤ 576) ∧ (j ≤ ca ∧ ca ≤ maxLen) ∧ (j ≤ cb ∧ cb ≤ maxLen) ∧ (∀ k, k < j → Ap double (l k) ((X k + Y k) * Cm) (G / 1000000 + 1 / 10 ^ 30) ∧ Ap double (r k) ((X k - Y k) * Cm) (G / 1000000 + 1 / 10 ^ 30)) ∧ Agree 45 [(0, .slice (some ⟨bx, 0, none⟩) 576 576), (1, .slice (some ⟨by', 0, none⟩) 576 576), (6, .slice (some ⟨ba, 0, none⟩) j ca), (7, .slice (some ⟨bb, 0, none⟩) j cb), (12, .int .i64 576), (13, .int .i64 j)] a ∧ HS w0 ((bb, .cells (va cb (gz j zb r)) 60 (0, 0)) :: (ba, .cells (va ca (gz j za l)) 60 (0, 0)) :: H) w) (576) ?_ ?_
  · intro a w ha hw
    exact ⟨0, b6, b7, 0, 0, fun _ => undef, fun _ => undef, fun _ => 0, fun _ => 0, rfl, by omega, ⟨Nat.le_refl 0, Nat.zero_le _⟩, ⟨Nat.le_refl 0, Nat.zero_le _⟩, fun k hk => absurd hk (by omega), (ha.cons rfl (ha.cons rfl (ha.cons rfl (ha.cons rfl (ha.cons rfl (ha.cons rfl (ha.nil))))))), by first | exact hw | (rw [va_zero]; exact hw)⟩
  rintro _ a w ⟨j, ba, bb, ca, cb, za, zb, l, r, rfl, hj, hca, hcb, hR, ha, hw⟩
  refine Tr.use ha hw ?_
  refine Tr.seq ?_
  refine Tr.region ?_
  refine TL.val (YF.lss rfl rfl rfl) (by decide) ?_
  refine TL.end ?_
  refine Arr.seq ?_
  refine Tr.seq ?_
  refine Tr.cond rfl (fun h14 => ?_) (fun h14 => ?_)
  ·
    replace h14 := of_decide_eq_true h14
    refine Tr.skipE ?_
    refine Arr.seq ?_
    refine Tr.seq ?_
    refine Tr.block ?_
    refine Tr.seq ?_
    refine Tr.region ?_
    refine TL.val (YF.move rfl) (by decide) ?_
    refine TL.val (YF.assign rfl) (by decide) ?_
    refine TL.end ?_
    refine Arr.seq ?_
    obtain ⟨ss, pp, dd, qq, e1, e2, e3, e4, p1, q1⟩ := both_spec (hm j (by omega)).1 (hn j (by omega)).1 hG0 hG (hm j (by omega)).2 (hn j (by omega)).2
    refine Tr.drawE (_) (fun H => ((H.eraseIdx 1).eraseIdx 0)) rfl mixed_ ?_
    refine TD.take 0 rfl (by kernel_rfl) (by kernel_rfl) (by kernel_rfl) (fun _ _ _ h => h) (by repeat first | exact List.Sublist.refl _ | apply List.Sublist.cons_cons | apply List.Sublist.cons) (YF.move rfl) (by decide) ?_
    refine TD.take 1 rfl (by kernel_rfl) (by kernel_rfl) (by kernel_rfl) (fun _ _ _ h => h) (by repeat first | exact List.Sublist.refl _ | apply List.Sublist.cons_cons | apply List.Sublist.cons) (YF.move rfl) (by decide) ?_
    refine TD.take 2 rfl (by kernel_rfl) (by kernel_rfl) (by kernel_rfl) (fun _ _ _ h => h) (by repeat first | exact List.Sublist.refl _ | apply List.Sublist.cons_cons | apply List.Sublist.cons) (YF.move rfl) (by decide) ?_
    refine TD.take 3 rfl (by kernel_rfl) (by kernel_rfl) (by kernel_rfl) (fun _ _ _ h => h) (by repeat first | exact List.Sublist.refl _ | apply List.Sublist.cons_cons | apply List.Sublist.cons) (YF.indexSl sl_54 rfl rfl (by first | decide | omega) (show _ = j by omega)) (by decide) ?_
    refine TD.take 4 rfl (by kernel_rfl) (by kernel_rfl) (by kernel_rfl) (fun _ _ _ h => h) (by repeat first | exact List.Sublist.refl _ | apply List.Sublist.cons_cons | apply List.Sublist.cons) (YF.load i sc_60 rfl hi (va_get (by omega) rfl)) (by decide) ?_
    refine TD.take 5 rfl (by kernel_rfl) (by kernel_rfl) (by kernel_rfl) (fun _ _ _ h => h) (by repeat first | exact List.Sublist.refl _ | apply List.Sublist.cons_cons | apply List.Sublist.cons) (YF.move rfl) (by decide) ?_
    refine TD.take 6 rfl (by kernel_rfl) (by kernel_rfl) (by kernel_rfl) (fun _ _ _ h => h) (by repeat first | exact List.Sublist.refl _ | apply List.Sublist.cons_cons | apply List.Sublist.cons) (YF.move rfl) (by decide) ?_
    refine TD.take 7 rfl (by kernel_rfl) (by kernel_rfl) (by kernel_rfl) (fun _ _ _ h => h) (by repeat first | exact List.Sublist.refl _ | apply List.Sublist.cons_cons | apply List.Sublist.cons) (YF.indexSl sl_54 rfl rfl (by first | decide | omega) (show _ = j by omega)) (by decide) ?_
    refine TD.take 8 rfl (by kernel_rfl) (by kernel_rfl) (by kernel_rfl) (fun _ _ _ h => h) (by repeat first | exact List.Sublist.refl _ | apply List.Sublist.cons_cons | apply List.Sublist.cons) (YF.load i' sc_60 rfl hi' (va_get (by omega) rfl)) (by decide) ?_
    refine TD.take 9 rfl (by kernel_rfl) (by kernel_rfl) (by kernel_rfl) (fun _ _ _ h => h) (by repeat first | exact List.Sublist.refl _ | apply List.Sublist.cons_cons | apply List.Sublist.cons) (YF.farith rfl rfl e1) (by decide) ?_
    refine TD.take 10 rfl (by kernel_rfl) (by kernel_rfl) (by kernel_rfl) (fun _ _ _ h => h) (by repeat first | exact List.Sublist.refl _ | apply List.Sublist.cons_cons | apply List.Sublist.cons) (YF.farith rfl rfl e2) (by decide) ?_
    refine TD.take 13 rfl (by kernel_rfl) (by kernel_rfl) (by kernel_rfl) (fun _ _ _ h => h) (by repeat first | exact List.Sublist.refl _ | apply List.Sublist.cons_cons | apply List.Sublist.cons) (YF.move rfl) (by decide) ?_
    refine TD.take 14 rfl (by kernel_rfl) (by kernel_rfl) (by kernel_rfl) (fun _ _ _ h => h) (by repeat first | exact List.Sublist.refl _ | apply List.Sublist.cons_cons | apply List.Sublist.cons) (YF.move rfl) (by decide) ?_
    refine TD.take 15 rfl (by kernel_rfl) (by kernel_rfl) (by kernel_rfl) (fun _ _ _ h => h) (by repeat first | exact List.Sublist.refl _ | apply List.Sublist.cons_cons | apply List.Sublist.cons) (YF.move rfl) (by decide) ?_
    refine TD.take 16 rfl (by kernel_rfl) (by kernel_rfl) (by kernel_rfl) (fun _ _ _ h => h) (by repeat first | exact List.Sublist.refl _ | apply List.Sublist.cons_cons | apply List.Sublist.cons) (YF.indexSl sl_54 rfl rfl (by first | decide | omega) (show _ = j by omega)) (by decide) ?_
    refine TD.take 17 rfl (by kernel_rfl) (by kernel_rfl) (by kernel_rfl) (fun _ _ _ h => h) (by repeat first | exact List.Sublist.refl _ | apply List.Sublist.cons_cons | apply List.Sublist.cons) (YF.load i sc_60 rfl hi (va_get (by omega) rfl)) (by decide) ?_
    refine TD.take 18 rfl (by kernel_rfl) (by kernel_rfl) (by kernel_rfl) (fun _ _ _ h => h) (by repeat first | exact List.Sublist.refl _ | apply List.Sublist.cons_cons | apply List.Sublist.cons) (YF.move rfl) (by decide) ?_
    refine TD.take 19 rfl (by kernel_rfl) (by kernel_rfl) (by kernel_rfl) (fun _ _ _ h => h) (by repeat first | exact List.Sublist.refl _ | apply List.Sublist.cons_cons | apply List.Sublist.cons) (YF.move rfl) (by decide) ?_
    refine TD.take 20 rfl (by kernel_rfl) (by kernel_rfl) (by kernel_rfl) (fun _ _ _ h => h) (by repeat first | exact List.Sublist.refl _ | apply List.Sublist.cons_cons | apply List.Sublist.cons) (YF.indexSl sl_54 rfl rfl (by first | decide | omega) (show _ = j by omega)) (by decide) ?_
    refine TD.take 21 rfl (by kernel_rfl) (by kernel_rfl) (by kernel_rfl) (fun _ _ _ h => h) (by repeat first | exact List.Sublist.refl _ | apply List.Sublist.cons_cons | apply List.Sublist.cons) (YF.load i' sc_60 rfl hi' (va_get (by omega) rfl)) (by decide) ?_
    refine TD.take 22 rfl (by kernel_rfl) (by kernel_rfl) (by kernel_rfl) (fun _ _ _ h => h) (by repeat first | exact List.Sublist.refl _ | apply List.Sublist.cons_cons | apply List.Sublist.cons) (YF.farith rfl rfl e3) (by decide) ?_
    refine TD.take 23 rfl (by kernel_rfl) (by kernel_rfl) (by kernel_rfl) (fun _ _ _ h => h) (by repeat first | exact List.Sublist.refl _ | apply List.Sublist.cons_cons | apply List.Sublist.cons) (YF.farith rfl rfl e4) (by decide) ?_
    refine TD.two 11 24 (by kernel_rfl) ?_ ?_
    ·
      refine TO.eff 11 rfl (EF.buildSlice (bytes := 0) (vs := [(0, _)]) (cs := #[.float .f64 pp]) sl_54 zero_60 rfl rfl (by kernel_rfl) rfl rfl) (by decide) (by rintro _ _ ⟨_, rfl, rfl⟩; exact (by repeat first | exact List.Sublist.refl _ | apply List.Sublist.cons_cons | apply List.Sublist.cons)) ?_
      rintro _ _ ⟨e1b, rfl, rfl⟩
      refine TD.two 12 24 (by kernel_rfl) ?_ ?_
      ·
        refine TO.eff 12 rfl (EF.appendOne 2 0 sl_54 bytes_60 zero_60 rfl rfl rfl rfl hca (by omega) rfl rfl) (by decide) (by rintro _ _ ⟨_, _, _, _, rfl, rfl⟩; exact (by repeat first | exact List.Sublist.refl _ | apply List.Sublist.cons_cons | apply List.Sublist.cons)) ?_
        rintro _ _ ⟨ba2, ca2, za2, hca2, rfl, rfl⟩
        refine TD.heap (_ :: _ :: _ :: _) rfl ?_
        refine TD.eff 24 rfl (by kernel_rfl) (EF.buildSlice (bytes := 0) (vs := [(0, _)]) (cs := #[.float .f64 qq]) sl_54 zero_60 rfl rfl (by kernel_rfl) rfl rfl) (by decide) (by rintro _ _ ⟨_, rfl, rfl⟩; exact (by repeat first | exact List.Sublist.refl _ | apply List.Sublist.cons_cons | apply List.Sublist.cons)) ?_
        rintro _ _ ⟨e2b, rfl, rfl⟩
        refine TD.eff 25 rfl (by kernel_rfl) (EF.appendOne 3 0 sl_54 bytes_60 zero_60 rfl rfl rfl rfl hcb (by omega) rfl rfl) (by decide) (by rintro _ _ ⟨_, _, _, _, rfl, rfl⟩; exact (by repeat first | exact List.Sublist.refl _ | apply List.Sublist.cons_cons | apply List.Sublist.cons)) ?_
        rintro _ _ ⟨bb2, cb2, zb2, hcb2, rfl, rfl⟩
        refine TD.heap (_ :: _ :: _ :: _ :: _) rfl ?_
        refine TD.take 26 rfl (by kernel_rfl) (by kernel_rfl) (by kernel_rfl) (fun _ _ _ h => h) (by repeat first | exact List.Sublist.refl _ | apply List.Sublist.cons_cons | apply List.Sublist.cons) (YF.assign rfl) (by decide) ?_
        refine TD.take 27 rfl (by kernel_rfl) (by kernel_rfl) (by kernel_rfl) (fun _ _ _ h => h) (by repeat first | exact List.Sublist.refl _ | apply List.Sublist.cons_cons | apply List.Sublist.cons) (YF.assign rfl) (by decide) ?_
        refine TD.end (by kernel_rfl) ?_
        refine Arr.block ?_
        refine Arr.seq ?_
        refine Tr.region ?_
        refine TL.val (YF.add rfl rfl (IntWalk.i64_in _ (by omega))) (by decide) ?_
        refine TL.val (YF.move rfl) (by decide) ?_
        refine TL.end ?_
        first
          | exact fun a w ha hw => ⟨_, by omega, j + 1, ba2, bb2, ca2, cb2, za2, zb2, upd l j pp, upd r j qq, rfl, by omega, hca2, hcb2, (fun k hk => by
            by_cases e : k = j
            · subst e; rw [upd_at, upd_at, ← hX _ (by omega), ← hY _ (by omega)]; exact ⟨p1, q1⟩
            · rw [upd_ne _ _ e, upd_ne _ _ e]; exact hR k (by omega)), (ha.cons rfl (ha.cons rfl (ha.cons rfl (ha.cons rfl (ha.cons rfl (ha.cons rfl (ha.nil))))))), hw.mono (by repeat first | exact List.Sublist.refl _ | apply List.Sublist.cons_cons | apply List.Sublist.cons)⟩
          | exact fun a w ha hw => ⟨_, by omega, j + 1, ba2, bb2, ca2, cb2, za2, zb2, upd l j pp, upd r j qq, rfl, by omega, hca2, hcb2, (fun k hk => by
            by_cases e : k = j
            · subst e; rw [upd_at, upd_at, ← hX _ (by omega), ← hY _ (by omega)]; exact ⟨p1, q1⟩
            · rw [upd_ne _ _ e, upd_ne _ _ e]; exact hR k (by omega)), (ha.cons rfl (ha.cons rfl (ha.cons rfl (ha.cons rfl (ha.cons rfl (ha.cons rfl (ha.nil))))))), (hw.mono (G := (ba2, _) :: (bb2, _) :: H) (by repeat first | exact List.Sublist.refl _ | apply List.Sublist.cons_cons | apply List.Sublist.cons)).perm (List.Perm.swap _ _ _)⟩
      ·
        refine TO.eff 24 rfl (EF.buildSlice (bytes := 0) (vs := [(0, _)]) (cs := #[.float .f64 qq]) sl_54 zero_60 rfl rfl (by kernel_rfl) rfl rfl) (by decide) (by rintro _ _ ⟨_, rfl, rfl⟩; exact (by repeat first | exact List.Sublist.refl _ | apply List.Sublist.cons_cons | apply List.Sublist.cons)) ?_
        rintro _ _ ⟨e2b, rfl, rfl⟩
        refine TD.eff 12 rfl (by kernel_rfl) (EF.appendOne 3 1 sl_54 bytes_60 zero_60 rfl rfl rfl rfl hca (by omega) rfl rfl) (by decide) (by rintro _ _ ⟨_, _, _, _, rfl, rfl⟩; exact (by repeat first | exact List.Sublist.refl _ | apply List.Sublist.cons_cons | apply List.Sublist.cons)) ?_
        rintro _ _ ⟨ba2, ca2, za2, hca2, rfl, rfl⟩
        refine TD.heap (_ :: _ :: _ :: _ :: _) rfl ?_
        refine TD.eff 25 rfl (by kernel_rfl) (EF.appendOne 3 1 sl_54 bytes_60 zero_60 rfl rfl rfl rfl hcb (by omega) rfl rfl) (by decide) (by rintro _ _ ⟨_, _, _, _, rfl, rfl⟩; exact (by repeat first | exact List.Sublist.refl _ | apply List.Sublist.cons_cons | apply List.Sublist.cons)) ?_
        rintro _ _ ⟨bb2, cb2, zb2, hcb2, rfl, rfl⟩
        refine TD.heap (_ :: _ :: _ :: _ :: _) rfl ?_
        refine TD.take 26 rfl (by kernel_rfl) (by kernel_rfl) (by kernel_rfl) (fun _ _ _ h => h) (by repeat first | exact List.Sublist.refl _ | apply List.Sublist.cons_cons | apply List.Sublist.cons) (YF.assign rfl) (by decide) ?_
        refine TD.take 27 rfl (by kernel_rfl) (by kernel_rfl) (by kernel_rfl) (fun _ _ _ h => h) (by repeat first | exact List.Sublist.refl _ | apply List.Sublist.cons_cons | apply List.Sublist.cons) (YF.assign rfl) (by decide) ?_
        refine TD.end (by kernel_rfl) ?_
        refine Arr.block ?_
        refine Arr.seq ?_
        refine Tr.region ?_
        refine TL.val (YF.add rfl rfl (IntWalk.i64_in _ (by omega))) (by decide) ?_
        refine TL.val (YF.move rfl) (by decide) ?_
        refine TL.end ?_
        first
          | exact fun a w ha hw => ⟨_, by omega, j + 1, ba2, bb2, ca2, cb2, za2, zb2, upd l j pp, upd r j qq, rfl, by omega, hca2, hcb2, (fun k hk => by
            by_cases e : k = j
            · subst e; rw [upd_at, upd_at, ← hX _ (by omega), ← hY _ (by omega)]; exact ⟨p1, q1⟩
            · rw [upd_ne _ _ e, upd_ne _ _ e]; exact hR k (by omega)), (ha.cons rfl (ha.cons rfl (ha.cons rfl (ha.cons rfl (ha.cons rfl (ha.cons rfl (ha.nil))))))), hw.mono (by repeat first | exact List.Sublist.refl _ | apply List.Sublist.cons_cons | apply List.Sublist.cons)⟩
          | exact fun a w ha hw => ⟨_, by omega, j + 1, ba2, bb2, ca2, cb2, za2, zb2, upd l j pp, upd r j qq, rfl, by omega, hca2, hcb2, (fun k hk => by
            by_cases e : k = j
            · subst e; rw [upd_at, upd_at, ← hX _ (by omega), ← hY _ (by omega)]; exact ⟨p1, q1⟩
            · rw [upd_ne _ _ e, upd_ne _ _ e]; exact hR k (by omega)), (ha.cons rfl (ha.cons rfl (ha.cons rfl (ha.cons rfl (ha.cons rfl (ha.cons rfl (ha.nil))))))), (hw.mono (G := (ba2, _) :: (bb2, _) :: H) (by repeat first | exact List.Sublist.refl _ | apply List.Sublist.cons_cons | apply List.Sublist.cons)).perm (List.Perm.swap _ _ _)⟩
    ·
      refine TO.eff 24 rfl (EF.buildSlice (bytes := 0) (vs := [(0, _)]) (cs := #[.float .f64 qq]) sl_54 zero_60 rfl rfl (by kernel_rfl) rfl rfl) (by decide) (by rintro _ _ ⟨_, rfl, rfl⟩; exact (by repeat first | exact List.Sublist.refl _ | apply List.Sublist.cons_cons | apply List.Sublist.cons)) ?_
      rintro _ _ ⟨e2b, rfl, rfl⟩
      refine TD.eff 11 rfl (by kernel_rfl) (EF.buildSlice (bytes := 0) (vs := [(0, _)]) (cs := #[.float .f64 pp]) sl_54 zero_60 rfl rfl (by kernel_rfl) rfl rfl) (by decide) (by rintro _ _ ⟨_, rfl, rfl⟩; exact (by repeat first | exact List.Sublist.refl _ | apply List.Sublist.cons_cons | apply List.Sublist.cons)) ?_
      rintro _ _ ⟨e1b, rfl, rfl⟩
      refine TD.eff 12 rfl (by kernel_rfl) (EF.appendOne 3 0 sl_54 bytes_60 zero_60 rfl rfl rfl rfl hca (by omega) rfl rfl) (by decide) (by rintro _ _ ⟨_, _, _, _, rfl, rfl⟩; exact (by repeat first | exact List.Sublist.refl _ | apply List.Sublist.cons_cons | apply List.Sublist.cons)) ?_
      rintro _ _ ⟨ba2, ca2, za2, hca2, rfl, rfl⟩
      refine TD.heap (_ :: _ :: _ :: _ :: _) rfl ?_
      refine TD.eff 25 rfl (by kernel_rfl) (EF.appendOne 3 2 sl_54 bytes_60 zero_60 rfl rfl rfl rfl hcb (by omega) rfl rfl) (by decide) (by rintro _ _ ⟨_, _, _, _, rfl, rfl⟩; exact (by repeat first | exact List.Sublist.refl _ | apply List.Sublist.cons_cons | apply List.Sublist.cons)) ?_
      rintro _ _ ⟨bb2, cb2, zb2, hcb2, rfl, rfl⟩
      refine TD.heap (_ :: _ :: _ :: _ :: _) rfl ?_
      refine TD.take 26 rfl (by kernel_rfl) (by kernel_rfl) (by kernel_rfl) (fun _ _ _ h => h) (by repeat first | exact List.Sublist.refl _ | apply List.Sublist.cons_cons | apply List.Sublist.cons) (YF.assign rfl) (by decide) ?_
      refine TD.take 27 rfl (by kernel_rfl) (by kernel_rfl) (by kernel_rfl) (fun _ _ _ h => h) (by repeat first | exact List.Sublist.refl _ | apply List.Sublist.cons_cons | apply List.Sublist.cons) (YF.assign rfl) (by decide) ?_
      refine TD.end (by kernel_rfl) ?_
      refine Arr.block ?_
      refine Arr.seq ?_
      refine Tr.region ?_
      refine TL.val (YF.add rfl rfl (IntWalk.i64_in _ (by omega))) (by decide) ?_
      refine TL.val (YF.move rfl) (by decide) ?_
      refine TL.end ?_
      first
        | exact fun a w ha hw => ⟨_, by omega, j + 1, ba2, bb2, ca2, cb2, za2, zb2, upd l j pp, upd r j qq, rfl, by omega, hca2, hcb2, (fun k hk => by
          by_cases e : k = j
          · subst e; rw [upd_at, upd_at, ← hX _ (by omega), ← hY _ (by omega)]; exact ⟨p1, q1⟩
          · rw [upd_ne _ _ e, upd_ne _ _ e]; exact hR k (by omega)), (ha.cons rfl (ha.cons rfl (ha.cons rfl (ha.cons rfl (ha.cons rfl (ha.cons rfl (ha.nil))))))), hw.mono (by repeat first | exact List.Sublist.refl _ | apply List.Sublist.cons_cons | apply List.Sublist.cons)⟩
        | exact fun a w ha hw => ⟨_, by omega, j + 1, ba2, bb2, ca2, cb2, za2, zb2, upd l j pp, upd r j qq, rfl, by omega, hca2, hcb2, (fun k hk => by
          by_cases e : k = j
          · subst e; rw [upd_at, upd_at, ← hX _ (by omega), ← hY _ (by omega)]; exact ⟨p1, q1⟩
          · rw [upd_ne _ _ e, upd_ne _ _ e]; exact hR k (by omega)), (ha.cons rfl (ha.cons rfl (ha.cons rfl (ha.cons rfl (ha.cons rfl (ha.cons rfl (ha.nil))))))), (hw.mono (G := (ba2, _) :: (bb2, _) :: H) (by repeat first | exact List.Sublist.refl _ | apply List.Sublist.cons_cons | apply List.Sublist.cons)).perm (List.Perm.swap _ _ _)⟩
  ·
    replace h14 := of_decide_eq_false h14
    refine Tr.exitE ?_
    refine Arr.seqX ?_
    refine Arr.seqX ?_
    refine Arr.blockE ?_
    refine Arr.seq ?_
    refine Tr.seq ?_
    refine Tr.region ?_
    refine TL.val (YF.move rfl) (by decide) ?_
    refine TL.val (YF.move rfl) (by decide) ?_
    refine TL.val (YF.assign rfl) (by decide) ?_
    refine TL.val (YF.assign rfl) (by decide) ?_
    refine TL.end ?_
    refine Arr.seq ?_
    refine Tr.retE ?_
    have e : j = 576 := by omega
    subst e
    exact Ends.tmp2 rfl rfl rfl ⟨ba, ca, _, l, bb, cb, _, r, [_, _], rfl, rfl, ⟨1, _, _, rfl⟩, ⟨0, _, _, rfl⟩, fun k hk => va_get (by omega) (by unfold gz; rw [if_pos hk]), fun k hk => va_get (by omega) (by unfold gz; rw [if_pos hk]), hR⟩

end Go.Proofs.YtbcjhkncifckiaaDoor
