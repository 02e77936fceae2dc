/- The walks of functions on whole numbers. -/
import Derived.Test.YtbcjhkncifckiaaDoorWa
import Derived.Test.YtbcjhkncifckiaaDoorFr
namespace Go.Proofs.YtbcjhkncifckiaaDoor
open Go Go.RowKit Go.Proofs En

theorem place_ct (g c : Nat) (hg : g < 2) (hc : c < 2) (w0 : World) (H : Hp) : Ct Tryd.prog 26 #[.int .i64 g, .int .i64 c] w0 (H) (fun v H' => v = .bool true ∧ H' = H) := by
  refine Ct.of_body (n := 19) (E := [(0, _), (1, _)]) Tryd.func26 rfl rfl rfl rfl ?_
  refine Tr.seq ?_
  refine Tr.region ?_
  refine TL.val (YF.assign rfl) (by decide) ?_
  refine TL.end ?_
  refine Arr.seq ?_
  refine Tr.seq ?_
  refine Tr.region ?_
  refine TL.val (YF.move rfl) (by decide) ?_
  refine TL.val (YF.geq (b := true) rfl rfl (decide_eq_true (by omega))) (by decide) ?_
  refine TL.val (YF.move rfl) (by decide) ?_
  first
    | refine TL.gno rfl (by decide) ?_
    | refine TL.gval rfl (YF.move rfl) (by decide) ?_
  first
    | refine TL.gno rfl (by decide) ?_
    | refine TL.gval rfl (YF.lss (b := true) rfl rfl (decide_eq_true (by omega))) (by decide) ?_
  first
    | refine TL.val (YF.pickT rfl rfl) (by decide) ?_
    | refine TL.val (YF.pickF rfl rfl) (by decide) ?_
    | refine TL.val (YF.pick rfl rfl rfl rfl) (by decide) ?_
  refine TL.val (YF.move rfl) (by decide) ?_
  first
    | refine TL.gno rfl (by decide) ?_
    | refine TL.gval rfl (YF.move rfl) (by decide) ?_
  first
    | refine TL.gno rfl (by decide) ?_
    | refine TL.gval rfl (YF.geq (b := true) rfl rfl (decide_eq_true (by omega))) (by decide) ?_
  first
    | refine TL.val (YF.pickT rfl rfl) (by decide) ?_
    | refine TL.val (YF.pickF rfl rfl) (by decide) ?_
    | refine TL.val (YF.pick rfl rfl rfl rfl) (by decide) ?_
  refine TL.val (YF.move rfl) (by decide) ?_
  first
    | refine TL.gno rfl (by decide) ?_
    | refine TL.gval rfl (YF.move rfl) (by decide) ?_
  first
    | refine TL.gno rfl (by decide) ?_
    | refine TL.gval rfl (YF.lss (b := true) rfl rfl (decide_eq_true (by omega))) (by decide) ?_
  first
    | refine TL.val (YF.pickT rfl rfl) (by decide) ?_
    | refine TL.val (YF.pickF rfl rfl) (by decide) ?_
    | refine TL.val (YF.pick rfl rfl rfl rfl) (by decide) ?_
  refine TL.val (YF.assign rfl) (by decide) ?_
  refine TL.end ?_
  refine Arr.seq ?_
  refine Tr.retE ?_
  exact Ends.tmp rfl rfl ⟨rfl, rfl⟩

theorem word_ct (h : Nat → Int) (w0 : World) (H : Hp) (hd : HdOK h) : Ct Tryd.prog 15 #[.agg (va 7 (sd h))] w0 (H) (fun v H' => v = .int .u32 (4294639616 + h 0 * 4096 + h 1 * 1024 + h 2 * 512 + h 5 * 256 + h 3 * 64 + h 4 * 16 + h 6) ∧ H' = H) := by
  refine Ct.of_body (n := 31) (E := [(0, _)]) Tryd.func15 rfl rfl rfl rfl ?_
  refine Tr.seq ?_
  refine Tr.region ?_
  obtain ⟨h1, h2, h3, h4, h5, h6, h7⟩ := hd
  refine TL.box rfl (by decide) (fun b => ?_)
  refine TL.val (YF.assign rfl) (by decide) ?_
  refine TL.end ?_
  refine Arr.seq ?_
  refine Tr.seq ?_
  refine Tr.region ?_
  refine TL.val (YF.fieldAddr fo_27_0 rfl rfl) (by decide) ?_
  refine TL.val (YF.load (v := .int .i64 (h 0)) 0 sc_3 rfl rfl (va_get (by decide) rfl)) (by decide) ?_
  refine TL.val (YF.shl rfl rfl (by decide) (shlv (p := 4096) 12 rfl (by decide) (by decide) (IntWalk.i64_in _ (by omega)))) (by decide) ?_
  refine TL.val (YF.bor rfl rfl (i64_joinv (p := 65536) 16 (by decide) (by omega))) (by decide) ?_
  refine TL.val (YF.fieldAddr fo_27_1 rfl rfl) (by decide) ?_
  refine TL.val (YF.load (v := .int .i64 (h 1)) 0 sc_3 rfl rfl (va_get (by decide) rfl)) (by decide) ?_
  refine TL.val (YF.shl rfl rfl (by decide) (shlv (p := 1024) 10 rfl (by decide) (by decide) (IntWalk.i64_in _ (by omega)))) (by decide) ?_
  refine TL.val (YF.bor rfl rfl (i64_joinv (p := 4096) 12 (by decide) (by omega))) (by decide) ?_
  refine TL.val (YF.fieldAddr fo_27_2 rfl rfl) (by decide) ?_
  refine TL.val (YF.load (v := .int .i64 (h 2)) 0 sc_3 rfl rfl (va_get (by decide) rfl)) (by decide) ?_
  refine TL.val (YF.shl rfl rfl (by decide) (shlv (p := 512) 9 rfl (by decide) (by decide) (IntWalk.i64_in _ (by omega)))) (by decide) ?_
  refine TL.val (YF.bor rfl rfl (i64_joinv (p := 1024) 10 (by decide) (by omega))) (by decide) ?_
  refine TL.val (YF.fieldAddr fo_27_5 rfl rfl) (by decide) ?_
  refine TL.val (YF.load (v := .int .i64 (h 5)) 0 sc_3 rfl rfl (va_get (by decide) rfl)) (by decide) ?_
  refine TL.val (YF.shl rfl rfl (by decide) (shlv (p := 256) 8 rfl (by decide) (by decide) (IntWalk.i64_in _ (by omega)))) (by decide) ?_
  refine TL.val (YF.bor rfl rfl (i64_joinv (p := 512) 9 (by decide) (by omega))) (by decide) ?_
  refine TL.val (YF.fieldAddr fo_27_3 rfl rfl) (by decide) ?_
  refine TL.val (YF.load (v := .int .i64 (h 3)) 0 sc_3 rfl rfl (va_get (by decide) rfl)) (by decide) ?_
  refine TL.val (YF.shl rfl rfl (by decide) (shlv (p := 64) 6 rfl (by decide) (by decide) (IntWalk.i64_in _ (by omega)))) (by decide) ?_
  refine TL.val (YF.bor rfl rfl (i64_joinv (p := 256) 8 (by decide) (by omega))) (by decide) ?_
  refine TL.val (YF.fieldAddr fo_27_4 rfl rfl) (by decide) ?_
  refine TL.val (YF.load (v := .int .i64 (h 4)) 0 sc_3 rfl rfl (va_get (by decide) rfl)) (by decide) ?_
  refine TL.val (YF.shl rfl rfl (by decide) (shlv (p := 16) 4 rfl (by decide) (by decide) (IntWalk.i64_in _ (by omega)))) (by decide) ?_
  refine TL.val (YF.bor rfl rfl (i64_joinv (p := 64) 6 (by decide) (by omega))) (by decide) ?_
  refine TL.val (YF.fieldAddr fo_27_6 rfl rfl) (by decide) ?_
  refine TL.val (YF.load (v := .int .i64 (h 6)) 0 sc_3 rfl rfl (va_get (by decide) rfl)) (by decide) ?_
  refine TL.val (YF.bor rfl rfl (i64_joinv (p := 16) 4 (by decide) (by omega))) (by decide) ?_
  refine TL.val (YF.conv und_3 und_22 rfl (IntWalk.u32_in _ (by omega))) (by decide) ?_
  refine TL.val (YF.assign rfl) (by decide) ?_
  refine TL.end ?_
  refine Arr.seq ?_
  refine Tr.retE ?_
  exact Ends.sub (G := H) (by repeat first | exact List.Sublist.refl _ | apply List.Sublist.cons) (Ends.tmp rfl rfl ⟨rfl, rfl⟩)

theorem longBands_ct (r : Int) (w0 : World) (H : Hp) : Ct Tryd.prog 35 #[.int .i64 r] w0 (H) (fun v H' => ∃ b cs, v = .slice (some ⟨b, 0, none⟩) 23 23 ∧ cs.size = 23 ∧ intsIn cs 0 576 = true ∧ H' = (b, .cells cs 3 (0, 0)) :: H) := by
  refine Ct.of_body (n := 11) (E := [(0, _)]) Tryd.func35 rfl rfl rfl rfl ?_
  refine Tr.seq ?_
  refine Tr.region ?_
  refine TL.val (YF.assign rfl) (by decide) ?_
  refine TL.end ?_
  refine Arr.seq ?_
  refine Tr.seq ?_
  refine Tr.seq ?_
  refine Tr.region ?_
  refine TL.val (YF.move rfl) (by decide) ?_
  refine TL.end ?_
  refine Arr.seq ?_
  refine Tr.block ?_
  refine Tr.seq ?_
  refine Tr.region ?_
  refine TL.val (YF.eql rfl rfl rfl) (by decide) ?_
  refine TL.val (YF.assign rfl) (by decide) ?_
  refine TL.end ?_
  refine Arr.seq ?_
  refine Tr.cond rfl (fun h4 => ?_) (fun h4 => ?_)
  ·
    replace h4 := of_decide_eq_true h4
    refine Tr.seq ?_
    refine Tr.region ?_
    refine TL.buildSlice (vs := [(0, (.int .i64 0)), (1, (.int .i64 4)), (2, (.int .i64 8)), (3, (.int .i64 12)), (4, (.int .i64 16)), (5, (.int .i64 20)), (6, (.int .i64 24)), (7, (.int .i64 30)), (8, (.int .i64 36)), (9, (.int .i64 44)), (10, (.int .i64 52)), (11, (.int .i64 62)), (12, (.int .i64 74)), (13, (.int .i64 90)), (14, (.int .i64 110)), (15, (.int .i64 134)), (16, (.int .i64 162)), (17, (.int .i64 196)), (18, (.int .i64 238)), (19, (.int .i64 288)), (20, (.int .i64 342)), (21, (.int .i64 418)), (22, (.int .i64 576))]) (cs := #[.int .i64 0, .int .i64 4, .int .i64 8, .int .i64 12, .int .i64 16, .int .i64 20, .int .i64 24, .int .i64 30, .int .i64 36, .int .i64 44, .int .i64 52, .int .i64 62, .int .i64 74, .int .i64 90, .int .i64 110, .int .i64 134, .int .i64 162, .int .i64 196, .int .i64 238, .int .i64 288, .int .i64 342, .int .i64 418, .int .i64 576]) sl_78 zero_3 rfl rfl (by kernel_rfl) rfl (by decide) (fun b => ?_)
    refine TL.val (YF.assign rfl) (by decide) ?_
    refine TL.end ?_
    refine Arr.seq ?_
    refine Tr.retE ?_
    refine Arr.blockR ?_
    refine Arr.seqR ?_
    exact Ends.tmp rfl rfl ⟨_, _, rfl, rfl, by decide, rfl⟩
  ·
    replace h4 := of_decide_eq_false h4
    refine Tr.seq ?_
    refine Tr.region ?_
    refine TL.val (YF.eql rfl rfl rfl) (by decide) ?_
    refine TL.val (YF.assign rfl) (by decide) ?_
    refine TL.end ?_
    refine Arr.seq ?_
    refine Tr.cond rfl (fun h7 => ?_) (fun h7 => ?_)
    ·
      replace h7 := of_decide_eq_true h7
      refine Tr.seq ?_
      refine Tr.region ?_
      refine TL.buildSlice (vs := [(0, (.int .i64 0)), (1, (.int .i64 4)), (2, (.int .i64 8)), (3, (.int .i64 12)), (4, (.int .i64 16)), (5, (.int .i64 20)), (6, (.int .i64 24)), (7, (.int .i64 30)), (8, (.int .i64 36)), (9, (.int .i64 42)), (10, (.int .i64 50)), (11, (.int .i64 60)), (12, (.int .i64 72)), (13, (.int .i64 88)), (14, (.int .i64 106)), (15, (.int .i64 128)), (16, (.int .i64 156)), (17, (.int .i64 190)), (18, (.int .i64 230)), (19, (.int .i64 276)), (20, (.int .i64 330)), (21, (.int .i64 384)), (22, (.int .i64 576))]) (cs := #[.int .i64 0, .int .i64 4, .int .i64 8, .int .i64 12, .int .i64 16, .int .i64 20, .int .i64 24, .int .i64 30, .int .i64 36, .int .i64 42, .int .i64 50, .int .i64 60, .int .i64 72, .int .i64 88, .int .i64 106, .int .i64 128, .int .i64 156, .int .i64 190, .int .i64 230, .int .i64 276, .int .i64 330, .int .i64 384, .int .i64 576]) sl_78 zero_3 rfl rfl (by kernel_rfl) rfl (by decide) (fun b => ?_)
      refine TL.val (YF.assign rfl) (by decide) ?_
      refine TL.end ?_
      refine Arr.seq ?_
      refine Tr.retE ?_
      refine Arr.blockR ?_
      refine Arr.seqR ?_
      exact Ends.tmp rfl rfl ⟨_, _, rfl, rfl, by decide, rfl⟩
    ·
      replace h7 := of_decide_eq_false h7
      refine Tr.skipE ?_
      refine Arr.block ?_
      refine Arr.seq ?_
      refine Tr.seq ?_
      refine Tr.region ?_
      refine TL.buildSlice (vs := [(0, (.int .i64 0)), (1, (.int .i64 4)), (2, (.int .i64 8)), (3, (.int .i64 12)), (4, (.int .i64 16)), (5, (.int .i64 20)), (6, (.int .i64 24)), (7, (.int .i64 30)), (8, (.int .i64 36)), (9, (.int .i64 44)), (10, (.int .i64 54)), (11, (.int .i64 66)), (12, (.int .i64 82)), (13, (.int .i64 102)), (14, (.int .i64 126)), (15, (.int .i64 156)), (16, (.int .i64 194)), (17, (.int .i64 240)), (18, (.int .i64 296)), (19, (.int .i64 364)), (20, (.int .i64 448)), (21, (.int .i64 550)), (22, (.int .i64 576))]) (cs := #[.int .i64 0, .int .i64 4, .int .i64 8, .int .i64 12, .int .i64 16, .int .i64 20, .int .i64 24, .int .i64 30, .int .i64 36, .int .i64 44, .int .i64 54, .int .i64 66, .int .i64 82, .int .i64 102, .int .i64 126, .int .i64 156, .int .i64 194, .int .i64 240, .int .i64 296, .int .i64 364, .int .i64 448, .int .i64 550, .int .i64 576]) sl_78 zero_3 rfl rfl (by kernel_rfl) rfl (by decide) (fun b => ?_)
      refine TL.val (YF.assign rfl) (by decide) ?_
      refine TL.end ?_
      refine Arr.seq ?_
      refine Tr.retE ?_
      exact Ends.tmp rfl rfl ⟨_, _, rfl, rfl, by decide, rfl⟩

theorem short_ct (s : Nat → Int) (g c : Nat) (hg : g < 2) (hc : c < 2) (w0 : World) (H : Hp) : Ct Tryd.prog 23 #[.agg (va 86 (sd s)), .int .i64 g, .int .i64 c] w0 (H) (fun v H' => ∃ sb, v = .bool sb ∧ (sb = true ↔ s (26 + 2 * g + c) = 1 ∧ s (30 + 2 * g + c) = 2) ∧ H' = H) := by
  refine Ct.of_body (n := 23) (E := [(0, _), (1, _), (2, _)]) Tryd.func23 rfl rfl rfl rfl ?_
  refine Tr.seq ?_
  refine Tr.region ?_
  refine TL.box rfl (by decide) (fun b => ?_)
  refine TL.val (YF.assign rfl) (by decide) ?_
  refine TL.end ?_
  refine Arr.seq ?_
  refine Tr.seq ?_
  refine Tr.region ?_
  refine TL.val (YF.move rfl) (by decide) ?_
  refine TL.val (YF.move rfl) (by decide) ?_
  refine TL.val (YF.fieldAddr fo_36_7 rfl rfl) (by decide) ?_
  refine TL.val (YF.indexArr arr_31 rfl rfl (by first | decide | omega) rfl) (by decide) ?_
  refine TL.val (YF.indexArr arr_30 rfl rfl (by first | decide | omega) (show _ = 26 + 2 * g + c by omega)) (by decide) ?_
  refine TL.val (YF.load 0 sc_3 rfl rfl (sd_int (by omega))) (by decide) ?_
  by_cases h1 : s (26 + 2 * g + c) = 1
  ·
    refine TL.val (YF.eql (b := true) rfl rfl (decide_eq_true h1)) (by decide) ?_
    refine TL.val (YF.move rfl) (by decide) ?_
    first
      | refine TL.gno rfl (by decide) ?_
      | refine TL.gval rfl (YF.move rfl) (by decide) ?_
    first
      | refine TL.gno rfl (by decide) ?_
      | refine TL.gval rfl (YF.move rfl) (by decide) ?_
    first
      | refine TL.gno rfl (by decide) ?_
      | refine TL.gval rfl (YF.fieldAddr fo_36_8 rfl rfl) (by decide) ?_
    first
      | refine TL.gno rfl (by decide) ?_
      | refine TL.gval rfl (YF.indexArr arr_31 rfl rfl (by first | decide | omega) rfl) (by decide) ?_
    first
      | refine TL.gno rfl (by decide) ?_
      | refine TL.gval rfl (YF.indexArr arr_30 rfl rfl (by first | decide | omega) (show _ = 30 + 2 * g + c by omega)) (by decide) ?_
    first
      | refine TL.gno rfl (by decide) ?_
      | refine TL.gval rfl (YF.load 0 sc_3 rfl rfl (sd_int (by omega))) (by decide) ?_
    first
      | refine TL.gno rfl (by decide) ?_
      | refine TL.gval rfl (YF.eql rfl rfl rfl) (by decide) ?_
    first
      | refine TL.val (YF.pickT rfl rfl) (by decide) ?_
      | refine TL.val (YF.pickF rfl rfl) (by decide) ?_
      | refine TL.val (YF.pick rfl rfl rfl rfl) (by decide) ?_
    refine TL.val (YF.assign rfl) (by decide) ?_
    refine TL.end ?_
    refine Arr.seq ?_
    refine Tr.retE ?_
    exact Ends.sub (G := H) (by repeat first | exact List.Sublist.refl _ | apply List.Sublist.cons) (Ends.tmp rfl rfl ⟨_, rfl, by simp [h1], rfl⟩)
  ·
    refine TL.val (YF.eql (b := false) rfl rfl (decide_eq_false h1)) (by decide) ?_
    refine TL.val (YF.move rfl) (by decide) ?_
    first
      | refine TL.gno rfl (by decide) ?_
      | refine TL.gval rfl (YF.move rfl) (by decide) ?_
    first
      | refine TL.gno rfl (by decide) ?_
      | refine TL.gval rfl (YF.move rfl) (by decide) ?_
    first
      | refine TL.gno rfl (by decide) ?_
      | refine TL.gval rfl (YF.fieldAddr fo_36_8 rfl rfl) (by decide) ?_
    first
      | refine TL.gno rfl (by decide) ?_
      | refine TL.gval rfl (YF.indexArr arr_31 rfl rfl (by first | decide | omega) rfl) (by decide) ?_
    first
      | refine TL.gno rfl (by decide) ?_
      | refine TL.gval rfl (YF.indexArr arr_30 rfl rfl (by first | decide | omega) (show _ = 30 + 2 * g + c by omega)) (by decide) ?_
    first
      | refine TL.gno rfl (by decide) ?_
      | refine TL.gval rfl (YF.load 0 sc_3 rfl rfl (sd_int (by omega))) (by decide) ?_
    first
      | refine TL.gno rfl (by decide) ?_
      | refine TL.gval rfl (YF.eql rfl rfl rfl) (by decide) ?_
    first
      | refine TL.val (YF.pickT rfl rfl) (by decide) ?_
      | refine TL.val (YF.pickF rfl rfl) (by decide) ?_
      | refine TL.val (YF.pick rfl rfl rfl rfl) (by decide) ?_
    refine TL.val (YF.assign rfl) (by decide) ?_
    refine TL.end ?_
    refine Arr.seq ?_
    refine Tr.retE ?_
    exact Ends.sub (G := H) (by repeat first | exact List.Sublist.refl _ | apply List.Sublist.cons) (Ends.tmp rfl rfl ⟨_, rfl, by simp [h1], rfl⟩)

theorem lens_ct (m : Int) (w0 : World) (H : Hp) (hm : 0 ≤ m ∧ m ≤ 15) : Ct Tryd.prog 24 #[.int .i64 m] w0 (H) (fun v H' => ∃ x y, v = .tuple #[.int .i64 x, .int .i64 y] ∧ (0 ≤ x ∧ x ≤ 4) ∧ (0 ≤ y ∧ y ≤ 3) ∧ H' = H) := by
  refine Ct.of_body (n := 16) (E := [(0, _)]) Tryd.func24 rfl rfl rfl rfl ?_
  refine Tr.seq ?_
  refine Tr.region ?_
  refine TL.val (YF.assign rfl) (by decide) ?_
  refine TL.val (YF.assign rfl) (by decide) ?_
  refine TL.end ?_
  refine Arr.seq ?_
  refine Tr.seq ?_
  refine Tr.region ?_
  refine TL.buildSlice (vs := [(0, (.int .i64 0)), (1, (.int .i64 0)), (2, (.int .i64 0)), (3, (.int .i64 0)), (4, (.int .i64 3)), (5, (.int .i64 1)), (6, (.int .i64 1)), (7, (.int .i64 1)), (8, (.int .i64 2)), (9, (.int .i64 2)), (10, (.int .i64 2)), (11, (.int .i64 3)), (12, (.int .i64 3)), (13, (.int .i64 3)), (14, (.int .i64 4)), (15, (.int .i64 4))]) (cs := #[.int .i64 0, .int .i64 0, .int .i64 0, .int .i64 0, .int .i64 3, .int .i64 1, .int .i64 1, .int .i64 1, .int .i64 2, .int .i64 2, .int .i64 2, .int .i64 3, .int .i64 3, .int .i64 3, .int .i64 4, .int .i64 4]) sl_78 zero_3 rfl rfl (by kernel_rfl) rfl (by decide) (fun b => ?_)
  refine TL.val (YF.assign rfl) (by decide) ?_
  refine TL.end ?_
  refine Arr.seq ?_
  refine Tr.seq ?_
  refine Tr.region ?_
  refine TL.buildSlice (vs := [(0, (.int .i64 0)), (1, (.int .i64 1)), (2, (.int .i64 2)), (3, (.int .i64 3)), (4, (.int .i64 0)), (5, (.int .i64 1)), (6, (.int .i64 2)), (7, (.int .i64 3)), (8, (.int .i64 1)), (9, (.int .i64 2)), (10, (.int .i64 3)), (11, (.int .i64 1)), (12, (.int .i64 2)), (13, (.int .i64 3)), (14, (.int .i64 2)), (15, (.int .i64 3))]) (cs := #[.int .i64 0, .int .i64 1, .int .i64 2, .int .i64 3, .int .i64 0, .int .i64 1, .int .i64 2, .int .i64 3, .int .i64 1, .int .i64 2, .int .i64 3, .int .i64 1, .int .i64 2, .int .i64 3, .int .i64 2, .int .i64 3]) sl_78 zero_3 rfl rfl (by kernel_rfl) rfl (by decide) (fun b => ?_)
  refine TL.val (YF.assign rfl) (by decide) ?_
  refine TL.end ?_
  refine Arr.seq ?_
  refine Tr.seq ?_
  obtain ⟨x, hx, hx1⟩ := ints_get (cs := #[.int .i64 0, .int .i64 0, .int .i64 0, .int .i64 0, .int .i64 3, .int .i64 1, .int .i64 1, .int .i64 1, .int .i64 2, .int .i64 2, .int .i64 2, .int .i64 3, .int .i64 3, .int .i64 3, .int .i64 4, .int .i64 4]) 0 4 (by decide) m.toNat (by show m.toNat < 16; omega)
  obtain ⟨y, hy, hy1⟩ := ints_get (cs := #[.int .i64 0, .int .i64 1, .int .i64 2, .int .i64 3, .int .i64 0, .int .i64 1, .int .i64 2, .int .i64 3, .int .i64 1, .int .i64 2, .int .i64 3, .int .i64 1, .int .i64 2, .int .i64 3, .int .i64 2, .int .i64 3]) 0 3 (by decide) m.toNat (by show m.toNat < 16; omega)
  refine Tr.drawE (_ :: _ :: _) (fun H => H) rfl mixed_ ?_
  refine TD.take 0 rfl (by kernel_rfl) (by kernel_rfl) (by kernel_rfl) (fun _ _ _ h => h) (by repeat first | exact List.Sublist.refl _ | apply List.Sublist.cons_cons | apply List.Sublist.cons) (YF.move rfl) (by decide) ?_
  refine TD.take 1 rfl (by kernel_rfl) (by kernel_rfl) (by kernel_rfl) (fun _ _ _ h => h) (by repeat first | exact List.Sublist.refl _ | apply List.Sublist.cons_cons | apply List.Sublist.cons) (YF.move rfl) (by decide) ?_
  refine TD.take 2 rfl (by kernel_rfl) (by kernel_rfl) (by kernel_rfl) (fun _ _ _ h => h) (by repeat first | exact List.Sublist.refl _ | apply List.Sublist.cons_cons | apply List.Sublist.cons) (YF.indexSl sl_78 rfl rfl (by first | decide | omega) (show _ = m.toNat by omega)) (by decide) ?_
  refine TD.take 3 rfl (by kernel_rfl) (by kernel_rfl) (by kernel_rfl) (fun _ _ _ h => h) (by repeat first | exact List.Sublist.refl _ | apply List.Sublist.cons_cons | apply List.Sublist.cons) (YF.load 1 sc_3 rfl rfl hx) (by decide) ?_
  refine TD.take 4 rfl (by kernel_rfl) (by kernel_rfl) (by kernel_rfl) (fun _ _ _ h => h) (by repeat first | exact List.Sublist.refl _ | apply List.Sublist.cons_cons | apply List.Sublist.cons) (YF.move rfl) (by decide) ?_
  refine TD.take 5 rfl (by kernel_rfl) (by kernel_rfl) (by kernel_rfl) (fun _ _ _ h => h) (by repeat first | exact List.Sublist.refl _ | apply List.Sublist.cons_cons | apply List.Sublist.cons) (YF.move rfl) (by decide) ?_
  refine TD.take 6 rfl (by kernel_rfl) (by kernel_rfl) (by kernel_rfl) (fun _ _ _ h => h) (by repeat first | exact List.Sublist.refl _ | apply List.Sublist.cons_cons | apply List.Sublist.cons) (YF.indexSl sl_78 rfl rfl (by first | decide | omega) (show _ = m.toNat by omega)) (by decide) ?_
  refine TD.take 7 rfl (by kernel_rfl) (by kernel_rfl) (by kernel_rfl) (fun _ _ _ h => h) (by repeat first | exact List.Sublist.refl _ | apply List.Sublist.cons_cons | apply List.Sublist.cons) (YF.load 0 sc_3 rfl rfl hy) (by decide) ?_
  refine TD.take 8 rfl (by kernel_rfl) (by kernel_rfl) (by kernel_rfl) (fun _ _ _ h => h) (by repeat first | exact List.Sublist.refl _ | apply List.Sublist.cons_cons | apply List.Sublist.cons) (YF.assign rfl) (by decide) ?_
  refine TD.take 9 rfl (by kernel_rfl) (by kernel_rfl) (by kernel_rfl) (fun _ _ _ h => h) (by repeat first | exact List.Sublist.refl _ | apply List.Sublist.cons_cons | apply List.Sublist.cons) (YF.assign rfl) (by decide) ?_
  refine TD.end (by kernel_rfl) ?_
  refine Arr.seq ?_
  refine Tr.retE ?_
  exact Ends.sub (G := H) (by repeat first | exact List.Sublist.refl _ | apply List.Sublist.cons) (Ends.tmp2 rfl rfl rfl ⟨x, y, rfl, hx1, hy1, rfl⟩)

theorem regions_ct (h s : Nat → Int) (g c : Nat) (hg : g < 2) (hc : c < 2) (w0 : World) (H : Hp) (h0 : 0 ≤ s (62 + 2 * g + c) ∧ s (62 + 2 * g + c) ≤ 11) (h1 : 0 ≤ s (66 + 2 * g + c) ∧ s (66 + 2 * g + c) ≤ 20) : Ct Tryd.prog 25 #[.agg (va 7 (sd h)), .agg (va 86 (sd s)), .int .i64 g, .int .i64 c] w0 (H) (fun v H' => ∃ x y, v = .tuple #[.int .i64 x, .int .i64 y] ∧ H' = H) := by
  refine Ct.of_body (n := 44) (E := [(0, _), (1, _), (2, _), (3, _)]) Tryd.func25 rfl rfl rfl rfl ?_
  refine Tr.seq ?_
  refine Tr.region ?_
  refine TL.box rfl (by decide) (fun b => ?_)
  refine TL.box rfl (by decide) (fun b => ?_)
  refine TL.val (YF.assign rfl) (by decide) ?_
  refine TL.val (YF.assign rfl) (by decide) ?_
  refine TL.end ?_
  refine Arr.seq ?_
  refine Tr.seq ?_
  refine Tr.seq ?_
  refine Tr.region ?_
  refine TL.val (YF.loadAll 0 agg_36 rfl rfl (va_size _ _)) (by decide) ?_
  refine TL.val (YF.move rfl) (by decide) ?_
  refine TL.val (YF.move rfl) (by decide) ?_
  refine TL.call (vs := [_, _, _]) call_23 rfl (by decide) (short_ct s g c hg hc w0 _) ?_
  rintro _ _ ⟨sb, rfl, hsb, rfl⟩
  refine TL.end ?_
  refine Arr.seq ?_
  refine Tr.cond rfl (fun h15 => ?_) (fun h15 => ?_)
  ·
    refine Tr.seq ?_
    refine Tr.region ?_
    refine TL.val (YF.assign rfl) (by decide) ?_
    refine TL.val (YF.assign rfl) (by decide) ?_
    refine TL.end ?_
    refine Arr.seq ?_
    refine Tr.retE ?_
    refine Arr.seqR ?_
    exact Ends.sub (G := H) (by repeat first | exact List.Sublist.refl _ | apply List.Sublist.cons) (Ends.tmp2 rfl rfl rfl ⟨_, _, rfl, rfl⟩)
  ·
    refine Tr.skipE ?_
    refine Arr.seq ?_
    refine Tr.seq ?_
    refine Tr.region ?_
    refine TL.val (YF.fieldAddr fo_27_1 rfl rfl) (by decide) ?_
    refine TL.val (YF.load (v := .int .i64 (h 1)) 1 sc_3 rfl rfl (va_get (by decide) rfl)) (by decide) ?_
    refine TL.call (vs := [_]) call_35 rfl (by decide) (longBands_ct _ w0 _) ?_
    rintro _ _ ⟨bb, cs, rfl, hsz, hcs, rfl⟩
    refine TL.val (YF.assign rfl) (by decide) ?_
    refine TL.end ?_
    refine Arr.seq ?_
    refine Tr.seq ?_
    refine Tr.region ?_
    refine TL.val (YF.move rfl) (by decide) ?_
    refine TL.val (YF.move rfl) (by decide) ?_
    refine TL.val (YF.fieldAddr fo_36_12 rfl rfl) (by decide) ?_
    refine TL.val (YF.indexArr arr_31 rfl rfl (by first | decide | omega) rfl) (by decide) ?_
    refine TL.val (YF.indexArr arr_30 rfl rfl (by first | decide | omega) (show _ = 62 + 2 * g + c by omega)) (by decide) ?_
    refine TL.val (YF.load 1 sc_3 rfl rfl (sd_int (by omega))) (by decide) ?_
    refine TL.val (YF.add rfl rfl (IntWalk.i64_in _ (by omega))) (by decide) ?_
    refine TL.val (YF.assign rfl) (by decide) ?_
    refine TL.end ?_
    refine Arr.seq ?_
    refine Tr.seq ?_
    obtain ⟨i1, hi1, hi1'⟩ : ∃ i1 : Nat, (if (22 : Int) < s (62 + 2 * g + c) + 1 then 22 else s (62 + 2 * g + c) + 1) = (i1 : Int) ∧ i1 < 23 := ⟨(if (22 : Int) < s (62 + 2 * g + c) + 1 then 22 else s (62 + 2 * g + c) + 1).toNat, by split <;> omega, by split <;> omega⟩
    obtain ⟨i2, hi2, hi2'⟩ : ∃ i1 : Nat, (if (22 : Int) < s (62 + 2 * g + c) + 1 + s (66 + 2 * g + c) + 1 then 22 else s (62 + 2 * g + c) + 1 + s (66 + 2 * g + c) + 1) = (i1 : Int) ∧ i1 < 23 := ⟨(if (22 : Int) < s (62 + 2 * g + c) + 1 + s (66 + 2 * g + c) + 1 then 22 else s (62 + 2 * g + c) + 1 + s (66 + 2 * g + c) + 1).toNat, by split <;> omega, by split <;> omega⟩
    obtain ⟨x, hx, hx1⟩ := ints_get (cs := cs) 0 576 hcs i1 (by omega)
    obtain ⟨y, hy, hy1⟩ := ints_get (cs := cs) 0 576 hcs i2 (by omega)
    refine Tr.drawE (_ :: _ :: _ :: _) (fun H => H) rfl mixed_ ?_
    refine TD.take 0 rfl (by kernel_rfl) (by kernel_rfl) (by kernel_rfl) (fun _ _ _ h => h) (by repeat first | exact List.Sublist.refl _ | apply List.Sublist.cons_cons | apply List.Sublist.cons) (YF.move rfl) (by decide) ?_
    refine TD.take 1 rfl (by kernel_rfl) (by kernel_rfl) (by kernel_rfl) (fun _ _ _ h => h) (by repeat first | exact List.Sublist.refl _ | apply List.Sublist.cons_cons | apply List.Sublist.cons) (YF.move rfl) (by decide) ?_
    refine TD.take 2 rfl (by kernel_rfl) (by kernel_rfl) (by kernel_rfl) (fun _ _ _ h => h) (by repeat first | exact List.Sublist.refl _ | apply List.Sublist.cons_cons | apply List.Sublist.cons) (YF.min2 rfl rfl hi1) (by decide) ?_
    refine TD.take 3 rfl (by kernel_rfl) (by kernel_rfl) (by kernel_rfl) (fun _ _ _ h => h) (by repeat first | exact List.Sublist.refl _ | apply List.Sublist.cons_cons | apply List.Sublist.cons) (YF.indexSl sl_78 rfl rfl (by first | decide | omega) (show _ = i1 by omega)) (by decide) ?_
    refine TD.take 4 rfl (by kernel_rfl) (by kernel_rfl) (by kernel_rfl) (fun _ _ _ h => h) (by repeat first | exact List.Sublist.refl _ | apply List.Sublist.cons_cons | apply List.Sublist.cons) (YF.load 0 sc_3 rfl rfl hx) (by decide) ?_
    refine TD.take 5 rfl (by kernel_rfl) (by kernel_rfl) (by kernel_rfl) (fun _ _ _ h => h) (by repeat first | exact List.Sublist.refl _ | apply List.Sublist.cons_cons | apply List.Sublist.cons) (YF.move rfl) (by decide) ?_
    refine TD.take 6 rfl (by kernel_rfl) (by kernel_rfl) (by kernel_rfl) (fun _ _ _ h => h) (by repeat first | exact List.Sublist.refl _ | apply List.Sublist.cons_cons | apply List.Sublist.cons) (YF.move rfl) (by decide) ?_
    refine TD.take 7 rfl (by kernel_rfl) (by kernel_rfl) (by kernel_rfl) (fun _ _ _ h => h) (by repeat first | exact List.Sublist.refl _ | apply List.Sublist.cons_cons | apply List.Sublist.cons) (YF.move rfl) (by decide) ?_
    refine TD.take 8 rfl (by kernel_rfl) (by kernel_rfl) (by kernel_rfl) (fun _ _ _ h => h) (by repeat first | exact List.Sublist.refl _ | apply List.Sublist.cons_cons | apply List.Sublist.cons) (YF.move rfl) (by decide) ?_
    refine TD.take 9 rfl (by kernel_rfl) (by kernel_rfl) (by kernel_rfl) (fun _ _ _ h => h) (by repeat first | exact List.Sublist.refl _ | apply List.Sublist.cons_cons | apply List.Sublist.cons) (YF.fieldAddr fo_36_13 rfl rfl) (by decide) ?_
    refine TD.take 10 rfl (by kernel_rfl) (by kernel_rfl) (by kernel_rfl) (fun _ _ _ h => h) (by repeat first | exact List.Sublist.refl _ | apply List.Sublist.cons_cons | apply List.Sublist.cons) (YF.indexArr arr_31 rfl rfl (by first | decide | omega) rfl) (by decide) ?_
    refine TD.take 11 rfl (by kernel_rfl) (by kernel_rfl) (by kernel_rfl) (fun _ _ _ h => h) (by repeat first | exact List.Sublist.refl _ | apply List.Sublist.cons_cons | apply List.Sublist.cons) (YF.indexArr arr_30 rfl rfl (by first | decide | omega) (show _ = 66 + 2 * g + c by omega)) (by decide) ?_
    refine TD.take 12 rfl (by kernel_rfl) (by kernel_rfl) (by kernel_rfl) (fun _ _ _ h => h) (by repeat first | exact List.Sublist.refl _ | apply List.Sublist.cons_cons | apply List.Sublist.cons) (YF.load 1 sc_3 rfl rfl (sd_int (by omega))) (by decide) ?_
    refine TD.take 13 rfl (by kernel_rfl) (by kernel_rfl) (by kernel_rfl) (fun _ _ _ h => h) (by repeat first | exact List.Sublist.refl _ | apply List.Sublist.cons_cons | apply List.Sublist.cons) (YF.add rfl rfl (IntWalk.i64_in _ (by omega))) (by decide) ?_
    refine TD.take 14 rfl (by kernel_rfl) (by kernel_rfl) (by kernel_rfl) (fun _ _ _ h => h) (by repeat first | exact List.Sublist.refl _ | apply List.Sublist.cons_cons | apply List.Sublist.cons) (YF.add rfl rfl (IntWalk.i64_in _ (by omega))) (by decide) ?_
    refine TD.take 15 rfl (by kernel_rfl) (by kernel_rfl) (by kernel_rfl) (fun _ _ _ h => h) (by repeat first | exact List.Sublist.refl _ | apply List.Sublist.cons_cons | apply List.Sublist.cons) (YF.min2 rfl rfl hi2) (by decide) ?_
    refine TD.take 16 rfl (by kernel_rfl) (by kernel_rfl) (by kernel_rfl) (fun _ _ _ h => h) (by repeat first | exact List.Sublist.refl _ | apply List.Sublist.cons_cons | apply List.Sublist.cons) (YF.indexSl sl_78 rfl rfl (by first | decide | omega) (show _ = i2 by omega)) (by decide) ?_
    refine TD.take 17 rfl (by kernel_rfl) (by kernel_rfl) (by kernel_rfl) (fun _ _ _ h => h) (by repeat first | exact List.Sublist.refl _ | apply List.Sublist.cons_cons | apply List.Sublist.cons) (YF.load 0 sc_3 rfl rfl hy) (by decide) ?_
    refine TD.take 18 rfl (by kernel_rfl) (by kernel_rfl) (by kernel_rfl) (fun _ _ _ h => h) (by repeat first | exact List.Sublist.refl _ | apply List.Sublist.cons_cons | apply List.Sublist.cons) (YF.assign rfl) (by decide) ?_
    refine TD.take 19 rfl (by kernel_rfl) (by kernel_rfl) (by kernel_rfl) (fun _ _ _ h => h) (by repeat first | exact List.Sublist.refl _ | apply List.Sublist.cons_cons | apply List.Sublist.cons) (YF.assign rfl) (by decide) ?_
    refine TD.end (by kernel_rfl) ?_
    refine Arr.seq ?_
    refine Tr.retE ?_
    exact Ends.sub (G := H) (by repeat first | exact List.Sublist.refl _ | apply List.Sublist.cons) (Ends.tmp2 rfl rfl rfl ⟨_, _, rfl, rfl⟩)

theorem next_ct (i j : Nat) (m k : Int) (ba bv : Nat) (ad : Option Addr) (vl vc : Nat) (t : TypeId) (fr : Nat × Nat) (w0 : World) (H : Hp) (hi : H[i]? = some (ba, .cells #[.int .i64 k] 3 (0, 0))) (hj : H[j]? = some (bv, .cells #[.slice ad vl vc] t fr)) (hij : i ≠ j) (hm : 1 ≤ m ∧ m ≤ 1000) (hk : 0 ≤ k ∧ k ≤ 1000000) (hv : I8s w0 ad vl) (hvl : vl ≤ 1000) : Ct Tryd.prog 22 #[.int .i64 m, .pointer (some ⟨ba, 0, none⟩), .pointer (some ⟨bv, 0, none⟩)] w0 (H) (fun v H' => ∃ r k', k' = k + 1 ∧ v = .int .i64 r ∧ (0 ≤ r ∧ r < m) ∧ H' = H.set i (ba, .cells #[.int .i64 k'] 3 (0, 0))) := by
  refine Ct.of_body (n := 30) (E := [(0, _), (1, _), (2, _)]) Tryd.func22 rfl rfl rfl rfl ?_
  refine Tr.seq ?_
  refine Tr.region ?_
  refine TL.val (YF.assign rfl) (by decide) ?_
  refine TL.end ?_
  refine Arr.seq ?_
  refine Tr.seq ?_
  refine Tr.region ?_
  refine TL.val (YF.load i sc_3 rfl hi rfl) (by decide) ?_
  refine TL.val (YF.add rfl rfl (IntWalk.i64_in _ (by omega))) (by decide) ?_
  refine TL.store i _ rfl rfl hi sz_3 rfl Nat.zero_lt_one rfl ?_
  refine TL.end ?_
  refine Arr.seq ?_
  refine Tr.seq ?_
  refine Tr.seq ?_
  refine Tr.region ?_
  have hj' : (H.set i (ba, .cells #[.int .i64 (k + 1)] 3 (0, 0)))[j]? = some (bv, .cells #[.slice ad vl vc] t fr) := by rw [List.getElem?_set_ne hij]; exact hj
  have hi' : (H.set i (ba, .cells #[.int .i64 (k + 1)] 3 (0, 0)))[i]? = some (ba, .cells #[.int .i64 (k + 1)] 3 (0, 0)) := by rw [List.getElem?_set_self (List.getElem?_eq_some_iff.1 hi).1]
  refine TL.val (YF.load j sc_24 rfl hj' rfl) (by decide) ?_
  refine TL.val (YF.lenSl sl_24 rfl) (by decide) ?_
  refine TL.val (YF.eql rfl rfl rfl) (by decide) ?_
  refine TL.end ?_
  refine Arr.seq ?_
  refine Tr.cond rfl (fun h9 => ?_) (fun h9 => ?_)
  ·
    replace h9 := of_decide_eq_true h9
    refine Tr.seq ?_
    refine Tr.region ?_
    refine TL.val (YF.load i sc_3 rfl hi' rfl) (by decide) ?_
    refine TL.val (YF.mul rfl rfl (IntWalk.i64_in _ (by omega))) (by decide) ?_
    refine TL.val (YF.move rfl) (by decide) ?_
    have hq0 := Int.emod_nonneg ((k + 1) * 7) (b := m) (by omega)
    have hq1 := Int.emod_lt_of_pos ((k + 1) * 7) (b := m) (by omega)
    refine TL.val (YF.rem rfl rfl (by omega) (IntWalk.rem_in _ _ (by omega))) (by decide) ?_
    refine TL.val (YF.assign rfl) (by decide) ?_
    refine TL.end ?_
    refine Arr.seq ?_
    refine Tr.retE ?_
    refine Arr.seqR ?_
    exact Ends.tmp rfl rfl ⟨_, _, rfl, rfl, ⟨by assumption, by assumption⟩, rfl⟩
  ·
    replace h9 := of_decide_eq_false h9
    refine Tr.skipE ?_
    refine Arr.seq ?_
    refine Tr.seq ?_
    rcases hv with hv0 | ⟨b, o, rfl, hv⟩
    · omega
    have hq0 := Int.emod_nonneg (k + 1) (b := (vl : Int)) (by omega)
    have hq1 := Int.emod_lt_of_pos (k + 1) (b := (vl : Int)) (by omega)
    have hd0 := Int.ediv_nonneg (a := k + 1) (b := (vl : Int)) (by omega) (by omega)
    have hd1 : (k + 1) / (vl : Int) ≤ k + 1 := Int.ediv_le_self _ (by omega)
    obtain ⟨z, hz, hz0, hz1⟩ := hv ((k + 1) % (vl : Int)).toNat (by omega)
    have hr0 := Int.emod_nonneg (z + 128 + (k + 1) / (vl : Int)) (b := m) (by omega)
    have hr1 := Int.emod_lt_of_pos (z + 128 + (k + 1) / (vl : Int)) (b := m) (by omega)
    refine Tr.drawE (_) (fun H => H) rfl mixed_ ?_
    refine TD.take 0 rfl (by kernel_rfl) (by kernel_rfl) (by kernel_rfl) (fun _ _ _ h => h) (by repeat first | exact List.Sublist.refl _ | apply List.Sublist.cons_cons | apply List.Sublist.cons) (YF.load j sc_24 rfl hj' rfl) (by decide) ?_
    refine TD.take 1 rfl (by kernel_rfl) (by kernel_rfl) (by kernel_rfl) (fun _ _ _ h => h) (by repeat first | exact List.Sublist.refl _ | apply List.Sublist.cons_cons | apply List.Sublist.cons) (YF.load i sc_3 rfl hi' rfl) (by decide) ?_
    refine TD.take 2 rfl (by kernel_rfl) (by kernel_rfl) (by kernel_rfl) (fun _ _ _ h => h) (by repeat first | exact List.Sublist.refl _ | apply List.Sublist.cons_cons | apply List.Sublist.cons) (YF.load j sc_24 rfl hj' rfl) (by decide) ?_
    refine TD.take 3 rfl (by kernel_rfl) (by kernel_rfl) (by kernel_rfl) (fun _ _ _ h => h) (by repeat first | exact List.Sublist.refl _ | apply List.Sublist.cons_cons | apply List.Sublist.cons) (YF.lenSl sl_24 rfl) (by decide) ?_
    refine TD.take 4 rfl (by kernel_rfl) (by kernel_rfl) (by kernel_rfl) (fun _ _ _ h => h) (by repeat first | exact List.Sublist.refl _ | apply List.Sublist.cons_cons | apply List.Sublist.cons) (YF.rem rfl rfl (by omega) (IntWalk.rem_in _ _ (by omega))) (by decide) ?_
    refine TD.take 5 rfl (by kernel_rfl) (by kernel_rfl) (by kernel_rfl) (fun _ _ _ h => h) (by repeat first | exact List.Sublist.refl _ | apply List.Sublist.cons_cons | apply List.Sublist.cons) (YF.indexSl sl_24 rfl rfl ⟨hq0, hq1⟩ (by rw [Nat.mul_one])) (by decide) ?_
    refine TD.take 6 rfl (by kernel_rfl) (by kernel_rfl) (by kernel_rfl) (fun _ _ _ h => h) (by repeat first | exact List.Sublist.refl _ | apply List.Sublist.cons_cons | apply List.Sublist.cons) (YF.load_old sc_73 rfl hz) (by decide) ?_
    refine TD.take 7 rfl (by kernel_rfl) (by kernel_rfl) (by kernel_rfl) (fun _ _ _ h => h) (by repeat first | exact List.Sublist.refl _ | apply List.Sublist.cons_cons | apply List.Sublist.cons) (YF.conv und_73 und_3 rfl (IntWalk.i64_in _ (by omega))) (by decide) ?_
    refine TD.take 8 rfl (by kernel_rfl) (by kernel_rfl) (by kernel_rfl) (fun _ _ _ h => h) (by repeat first | exact List.Sublist.refl _ | apply List.Sublist.cons_cons | apply List.Sublist.cons) (YF.add rfl rfl (IntWalk.i64_in _ (by omega))) (by decide) ?_
    refine TD.take 9 rfl (by kernel_rfl) (by kernel_rfl) (by kernel_rfl) (fun _ _ _ h => h) (by repeat first | exact List.Sublist.refl _ | apply List.Sublist.cons_cons | apply List.Sublist.cons) (YF.load i sc_3 rfl hi' rfl) (by decide) ?_
    refine TD.take 10 rfl (by kernel_rfl) (by kernel_rfl) (by kernel_rfl) (fun _ _ _ h => h) (by repeat first | exact List.Sublist.refl _ | apply List.Sublist.cons_cons | apply List.Sublist.cons) (YF.load j sc_24 rfl hj' rfl) (by decide) ?_
    refine TD.take 11 rfl (by kernel_rfl) (by kernel_rfl) (by kernel_rfl) (fun _ _ _ h => h) (by repeat first | exact List.Sublist.refl _ | apply List.Sublist.cons_cons | apply List.Sublist.cons) (YF.lenSl sl_24 rfl) (by decide) ?_
    refine TD.take 12 rfl (by kernel_rfl) (by kernel_rfl) (by kernel_rfl) (fun _ _ _ h => h) (by repeat first | exact List.Sublist.refl _ | apply List.Sublist.cons_cons | apply List.Sublist.cons) (YF.quo rfl rfl (by omega) (IntWalk.i64_quo _ _ (by omega))) (by decide) ?_
    refine TD.take 13 rfl (by kernel_rfl) (by kernel_rfl) (by kernel_rfl) (fun _ _ _ h => h) (by repeat first | exact List.Sublist.refl _ | apply List.Sublist.cons_cons | apply List.Sublist.cons) (YF.add rfl rfl (IntWalk.i64_in _ (by omega))) (by decide) ?_
    refine TD.take 14 rfl (by kernel_rfl) (by kernel_rfl) (by kernel_rfl) (fun _ _ _ h => h) (by repeat first | exact List.Sublist.refl _ | apply List.Sublist.cons_cons | apply List.Sublist.cons) (YF.move rfl) (by decide) ?_
    refine TD.take 15 rfl (by kernel_rfl) (by kernel_rfl) (by kernel_rfl) (fun _ _ _ h => h) (by repeat first | exact List.Sublist.refl _ | apply List.Sublist.cons_cons | apply List.Sublist.cons) (YF.rem rfl rfl (by omega) (IntWalk.rem_in _ _ (by omega))) (by decide) ?_
    refine TD.take 16 rfl (by kernel_rfl) (by kernel_rfl) (by kernel_rfl) (fun _ _ _ h => h) (by repeat first | exact List.Sublist.refl _ | apply List.Sublist.cons_cons | apply List.Sublist.cons) (YF.assign rfl) (by decide) ?_
    refine TD.end (by kernel_rfl) ?_
    refine Arr.seq ?_
    refine Tr.retE ?_
    exact Ends.tmp rfl rfl ⟨_, _, rfl, rfl, ⟨by assumption, by assumption⟩, rfl⟩

end Go.Proofs.YtbcjhkncifckiaaDoor
