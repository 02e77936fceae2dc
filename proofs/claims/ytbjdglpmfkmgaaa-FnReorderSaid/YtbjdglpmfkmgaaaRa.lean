/- The walks of the tables of bands. -/
import Derived.Test.YtbjdglpmfkmgaaaWc
import Derived.Test.YtbjdglpmfkmgaaaRo
namespace Go.Proofs.Ytbjdglpmfkmgaaa
open Go Go.RowKit Go.Proofs En
set_option maxRecDepth 100000

theorem id_ct (w : Int) (w0 : World) (H : Hp) (hw : 0 ≤ w ∧ w < 4294967296) : Ct Try.prog 31 #[.int .u32 w] w0 (H) (fun v H' => ∃ r, r = w / 524288 % 4 ∧ v = .int .i64 r ∧ H' = H) := by
  refine Ct.of_body (n := 7) (E := [(0, _)]) Try.func31 rfl rfl rfl rfl ?_
  refine Tr.seq ?_
  refine Tr.region ?_
  refine TL.val (YF.assign rfl) (by decide) ?_
  refine TL.end ?_
  refine Arr.seq ?_
  refine Tr.seq ?_
  refine Tr.region ?_
  refine TL.val (YF.move rfl) (by decide) ?_
  refine TL.val (YF.band rfl rfl (u32_maskv (p := 524288) (q := 4) 19 2 1572864 (by decide) (by decide) (by decide) (by decide) (by omega) (by omega))) (by decide) ?_
  refine TL.val (YF.shr rfl rfl (by decide) (shrv (p := 524288) 19 rfl (by decide) (by decide))) (by decide) ?_
  refine TL.val (YF.conv und_88 und_109 rfl (IntWalk.i64_in _ (by omega))) (by decide) ?_
  refine TL.val (YF.assign rfl) (by decide) ?_
  refine TL.end ?_
  refine Arr.seq ?_
  refine Tr.retE ?_
  exact Ends.tmp rfl rfl ⟨_, by omega, rfl, rfl⟩

theorem low_ct (w : Int) (w0 : World) (H : Hp) (hw : 0 ≤ w ∧ w < 4294967296) (h3 : w / 524288 % 4 = 3) : Ct Try.prog 29 #[.int .u32 w] w0 (H) (fun v H' => v = .int .i64 0 ∧ H' = H) := by
  refine Ct.of_body (n := 6) (E := [(0, _)]) Try.func29 rfl rfl rfl rfl ?_
  refine Tr.seq ?_
  refine Tr.region ?_
  refine TL.val (YF.assign rfl) (by decide) ?_
  refine TL.end ?_
  refine Arr.seq ?_
  refine Tr.seq ?_
  refine Tr.seq ?_
  refine Tr.region ?_
  refine TL.val (YF.move rfl) (by decide) ?_
  refine TL.call (vs := [_]) call_31 rfl (by decide) (id_ct _ w0 _ hw) ?_
  rintro _ _ ⟨r, hr, rfl, rfl⟩
  refine TL.val (YF.eql (b := true) rfl rfl (decide_eq_true (by omega))) (by decide) ?_
  refine TL.end ?_
  refine Arr.seq ?_
  refine Tr.condT rfl ?_
  refine Tr.seq ?_
  refine Tr.region ?_
  refine TL.val (YF.assign rfl) (by decide) ?_
  refine TL.end ?_
  refine Arr.seq ?_
  refine Tr.retE ?_
  refine Arr.seqR ?_
  exact Ends.tmp rfl rfl ⟨rfl, rfl⟩

theorem freq_ct (w : Int) (w0 : World) (H : Hp) (hw : 0 ≤ w ∧ w < 4294967296) : Ct Try.prog 28 #[.int .u32 w] w0 (H) (fun v H' => ∃ r, r = w / 1024 % 4 ∧ v = .int .i64 r ∧ H' = H) := by
  refine Ct.of_body (n := 7) (E := [(0, _)]) Try.func28 rfl rfl rfl rfl ?_
  refine Tr.seq ?_
  refine Tr.region ?_
  refine TL.val (YF.assign rfl) (by decide) ?_
  refine TL.end ?_
  refine Arr.seq ?_
  refine Tr.seq ?_
  refine Tr.region ?_
  refine TL.val (YF.move rfl) (by decide) ?_
  refine TL.val (YF.band rfl rfl (u32_maskv (p := 1024) (q := 4) 10 2 3072 (by decide) (by decide) (by decide) (by decide) (by omega) (by omega))) (by decide) ?_
  refine TL.val (YF.conv und_88 und_3 rfl (IntWalk.i64_in _ (by omega))) (by decide) ?_
  refine TL.val (YF.shr rfl rfl (by decide) (shrv (p := 1024) 10 rfl (by decide) (by decide))) (by decide) ?_
  refine TL.val (YF.assign rfl) (by decide) ?_
  refine TL.end ?_
  refine Arr.seq ?_
  refine Tr.retE ?_
  exact Ends.tmp rfl rfl ⟨_, by omega, rfl, rfl⟩

theorem bands_ct  (w0 : World) (H : Hp) : Ct Try.prog 30 #[] w0 (H) (fun v H' => ∃ b0 b1 b2 b3 b4 b5 b6 b7 b8 b9 b10 b11 : Nat, v = .agg #[.slice (some ⟨b0, 0, none⟩) 23 23, .slice (some ⟨b1, 0, none⟩) 14 14, .slice (some ⟨b2, 0, none⟩) 23 23, .slice (some ⟨b3, 0, none⟩) 14 14, .slice (some ⟨b4, 0, none⟩) 23 23, .slice (some ⟨b5, 0, none⟩) 14 14, .slice (some ⟨b6, 0, none⟩) 23 23, .slice (some ⟨b7, 0, none⟩) 14 14, .slice (some ⟨b8, 0, none⟩) 23 23, .slice (some ⟨b9, 0, none⟩) 14 14, .slice (some ⟨b10, 0, none⟩) 23 23, .slice (some ⟨b11, 0, none⟩) 14 14] ∧ H' = (b11, .cells #[.int .i64 0, .int .i64 4, .int .i64 8, .int .i64 12, .int .i64 18, .int .i64 26, .int .i64 36, .int .i64 48, .int .i64 62, .int .i64 80, .int .i64 104, .int .i64 134, .int .i64 174, .int .i64 192] 3 (0, 0)) :: (b10, .cells #[.int .i64 0, .int .i64 6, .int .i64 12, .int .i64 18, .int .i64 24, .int .i64 30, .int .i64 36, .int .i64 44, .int .i64 54, .int .i64 66, .int .i64 80, .int .i64 96, .int .i64 116, .int .i64 140, .int .i64 168, .int .i64 200, .int .i64 238, .int .i64 284, .int .i64 336, .int .i64 396, .int .i64 464, .int .i64 522, .int .i64 576] 3 (0, 0)) :: (b9, .cells #[.int .i64 0, .int .i64 4, .int .i64 8, .int .i64 12, .int .i64 18, .int .i64 26, .int .i64 36, .int .i64 48, .int .i64 62, .int .i64 80, .int .i64 104, .int .i64 136, .int .i64 180, .int .i64 192] 3 (0, 0)) :: (b8, .cells #[.int .i64 0, .int .i64 6, .int .i64 12, .int .i64 18, .int .i64 24, .int .i64 30, .int .i64 36, .int .i64 44, .int .i64 54, .int .i64 66, .int .i64 80, .int .i64 96, .int .i64 114, .int .i64 136, .int .i64 162, .int .i64 194, .int .i64 232, .int .i64 278, .int .i64 332, .int .i64 394, .int .i64 464, .int .i64 540, .int .i64 576] 3 (0, 0)) :: (b7, .cells #[.int .i64 0, .int .i64 4, .int .i64 8, .int .i64 12, .int .i64 18, .int .i64 24, .int .i64 32, .int .i64 42, .int .i64 56, .int .i64 74, .int .i64 100, .int .i64 132, .int .i64 174, .int .i64 192] 3 (0, 0)) :: (b6, .cells #[.int .i64 0, .int .i64 6, .int .i64 12, .int .i64 18, .int .i64 24, .int .i64 30, .int .i64 36, .int .i64 44, .int .i64 54, .int .i64 66, .int .i64 80, .int .i64 96, .int .i64 116, .int .i64 140, .int .i64 168, .int .i64 200, .int .i64 238, .int .i64 284, .int .i64 336, .int .i64 396, .int .i64 464, .int .i64 522, .int .i64 576] 3 (0, 0)) :: (b5, .cells #[.int .i64 0, .int .i64 4, .int .i64 8, .int .i64 12, .int .i64 16, .int .i64 22, .int .i64 30, .int .i64 42, .int .i64 58, .int .i64 78, .int .i64 104, .int .i64 138, .int .i64 180, .int .i64 192] 3 (0, 0)) :: (b4, .cells #[.int .i64 0, .int .i64 4, .int .i64 8, .int .i64 12, .int .i64 16, .int .i64 20, .int .i64 24, .int .i64 30, .int .i64 36, .int .i64 44, .int .i64 54, .int .i64 66, .int .i64 82, .int .i64 102, .int .i64 126, .int .i64 156, .int .i64 194, .int .i64 240, .int .i64 296, .int .i64 364, .int .i64 448, .int .i64 550, .int .i64 576] 3 (0, 0)) :: (b3, .cells #[.int .i64 0, .int .i64 4, .int .i64 8, .int .i64 12, .int .i64 16, .int .i64 22, .int .i64 28, .int .i64 38, .int .i64 50, .int .i64 64, .int .i64 80, .int .i64 100, .int .i64 126, .int .i64 192] 3 (0, 0)) :: (b2, .cells #[.int .i64 0, .int .i64 4, .int .i64 8, .int .i64 12, .int .i64 16, .int .i64 20, .int .i64 24, .int .i64 30, .int .i64 36, .int .i64 42, .int .i64 50, .int .i64 60, .int .i64 72, .int .i64 88, .int .i64 106, .int .i64 128, .int .i64 156, .int .i64 190, .int .i64 230, .int .i64 276, .int .i64 330, .int .i64 384, .int .i64 576] 3 (0, 0)) :: (b1, .cells #[.int .i64 0, .int .i64 4, .int .i64 8, .int .i64 12, .int .i64 16, .int .i64 22, .int .i64 30, .int .i64 40, .int .i64 52, .int .i64 66, .int .i64 84, .int .i64 106, .int .i64 136, .int .i64 192] 3 (0, 0)) :: (b0, .cells #[.int .i64 0, .int .i64 4, .int .i64 8, .int .i64 12, .int .i64 16, .int .i64 20, .int .i64 24, .int .i64 30, .int .i64 36, .int .i64 44, .int .i64 52, .int .i64 62, .int .i64 74, .int .i64 90, .int .i64 110, .int .i64 134, .int .i64 162, .int .i64 196, .int .i64 238, .int .i64 288, .int .i64 342, .int .i64 418, .int .i64 576] 3 (0, 0)) :: H) := by
  refine Ct.of_body (n := 22) (E := []) Try.func30 rfl rfl rfl rfl ?_
  refine Tr.seq ?_
  refine Tr.region ?_
  refine TL.allocA zero_107 (by decide) (fun ba => ?_)
  refine TL.end ?_
  refine Arr.seq ?_
  refine Tr.seq ?_
  refine Tr.region ?_
  refine TL.buildSlice (vs := [(0, (.int .i64 0)), (1, (.int .i64 4)), (2, (.int .i64 8)), (3, (.int .i64 12)), (4, (.int .i64 16)), (5, (.int .i64 20)), (6, (.int .i64 24)), (7, (.int .i64 30)), (8, (.int .i64 36)), (9, (.int .i64 44)), (10, (.int .i64 52)), (11, (.int .i64 62)), (12, (.int .i64 74)), (13, (.int .i64 90)), (14, (.int .i64 110)), (15, (.int .i64 134)), (16, (.int .i64 162)), (17, (.int .i64 196)), (18, (.int .i64 238)), (19, (.int .i64 288)), (20, (.int .i64 342)), (21, (.int .i64 418)), (22, (.int .i64 576))]) (cs := #[.int .i64 0, .int .i64 4, .int .i64 8, .int .i64 12, .int .i64 16, .int .i64 20, .int .i64 24, .int .i64 30, .int .i64 36, .int .i64 44, .int .i64 52, .int .i64 62, .int .i64 74, .int .i64 90, .int .i64 110, .int .i64 134, .int .i64 162, .int .i64 196, .int .i64 238, .int .i64 288, .int .i64 342, .int .i64 418, .int .i64 576]) sl_69 zero_3 rfl rfl (by kernel_rfl) rfl (by decide) (fun b0 => ?_)
  refine TL.buildSlice (vs := [(0, (.int .i64 0)), (1, (.int .i64 4)), (2, (.int .i64 8)), (3, (.int .i64 12)), (4, (.int .i64 16)), (5, (.int .i64 22)), (6, (.int .i64 30)), (7, (.int .i64 40)), (8, (.int .i64 52)), (9, (.int .i64 66)), (10, (.int .i64 84)), (11, (.int .i64 106)), (12, (.int .i64 136)), (13, (.int .i64 192))]) (cs := #[.int .i64 0, .int .i64 4, .int .i64 8, .int .i64 12, .int .i64 16, .int .i64 22, .int .i64 30, .int .i64 40, .int .i64 52, .int .i64 66, .int .i64 84, .int .i64 106, .int .i64 136, .int .i64 192]) sl_69 zero_3 rfl rfl (by kernel_rfl) rfl (by decide) (fun b1 => ?_)
  refine TL.val (YF.build (vs := [(0, _), (1, _)]) (cs := #[.slice (some ⟨b0, 0, none⟩) 23 23, .slice (some ⟨b1, 0, none⟩) 14 14]) rfl (by kernel_rfl)) (by decide) ?_
  refine TL.buildSlice (vs := [(0, (.int .i64 0)), (1, (.int .i64 4)), (2, (.int .i64 8)), (3, (.int .i64 12)), (4, (.int .i64 16)), (5, (.int .i64 20)), (6, (.int .i64 24)), (7, (.int .i64 30)), (8, (.int .i64 36)), (9, (.int .i64 42)), (10, (.int .i64 50)), (11, (.int .i64 60)), (12, (.int .i64 72)), (13, (.int .i64 88)), (14, (.int .i64 106)), (15, (.int .i64 128)), (16, (.int .i64 156)), (17, (.int .i64 190)), (18, (.int .i64 230)), (19, (.int .i64 276)), (20, (.int .i64 330)), (21, (.int .i64 384)), (22, (.int .i64 576))]) (cs := #[.int .i64 0, .int .i64 4, .int .i64 8, .int .i64 12, .int .i64 16, .int .i64 20, .int .i64 24, .int .i64 30, .int .i64 36, .int .i64 42, .int .i64 50, .int .i64 60, .int .i64 72, .int .i64 88, .int .i64 106, .int .i64 128, .int .i64 156, .int .i64 190, .int .i64 230, .int .i64 276, .int .i64 330, .int .i64 384, .int .i64 576]) sl_69 zero_3 rfl rfl (by kernel_rfl) rfl (by decide) (fun b2 => ?_)
  refine TL.buildSlice (vs := [(0, (.int .i64 0)), (1, (.int .i64 4)), (2, (.int .i64 8)), (3, (.int .i64 12)), (4, (.int .i64 16)), (5, (.int .i64 22)), (6, (.int .i64 28)), (7, (.int .i64 38)), (8, (.int .i64 50)), (9, (.int .i64 64)), (10, (.int .i64 80)), (11, (.int .i64 100)), (12, (.int .i64 126)), (13, (.int .i64 192))]) (cs := #[.int .i64 0, .int .i64 4, .int .i64 8, .int .i64 12, .int .i64 16, .int .i64 22, .int .i64 28, .int .i64 38, .int .i64 50, .int .i64 64, .int .i64 80, .int .i64 100, .int .i64 126, .int .i64 192]) sl_69 zero_3 rfl rfl (by kernel_rfl) rfl (by decide) (fun b3 => ?_)
  refine TL.val (YF.build (vs := [(0, _), (1, _)]) (cs := #[.slice (some ⟨b2, 0, none⟩) 23 23, .slice (some ⟨b3, 0, none⟩) 14 14]) rfl (by kernel_rfl)) (by decide) ?_
  refine TL.buildSlice (vs := [(0, (.int .i64 0)), (1, (.int .i64 4)), (2, (.int .i64 8)), (3, (.int .i64 12)), (4, (.int .i64 16)), (5, (.int .i64 20)), (6, (.int .i64 24)), (7, (.int .i64 30)), (8, (.int .i64 36)), (9, (.int .i64 44)), (10, (.int .i64 54)), (11, (.int .i64 66)), (12, (.int .i64 82)), (13, (.int .i64 102)), (14, (.int .i64 126)), (15, (.int .i64 156)), (16, (.int .i64 194)), (17, (.int .i64 240)), (18, (.int .i64 296)), (19, (.int .i64 364)), (20, (.int .i64 448)), (21, (.int .i64 550)), (22, (.int .i64 576))]) (cs := #[.int .i64 0, .int .i64 4, .int .i64 8, .int .i64 12, .int .i64 16, .int .i64 20, .int .i64 24, .int .i64 30, .int .i64 36, .int .i64 44, .int .i64 54, .int .i64 66, .int .i64 82, .int .i64 102, .int .i64 126, .int .i64 156, .int .i64 194, .int .i64 240, .int .i64 296, .int .i64 364, .int .i64 448, .int .i64 550, .int .i64 576]) sl_69 zero_3 rfl rfl (by kernel_rfl) rfl (by decide) (fun b4 => ?_)
  refine TL.buildSlice (vs := [(0, (.int .i64 0)), (1, (.int .i64 4)), (2, (.int .i64 8)), (3, (.int .i64 12)), (4, (.int .i64 16)), (5, (.int .i64 22)), (6, (.int .i64 30)), (7, (.int .i64 42)), (8, (.int .i64 58)), (9, (.int .i64 78)), (10, (.int .i64 104)), (11, (.int .i64 138)), (12, (.int .i64 180)), (13, (.int .i64 192))]) (cs := #[.int .i64 0, .int .i64 4, .int .i64 8, .int .i64 12, .int .i64 16, .int .i64 22, .int .i64 30, .int .i64 42, .int .i64 58, .int .i64 78, .int .i64 104, .int .i64 138, .int .i64 180, .int .i64 192]) sl_69 zero_3 rfl rfl (by kernel_rfl) rfl (by decide) (fun b5 => ?_)
  refine TL.val (YF.build (vs := [(0, _), (1, _)]) (cs := #[.slice (some ⟨b4, 0, none⟩) 23 23, .slice (some ⟨b5, 0, none⟩) 14 14]) rfl (by kernel_rfl)) (by decide) ?_
  refine TL.val (YF.build (vs := [(0, _), (1, _), (2, _)]) (cs := #[.slice (some ⟨b0, 0, none⟩) 23 23, .slice (some ⟨b1, 0, none⟩) 14 14, .slice (some ⟨b2, 0, none⟩) 23 23, .slice (some ⟨b3, 0, none⟩) 14 14, .slice (some ⟨b4, 0, none⟩) 23 23, .slice (some ⟨b5, 0, none⟩) 14 14]) rfl (by kernel_rfl)) (by decide) ?_
  refine TL.buildSlice (vs := [(0, (.int .i64 0)), (1, (.int .i64 6)), (2, (.int .i64 12)), (3, (.int .i64 18)), (4, (.int .i64 24)), (5, (.int .i64 30)), (6, (.int .i64 36)), (7, (.int .i64 44)), (8, (.int .i64 54)), (9, (.int .i64 66)), (10, (.int .i64 80)), (11, (.int .i64 96)), (12, (.int .i64 116)), (13, (.int .i64 140)), (14, (.int .i64 168)), (15, (.int .i64 200)), (16, (.int .i64 238)), (17, (.int .i64 284)), (18, (.int .i64 336)), (19, (.int .i64 396)), (20, (.int .i64 464)), (21, (.int .i64 522)), (22, (.int .i64 576))]) (cs := #[.int .i64 0, .int .i64 6, .int .i64 12, .int .i64 18, .int .i64 24, .int .i64 30, .int .i64 36, .int .i64 44, .int .i64 54, .int .i64 66, .int .i64 80, .int .i64 96, .int .i64 116, .int .i64 140, .int .i64 168, .int .i64 200, .int .i64 238, .int .i64 284, .int .i64 336, .int .i64 396, .int .i64 464, .int .i64 522, .int .i64 576]) sl_69 zero_3 rfl rfl (by kernel_rfl) rfl (by decide) (fun b6 => ?_)
  refine TL.buildSlice (vs := [(0, (.int .i64 0)), (1, (.int .i64 4)), (2, (.int .i64 8)), (3, (.int .i64 12)), (4, (.int .i64 18)), (5, (.int .i64 24)), (6, (.int .i64 32)), (7, (.int .i64 42)), (8, (.int .i64 56)), (9, (.int .i64 74)), (10, (.int .i64 100)), (11, (.int .i64 132)), (12, (.int .i64 174)), (13, (.int .i64 192))]) (cs := #[.int .i64 0, .int .i64 4, .int .i64 8, .int .i64 12, .int .i64 18, .int .i64 24, .int .i64 32, .int .i64 42, .int .i64 56, .int .i64 74, .int .i64 100, .int .i64 132, .int .i64 174, .int .i64 192]) sl_69 zero_3 rfl rfl (by kernel_rfl) rfl (by decide) (fun b7 => ?_)
  refine TL.val (YF.build (vs := [(0, _), (1, _)]) (cs := #[.slice (some ⟨b6, 0, none⟩) 23 23, .slice (some ⟨b7, 0, none⟩) 14 14]) rfl (by kernel_rfl)) (by decide) ?_
  refine TL.buildSlice (vs := [(0, (.int .i64 0)), (1, (.int .i64 6)), (2, (.int .i64 12)), (3, (.int .i64 18)), (4, (.int .i64 24)), (5, (.int .i64 30)), (6, (.int .i64 36)), (7, (.int .i64 44)), (8, (.int .i64 54)), (9, (.int .i64 66)), (10, (.int .i64 80)), (11, (.int .i64 96)), (12, (.int .i64 114)), (13, (.int .i64 136)), (14, (.int .i64 162)), (15, (.int .i64 194)), (16, (.int .i64 232)), (17, (.int .i64 278)), (18, (.int .i64 332)), (19, (.int .i64 394)), (20, (.int .i64 464)), (21, (.int .i64 540)), (22, (.int .i64 576))]) (cs := #[.int .i64 0, .int .i64 6, .int .i64 12, .int .i64 18, .int .i64 24, .int .i64 30, .int .i64 36, .int .i64 44, .int .i64 54, .int .i64 66, .int .i64 80, .int .i64 96, .int .i64 114, .int .i64 136, .int .i64 162, .int .i64 194, .int .i64 232, .int .i64 278, .int .i64 332, .int .i64 394, .int .i64 464, .int .i64 540, .int .i64 576]) sl_69 zero_3 rfl rfl (by kernel_rfl) rfl (by decide) (fun b8 => ?_)
  refine TL.buildSlice (vs := [(0, (.int .i64 0)), (1, (.int .i64 4)), (2, (.int .i64 8)), (3, (.int .i64 12)), (4, (.int .i64 18)), (5, (.int .i64 26)), (6, (.int .i64 36)), (7, (.int .i64 48)), (8, (.int .i64 62)), (9, (.int .i64 80)), (10, (.int .i64 104)), (11, (.int .i64 136)), (12, (.int .i64 180)), (13, (.int .i64 192))]) (cs := #[.int .i64 0, .int .i64 4, .int .i64 8, .int .i64 12, .int .i64 18, .int .i64 26, .int .i64 36, .int .i64 48, .int .i64 62, .int .i64 80, .int .i64 104, .int .i64 136, .int .i64 180, .int .i64 192]) sl_69 zero_3 rfl rfl (by kernel_rfl) rfl (by decide) (fun b9 => ?_)
  refine TL.val (YF.build (vs := [(0, _), (1, _)]) (cs := #[.slice (some ⟨b8, 0, none⟩) 23 23, .slice (some ⟨b9, 0, none⟩) 14 14]) rfl (by kernel_rfl)) (by decide) ?_
  refine TL.buildSlice (vs := [(0, (.int .i64 0)), (1, (.int .i64 6)), (2, (.int .i64 12)), (3, (.int .i64 18)), (4, (.int .i64 24)), (5, (.int .i64 30)), (6, (.int .i64 36)), (7, (.int .i64 44)), (8, (.int .i64 54)), (9, (.int .i64 66)), (10, (.int .i64 80)), (11, (.int .i64 96)), (12, (.int .i64 116)), (13, (.int .i64 140)), (14, (.int .i64 168)), (15, (.int .i64 200)), (16, (.int .i64 238)), (17, (.int .i64 284)), (18, (.int .i64 336)), (19, (.int .i64 396)), (20, (.int .i64 464)), (21, (.int .i64 522)), (22, (.int .i64 576))]) (cs := #[.int .i64 0, .int .i64 6, .int .i64 12, .int .i64 18, .int .i64 24, .int .i64 30, .int .i64 36, .int .i64 44, .int .i64 54, .int .i64 66, .int .i64 80, .int .i64 96, .int .i64 116, .int .i64 140, .int .i64 168, .int .i64 200, .int .i64 238, .int .i64 284, .int .i64 336, .int .i64 396, .int .i64 464, .int .i64 522, .int .i64 576]) sl_69 zero_3 rfl rfl (by kernel_rfl) rfl (by decide) (fun b10 => ?_)
  refine TL.buildSlice (vs := [(0, (.int .i64 0)), (1, (.int .i64 4)), (2, (.int .i64 8)), (3, (.int .i64 12)), (4, (.int .i64 18)), (5, (.int .i64 26)), (6, (.int .i64 36)), (7, (.int .i64 48)), (8, (.int .i64 62)), (9, (.int .i64 80)), (10, (.int .i64 104)), (11, (.int .i64 134)), (12, (.int .i64 174)), (13, (.int .i64 192))]) (cs := #[.int .i64 0, .int .i64 4, .int .i64 8, .int .i64 12, .int .i64 18, .int .i64 26, .int .i64 36, .int .i64 48, .int .i64 62, .int .i64 80, .int .i64 104, .int .i64 134, .int .i64 174, .int .i64 192]) sl_69 zero_3 rfl rfl (by kernel_rfl) rfl (by decide) (fun b11 => ?_)
  refine TL.val (YF.build (vs := [(0, _), (1, _)]) (cs := #[.slice (some ⟨b10, 0, none⟩) 23 23, .slice (some ⟨b11, 0, none⟩) 14 14]) rfl (by kernel_rfl)) (by decide) ?_
  refine TL.val (YF.build (vs := [(0, _), (1, _), (2, _)]) (cs := #[.slice (some ⟨b6, 0, none⟩) 23 23, .slice (some ⟨b7, 0, none⟩) 14 14, .slice (some ⟨b8, 0, none⟩) 23 23, .slice (some ⟨b9, 0, none⟩) 14 14, .slice (some ⟨b10, 0, none⟩) 23 23, .slice (some ⟨b11, 0, none⟩) 14 14]) rfl (by kernel_rfl)) (by decide) ?_
  refine TL.val (YF.build (vs := [(0, _), (1, _)]) (cs := #[.slice (some ⟨b0, 0, none⟩) 23 23, .slice (some ⟨b1, 0, none⟩) 14 14, .slice (some ⟨b2, 0, none⟩) 23 23, .slice (some ⟨b3, 0, none⟩) 14 14, .slice (some ⟨b4, 0, none⟩) 23 23, .slice (some ⟨b5, 0, none⟩) 14 14, .slice (some ⟨b6, 0, none⟩) 23 23, .slice (some ⟨b7, 0, none⟩) 14 14, .slice (some ⟨b8, 0, none⟩) 23 23, .slice (some ⟨b9, 0, none⟩) 14 14, .slice (some ⟨b10, 0, none⟩) 23 23, .slice (some ⟨b11, 0, none⟩) 14 14]) rfl (by kernel_rfl)) (by decide) ?_
  refine TL.storeAll 12 (_ :: _ :: _ :: _ :: _ :: _ :: _ :: _ :: _ :: _ :: _ :: _ :: _ :: H) rfl rfl rfl sz_107 rfl Zsz_107 rfl rfl ?_
  refine TL.end ?_
  refine Arr.seq ?_
  refine Tr.retE ?_
  exact Ends.cellG (G := _ :: _ :: _ :: _ :: _ :: _ :: _ :: _ :: _ :: _ :: _ :: _ :: H) 12 rfl rfl agg_107 rfl rfl (by repeat first | exact List.Sublist.refl _ | apply List.Sublist.cons_cons | apply List.Sublist.cons) ⟨_, _, _, _, _, _, _, _, _, _, _, _, rfl, rfl⟩

set_option maxHeartbeats 4000000 in
theorem getSf_ct (i b o r : Nat) (w : Int) (cs : Array Value) (t : TypeId) (fr : Nat × Nat) (w0 : World) (H : Hp) (hi : H[i]? = some (b, .cells cs t fr)) (hc : cs[o]? = some (.int .u32 w)) (hw : 0 ≤ w ∧ w < 4294967296) (h3 : w / 524288 % 4 = 3) (hr : w / 1024 % 4 = (r : Int)) (hr3 : r < 3) : Ct Try.prog 27 #[.pointer (some ⟨b, o, none⟩)] w0 (H) (fun v H' => ∃ bl bs cs, cs = va 14 (sd (sbi r)) ∧ v = .tuple #[.slice (some ⟨bl, 0, none⟩) 23 23, .slice (some ⟨bs, 0, none⟩) 14 14] ∧ H' = (bs, .cells cs 3 (0, 0)) :: H) := by
  refine Ct.of_body (n := 30) (E := [(0, _)]) Try.func27 rfl rfl rfl rfl ?_
  refine Tr.seq ?_
  refine Tr.region ?_
  refine TL.val (YF.assign rfl) (by decide) ?_
  refine TL.val (YF.assign rfl) (by decide) ?_
  refine TL.end ?_
  refine Arr.seq ?_
  refine Tr.seq ?_
  refine Tr.region ?_
  refine TL.val (YF.move rfl) (by decide) ?_
  refine TL.val (YF.nilCheck rfl) (by decide) ?_
  refine TL.val (YF.load (v := .int .u32 w) i sc_88 rfl hi hc) (by decide) ?_
  refine TL.call (vs := [_]) call_28 rfl (by decide) (freq_ct _ w0 _ hw) ?_
  rintro _ _ ⟨q, hq, rfl, rfl⟩
  obtain rfl : q = (r : Int) := by omega
  refine TL.val (YF.assign rfl) (by decide) ?_
  refine TL.end ?_
  refine Arr.seq ?_
  refine Tr.seq ?_
  refine Tr.region ?_
  refine TL.val (YF.move rfl) (by decide) ?_
  refine TL.val (YF.nilCheck rfl) (by decide) ?_
  refine TL.val (YF.load (v := .int .u32 w) i sc_88 rfl hi hc) (by decide) ?_
  refine TL.call (vs := [_]) call_29 rfl (by decide) (low_ct _ w0 _ hw h3) ?_
  rintro _ _ ⟨rfl, rfl⟩
  refine TL.val (YF.assign rfl) (by decide) ?_
  refine TL.end ?_
  refine Arr.seq ?_
  refine Tr.seq ?_
  refine Tr.region ?_
  rcases (show r = 0 ∨ r = 1 ∨ r = 2 by omega) with rfl | rfl | rfl
  ·
    refine TL.call (vs := []) call_30 rfl (by decide) (bands_ct w0 _) ?_
    rintro _ _ ⟨b0, b1, b2, b3, b4, b5, b6, b7, b8, b9, b10, b11, rfl, rfl⟩
    refine TL.val (YF.move rfl) (by decide) ?_
    refine TL.val (YF.indexAgg (vs := #[_, _, _, _, _, _]) arr_107 (by kernel_rfl) rfl rfl (by decide) rfl) (by decide) ?_
    refine TL.val (YF.move rfl) (by decide) ?_
    refine TL.val (YF.indexAgg (vs := #[_, _]) arr_106 (by kernel_rfl) rfl rfl (by decide) rfl) (by decide) ?_
    refine TL.val (YF.index (b := 0) arr_105 (by kernel_rfl) rfl rfl (by decide) rfl rfl) (by decide) ?_
    refine TL.val (YF.assign rfl) (by decide) ?_
    refine TL.end ?_
    refine Arr.seq ?_
    refine Tr.seq ?_
    refine Tr.region ?_
    refine TL.call (vs := []) call_30 rfl (by decide) (bands_ct w0 _) ?_
    rintro _ _ ⟨c0, c1, c2, c3, c4, c5, c6, c7, c8, c9, c10, c11, rfl, rfl⟩
    refine TL.val (YF.move rfl) (by decide) ?_
    refine TL.val (YF.indexAgg (vs := #[_, _, _, _, _, _]) arr_107 (by kernel_rfl) rfl rfl (by decide) rfl) (by decide) ?_
    refine TL.val (YF.move rfl) (by decide) ?_
    refine TL.val (YF.indexAgg (vs := #[_, _]) arr_106 (by kernel_rfl) rfl rfl (by decide) rfl) (by decide) ?_
    refine TL.val (YF.index (b := 0) arr_105 (by kernel_rfl) rfl rfl (by decide) rfl rfl) (by decide) ?_
    refine TL.val (YF.assign rfl) (by decide) ?_
    refine TL.end ?_
    refine Arr.seq ?_
    refine Tr.seq ?_
    refine Tr.region ?_
    refine TL.val (YF.move rfl) (by decide) ?_
    refine TL.val (YF.move rfl) (by decide) ?_
    refine TL.val (YF.assign rfl) (by decide) ?_
    refine TL.val (YF.assign rfl) (by decide) ?_
    refine TL.end ?_
    refine Arr.seq ?_
    refine Tr.retE ?_
    first
      | (refine Ends.sub ?_ (Ends.tmp2 rfl rfl rfl ⟨_, _, _, sb_0, rfl, rfl⟩); exact (by repeat first | exact List.Sublist.refl _ | apply List.Sublist.cons_cons | apply List.Sublist.cons))
      | (refine Ends.sub ?_ (Ends.tmp2 rfl rfl rfl ⟨_, _, _, sb_1, rfl, rfl⟩); exact (by repeat first | exact List.Sublist.refl _ | apply List.Sublist.cons_cons | apply List.Sublist.cons))
      | (refine Ends.sub ?_ (Ends.tmp2 rfl rfl rfl ⟨_, _, _, sb_2, rfl, rfl⟩); exact (by repeat first | exact List.Sublist.refl _ | apply List.Sublist.cons_cons | apply List.Sublist.cons))
  ·
    refine TL.call (vs := []) call_30 rfl (by decide) (bands_ct w0 _) ?_
    rintro _ _ ⟨b0, b1, b2, b3, b4, b5, b6, b7, b8, b9, b10, b11, rfl, rfl⟩
    refine TL.val (YF.move rfl) (by decide) ?_
    refine TL.val (YF.indexAgg (vs := #[_, _, _, _, _, _]) arr_107 (by kernel_rfl) rfl rfl (by decide) rfl) (by decide) ?_
    refine TL.val (YF.move rfl) (by decide) ?_
    refine TL.val (YF.indexAgg (vs := #[_, _]) arr_106 (by kernel_rfl) rfl rfl (by decide) rfl) (by decide) ?_
    refine TL.val (YF.index (b := 0) arr_105 (by kernel_rfl) rfl rfl (by decide) rfl rfl) (by decide) ?_
    refine TL.val (YF.assign rfl) (by decide) ?_
    refine TL.end ?_
    refine Arr.seq ?_
    refine Tr.seq ?_
    refine Tr.region ?_
    refine TL.call (vs := []) call_30 rfl (by decide) (bands_ct w0 _) ?_
    rintro _ _ ⟨c0, c1, c2, c3, c4, c5, c6, c7, c8, c9, c10, c11, rfl, rfl⟩
    refine TL.val (YF.move rfl) (by decide) ?_
    refine TL.val (YF.indexAgg (vs := #[_, _, _, _, _, _]) arr_107 (by kernel_rfl) rfl rfl (by decide) rfl) (by decide) ?_
    refine TL.val (YF.move rfl) (by decide) ?_
    refine TL.val (YF.indexAgg (vs := #[_, _]) arr_106 (by kernel_rfl) rfl rfl (by decide) rfl) (by decide) ?_
    refine TL.val (YF.index (b := 0) arr_105 (by kernel_rfl) rfl rfl (by decide) rfl rfl) (by decide) ?_
    refine TL.val (YF.assign rfl) (by decide) ?_
    refine TL.end ?_
    refine Arr.seq ?_
    refine Tr.seq ?_
    refine Tr.region ?_
    refine TL.val (YF.move rfl) (by decide) ?_
    refine TL.val (YF.move rfl) (by decide) ?_
    refine TL.val (YF.assign rfl) (by decide) ?_
    refine TL.val (YF.assign rfl) (by decide) ?_
    refine TL.end ?_
    refine Arr.seq ?_
    refine Tr.retE ?_
    first
      | (refine Ends.sub ?_ (Ends.tmp2 rfl rfl rfl ⟨_, _, _, sb_0, rfl, rfl⟩); exact (by repeat first | exact List.Sublist.refl _ | apply List.Sublist.cons_cons | apply List.Sublist.cons))
      | (refine Ends.sub ?_ (Ends.tmp2 rfl rfl rfl ⟨_, _, _, sb_1, rfl, rfl⟩); exact (by repeat first | exact List.Sublist.refl _ | apply List.Sublist.cons_cons | apply List.Sublist.cons))
      | (refine Ends.sub ?_ (Ends.tmp2 rfl rfl rfl ⟨_, _, _, sb_2, rfl, rfl⟩); exact (by repeat first | exact List.Sublist.refl _ | apply List.Sublist.cons_cons | apply List.Sublist.cons))
  ·
    refine TL.call (vs := []) call_30 rfl (by decide) (bands_ct w0 _) ?_
    rintro _ _ ⟨b0, b1, b2, b3, b4, b5, b6, b7, b8, b9, b10, b11, rfl, rfl⟩
    refine TL.val (YF.move rfl) (by decide) ?_
    refine TL.val (YF.indexAgg (vs := #[_, _, _, _, _, _]) arr_107 (by kernel_rfl) rfl rfl (by decide) rfl) (by decide) ?_
    refine TL.val (YF.move rfl) (by decide) ?_
    refine TL.val (YF.indexAgg (vs := #[_, _]) arr_106 (by kernel_rfl) rfl rfl (by decide) rfl) (by decide) ?_
    refine TL.val (YF.index (b := 0) arr_105 (by kernel_rfl) rfl rfl (by decide) rfl rfl) (by decide) ?_
    refine TL.val (YF.assign rfl) (by decide) ?_
    refine TL.end ?_
    refine Arr.seq ?_
    refine Tr.seq ?_
    refine Tr.region ?_
    refine TL.call (vs := []) call_30 rfl (by decide) (bands_ct w0 _) ?_
    rintro _ _ ⟨c0, c1, c2, c3, c4, c5, c6, c7, c8, c9, c10, c11, rfl, rfl⟩
    refine TL.val (YF.move rfl) (by decide) ?_
    refine TL.val (YF.indexAgg (vs := #[_, _, _, _, _, _]) arr_107 (by kernel_rfl) rfl rfl (by decide) rfl) (by decide) ?_
    refine TL.val (YF.move rfl) (by decide) ?_
    refine TL.val (YF.indexAgg (vs := #[_, _]) arr_106 (by kernel_rfl) rfl rfl (by decide) rfl) (by decide) ?_
    refine TL.val (YF.index (b := 0) arr_105 (by kernel_rfl) rfl rfl (by decide) rfl rfl) (by decide) ?_
    refine TL.val (YF.assign rfl) (by decide) ?_
    refine TL.end ?_
    refine Arr.seq ?_
    refine Tr.seq ?_
    refine Tr.region ?_
    refine TL.val (YF.move rfl) (by decide) ?_
    refine TL.val (YF.move rfl) (by decide) ?_
    refine TL.val (YF.assign rfl) (by decide) ?_
    refine TL.val (YF.assign rfl) (by decide) ?_
    refine TL.end ?_
    refine Arr.seq ?_
    refine Tr.retE ?_
    first
      | (refine Ends.sub ?_ (Ends.tmp2 rfl rfl rfl ⟨_, _, _, sb_0, rfl, rfl⟩); exact (by repeat first | exact List.Sublist.refl _ | apply List.Sublist.cons_cons | apply List.Sublist.cons))
      | (refine Ends.sub ?_ (Ends.tmp2 rfl rfl rfl ⟨_, _, _, sb_1, rfl, rfl⟩); exact (by repeat first | exact List.Sublist.refl _ | apply List.Sublist.cons_cons | apply List.Sublist.cons))
      | (refine Ends.sub ?_ (Ends.tmp2 rfl rfl rfl ⟨_, _, _, sb_2, rfl, rfl⟩); exact (by repeat first | exact List.Sublist.refl _ | apply List.Sublist.cons_cons | apply List.Sublist.cons))

theorem shortBands_ct (r : Nat) (w0 : World) (H : Hp) (hr3 : r < 3) : Ct Try.prog 23 #[.int .i64 r] w0 (H) (fun v H' => ∃ b cs, cs = va 14 (sd (sbi r)) ∧ v = .slice (some ⟨b, 0, none⟩) 14 14 ∧ H' = (b, .cells cs 3 (0, 0)) :: H) := by
  refine Ct.of_body (n := 11) (E := [(0, _)]) Try.func23 rfl rfl rfl rfl ?_
  refine Tr.seq ?_
  refine Tr.region ?_
  refine TL.val (YF.assign rfl) (by decide) ?_
  refine TL.end ?_
  refine Arr.seq ?_
  refine Tr.seq ?_
  refine Tr.seq ?_
  refine Tr.region ?_
  refine TL.val (YF.move rfl) (by decide) ?_
  refine TL.end ?_
  refine Arr.seq ?_
  refine Tr.block ?_
  refine Tr.seq ?_
  refine Tr.region ?_
  refine TL.val (YF.eql rfl rfl rfl) (by decide) ?_
  refine TL.val (YF.assign rfl) (by decide) ?_
  refine TL.end ?_
  refine Arr.seq ?_
  refine Tr.cond rfl (fun h4 => ?_) (fun h4 => ?_)
  ·
    replace h4 := of_decide_eq_true h4
    refine Tr.seq ?_
    refine Tr.region ?_
    refine TL.buildSlice (vs := [(0, (.int .i64 0)), (1, (.int .i64 4)), (2, (.int .i64 8)), (3, (.int .i64 12)), (4, (.int .i64 16)), (5, (.int .i64 22)), (6, (.int .i64 30)), (7, (.int .i64 40)), (8, (.int .i64 52)), (9, (.int .i64 66)), (10, (.int .i64 84)), (11, (.int .i64 106)), (12, (.int .i64 136)), (13, (.int .i64 192))]) (cs := #[.int .i64 0, .int .i64 4, .int .i64 8, .int .i64 12, .int .i64 16, .int .i64 22, .int .i64 30, .int .i64 40, .int .i64 52, .int .i64 66, .int .i64 84, .int .i64 106, .int .i64 136, .int .i64 192]) sl_69 zero_3 rfl rfl (by kernel_rfl) rfl (by decide) (fun b => ?_)
    refine TL.val (YF.assign rfl) (by decide) ?_
    refine TL.end ?_
    refine Arr.seq ?_
    refine Tr.retE ?_
    refine Arr.blockR ?_
    refine Arr.seqR ?_
    first
      | exact Ends.tmp rfl rfl ⟨_, _, (by rw [show r = 0 by omega]; exact sb_0), rfl, rfl⟩
      | exact Ends.tmp rfl rfl ⟨_, _, (by rw [show r = 1 by omega]; exact sb_1), rfl, rfl⟩
      | exact Ends.tmp rfl rfl ⟨_, _, (by rw [show r = 2 by omega]; exact sb_2), rfl, rfl⟩
  ·
    replace h4 := of_decide_eq_false h4
    refine Tr.seq ?_
    refine Tr.region ?_
    refine TL.val (YF.eql rfl rfl rfl) (by decide) ?_
    refine TL.val (YF.assign rfl) (by decide) ?_
    refine TL.end ?_
    refine Arr.seq ?_
    refine Tr.cond rfl (fun h7 => ?_) (fun h7 => ?_)
    ·
      replace h7 := of_decide_eq_true h7
      refine Tr.seq ?_
      refine Tr.region ?_
      refine TL.buildSlice (vs := [(0, (.int .i64 0)), (1, (.int .i64 4)), (2, (.int .i64 8)), (3, (.int .i64 12)), (4, (.int .i64 16)), (5, (.int .i64 22)), (6, (.int .i64 28)), (7, (.int .i64 38)), (8, (.int .i64 50)), (9, (.int .i64 64)), (10, (.int .i64 80)), (11, (.int .i64 100)), (12, (.int .i64 126)), (13, (.int .i64 192))]) (cs := #[.int .i64 0, .int .i64 4, .int .i64 8, .int .i64 12, .int .i64 16, .int .i64 22, .int .i64 28, .int .i64 38, .int .i64 50, .int .i64 64, .int .i64 80, .int .i64 100, .int .i64 126, .int .i64 192]) sl_69 zero_3 rfl rfl (by kernel_rfl) rfl (by decide) (fun b => ?_)
      refine TL.val (YF.assign rfl) (by decide) ?_
      refine TL.end ?_
      refine Arr.seq ?_
      refine Tr.retE ?_
      refine Arr.blockR ?_
      refine Arr.seqR ?_
      first
        | exact Ends.tmp rfl rfl ⟨_, _, (by rw [show r = 0 by omega]; exact sb_0), rfl, rfl⟩
        | exact Ends.tmp rfl rfl ⟨_, _, (by rw [show r = 1 by omega]; exact sb_1), rfl, rfl⟩
        | exact Ends.tmp rfl rfl ⟨_, _, (by rw [show r = 2 by omega]; exact sb_2), rfl, rfl⟩
    ·
      replace h7 := of_decide_eq_false h7
      refine Tr.skipE ?_
      refine Arr.block ?_
      refine Arr.seq ?_
      refine Tr.seq ?_
      refine Tr.region ?_
      refine TL.buildSlice (vs := [(0, (.int .i64 0)), (1, (.int .i64 4)), (2, (.int .i64 8)), (3, (.int .i64 12)), (4, (.int .i64 16)), (5, (.int .i64 22)), (6, (.int .i64 30)), (7, (.int .i64 42)), (8, (.int .i64 58)), (9, (.int .i64 78)), (10, (.int .i64 104)), (11, (.int .i64 138)), (12, (.int .i64 180)), (13, (.int .i64 192))]) (cs := #[.int .i64 0, .int .i64 4, .int .i64 8, .int .i64 12, .int .i64 16, .int .i64 22, .int .i64 30, .int .i64 42, .int .i64 58, .int .i64 78, .int .i64 104, .int .i64 138, .int .i64 180, .int .i64 192]) sl_69 zero_3 rfl rfl (by kernel_rfl) rfl (by decide) (fun b => ?_)
      refine TL.val (YF.assign rfl) (by decide) ?_
      refine TL.end ?_
      refine Arr.seq ?_
      refine Tr.retE ?_
      first
        | exact Ends.tmp rfl rfl ⟨_, _, (by rw [show r = 0 by omega]; exact sb_0), rfl, rfl⟩
        | exact Ends.tmp rfl rfl ⟨_, _, (by rw [show r = 1 by omega]; exact sb_1), rfl, rfl⟩
        | exact Ends.tmp rfl rfl ⟨_, _, (by rw [show r = 2 by omega]; exact sb_2), rfl, rfl⟩

end Go.Proofs.Ytbjdglpmfkmgaaa
