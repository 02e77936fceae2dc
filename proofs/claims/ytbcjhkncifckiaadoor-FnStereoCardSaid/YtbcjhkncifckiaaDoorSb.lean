/- The walk of the law of both channels. -/
import Derived.Test.YtbcjhkncifckiaaDoorSa
import Derived.Test.YtbcjhkncifckiaaDoorWd
import Derived.Test.YtbcjhkncifckiaaDoorWb
namespace Go.Proofs.YtbcjhkncifckiaaDoor
open Go Go.RowKit Go.Proofs En Fl Ieee
set_option maxRecDepth 100000
set_option maxHeartbeats 0

theorem fnStereo_ct (nn gg sk : Int) (ad bd : Option Addr) (vl vc wl wc : Nat) (w0 : World) (H : Hp) (hnn : 0 ≤ nn ∧ nn ≤ 4294967295) (hgg : 0 ≤ gg ∧ gg ≤ 255) (hsk : 0 ≤ sk ∧ sk ≤ 255) (hv : I8s w0 ad vl) (hv2 : I8s w0 bd wl) : Ct Tryd.prog 4 #[.int .u32 nn, .slice ad vl vc, .slice bd wl wc, .int .u8 gg, .int .u8 sk] w0 (H) (fun v H' => v = .bool true) := by
  refine Ct.of_body (n := 121) (E := [(0, _), (1, _), (2, _), (3, _), (4, _)]) Tryd.func4 rfl rfl rfl rfl ?_
  refine Tr.seq ?_
  refine Tr.region ?_
  refine TL.val (YF.assign rfl) (by decide) ?_
  refine TL.end ?_
  refine Arr.seq ?_
  refine Tr.seq ?_
  refine Tr.seq ?_
  refine Tr.region ?_
  refine TL.val (YF.move rfl) (by decide) ?_
  refine TL.val (YF.lenSl sl_24 rfl) (by decide) ?_
  by_cases hq : (2147483647 : Int) < vl
  ·
    refine TL.val (YF.gtr (b := true) rfl rfl (decide_eq_true hq)) (by decide) ?_
    refine TL.val (YF.move rfl) (by decide) ?_
    first
      | refine TL.gno rfl (by decide) ?_
      | refine TL.gval rfl (YF.move rfl) (by decide) ?_
    first
      | refine TL.gno rfl (by decide) ?_
      | refine TL.gval rfl (YF.lenSl sl_24 rfl) (by decide) ?_
    first
      | refine TL.gno rfl (by decide) ?_
      | refine TL.gval rfl (YF.gtr rfl rfl rfl) (by decide) ?_
    first
      | refine TL.val (YF.pickT rfl rfl) (by decide) ?_
      | refine TL.val (YF.pickF rfl rfl) (by decide) ?_
      | refine TL.val (YF.pick rfl rfl rfl rfl) (by decide) ?_
    refine TL.end ?_
    refine Arr.seq ?_
    refine Tr.condT rfl ?_
    refine Tr.seq ?_
    refine Tr.region ?_
    refine TL.val (YF.assign rfl) (by decide) ?_
    refine TL.end ?_
    refine Arr.seq ?_
    refine Tr.retE ?_
    refine Arr.seqR ?_
    exact Ends.tmp rfl rfl rfl
  ·
    refine TL.val (YF.gtr (b := false) rfl rfl (decide_eq_false hq)) (by decide) ?_
    refine TL.val (YF.move rfl) (by decide) ?_
    first
      | refine TL.gno rfl (by decide) ?_
      | refine TL.gval rfl (YF.move rfl) (by decide) ?_
    first
      | refine TL.gno rfl (by decide) ?_
      | refine TL.gval rfl (YF.lenSl sl_24 rfl) (by decide) ?_
    first
      | refine TL.gno rfl (by decide) ?_
      | refine TL.gval rfl (YF.gtr rfl rfl rfl) (by decide) ?_
    first
      | refine TL.val (YF.pickT rfl rfl) (by decide) ?_
      | refine TL.val (YF.pickF rfl rfl) (by decide) ?_
      | refine TL.val (YF.pick rfl rfl rfl rfl) (by decide) ?_
    refine TL.end ?_
    refine Arr.seq ?_
    refine Tr.cond rfl (fun h26 => ?_) (fun h26 => ?_)
    ·
      replace h26 := of_decide_eq_true h26
      refine Tr.seq ?_
      refine Tr.region ?_
      refine TL.val (YF.assign rfl) (by decide) ?_
      refine TL.end ?_
      refine Arr.seq ?_
      refine Tr.retE ?_
      refine Arr.seqR ?_
      exact Ends.tmp rfl rfl rfl
    ·
      replace h26 := of_decide_eq_false h26
      refine Tr.skipE ?_
      refine Arr.seq ?_
      refine Tr.seq ?_
      refine Tr.seq ?_
      refine Tr.region ?_
      refine TL.val (YF.move rfl) (by decide) ?_
      refine TL.call (vs := [_, _]) call_7 rfl (by decide) (few_ct none ad 0 0 vl vc w0 _) ?_
      rintro _ _ ⟨rfl, hH⟩
      replace hH := hH.symm
      subst hH
      refine TL.val (YF.not rfl rfl) (by decide) ?_
      by_cases hv1 : vl ≤ 1000
      ·
        refine TL.val (YF.move (v := .bool false) (by show some (Value.bool (!(decide (0 ≤ 100) && decide (vl ≤ 1000)))) = _; rw [decide_eq_true hv1]; rfl)) (by decide) ?_
        first
          | refine TL.gno rfl (by decide) ?_
          | refine TL.gval rfl (YF.move rfl) (by decide) ?_
        first
          | refine TL.gno rfl (by decide) ?_
          | (refine TL.geff rfl (EF.call (vs := [_, _]) call_7 rfl (few_ct none bd 0 0 wl wc w0 _)) (by decide) ?_
             rintro _ _ ⟨rfl, hH⟩
             replace hH := hH.symm
             subst hH)
        first
          | refine TL.gno rfl (by decide) ?_
          | refine TL.gval rfl (YF.not rfl rfl) (by decide) ?_
        first
          | refine TL.val (YF.pickT rfl rfl) (by decide) ?_
          | refine TL.val (YF.pickF rfl rfl) (by decide) ?_
          | refine TL.val (YF.pick rfl rfl rfl rfl) (by decide) ?_
        refine TL.end ?_
        refine Arr.seq ?_
        refine Tr.cond rfl (fun h34 => ?_) (fun h34 => ?_)
        ·
          refine Tr.seq ?_
          refine Tr.region ?_
          refine TL.val (YF.assign rfl) (by decide) ?_
          refine TL.end ?_
          refine Arr.seq ?_
          refine Tr.retE ?_
          refine Arr.seqR ?_
          exact Ends.tmp rfl rfl rfl
        ·
          have hfew : wl ≤ 1000 := by
            simpa using h34
          refine Tr.skipE ?_
          refine Arr.seq ?_
          refine Tr.seq ?_
          refine Tr.region ?_
          refine TL.val (YF.move rfl) (by decide) ?_
          refine TL.call (vs := [_]) call_9 rfl (by decide) (headOf_ct nn w0 _ hnn) ?_
          rintro _ _ ⟨h, rfl, hd, hH⟩
          replace hH := hH.symm
          subst hH
          refine TL.allocA zero_27 (by decide) (fun b11 => ?_)
          refine TL.storeAll 0 (_ :: _) rfl rfl rfl sz_27 (va_size _ _) Zsz_27 (va_one fun _ _ => rfl) rfl ?_
          refine TL.end ?_
          refine Arr.seq ?_
          refine Tr.seq ?_
          refine Tr.seq ?_
          refine Tr.region ?_
          refine TL.val (YF.loadAll 0 agg_27 rfl rfl (va_size _ _)) (by decide) ?_
          refine TL.call (vs := [_]) call_10 rfl (by decide) (channels_ct h w0 _) ?_
          rintro _ _ ⟨rfl, rfl⟩
          refine TL.val (YF.eql rfl rfl rfl) (by decide) ?_
          refine TL.end ?_
          refine Arr.seq ?_
          refine Tr.cond rfl (fun h39 => ?_) (fun h39 => ?_)
          ·
            refine Tr.seq ?_
            refine Tr.region ?_
            refine TL.val (YF.assign rfl) (by decide) ?_
            refine TL.end ?_
            refine Arr.seq ?_
            refine Tr.retE ?_
            refine Arr.seqR ?_
            exact Ends.tmp rfl rfl rfl
          ·
            refine Tr.skipE ?_
            refine Arr.seq ?_
            refine Tr.seq ?_
            refine Tr.region ?_
            refine TL.val (YF.loadAll 0 agg_27 rfl rfl (va_size _ _)) (by decide) ?_
            refine TL.call (vs := [_, _, _]) call_8 rfl (by decide) (frameOf_ct h none none 0 0 0 0 w0 _ hd (.inl rfl) (by omega) (.inl rfl) (by omega)) ?_
            rintro _ _ ⟨x, y, L, rfl, hx, hy, rfl⟩
            refine TL.perm List.perm_middle.symm ?_
            refine TL.allocA zero_49 (by decide) (fun b12 => ?_)
            refine TL.storeAll 0 (_ :: _) rfl rfl rfl sz_49 (va_size _ _) Zsz_49 (va_one fun q hq => by unfold fr; split; rfl; exact (hy _ (by omega)).one) rfl ?_
            refine TL.end ?_
            refine Arr.seq ?_
            refine Tr.seq ?_
            refine Tr.region ?_
            obtain ⟨g, hg, hg2⟩ : ∃ g : Nat, gg % 2 = (g : Int) ∧ g < 2 := ⟨(gg % 2).toNat, by omega, by omega⟩
            refine TL.val (YF.move rfl) (by decide) ?_
            refine TL.val (YF.rem rfl rfl (by omega) (IntWalk.rem_in _ _ (by omega))) (by decide) ?_
            refine TL.val (YF.conv (r := (g : Int)) und_5 und_3 rfl (by rw [hg]; exact IntWalk.i64_in _ (by omega))) (by decide) ?_
            refine TL.val (YF.assign rfl) (by decide) ?_
            refine TL.end ?_
            refine Arr.seq ?_
            refine Tr.seq ?_
            refine Tr.drawE (_ :: _) (fun H => (H.eraseIdx 0)) rfl mixed_ ?_
            refine TD.take 0 rfl (by kernel_rfl) (by kernel_rfl) (by kernel_rfl) (fun _ _ _ h => h) (by repeat first | exact List.Sublist.refl _ | apply List.Sublist.cons_cons | apply List.Sublist.cons) (YF.move rfl) (by decide) ?_
            refine TD.take 1 rfl (by kernel_rfl) (by kernel_rfl) (by kernel_rfl) (fun _ _ _ h => h) (by repeat first | exact List.Sublist.refl _ | apply List.Sublist.cons_cons | apply List.Sublist.cons) (YF.move rfl) (by decide) ?_
            refine TD.take 2 rfl (by kernel_rfl) (by kernel_rfl) (by kernel_rfl) (fun _ _ _ h => h) (by repeat first | exact List.Sublist.refl _ | apply List.Sublist.cons_cons | apply List.Sublist.cons) (YF.move rfl) (by decide) ?_
            refine TD.take 3 rfl (by kernel_rfl) (by kernel_rfl) (by kernel_rfl) (fun _ _ _ h => h) (by repeat first | exact List.Sublist.refl _ | apply List.Sublist.cons_cons | apply List.Sublist.cons) (YF.move rfl) (by decide) ?_
            refine TD.take 5 rfl (by kernel_rfl) (by kernel_rfl) (by kernel_rfl) (fun _ _ _ h => h) (by repeat first | exact List.Sublist.refl _ | apply List.Sublist.cons_cons | apply List.Sublist.cons) (YF.move rfl) (by decide) ?_
            refine TD.take 6 rfl (by kernel_rfl) (by kernel_rfl) (by kernel_rfl) (fun _ _ _ h => h) (by repeat first | exact List.Sublist.refl _ | apply List.Sublist.cons_cons | apply List.Sublist.cons) (YF.move rfl) (by decide) ?_
            refine TD.take 7 rfl (by kernel_rfl) (by kernel_rfl) (by kernel_rfl) (fun _ _ _ h => h) (by repeat first | exact List.Sublist.refl _ | apply List.Sublist.cons_cons | apply List.Sublist.cons) (YF.shr rfl rfl (by decide) (shrv (p := 16) 4 rfl (by decide) (by decide))) (by decide) ?_
            refine TD.take 9 rfl (by kernel_rfl) (by kernel_rfl) (by kernel_rfl) (fun _ _ _ h => h) (by repeat first | exact List.Sublist.refl _ | apply List.Sublist.cons_cons | apply List.Sublist.cons) (YF.fieldAddr fo_49_2 rfl rfl) (by decide) ?_
            refine TD.take 10 rfl (by kernel_rfl) (by kernel_rfl) (by kernel_rfl) (fun _ _ _ h => h) (by repeat first | exact List.Sublist.refl _ | apply List.Sublist.cons_cons | apply List.Sublist.cons) (YF.fieldAddr fo_47_2 rfl rfl) (by decide) ?_
            refine TD.take 11 rfl (by kernel_rfl) (by kernel_rfl) (by kernel_rfl) (fun _ _ _ h => h) (by repeat first | exact List.Sublist.refl _ | apply List.Sublist.cons_cons | apply List.Sublist.cons) (YF.indexArr arr_45 rfl rfl (by first | decide | omega) rfl) (by decide) ?_
            refine TD.take 14 rfl (by kernel_rfl) (by kernel_rfl) (by kernel_rfl) (fun _ _ _ h => h) (by repeat first | exact List.Sublist.refl _ | apply List.Sublist.cons_cons | apply List.Sublist.cons) (YF.fieldAddr fo_49_2 rfl rfl) (by decide) ?_
            refine TD.take 15 rfl (by kernel_rfl) (by kernel_rfl) (by kernel_rfl) (fun _ _ _ h => h) (by repeat first | exact List.Sublist.refl _ | apply List.Sublist.cons_cons | apply List.Sublist.cons) (YF.fieldAddr fo_47_2 rfl rfl) (by decide) ?_
            refine TD.take 16 rfl (by kernel_rfl) (by kernel_rfl) (by kernel_rfl) (fun _ _ _ h => h) (by repeat first | exact List.Sublist.refl _ | apply List.Sublist.cons_cons | apply List.Sublist.cons) (YF.indexArr arr_45 rfl rfl (by first | decide | omega) rfl) (by decide) ?_
            refine TD.eff 4 rfl (by kernel_rfl) (EF.call (vs := [_, _]) call_11 rfl (spread_ct ad vl vc sk w0 _ hsk hv (by omega))) (by decide) (by rintro _ _ ⟨bl, l, rfl, hl, rfl⟩; exact (by repeat first | exact List.Sublist.refl _ | apply List.Sublist.cons_cons | apply List.Sublist.cons)) ?_
            rintro _ _ ⟨bl0, l0, rfl, hl, rfl⟩
            refine TD.take 12 rfl (by kernel_rfl) (by kernel_rfl) (by kernel_rfl) (fun _ _ _ h => h) (by repeat first | exact List.Sublist.refl _ | apply List.Sublist.cons_cons | apply List.Sublist.cons) (YF.indexArr arr_44 rfl rfl (by first | decide | omega) (show _ = 337 + 2 * g by omega)) (by decide) ?_
            refine TD.eff 8 rfl (by kernel_rfl) (EF.call (vs := [_, _]) call_11 rfl (spread_ct bd wl wc (sk / 16) w0 _ (by omega) hv2 (by omega))) (by decide) (by rintro _ _ ⟨bl, l, rfl, hl, rfl⟩; exact (by repeat first | exact List.Sublist.refl _ | apply List.Sublist.cons_cons | apply List.Sublist.cons)) ?_
            rintro _ _ ⟨bl1, l1, rfl, hl2, rfl⟩
            refine TD.eff0 13 rfl (by kernel_rfl) (EF.store 2 rfl rfl rfl sz_43 rfl (by rw [va_size]; omega)) (by rintro _ _ ⟨rfl, rfl⟩; exact (by repeat first | exact List.Sublist.refl _ | apply List.Sublist.cons_cons | apply List.Sublist.cons)) ?_
            rintro _ _ ⟨rfl, rfl⟩
            refine TD.heap (_ :: _ :: (b12, .cells (va 341 (fr x (upd y (337 + 2 * g - 337) (.slice (some ⟨bl0, 0, none⟩) 576 576)))) 49 (0, 0)) :: _) (by rw [← fr_setL (by omega)]; rfl) ?_
            refine TD.take 17 rfl (by kernel_rfl) (by kernel_rfl) (by kernel_rfl) (fun _ _ _ h => h) (by repeat first | exact List.Sublist.refl _ | apply List.Sublist.cons_cons | apply List.Sublist.cons) (YF.indexArr arr_44 rfl rfl (by first | decide | omega) (show _ = 337 + (2 * g + 1) by omega)) (by decide) ?_
            refine TD.eff0 18 rfl (by kernel_rfl) (EF.store 2 rfl rfl rfl sz_43 rfl (by rw [va_size]; omega)) (by rintro _ _ ⟨rfl, rfl⟩; exact (by repeat first | exact List.Sublist.refl _ | apply List.Sublist.cons_cons | apply List.Sublist.cons)) ?_
            rintro _ _ ⟨rfl, rfl⟩
            refine TD.heap (_ :: _ :: (b12, .cells (va 341 (fr x (upd (upd y (337 + 2 * g - 337) (.slice (some ⟨bl0, 0, none⟩) 576 576)) (337 + (2 * g + 1) - 337) (.slice (some ⟨bl1, 0, none⟩) 576 576)))) 49 (0, 0)) :: _) (by rw [← fr_setL (q := 337 + (2 * g + 1)) (by omega)]; rfl) ?_
            refine TD.end (by kernel_rfl) ?_
            refine Arr.seq ?_
            refine Tr.seq ?_
            refine Tr.region ?_
            refine TL.val (YF.move rfl) (by decide) ?_
            refine TL.val (YF.build (vs := [(0, .int .i64 576), (1, .int .i64 576)]) (cs := #[.int .i64 576, .int .i64 576]) rfl (by kernel_rfl)) (by decide) ?_
            refine TL.val (YF.fieldAddr fo_49_1 rfl rfl) (by decide) ?_
            refine TL.val (YF.fieldAddr fo_36_17 rfl rfl) (by decide) ?_
            refine TL.val (YF.indexArr arr_31 rfl rfl (by first | decide | omega) (show _ = 89 + 2 * g by omega)) (by decide) ?_
            refine TL.storeAgg 2 (_ :: _ :: (b12, .cells (va 341 (fr (upd (upd x (89 + 2 * g) 576) (89 + 2 * g + 1) 576) (upd (upd y (337 + 2 * g - 337) (.slice (some ⟨bl0, 0, none⟩) 576 576)) (337 + (2 * g + 1) - 337) (.slice (some ⟨bl1, 0, none⟩) 576 576)))) 49 (0, 0)) :: _) rfl rfl rfl sz_30 rfl rfl (by rw [va_size]; omega) (by rw [← fr_splice2 (by omega)]; exact rfl) ?_
            refine TL.end ?_
            refine Arr.seq ?_
            refine Tr.seq ?_
            have hc0 : upd (upd x (89 + 2 * g) 576) (89 + 2 * g + 1) 576 (7 + (82 + 2 * g)) = 576 := by rw [upd_ne _ _ (by omega), show 7 + (82 + 2 * g) = 89 + 2 * g by omega, upd_at]
            have hc1 : upd (upd x (89 + 2 * g) 576) (89 + 2 * g + 1) 576 (7 + (82 + 2 * g + 1)) = 576 := by rw [show 7 + (82 + 2 * g + 1) = 89 + 2 * g + 1 by omega, upd_at]
            rw [show 337 + 2 * g - 337 = 2 * g by omega, show 337 + (2 * g + 1) - 337 = 2 * g + 1 by omega]
            obtain ⟨y', hy'⟩ : ∃ y', y' = upd (upd y (2 * g) (.slice (some ⟨bl0, 0, none⟩) 576 576)) (2 * g + 1) (.slice (some ⟨bl1, 0, none⟩) 576 576) := ⟨_, rfl⟩
            obtain ⟨x', hx'⟩ : ∃ x', x' = upd (upd x (89 + 2 * g) 576) (89 + 2 * g + 1) 576 := ⟨_, rfl⟩
            rw [← hy', ← hx']
            rw [← hx'] at hc0 hc1
            obtain ⟨d1, d2, d3, d4, d5, d6, d7⟩ := id hd
            obtain ⟨G, hG0, hGk, hGM⟩ := greatest_two (fun q => V single (l0 q)) fun q => V single (l1 q)
            have hG9 : G ≤ 9 := hGM 9 (by decide) fun k hk => ⟨(hl k hk).2, (hl2 k hk).2⟩
            have hG100 : G ≤ 100 := by grind
            obtain ⟨ls, hls, hlx, hly⟩ := LO.all2 (Hc := (bl1, Obj.cells (va 576 (fl .f32 l1)) 82 (0, 0)) :: (bl0, Obj.cells (va 576 (fl .f32 l0)) 82 (0, 0)) :: (b12, .cells (va 341 (fr x' y')) 49 (0, 0)) :: (b11, Obj.cells (va 7 (sd h)) 27 (0, 0)) :: (L ++ H)) (2 * g) (2 * g + 1) bl0 bl1 (by omega) l0 l1 hy (fun p hp => by simp [hp]) (List.mem_cons_of_mem _ List.mem_cons_self) List.mem_cons_self
            rw [← hy'] at hls
            refine Tr.drawE (_ :: _ :: _ :: _ :: _) (fun H => H) rfl mixed_ ?_
            refine TD.take 0 rfl (by kernel_rfl) (by kernel_rfl) (by kernel_rfl) (fun _ _ _ h => h) (by repeat first | exact List.Sublist.refl _ | apply List.Sublist.cons_cons | apply List.Sublist.cons) (YF.loadAll 3 agg_27 rfl rfl (va_size _ _)) (by decide) ?_
            refine TD.take 2 rfl (by kernel_rfl) (by kernel_rfl) (by kernel_rfl) (fun _ _ _ h => h) (by repeat first | exact List.Sublist.refl _ | apply List.Sublist.cons_cons | apply List.Sublist.cons) (YF.fieldAddr fo_49_1 rfl rfl) (by decide) ?_
            refine TD.take 3 rfl (by kernel_rfl) (by kernel_rfl) (by kernel_rfl) (fun _ _ _ h => h) (by repeat first | exact List.Sublist.refl _ | apply List.Sublist.cons_cons | apply List.Sublist.cons) (YF.loadAgg (v := va 86 (sd (fun q => x' (7 + q)))) 2 agg_36 rfl rfl (by rw [va_size]; decide) fr_side) (by decide) ?_
            refine TD.take 4 rfl (by kernel_rfl) (by kernel_rfl) (by kernel_rfl) (fun _ _ _ h => h) (by repeat first | exact List.Sublist.refl _ | apply List.Sublist.cons_cons | apply List.Sublist.cons) (YF.fieldAddr fo_49_2 rfl rfl) (by decide) ?_
            refine TD.take 5 rfl (by kernel_rfl) (by kernel_rfl) (by kernel_rfl) (fun _ _ _ h => h) (by repeat first | exact List.Sublist.refl _ | apply List.Sublist.cons_cons | apply List.Sublist.cons) (YF.loadAgg (v := va 248 (mn (fun q => x' (93 + q)) y')) 2 agg_47 rfl rfl (by rw [va_size]; decide) fr_main) (by decide) ?_
            refine TD.take 6 rfl (by kernel_rfl) (by kernel_rfl) (by kernel_rfl) (fun _ _ _ h => h) (by repeat first | exact List.Sublist.refl _ | apply List.Sublist.cons_cons | apply List.Sublist.cons) (YF.move rfl) (by decide) ?_
            refine TD.eff 1 rfl (by kernel_rfl) (EF.call (vs := [_]) call_15 rfl (word_ct h w0 _ hd)) (by decide) (by rintro _ _ ⟨rfl, rfl⟩; exact (by repeat first | exact List.Sublist.refl _ | apply List.Sublist.cons_cons | apply List.Sublist.cons)) ?_
            rintro _ _ ⟨rfl, rfl⟩
            refine TD.eff 7 rfl (by kernel_rfl) (EF.call (vs := [_, _, _, _]) call_18 rfl (implStereo_ct (4294639616 + h 0 * 4096 + h 1 * 1024 + h 2 * 512 + h 5 * 256 + h 3 * 64 + h 4 * 16 + h 6) (fun q => x' (7 + q)) (fun q => x' (93 + q)) y' ls l0 l1 g G hg2 w0 _ hls (fun k _ => hlx k) (fun k _ => hly k) (by omega) (by omega) hG0 hG100 (fun q hq => ⟨(hl q hq).1, (hGk q hq).1⟩) (fun q hq => ⟨(hl2 q hq).1, (hGk q hq).2⟩) hc0 hc1)) (by decide) (by rintro _ _ ⟨bo, l, r, hS, rfl, rfl⟩; exact (by repeat first | exact List.Sublist.refl _ | apply List.Sublist.cons_cons | apply List.Sublist.cons)) ?_
            rintro _ _ ⟨bo, l, r, hS, rfl, rfl⟩
            refine TD.take 8 rfl (by kernel_rfl) (by kernel_rfl) (by kernel_rfl) (fun _ _ _ h => h) (by repeat first | exact List.Sublist.refl _ | apply List.Sublist.cons_cons | apply List.Sublist.cons) (YF.move rfl) (by decide) ?_
            refine TD.take 9 rfl (by kernel_rfl) (by kernel_rfl) (by kernel_rfl) (fun _ _ _ h => h) (by repeat first | exact List.Sublist.refl _ | apply List.Sublist.cons_cons | apply List.Sublist.cons) (YF.extract rfl rfl) (by decide) ?_
            refine TD.take 10 rfl (by kernel_rfl) (by kernel_rfl) (by kernel_rfl) (fun _ _ _ h => h) (by repeat first | exact List.Sublist.refl _ | apply List.Sublist.cons_cons | apply List.Sublist.cons) (YF.extract rfl rfl) (by decide) ?_
            refine TD.take 11 rfl (by kernel_rfl) (by kernel_rfl) (by kernel_rfl) (fun _ _ _ h => h) (by repeat first | exact List.Sublist.refl _ | apply List.Sublist.cons_cons | apply List.Sublist.cons) (YF.assign rfl) (by decide) ?_
            refine TD.take 12 rfl (by kernel_rfl) (by kernel_rfl) (by kernel_rfl) (fun _ _ _ h => h) (by repeat first | exact List.Sublist.refl _ | apply List.Sublist.cons_cons | apply List.Sublist.cons) (YF.assign rfl) (by decide) ?_
            refine TD.end (by kernel_rfl) ?_
            refine Arr.seq ?_
            refine Tr.seq ?_
            refine Tr.drawE (_ :: _ :: _ :: _ :: _ :: _) (fun H => H) rfl mixed_ ?_
            refine TD.take 0 rfl (by kernel_rfl) (by kernel_rfl) (by kernel_rfl) (fun _ _ _ h => h) (by repeat first | exact List.Sublist.refl _ | apply List.Sublist.cons_cons | apply List.Sublist.cons) (YF.move rfl) (by decide) ?_
            refine TD.take 1 rfl (by kernel_rfl) (by kernel_rfl) (by kernel_rfl) (fun _ _ _ h => h) (by repeat first | exact List.Sublist.refl _ | apply List.Sublist.cons_cons | apply List.Sublist.cons) (YF.fieldAddr fo_49_2 rfl rfl) (by decide) ?_
            refine TD.take 2 rfl (by kernel_rfl) (by kernel_rfl) (by kernel_rfl) (fun _ _ _ h => h) (by repeat first | exact List.Sublist.refl _ | apply List.Sublist.cons_cons | apply List.Sublist.cons) (YF.fieldAddr fo_47_2 rfl rfl) (by decide) ?_
            refine TD.take 3 rfl (by kernel_rfl) (by kernel_rfl) (by kernel_rfl) (fun _ _ _ h => h) (by repeat first | exact List.Sublist.refl _ | apply List.Sublist.cons_cons | apply List.Sublist.cons) (YF.indexArr arr_45 rfl rfl (by first | decide | omega) rfl) (by decide) ?_
            refine TD.take 4 rfl (by kernel_rfl) (by kernel_rfl) (by kernel_rfl) (fun _ _ _ h => h) (by repeat first | exact List.Sublist.refl _ | apply List.Sublist.cons_cons | apply List.Sublist.cons) (YF.indexArr arr_44 rfl rfl (by first | decide | omega) (show _ = 337 + 2 * g by omega)) (by decide) ?_
            refine TD.take 5 rfl (by kernel_rfl) (by kernel_rfl) (by kernel_rfl) (fun _ _ _ h => h) (by repeat first | exact List.Sublist.refl _ | apply List.Sublist.cons_cons | apply List.Sublist.cons) (YF.load (v := .slice (some ⟨bl0, 0, none⟩) 576 576) 3 sc_43 rfl rfl (va_get (by omega) (by unfold fr; rw [if_neg (by omega), hy', show 337 + 2 * g - 337 = 2 * g by omega, upd_ne _ _ (by omega)]; exact upd_at _ _ _))) (by decide) ?_
            refine TD.take 7 rfl (by kernel_rfl) (by kernel_rfl) (by kernel_rfl) (fun _ _ _ h => h) (by repeat first | exact List.Sublist.refl _ | apply List.Sublist.cons_cons | apply List.Sublist.cons) (YF.move rfl) (by decide) ?_
            refine TD.take 8 rfl (by kernel_rfl) (by kernel_rfl) (by kernel_rfl) (fun _ _ _ h => h) (by repeat first | exact List.Sublist.refl _ | apply List.Sublist.cons_cons | apply List.Sublist.cons) (YF.fieldAddr fo_49_2 rfl rfl) (by decide) ?_
            refine TD.take 9 rfl (by kernel_rfl) (by kernel_rfl) (by kernel_rfl) (fun _ _ _ h => h) (by repeat first | exact List.Sublist.refl _ | apply List.Sublist.cons_cons | apply List.Sublist.cons) (YF.fieldAddr fo_47_2 rfl rfl) (by decide) ?_
            refine TD.take 10 rfl (by kernel_rfl) (by kernel_rfl) (by kernel_rfl) (fun _ _ _ h => h) (by repeat first | exact List.Sublist.refl _ | apply List.Sublist.cons_cons | apply List.Sublist.cons) (YF.indexArr arr_45 rfl rfl (by first | decide | omega) rfl) (by decide) ?_
            refine TD.take 11 rfl (by kernel_rfl) (by kernel_rfl) (by kernel_rfl) (fun _ _ _ h => h) (by repeat first | exact List.Sublist.refl _ | apply List.Sublist.cons_cons | apply List.Sublist.cons) (YF.indexArr arr_44 rfl rfl (by first | decide | omega) (show _ = 337 + (2 * g + 1) by omega)) (by decide) ?_
            refine TD.take 12 rfl (by kernel_rfl) (by kernel_rfl) (by kernel_rfl) (fun _ _ _ h => h) (by repeat first | exact List.Sublist.refl _ | apply List.Sublist.cons_cons | apply List.Sublist.cons) (YF.load (v := .slice (some ⟨bl1, 0, none⟩) 576 576) 3 sc_43 rfl rfl (va_get (by omega) (by unfold fr; rw [if_neg (by omega), hy', show 337 + (2 * g + 1) - 337 = 2 * g + 1 by omega]; exact upd_at _ _ _))) (by decide) ?_
            refine TD.eff 6 rfl (by kernel_rfl) (EF.call (vs := [_]) call_12 rfl (wide_ct 2 bl0 l0 _ _ w0 _ rfl fun k hk => ⟨(hl k hk).1, Rat.le_trans (hl k hk).2 (by decide +kernel)⟩)) (by decide) (by rintro _ _ ⟨bw, m, rfl, hm, rfl⟩; exact (by repeat first | exact List.Sublist.refl _ | apply List.Sublist.cons_cons | apply List.Sublist.cons)) ?_
            rintro _ _ ⟨bw0, m0, rfl, hm0, rfl⟩
            refine TD.eff 13 rfl (by kernel_rfl) (EF.call (vs := [_]) call_12 rfl (wide_ct 2 bl1 l1 _ _ w0 _ rfl fun k hk => ⟨(hl2 k hk).1, Rat.le_trans (hl2 k hk).2 (by decide +kernel)⟩)) (by decide) (by rintro _ _ ⟨bw, m, rfl, hm, rfl⟩; exact (by repeat first | exact List.Sublist.refl _ | apply List.Sublist.cons_cons | apply List.Sublist.cons)) ?_
            rintro _ _ ⟨bw1, m1, rfl, hm1, rfl⟩
            refine TD.take 14 rfl (by kernel_rfl) (by kernel_rfl) (by kernel_rfl) (fun _ _ _ h => h) (by repeat first | exact List.Sublist.refl _ | apply List.Sublist.cons_cons | apply List.Sublist.cons) (YF.assign rfl) (by decide) ?_
            refine TD.take 15 rfl (by kernel_rfl) (by kernel_rfl) (by kernel_rfl) (fun _ _ _ h => h) (by repeat first | exact List.Sublist.refl _ | apply List.Sublist.cons_cons | apply List.Sublist.cons) (YF.assign rfl) (by decide) ?_
            refine TD.end (by kernel_rfl) ?_
            refine Arr.seq ?_
            refine Tr.seq ?_
            refine Tr.region ?_
            refine TL.val (YF.move rfl) (by decide) ?_
            refine TL.call (vs := [_]) call_17 rfl (by decide) (greatest_ct 1 bw0 m0 _ _ w0 _ rfl fun k hk => (hm0 k hk).1) ?_
            rintro _ _ ⟨t0, rfl, ht0, htm0, htM0, rfl⟩
            refine TL.val (YF.move rfl) (by decide) ?_
            refine TL.call (vs := [_]) call_17 rfl (by decide) (greatest_ct 0 bw1 m1 _ _ w0 _ rfl fun k hk => (hm1 k hk).1) ?_
            rintro _ _ ⟨t1, rfl, ht1, htm1, htM1, rfl⟩
            have htG : G ≤ V double t0 + V double t1 := hGM _ (by have a0 := ht0.2; have a1 := ht1.2; grind) fun k hk => by
              have a0 := ht0.2; have a1 := ht1.2
              have b0 := htm0 k hk; have b1 := htm1 k hk
              rw [(hm0 k hk).2] at b0; rw [(hm1 k hk).2] at b1
              constructor <;> grind
            have ht09 : V double t0 ≤ 9 := htM0 9 (by decide) fun k hk => by rw [(hm0 k hk).2]; exact (hl k hk).2
            have ht19 : V double t1 ≤ 9 := htM1 9 (by decide) fun k hk => by rw [(hm1 k hk).2]; exact (hl2 k hk).2
            have a0 := ht0.2
            have a1 := ht1.2
            have hsum : mg (V double t0 + V double t1) = V double t0 + V double t1 := by unfold mg; rw [if_pos (by grind)]
            have hbig : (1000 : Rat) ≤ big := by decide +kernel
            obtain ⟨tp, ht2, ht3⟩ := add_near two_double ht0.1 ht1.1 (by rw [hsum]; grind)
            have hUd : U double = 1 / 9007199254740992 := by decide +kernel
            have htn : tiny ≤ 1 / 10 ^ 30 := by decide +kernel
            have hn := ht3.near
            rw [hUd, hsum, mg_le] at hn
            have ht4 : -(1 / 10 ^ 20) ≤ V double tp := by grind
            have ht5 : V double tp ≤ 100000 := by grind
            have hnear0 : G ≤ V double tp + 1 / 10 ^ 10 := by grind
            refine TL.val (YF.farith rfl rfl ht2) (by decide) ?_
            refine TL.val (YF.assign rfl) (by decide) ?_
            refine TL.end ?_
            refine Arr.seq ?_
            refine Tr.seq ?_
            refine Tr.seq ?_
            refine Tr.region ?_
            refine TL.val (YF.fieldAddr fo_27_3 rfl rfl) (by decide) ?_
            refine TL.val (YF.load (v := .int .i64 (h 3)) 6 sc_3 rfl rfl (va_get (by decide) rfl)) (by decide) ?_
            by_cases hM : h 3 = 1
            ·
              refine TL.val (YF.eql (b := true) rfl rfl (decide_eq_true hM)) (by decide) ?_
              refine TL.val (YF.move rfl) (by decide) ?_
              first
                | refine TL.gno rfl (by decide) ?_
                | refine TL.gval rfl (YF.fieldAddr fo_27_4 rfl rfl) (by decide) ?_
              first
                | refine TL.gno rfl (by decide) ?_
                | refine TL.gval rfl (YF.load (v := .int .i64 (h 4)) 6 sc_3 rfl rfl (va_get (by decide) rfl)) (by decide) ?_
              first
                | refine TL.gno rfl (by decide) ?_
                | refine TL.gval rfl (YF.eql rfl rfl rfl) (by decide) ?_
              first
                | refine TL.val (YF.pickT rfl rfl) (by decide) ?_
                | refine TL.val (YF.pickF rfl rfl) (by decide) ?_
                | refine TL.val (YF.pick rfl rfl rfl rfl) (by decide) ?_
              refine TL.end ?_
              refine Arr.seq ?_
              refine Tr.cutN (R := fun a w => ∃ (HH : Hp) (c0 S0 c1 S1 : Nat) (cs0 cs1 : Array Value) (p0 p1 : Nat → Nat), (∃ (j : Nat) (t : TypeId) (f : Nat × Nat), HH[j]? = some (bo, .cells (va 1152 (two l r)) t f)) ∧ (∃ (j : Nat) (t : TypeId) (f : Nat × Nat), HH[j]? = some (c0, .cells cs0 t f)) ∧ (∃ (j : Nat) (t : TypeId) (f : Nat × Nat), HH[j]? = some (c1, .cells cs1 t f)) ∧ (∀ k, k < 576 → cs0[k]? = some (.float .f64 (p0 k))) ∧ (∀ k, k < 576 → cs1[k]? = some (.float .f64 (p1 k))) ∧ (∀ k, k < 576 → Fin single (l k) ∧ Fin double (p0 k) ∧ mg (V single (l k)) ≤ 100000 ∧ mg (V single (l k) - V double (p0 k)) ≤ V double tp / 20000 + 1 / 10 ^ 10) ∧ (∀ k, k < 576 → Fin single (r k) ∧ Fin double (p1 k) ∧ mg (V single (r k)) ≤ 100000 ∧ mg (V single (r k) - V double (p1 k)) ≤ V double tp / 20000 + 1 / 10 ^ 10) ∧ Agree 121 [(14, .slice (some ⟨bo, 0, none⟩) 576 576), (15, .slice (some ⟨bo, 576, none⟩) 576 576), (16, .slice (some ⟨c0, 0, none⟩) 576 S0), (17, .slice (some ⟨c1, 0, none⟩) 576 S1), (18, .float .f64 tp)] a ∧ HS w0 HH w) ?_ ?_
              ·
                refine Tr.cond rfl (fun h104 => ?_) (fun h104 => ?_)
                ·
                  replace h104 := of_decide_eq_true h104
                  refine Tr.region ?_
                  refine TL.val (YF.move rfl) (by decide) ?_
                  refine TL.val (YF.move rfl) (by decide) ?_
                  refine TL.call (vs := [_, _]) call_19 rfl (by decide) (both_ct m0 m1 (fun q => V single (l0 q)) (fun q => V single (l1 q)) G 1 0 bw0 bw1 _ _ _ _ w0 _ rfl rfl hG0 hG100 (fun q hq => ⟨(hm0 q hq).1, by rw [(hm0 q hq).2]; exact (hGk q hq).1⟩) (fun q hq => ⟨(hm1 q hq).1, by rw [(hm1 q hq).2]; exact (hGk q hq).2⟩) (fun q hq => (hm0 q hq).2) (fun q hq => (hm1 q hq).2)) ?_
                  rintro _ _ ⟨b0, S0, c0, p0, b1, S1, c1, p1, L', rfl, rfl, hj0, hj1, hcs0, hcs1, hPP⟩
                  refine TL.val (YF.move rfl) (by decide) ?_
                  refine TL.val (YF.extract rfl rfl) (by decide) ?_
                  refine TL.val (YF.extract rfl rfl) (by decide) ?_
                  refine TL.val (YF.assign rfl) (by decide) ?_
                  refine TL.val (YF.assign rfl) (by decide) ?_
                  refine TL.end ?_
                  refine Arr.meet ?_
                  first
                    | (have hms : (4294639616 + h 0 * 4096 + h 1 * 1024 + h 2 * 512 + h 5 * 256 + h 3 * 64 + h 4 * 16 + h 6) / 64 % 4 = 1 ∧ (4294639616 + h 0 * 4096 + h 1 * 1024 + h 2 * 512 + h 5 * 256 + h 3 * 64 + h 4 * 16 + h 6) / 16 % 4 = 2 := ⟨by omega, by omega⟩
                       have hMS := hS.1 hms
                       exact fun a w ha hw => ⟨_, b0, S0, b1, S1, c0, c1, p0, p1, ⟨L'.length + 2, _, _, app_get rfl⟩, hj0, hj1, hcs0, hcs1,
                         fun k hk => both_near hG100 (sum_le (hGk k hk).1 (hGk k hk).2).1 ((hMS k hk).1 hk).1 (hPP k hk).1 ht4 hnear0, fun k hk => both_near hG100 (sum_le (hGk k hk).1 (hGk k hk).2).2 ((hMS k hk).1 hk).2 (hPP k hk).2 ht4 hnear0, (ha.cons rfl (ha.cons rfl (ha.cons rfl (ha.cons rfl (ha.cons rfl (ha.nil)))))), hw⟩)
                    | (have hms : ¬ ((4294639616 + h 0 * 4096 + h 1 * 1024 + h 2 * 512 + h 5 * 256 + h 3 * 64 + h 4 * 16 + h 6) / 64 % 4 = 1 ∧ (4294639616 + h 0 * 4096 + h 1 * 1024 + h 2 * 512 + h 5 * 256 + h 3 * 64 + h 4 * 16 + h 6) / 16 % 4 = 2) := by omega
                       obtain ⟨rfl, rfl⟩ := hS.2 hms
                       exact fun a w ha hw => ⟨_, bw0, 576, bw1, 576, _, _, m0, m1, ⟨2, _, _, rfl⟩, ⟨1, _, _, rfl⟩, ⟨0, _, _, rfl⟩, fun k hk => va_get hk rfl, fun k hk => va_get hk rfl,
                         fun k hk => same_near hG100 (hl k hk).1 (hm0 k hk).1 (hGk k hk).1 (hm0 k hk).2 ht4, fun k hk => same_near hG100 (hl2 k hk).1 (hm1 k hk).1 (hGk k hk).2 (hm1 k hk).2 ht4, (ha.cons rfl (ha.cons rfl (ha.cons rfl (ha.cons rfl (ha.cons rfl (ha.nil)))))), hw⟩)
                ·
                  replace h104 := of_decide_eq_false h104
                  refine Tr.skipE ?_
                  refine Arr.meet ?_
                  first
                    | (have hms : (4294639616 + h 0 * 4096 + h 1 * 1024 + h 2 * 512 + h 5 * 256 + h 3 * 64 + h 4 * 16 + h 6) / 64 % 4 = 1 ∧ (4294639616 + h 0 * 4096 + h 1 * 1024 + h 2 * 512 + h 5 * 256 + h 3 * 64 + h 4 * 16 + h 6) / 16 % 4 = 2 := ⟨by omega, by omega⟩
                       have hMS := hS.1 hms
                       exact fun a w ha hw => ⟨_, b0, S0, b1, S1, c0, c1, p0, p1, ⟨L'.length + 2, _, _, app_get rfl⟩, hj0, hj1, hcs0, hcs1,
                         fun k hk => both_near hG100 (sum_le (hGk k hk).1 (hGk k hk).2).1 ((hMS k hk).1 hk).1 (hPP k hk).1 ht4 hnear0, fun k hk => both_near hG100 (sum_le (hGk k hk).1 (hGk k hk).2).2 ((hMS k hk).1 hk).2 (hPP k hk).2 ht4 hnear0, (ha.cons rfl (ha.cons rfl (ha.cons rfl (ha.cons rfl (ha.cons rfl (ha.nil)))))), hw⟩)
                    | (have hms : ¬ ((4294639616 + h 0 * 4096 + h 1 * 1024 + h 2 * 512 + h 5 * 256 + h 3 * 64 + h 4 * 16 + h 6) / 64 % 4 = 1 ∧ (4294639616 + h 0 * 4096 + h 1 * 1024 + h 2 * 512 + h 5 * 256 + h 3 * 64 + h 4 * 16 + h 6) / 16 % 4 = 2) := by omega
                       obtain ⟨rfl, rfl⟩ := hS.2 hms
                       exact fun a w ha hw => ⟨_, bw0, 576, bw1, 576, _, _, m0, m1, ⟨2, _, _, rfl⟩, ⟨1, _, _, rfl⟩, ⟨0, _, _, rfl⟩, fun k hk => va_get hk rfl, fun k hk => va_get hk rfl,
                         fun k hk => same_near hG100 (hl k hk).1 (hm0 k hk).1 (hGk k hk).1 (hm0 k hk).2 ht4, fun k hk => same_near hG100 (hl2 k hk).1 (hm1 k hk).1 (hGk k hk).2 (hm1 k hk).2 ht4, (ha.cons rfl (ha.cons rfl (ha.cons rfl (ha.cons rfl (ha.cons rfl (ha.nil)))))), hw⟩)
              rintro a w ⟨HH, c0, S0, c1, S1, cs0, cs1, p0, p1, ⟨jo, to, fo, hjo⟩, ⟨j0, f0, g0, hj0⟩, ⟨j1, f1, g1, hj1⟩, hcs0, hcs1, hn0, hn1, ha, hw⟩
              refine Arr.use ha hw ?_
              refine Arr.seq ?_
              refine Tr.seq ?_
              refine Tr.region ?_
              refine TL.val (YF.move rfl) (by decide) ?_
              refine TL.val (YF.move rfl) (by decide) ?_
              refine TL.val (YF.move rfl) (by decide) ?_
              refine TL.call (vs := [_, _, _]) call_13 rfl (by decide) (near_ct jo j0 bo c0 tp 0 576 S0 l p0 _ cs0 _ _ _ _ w0 _ hjo hj0 (fun k hk => two_get0 hk) hcs0 ht3.fin ht4 ht5 hn0) ?_
              rintro _ _ ⟨rfl, rfl⟩
              refine TL.val (YF.move rfl) (by decide) ?_
              first
                | refine TL.gno rfl (by decide) ?_
                | refine TL.gval rfl (YF.move rfl) (by decide) ?_
              first
                | refine TL.gno rfl (by decide) ?_
                | refine TL.gval rfl (YF.move rfl) (by decide) ?_
              first
                | refine TL.gno rfl (by decide) ?_
                | refine TL.gval rfl (YF.move rfl) (by decide) ?_
              first
                | refine TL.gno rfl (by decide) ?_
                | (refine TL.geff rfl (EF.call (vs := [_, _, _]) call_13 rfl (near_ct jo j1 bo c1 tp 576 576 S1 r p1 _ cs1 _ _ _ _ w0 _ hjo hj1 (fun k hk => two_get1 hk) hcs1 ht3.fin ht4 ht5 hn1)) (by decide) ?_
                   rintro _ _ ⟨rfl, rfl⟩)
              first
                | refine TL.val (YF.pickT rfl rfl) (by decide) ?_
                | refine TL.val (YF.pickF rfl rfl) (by decide) ?_
                | refine TL.val (YF.pick rfl rfl rfl rfl) (by decide) ?_
              refine TL.val (YF.assign rfl) (by decide) ?_
              refine TL.end ?_
              refine Arr.seq ?_
              refine Tr.retE ?_
              exact Ends.tmp rfl rfl rfl
            ·
              refine TL.val (YF.eql (b := false) rfl rfl (decide_eq_false hM)) (by decide) ?_
              refine TL.val (YF.move rfl) (by decide) ?_
              first
                | refine TL.gno rfl (by decide) ?_
                | refine TL.gval rfl (YF.fieldAddr fo_27_4 rfl rfl) (by decide) ?_
              first
                | refine TL.gno rfl (by decide) ?_
                | refine TL.gval rfl (YF.load (v := .int .i64 (h 4)) 6 sc_3 rfl rfl (va_get (by decide) rfl)) (by decide) ?_
              first
                | refine TL.gno rfl (by decide) ?_
                | refine TL.gval rfl (YF.eql rfl rfl rfl) (by decide) ?_
              first
                | refine TL.val (YF.pickT rfl rfl) (by decide) ?_
                | refine TL.val (YF.pickF rfl rfl) (by decide) ?_
                | refine TL.val (YF.pick rfl rfl rfl rfl) (by decide) ?_
              refine TL.end ?_
              refine Arr.seq ?_
              refine Tr.cutN (R := fun a w => ∃ (HH : Hp) (c0 S0 c1 S1 : Nat) (cs0 cs1 : Array Value) (p0 p1 : Nat → Nat), (∃ (j : Nat) (t : TypeId) (f : Nat × Nat), HH[j]? = some (bo, .cells (va 1152 (two l r)) t f)) ∧ (∃ (j : Nat) (t : TypeId) (f : Nat × Nat), HH[j]? = some (c0, .cells cs0 t f)) ∧ (∃ (j : Nat) (t : TypeId) (f : Nat × Nat), HH[j]? = some (c1, .cells cs1 t f)) ∧ (∀ k, k < 576 → cs0[k]? = some (.float .f64 (p0 k))) ∧ (∀ k, k < 576 → cs1[k]? = some (.float .f64 (p1 k))) ∧ (∀ k, k < 576 → Fin single (l k) ∧ Fin double (p0 k) ∧ mg (V single (l k)) ≤ 100000 ∧ mg (V single (l k) - V double (p0 k)) ≤ V double tp / 20000 + 1 / 10 ^ 10) ∧ (∀ k, k < 576 → Fin single (r k) ∧ Fin double (p1 k) ∧ mg (V single (r k)) ≤ 100000 ∧ mg (V single (r k) - V double (p1 k)) ≤ V double tp / 20000 + 1 / 10 ^ 10) ∧ Agree 121 [(14, .slice (some ⟨bo, 0, none⟩) 576 576), (15, .slice (some ⟨bo, 576, none⟩) 576 576), (16, .slice (some ⟨c0, 0, none⟩) 576 S0), (17, .slice (some ⟨c1, 0, none⟩) 576 S1), (18, .float .f64 tp)] a ∧ HS w0 HH w) ?_ ?_
              ·
                refine Tr.condF rfl ?_
                refine Tr.skipE ?_
                refine Arr.meet ?_
                first
                  | (have hms : (4294639616 + h 0 * 4096 + h 1 * 1024 + h 2 * 512 + h 5 * 256 + h 3 * 64 + h 4 * 16 + h 6) / 64 % 4 = 1 ∧ (4294639616 + h 0 * 4096 + h 1 * 1024 + h 2 * 512 + h 5 * 256 + h 3 * 64 + h 4 * 16 + h 6) / 16 % 4 = 2 := ⟨by omega, by omega⟩
                     have hMS := hS.1 hms
                     exact fun a w ha hw => ⟨_, b0, S0, b1, S1, c0, c1, p0, p1, ⟨L'.length + 2, _, _, app_get rfl⟩, hj0, hj1, hcs0, hcs1,
                       fun k hk => both_near hG100 (sum_le (hGk k hk).1 (hGk k hk).2).1 ((hMS k hk).1 hk).1 (hPP k hk).1 ht4 hnear0, fun k hk => both_near hG100 (sum_le (hGk k hk).1 (hGk k hk).2).2 ((hMS k hk).1 hk).2 (hPP k hk).2 ht4 hnear0, (ha.cons rfl (ha.cons rfl (ha.cons rfl (ha.cons rfl (ha.cons rfl (ha.nil)))))), hw⟩)
                  | (have hms : ¬ ((4294639616 + h 0 * 4096 + h 1 * 1024 + h 2 * 512 + h 5 * 256 + h 3 * 64 + h 4 * 16 + h 6) / 64 % 4 = 1 ∧ (4294639616 + h 0 * 4096 + h 1 * 1024 + h 2 * 512 + h 5 * 256 + h 3 * 64 + h 4 * 16 + h 6) / 16 % 4 = 2) := by omega
                     obtain ⟨rfl, rfl⟩ := hS.2 hms
                     exact fun a w ha hw => ⟨_, bw0, 576, bw1, 576, _, _, m0, m1, ⟨2, _, _, rfl⟩, ⟨1, _, _, rfl⟩, ⟨0, _, _, rfl⟩, fun k hk => va_get hk rfl, fun k hk => va_get hk rfl,
                       fun k hk => same_near hG100 (hl k hk).1 (hm0 k hk).1 (hGk k hk).1 (hm0 k hk).2 ht4, fun k hk => same_near hG100 (hl2 k hk).1 (hm1 k hk).1 (hGk k hk).2 (hm1 k hk).2 ht4, (ha.cons rfl (ha.cons rfl (ha.cons rfl (ha.cons rfl (ha.cons rfl (ha.nil)))))), hw⟩)
              rintro a w ⟨HH, c0, S0, c1, S1, cs0, cs1, p0, p1, ⟨jo, to, fo, hjo⟩, ⟨j0, f0, g0, hj0⟩, ⟨j1, f1, g1, hj1⟩, hcs0, hcs1, hn0, hn1, ha, hw⟩
              refine Arr.use ha hw ?_
              refine Arr.seq ?_
              refine Tr.seq ?_
              refine Tr.region ?_
              refine TL.val (YF.move rfl) (by decide) ?_
              refine TL.val (YF.move rfl) (by decide) ?_
              refine TL.val (YF.move rfl) (by decide) ?_
              refine TL.call (vs := [_, _, _]) call_13 rfl (by decide) (near_ct jo j0 bo c0 tp 0 576 S0 l p0 _ cs0 _ _ _ _ w0 _ hjo hj0 (fun k hk => two_get0 hk) hcs0 ht3.fin ht4 ht5 hn0) ?_
              rintro _ _ ⟨rfl, rfl⟩
              refine TL.val (YF.move rfl) (by decide) ?_
              first
                | refine TL.gno rfl (by decide) ?_
                | refine TL.gval rfl (YF.move rfl) (by decide) ?_
              first
                | refine TL.gno rfl (by decide) ?_
                | refine TL.gval rfl (YF.move rfl) (by decide) ?_
              first
                | refine TL.gno rfl (by decide) ?_
                | refine TL.gval rfl (YF.move rfl) (by decide) ?_
              first
                | refine TL.gno rfl (by decide) ?_
                | (refine TL.geff rfl (EF.call (vs := [_, _, _]) call_13 rfl (near_ct jo j1 bo c1 tp 576 576 S1 r p1 _ cs1 _ _ _ _ w0 _ hjo hj1 (fun k hk => two_get1 hk) hcs1 ht3.fin ht4 ht5 hn1)) (by decide) ?_
                   rintro _ _ ⟨rfl, rfl⟩)
              first
                | refine TL.val (YF.pickT rfl rfl) (by decide) ?_
                | refine TL.val (YF.pickF rfl rfl) (by decide) ?_
                | refine TL.val (YF.pick rfl rfl rfl rfl) (by decide) ?_
              refine TL.val (YF.assign rfl) (by decide) ?_
              refine TL.end ?_
              refine Arr.seq ?_
              refine Tr.retE ?_
              exact Ends.tmp rfl rfl rfl
      ·
        refine TL.val (YF.move (v := .bool true) (by show some (Value.bool (!(decide (0 ≤ 100) && decide (vl ≤ 1000)))) = _; rw [decide_eq_false hv1]; rfl)) (by decide) ?_
        first
          | refine TL.gno rfl (by decide) ?_
          | refine TL.gval rfl (YF.move rfl) (by decide) ?_
        first
          | refine TL.gno rfl (by decide) ?_
          | (refine TL.geff rfl (EF.call (vs := [_, _]) call_7 rfl (few_ct none bd 0 0 wl wc w0 _)) (by decide) ?_
             rintro _ _ ⟨rfl, hH⟩
             replace hH := hH.symm
             subst hH)
        first
          | refine TL.gno rfl (by decide) ?_
          | refine TL.gval rfl (YF.not rfl rfl) (by decide) ?_
        first
          | refine TL.val (YF.pickT rfl rfl) (by decide) ?_
          | refine TL.val (YF.pickF rfl rfl) (by decide) ?_
          | refine TL.val (YF.pick rfl rfl rfl rfl) (by decide) ?_
        refine TL.end ?_
        refine Arr.seq ?_
        refine Tr.condT rfl ?_
        refine Tr.seq ?_
        refine Tr.region ?_
        refine TL.val (YF.assign rfl) (by decide) ?_
        refine TL.end ?_
        refine Arr.seq ?_
        refine Tr.retE ?_
        refine Arr.seqR ?_
        exact Ends.tmp rfl rfl rfl

end Go.Proofs.YtbcjhkncifckiaaDoor
