/- The walk of the law of both channels twice. -/
import Derived.Test.YtbcjhkncifckiaaDoorSa
import Derived.Test.YtbcjhkncifckiaaDoorWd
import Derived.Test.YtbcjhkncifckiaaDoorWb
namespace Go.Proofs.YtbcjhkncifckiaaDoor
open Go Go.RowKit Go.Proofs En Fl Ieee
set_option maxRecDepth 100000
set_option maxHeartbeats 0

/-- A header with middle and side. -/
theorem head_twice {h : Nat → Int} (hd : HdOK h) : HdOK (upd (upd h (0 + 3) 1) (0 + 4) 2) ∧ upd (upd h (0 + 3) 1) (0 + 4) 2 3 = 1 ∧ upd (upd h (0 + 3) 1) (0 + 4) 2 4 = 2 := by
  obtain ⟨h1, h2, h3, h4, h5, h6, h7⟩ := hd
  refine ⟨?_, rfl, rfl⟩
  constructor <;> first | assumption | (right; left; rfl) | exact .inr ⟨rfl, rfl⟩

theorem fnStereoTwice_ct (nn sk : Int) (ad bd : Option Addr) (vl vc wl wc : Nat) (w0 : World) (H : Hp) (hnn : 0 ≤ nn ∧ nn ≤ 4294967295) (hsk : 0 ≤ sk ∧ sk ≤ 255) (hv : I8s w0 ad vl) (hv2 : I8s w0 bd wl) : Ct Tryd.prog 5 #[.int .u32 nn, .slice ad vl vc, .slice bd wl wc, .int .u8 sk] w0 (H) (fun v H' => v = .bool true) := by
  refine Ct.of_body (n := 107) (E := [(0, _), (1, _), (2, _), (3, _)]) Tryd.func5 rfl rfl rfl rfl ?_
  refine Tr.seq ?_
  refine Tr.region ?_
  refine TL.val (YF.assign rfl) (by decide) ?_
  refine TL.end ?_
  refine Arr.seq ?_
  refine Tr.seq ?_
  refine Tr.seq ?_
  refine Tr.region ?_
  refine TL.val (YF.move rfl) (by decide) ?_
  refine TL.val (YF.lenSl sl_24 rfl) (by decide) ?_
  by_cases hq : (2147483647 : Int) < vl
  ·
    refine TL.val (YF.gtr (b := true) rfl rfl (decide_eq_true hq)) (by decide) ?_
    refine TL.val (YF.move rfl) (by decide) ?_
    first
      | refine TL.gno rfl (by decide) ?_
      | refine TL.gval rfl (YF.move rfl) (by decide) ?_
    first
      | refine TL.gno rfl (by decide) ?_
      | refine TL.gval rfl (YF.lenSl sl_24 rfl) (by decide) ?_
    first
      | refine TL.gno rfl (by decide) ?_
      | refine TL.gval rfl (YF.gtr rfl rfl rfl) (by decide) ?_
    first
      | refine TL.val (YF.pickT rfl rfl) (by decide) ?_
      | refine TL.val (YF.pickF rfl rfl) (by decide) ?_
      | refine TL.val (YF.pick rfl rfl rfl rfl) (by decide) ?_
    refine TL.end ?_
    refine Arr.seq ?_
    refine Tr.condT rfl ?_
    refine Tr.seq ?_
    refine Tr.region ?_
    refine TL.val (YF.assign rfl) (by decide) ?_
    refine TL.end ?_
    refine Arr.seq ?_
    refine Tr.retE ?_
    refine Arr.seqR ?_
    exact Ends.tmp rfl rfl rfl
  ·
    refine TL.val (YF.gtr (b := false) rfl rfl (decide_eq_false hq)) (by decide) ?_
    refine TL.val (YF.move rfl) (by decide) ?_
    first
      | refine TL.gno rfl (by decide) ?_
      | refine TL.gval rfl (YF.move rfl) (by decide) ?_
    first
      | refine TL.gno rfl (by decide) ?_
      | refine TL.gval rfl (YF.lenSl sl_24 rfl) (by decide) ?_
    first
      | refine TL.gno rfl (by decide) ?_
      | refine TL.gval rfl (YF.gtr rfl rfl rfl) (by decide) ?_
    first
      | refine TL.val (YF.pickT rfl rfl) (by decide) ?_
      | refine TL.val (YF.pickF rfl rfl) (by decide) ?_
      | refine TL.val (YF.pick rfl rfl rfl rfl) (by decide) ?_
    refine TL.end ?_
    refine Arr.seq ?_
    refine Tr.cond rfl (fun h23 => ?_) (fun h23 => ?_)
    ·
      replace h23 := of_decide_eq_true h23
      refine Tr.seq ?_
      refine Tr.region ?_
      refine TL.val (YF.assign rfl) (by decide) ?_
      refine TL.end ?_
      refine Arr.seq ?_
      refine Tr.retE ?_
      refine Arr.seqR ?_
      exact Ends.tmp rfl rfl rfl
    ·
      replace h23 := of_decide_eq_false h23
      refine Tr.skipE ?_
      refine Arr.seq ?_
      refine Tr.seq ?_
      refine Tr.seq ?_
      refine Tr.region ?_
      refine TL.val (YF.move rfl) (by decide) ?_
      refine TL.call (vs := [_, _]) call_7 rfl (by decide) (few_ct none ad 0 0 vl vc w0 _) ?_
      rintro _ _ ⟨rfl, hH⟩
      replace hH := hH.symm
      subst hH
      refine TL.val (YF.not rfl rfl) (by decide) ?_
      by_cases hv1 : vl ≤ 1000
      ·
        refine TL.val (YF.move (v := .bool false) (by show some (Value.bool (!(decide (0 ≤ 100) && decide (vl ≤ 1000)))) = _; rw [decide_eq_true hv1]; rfl)) (by decide) ?_
        first
          | refine TL.gno rfl (by decide) ?_
          | refine TL.gval rfl (YF.move rfl) (by decide) ?_
        first
          | refine TL.gno rfl (by decide) ?_
          | (refine TL.geff rfl (EF.call (vs := [_, _]) call_7 rfl (few_ct none bd 0 0 wl wc w0 _)) (by decide) ?_
             rintro _ _ ⟨rfl, hH⟩
             replace hH := hH.symm
             subst hH)
        first
          | refine TL.gno rfl (by decide) ?_
          | refine TL.gval rfl (YF.not rfl rfl) (by decide) ?_
        first
          | refine TL.val (YF.pickT rfl rfl) (by decide) ?_
          | refine TL.val (YF.pickF rfl rfl) (by decide) ?_
          | refine TL.val (YF.pick rfl rfl rfl rfl) (by decide) ?_
        refine TL.end ?_
        refine Arr.seq ?_
        refine Tr.cond rfl (fun h31 => ?_) (fun h31 => ?_)
        ·
          refine Tr.seq ?_
          refine Tr.region ?_
          refine TL.val (YF.assign rfl) (by decide) ?_
          refine TL.end ?_
          refine Arr.seq ?_
          refine Tr.retE ?_
          refine Arr.seqR ?_
          exact Ends.tmp rfl rfl rfl
        ·
          have hfew : wl ≤ 1000 := by
            simpa using h31
          refine Tr.skipE ?_
          refine Arr.seq ?_
          refine Tr.seq ?_
          refine Tr.region ?_
          refine TL.val (YF.move rfl) (by decide) ?_
          refine TL.call (vs := [_]) call_9 rfl (by decide) (headOf_ct nn w0 _ hnn) ?_
          rintro _ _ ⟨h, rfl, hd, hH⟩
          replace hH := hH.symm
          subst hH
          refine TL.allocA zero_27 (by decide) (fun b9 => ?_)
          refine TL.storeAll 0 (_ :: _) rfl rfl rfl sz_27 (va_size _ _) Zsz_27 (va_one fun _ _ => rfl) rfl ?_
          refine TL.end ?_
          refine Arr.seq ?_
          refine Tr.seq ?_
          refine Tr.region ?_
          refine TL.val (YF.fieldAddr fo_27_3 rfl rfl) (by decide) ?_
          refine TL.storeV 0 (_ :: _) rfl rfl rfl sz_3 rfl (by rw [va_size]; decide) sd_set rfl ?_
          refine TL.val (YF.fieldAddr fo_27_4 rfl rfl) (by decide) ?_
          refine TL.storeV 0 (_ :: _) rfl rfl rfl sz_3 rfl (by rw [va_size]; decide) sd_set rfl ?_
          refine TL.end ?_
          refine Arr.seq ?_
          refine Tr.seq ?_
          refine Tr.region ?_
          obtain ⟨hd', hh3, hh4⟩ := head_twice hd
          obtain ⟨h', hh'⟩ : ∃ h', h' = upd (upd h (0 + 3) 1) (0 + 4) 2 := ⟨_, rfl⟩
          rw [← hh']
          rw [← hh'] at hd' hh3 hh4
          refine TL.val (YF.loadAll 0 agg_27 rfl rfl (va_size _ _)) (by decide) ?_
          refine TL.call (vs := [_, _, _]) call_8 rfl (by decide) (frameOf_ct h' none none 0 0 0 0 w0 _ hd' (.inl rfl) (by omega) (.inl rfl) (by omega)) ?_
          rintro _ _ ⟨x, y, L, rfl, hx, hy, rfl⟩
          refine TL.perm List.perm_middle.symm ?_
          refine TL.allocA zero_49 (by decide) (fun b10 => ?_)
          refine TL.storeAll 0 (_ :: _) rfl rfl rfl sz_49 (va_size _ _) Zsz_49 (va_one fun q hq => by unfold fr; split; rfl; exact (hy _ (by omega)).one) rfl ?_
          refine TL.end ?_
          refine Arr.seq ?_
          refine Tr.seq ?_
          refine Tr.region ?_
          refine TL.val (YF.move rfl) (by decide) ?_
          refine TL.val (YF.move rfl) (by decide) ?_
          refine TL.call (vs := [_, _]) call_11 rfl (by decide) (spread_ct ad vl vc sk w0 _ hsk hv (by omega)) ?_
          rintro _ _ ⟨bl0, l0, rfl, hl, rfl⟩
          refine TL.val (YF.move rfl) (by decide) ?_
          refine TL.val (YF.move rfl) (by decide) ?_
          refine TL.val (YF.shr rfl rfl (by decide) (shrv (p := 16) 4 rfl (by decide) (by decide))) (by decide) ?_
          refine TL.call (vs := [_, _]) call_11 rfl (by decide) (spread_ct bd wl wc (sk / 16) w0 _ (by omega) hv2 (by omega)) ?_
          rintro _ _ ⟨bl1, l1, rfl, hl2, rfl⟩
          refine TL.val (YF.assign rfl) (by decide) ?_
          refine TL.val (YF.assign rfl) (by decide) ?_
          refine TL.end ?_
          refine Arr.seq ?_
          refine Tr.seq ?_
          refine Tr.region ?_
          refine TL.val (YF.move rfl) (by decide) ?_
          refine TL.val (YF.move rfl) (by decide) ?_
          refine TL.val (YF.fieldAddr fo_49_2 rfl rfl) (by decide) ?_
          refine TL.val (YF.fieldAddr fo_47_2 rfl rfl) (by decide) ?_
          refine TL.val (YF.indexArr arr_45 rfl rfl (by first | decide | omega) rfl) (by decide) ?_
          refine TL.val (YF.indexArr arr_44 rfl rfl (by first | decide | omega) (show _ = 337 by omega)) (by decide) ?_
          refine TL.storeV 2 (_ :: _ :: _ :: _) rfl rfl rfl sz_43 rfl (by rw [va_size]; omega) (fr_setK (k := 0) rfl) rfl ?_
          refine TL.val (YF.fieldAddr fo_49_2 rfl rfl) (by decide) ?_
          refine TL.val (YF.fieldAddr fo_47_2 rfl rfl) (by decide) ?_
          refine TL.val (YF.indexArr arr_45 rfl rfl (by first | decide | omega) rfl) (by decide) ?_
          refine TL.val (YF.indexArr arr_44 rfl rfl (by first | decide | omega) (show _ = 338 by omega)) (by decide) ?_
          refine TL.storeV 2 (_ :: _ :: _ :: _) rfl rfl rfl sz_43 rfl (by rw [va_size]; omega) (fr_setK (k := 1) rfl) rfl ?_
          refine TL.end ?_
          refine Arr.seq ?_
          refine Tr.seq ?_
          refine Tr.region ?_
          refine TL.val (YF.build (vs := [(0, .int .i64 576), (1, .int .i64 576)]) (cs := #[.int .i64 576, .int .i64 576]) rfl (by kernel_rfl)) (by decide) ?_
          refine TL.val (YF.fieldAddr fo_49_1 rfl rfl) (by decide) ?_
          refine TL.val (YF.fieldAddr fo_36_17 rfl rfl) (by decide) ?_
          refine TL.val (YF.indexArr arr_31 rfl rfl (by first | decide | omega) (show _ = 89 by omega)) (by decide) ?_
          refine TL.storeAgg 2 (_ :: _ :: (b10, .cells (va 341 (fr (upd (upd x 89 576) (89 + 1) 576) (upd (upd y 0 (.slice (some ⟨bl0, 0, none⟩) 576 576)) 1 (.slice (some ⟨bl1, 0, none⟩) 576 576)))) 49 (0, 0)) :: _) rfl rfl rfl sz_30 rfl rfl (by rw [va_size]; omega) (by rw [← fr_splice2 (by omega)]; exact rfl) ?_
          refine TL.end ?_
          refine Arr.seq ?_
          refine Tr.seq ?_
          have hc0 : (upd (upd x 89 576) (89 + 1) 576) (7 + (82 + 2 * 0)) = 576 := by rw [upd_ne _ _ (by decide), show 7 + (82 + 2 * 0) = 89 from rfl, upd_at]
          have hc1 : (upd (upd x 89 576) (89 + 1) 576) (7 + (82 + 2 * 0 + 1)) = 576 := by rw [show 7 + (82 + 2 * 0 + 1) = 89 + 1 from rfl, upd_at]
          obtain ⟨y', hy'⟩ : ∃ y', y' = (upd (upd y 0 (.slice (some ⟨bl0, 0, none⟩) 576 576)) 1 (.slice (some ⟨bl1, 0, none⟩) 576 576)) := ⟨_, rfl⟩
          obtain ⟨x', hx'⟩ : ∃ x', x' = (upd (upd x 89 576) (89 + 1) 576) := ⟨_, rfl⟩
          rw [← hy', ← hx']
          rw [← hx'] at hc0 hc1
          obtain ⟨d1, d2, d3, d4, d5, d6, d7⟩ := id hd'
          obtain ⟨G, hG0, hGk, hGM⟩ := greatest_two (fun q => V single (l0 q)) fun q => V single (l1 q)
          have hG9 : G ≤ 9 := hGM 9 (by decide) fun k hk => ⟨(hl k hk).2, (hl2 k hk).2⟩
          have hG100 : G ≤ 100 := by grind
          obtain ⟨ls, hls0, hlx, hly⟩ := LO.all2 (Hc := (bl1, .cells (va 576 (fl .f32 l1)) 82 (0, 0)) :: (bl0, .cells (va 576 (fl .f32 l0)) 82 (0, 0)) :: (L ++ H)) 0 1 bl0 bl1 (by decide) l0 l1 hy (fun p hp => by simp [hp]) (List.mem_cons_of_mem _ List.mem_cons_self) List.mem_cons_self
          rw [← hy'] at hls0
          have hls : ∀ i, i < 4 → LL ((bl1, .cells (va 576 (fl .f32 l1)) 82 (0, 0)) :: (bl0, .cells (va 576 (fl .f32 l0)) 82 (0, 0)) :: (b10, .cells (va 341 (fr x' y')) 49 (0, 0)) :: (b9, .cells (va 7 (sd h')) 27 (0, 0)) :: (L ++ H)) (y' i) (ls i) := fun i hi => (hls0 i hi).mono fun p hp => List.Sublist.subset (by repeat first | exact List.Sublist.refl _ | apply List.Sublist.cons_cons | apply List.Sublist.cons) hp
          refine Tr.cutN (R := fun a w => ∃ (bo : Nat) (l r : Nat → Nat), SR ((4294639616 + h' 0 * 4096 + h' 1 * 1024 + h' 2 * 512 + h' 5 * 256 + h' 3 * 64 + h' 4 * 16 + h' 6) / 64 % 4) ((4294639616 + h' 0 * 4096 + h' 1 * 1024 + h' 2 * 512 + h' 5 * 256 + h' 3 * 64 + h' 4 * 16 + h' 6) / 16 % 4) (G / 1000000 + 1 / 10 ^ 30) l0 l1 l r ∧ Agree 107 [(9, .pointer (some ⟨b9, 0, none⟩)), (10, .pointer (some ⟨b10, 0, none⟩)), (11, .slice (some ⟨bl0, 0, none⟩) 576 576), (12, .slice (some ⟨bl1, 0, none⟩) 576 576)] a ∧ HS w0 ((bo, .cells (va 1152 (two l r)) 88 (0, 0)) :: (bl1, .cells (va 576 (fl .f32 l1)) 82 (0, 0)) :: (bl0, .cells (va 576 (fl .f32 l0)) 82 (0, 0)) :: (b10, .cells (va 341 (fr x' (upd (upd y' 0 (.slice (some ⟨bo, 0, none⟩) 576 576)) 1 (.slice (some ⟨bo, 576, none⟩) 576 576)))) 49 (0, 0)) :: (b9, .cells (va 7 (sd h')) 27 (0, 0)) :: (L ++ H)) w) ?_ ?_
          ·
            refine Tr.drawE (_ :: _ :: _ :: _) (fun H => (H.eraseIdx 2)) rfl mixed_ ?_
            refine TD.take 0 rfl (by kernel_rfl) (by kernel_rfl) (by kernel_rfl) (fun _ _ _ h => h) (by repeat first | exact List.Sublist.refl _ | apply List.Sublist.cons_cons | apply List.Sublist.cons) (YF.loadAll 2 agg_27 rfl rfl (va_size _ _)) (by decide) ?_
            refine TD.take 2 rfl (by kernel_rfl) (by kernel_rfl) (by kernel_rfl) (fun _ _ _ h => h) (by repeat first | exact List.Sublist.refl _ | apply List.Sublist.cons_cons | apply List.Sublist.cons) (YF.fieldAddr fo_49_1 rfl rfl) (by decide) ?_
            refine TD.take 4 rfl (by kernel_rfl) (by kernel_rfl) (by kernel_rfl) (fun _ _ _ h => h) (by repeat first | exact List.Sublist.refl _ | apply List.Sublist.cons_cons | apply List.Sublist.cons) (YF.fieldAddr fo_49_2 rfl rfl) (by decide) ?_
            refine TD.take 10 rfl (by kernel_rfl) (by kernel_rfl) (by kernel_rfl) (fun _ _ _ h => h) (by repeat first | exact List.Sublist.refl _ | apply List.Sublist.cons_cons | apply List.Sublist.cons) (YF.fieldAddr fo_49_2 rfl rfl) (by decide) ?_
            refine TD.take 11 rfl (by kernel_rfl) (by kernel_rfl) (by kernel_rfl) (fun _ _ _ h => h) (by repeat first | exact List.Sublist.refl _ | apply List.Sublist.cons_cons | apply List.Sublist.cons) (YF.fieldAddr fo_47_2 rfl rfl) (by decide) ?_
            refine TD.take 12 rfl (by kernel_rfl) (by kernel_rfl) (by kernel_rfl) (fun _ _ _ h => h) (by repeat first | exact List.Sublist.refl _ | apply List.Sublist.cons_cons | apply List.Sublist.cons) (YF.indexArr arr_45 rfl rfl (by first | decide | omega) rfl) (by decide) ?_
            refine TD.take 15 rfl (by kernel_rfl) (by kernel_rfl) (by kernel_rfl) (fun _ _ _ h => h) (by repeat first | exact List.Sublist.refl _ | apply List.Sublist.cons_cons | apply List.Sublist.cons) (YF.fieldAddr fo_49_2 rfl rfl) (by decide) ?_
            refine TD.take 16 rfl (by kernel_rfl) (by kernel_rfl) (by kernel_rfl) (fun _ _ _ h => h) (by repeat first | exact List.Sublist.refl _ | apply List.Sublist.cons_cons | apply List.Sublist.cons) (YF.fieldAddr fo_47_2 rfl rfl) (by decide) ?_
            refine TD.take 17 rfl (by kernel_rfl) (by kernel_rfl) (by kernel_rfl) (fun _ _ _ h => h) (by repeat first | exact List.Sublist.refl _ | apply List.Sublist.cons_cons | apply List.Sublist.cons) (YF.indexArr arr_45 rfl rfl (by first | decide | omega) rfl) (by decide) ?_
            refine TD.three 1 3 5 (by kernel_rfl) ?_ ?_ ?_
            ·
              refine TO.eff 1 rfl (EF.call (vs := [_]) call_15 rfl (word_ct h' w0 _ hd')) (by decide) (by rintro _ _ ⟨rfl, rfl⟩; exact (by repeat first | exact List.Sublist.refl _ | apply List.Sublist.cons_cons | apply List.Sublist.cons)) ?_
              rintro _ _ ⟨rfl, rfl⟩
              refine TD.two 3 5 (by kernel_rfl) ?_ ?_
              ·
                refine TO.eff 3 rfl (YF.ef (YF.loadAgg (v := va 86 (sd (fun q => x' (7 + q)))) 2 agg_36 rfl rfl (by rw [va_size]; decide) fr_side)) (by decide) (by rintro _ _ ⟨rfl, rfl⟩; exact (by repeat first | exact List.Sublist.refl _ | apply List.Sublist.cons_cons | apply List.Sublist.cons)) ?_
                rintro _ _ ⟨rfl, rfl⟩
                refine TD.eff 5 rfl (by kernel_rfl) (YF.ef (YF.loadAgg (v := va 248 (mn (fun q => x' (93 + q)) y')) 2 agg_47 rfl rfl (by rw [va_size]; decide) fr_main)) (by decide) (by rintro _ _ ⟨rfl, rfl⟩; exact (by repeat first | exact List.Sublist.refl _ | apply List.Sublist.cons_cons | apply List.Sublist.cons)) ?_
                rintro _ _ ⟨rfl, rfl⟩
                refine TD.eff 6 rfl (by kernel_rfl) (EF.call (vs := [_, _, _, _]) call_18 rfl (implStereo_ct (4294639616 + h' 0 * 4096 + h' 1 * 1024 + h' 2 * 512 + h' 5 * 256 + h' 3 * 64 + h' 4 * 16 + h' 6) (fun q => x' (7 + q)) (fun q => x' (93 + q)) y' ls l0 l1 0 G (by decide) w0 _ hls (fun k _ => hlx k) (fun k _ => hly k) (by omega) (by omega) hG0 hG100 (fun q hq => ⟨(hl q hq).1, (hGk q hq).1⟩) (fun q hq => ⟨(hl2 q hq).1, (hGk q hq).2⟩) hc0 hc1)) (by decide) (by rintro _ _ ⟨bo, l, r, hS, rfl, rfl⟩; exact (by repeat first | exact List.Sublist.refl _ | apply List.Sublist.cons_cons | apply List.Sublist.cons)) ?_
                rintro _ _ ⟨bo, l, r, hS, rfl, rfl⟩
                refine TD.take 7 rfl (by kernel_rfl) (by kernel_rfl) (by kernel_rfl) (fun _ _ _ h => h) (by repeat first | exact List.Sublist.refl _ | apply List.Sublist.cons_cons | apply List.Sublist.cons) (YF.move rfl) (by decide) ?_
                refine TD.take 8 rfl (by kernel_rfl) (by kernel_rfl) (by kernel_rfl) (fun _ _ _ h => h) (by repeat first | exact List.Sublist.refl _ | apply List.Sublist.cons_cons | apply List.Sublist.cons) (YF.extract rfl rfl) (by decide) ?_
                refine TD.take 9 rfl (by kernel_rfl) (by kernel_rfl) (by kernel_rfl) (fun _ _ _ h => h) (by repeat first | exact List.Sublist.refl _ | apply List.Sublist.cons_cons | apply List.Sublist.cons) (YF.extract rfl rfl) (by decide) ?_
                refine TD.take 13 rfl (by kernel_rfl) (by kernel_rfl) (by kernel_rfl) (fun _ _ _ h => h) (by repeat first | exact List.Sublist.refl _ | apply List.Sublist.cons_cons | apply List.Sublist.cons) (YF.indexArr arr_44 rfl rfl (by first | decide | omega) (show _ = 337 by omega)) (by decide) ?_
                refine TD.eff0 14 rfl (by kernel_rfl) (EF.store 3 rfl rfl rfl sz_43 rfl (by rw [va_size]; omega)) (by rintro _ _ ⟨rfl, rfl⟩; exact (by repeat first | exact List.Sublist.refl _ | apply List.Sublist.cons_cons | apply List.Sublist.cons)) ?_
                rintro _ _ ⟨rfl, rfl⟩
                refine TD.heap (_ :: _ :: _ :: (b10, .cells (va 341 (fr x' (upd y' 0 (.slice (some ⟨bo, 0, none⟩) 576 576)))) 49 (0, 0)) :: _) (by rw [← fr_setK (q := 337) (k := 0) rfl]; exact rfl) ?_
                refine TD.take 18 rfl (by kernel_rfl) (by kernel_rfl) (by kernel_rfl) (fun _ _ _ h => h) (by repeat first | exact List.Sublist.refl _ | apply List.Sublist.cons_cons | apply List.Sublist.cons) (YF.indexArr arr_44 rfl rfl (by first | decide | omega) (show _ = 338 by omega)) (by decide) ?_
                refine TD.eff0 19 rfl (by kernel_rfl) (EF.store 3 rfl rfl rfl sz_43 rfl (by rw [va_size]; omega)) (by rintro _ _ ⟨rfl, rfl⟩; exact (by repeat first | exact List.Sublist.refl _ | apply List.Sublist.cons_cons | apply List.Sublist.cons)) ?_
                rintro _ _ ⟨rfl, rfl⟩
                refine TD.heap (_ :: _ :: _ :: (b10, .cells (va 341 (fr x' (upd (upd y' 0 (.slice (some ⟨bo, 0, none⟩) 576 576)) 1 (.slice (some ⟨bo, 576, none⟩) 576 576)))) 49 (0, 0)) :: _) (by rw [← fr_setK (q := 338) (k := 1) rfl]; exact rfl) ?_
                refine TD.end (by kernel_rfl) ?_
                refine Arr.meet ?_
                exact fun a w ha hw => ⟨bo, l, r, hS, (ha.cons rfl (ha.cons rfl (ha.cons rfl (ha.cons rfl (ha.nil))))), hw⟩
              ·
                refine TO.eff 5 rfl (YF.ef (YF.loadAgg (v := va 248 (mn (fun q => x' (93 + q)) y')) 2 agg_47 rfl rfl (by rw [va_size]; decide) fr_main)) (by decide) (by rintro _ _ ⟨rfl, rfl⟩; exact (by repeat first | exact List.Sublist.refl _ | apply List.Sublist.cons_cons | apply List.Sublist.cons)) ?_
                rintro _ _ ⟨rfl, rfl⟩
                refine TD.eff 3 rfl (by kernel_rfl) (YF.ef (YF.loadAgg (v := va 86 (sd (fun q => x' (7 + q)))) 2 agg_36 rfl rfl (by rw [va_size]; decide) fr_side)) (by decide) (by rintro _ _ ⟨rfl, rfl⟩; exact (by repeat first | exact List.Sublist.refl _ | apply List.Sublist.cons_cons | apply List.Sublist.cons)) ?_
                rintro _ _ ⟨rfl, rfl⟩
                refine TD.eff 6 rfl (by kernel_rfl) (EF.call (vs := [_, _, _, _]) call_18 rfl (implStereo_ct (4294639616 + h' 0 * 4096 + h' 1 * 1024 + h' 2 * 512 + h' 5 * 256 + h' 3 * 64 + h' 4 * 16 + h' 6) (fun q => x' (7 + q)) (fun q => x' (93 + q)) y' ls l0 l1 0 G (by decide) w0 _ hls (fun k _ => hlx k) (fun k _ => hly k) (by omega) (by omega) hG0 hG100 (fun q hq => ⟨(hl q hq).1, (hGk q hq).1⟩) (fun q hq => ⟨(hl2 q hq).1, (hGk q hq).2⟩) hc0 hc1)) (by decide) (by rintro _ _ ⟨bo, l, r, hS, rfl, rfl⟩; exact (by repeat first | exact List.Sublist.refl _ | apply List.Sublist.cons_cons | apply List.Sublist.cons)) ?_
                rintro _ _ ⟨bo, l, r, hS, rfl, rfl⟩
                refine TD.take 7 rfl (by kernel_rfl) (by kernel_rfl) (by kernel_rfl) (fun _ _ _ h => h) (by repeat first | exact List.Sublist.refl _ | apply List.Sublist.cons_cons | apply List.Sublist.cons) (YF.move rfl) (by decide) ?_
                refine TD.take 8 rfl (by kernel_rfl) (by kernel_rfl) (by kernel_rfl) (fun _ _ _ h => h) (by repeat first | exact List.Sublist.refl _ | apply List.Sublist.cons_cons | apply List.Sublist.cons) (YF.extract rfl rfl) (by decide) ?_
                refine TD.take 9 rfl (by kernel_rfl) (by kernel_rfl) (by kernel_rfl) (fun _ _ _ h => h) (by repeat first | exact List.Sublist.refl _ | apply List.Sublist.cons_cons | apply List.Sublist.cons) (YF.extract rfl rfl) (by decide) ?_
                refine TD.take 13 rfl (by kernel_rfl) (by kernel_rfl) (by kernel_rfl) (fun _ _ _ h => h) (by repeat first | exact List.Sublist.refl _ | apply List.Sublist.cons_cons | apply List.Sublist.cons) (YF.indexArr arr_44 rfl rfl (by first | decide | omega) (show _ = 337 by omega)) (by decide) ?_
                refine TD.eff0 14 rfl (by kernel_rfl) (EF.store 3 rfl rfl rfl sz_43 rfl (by rw [va_size]; omega)) (by rintro _ _ ⟨rfl, rfl⟩; exact (by repeat first | exact List.Sublist.refl _ | apply List.Sublist.cons_cons | apply List.Sublist.cons)) ?_
                rintro _ _ ⟨rfl, rfl⟩
                refine TD.heap (_ :: _ :: _ :: (b10, .cells (va 341 (fr x' (upd y' 0 (.slice (some ⟨bo, 0, none⟩) 576 576)))) 49 (0, 0)) :: _) (by rw [← fr_setK (q := 337) (k := 0) rfl]; exact rfl) ?_
                refine TD.take 18 rfl (by kernel_rfl) (by kernel_rfl) (by kernel_rfl) (fun _ _ _ h => h) (by repeat first | exact List.Sublist.refl _ | apply List.Sublist.cons_cons | apply List.Sublist.cons) (YF.indexArr arr_44 rfl rfl (by first | decide | omega) (show _ = 338 by omega)) (by decide) ?_
                refine TD.eff0 19 rfl (by kernel_rfl) (EF.store 3 rfl rfl rfl sz_43 rfl (by rw [va_size]; omega)) (by rintro _ _ ⟨rfl, rfl⟩; exact (by repeat first | exact List.Sublist.refl _ | apply List.Sublist.cons_cons | apply List.Sublist.cons)) ?_
                rintro _ _ ⟨rfl, rfl⟩
                refine TD.heap (_ :: _ :: _ :: (b10, .cells (va 341 (fr x' (upd (upd y' 0 (.slice (some ⟨bo, 0, none⟩) 576 576)) 1 (.slice (some ⟨bo, 576, none⟩) 576 576)))) 49 (0, 0)) :: _) (by rw [← fr_setK (q := 338) (k := 1) rfl]; exact rfl) ?_
                refine TD.end (by kernel_rfl) ?_
                refine Arr.meet ?_
                exact fun a w ha hw => ⟨bo, l, r, hS, (ha.cons rfl (ha.cons rfl (ha.cons rfl (ha.cons rfl (ha.nil))))), hw⟩
            ·
              refine TO.eff 3 rfl (YF.ef (YF.loadAgg (v := va 86 (sd (fun q => x' (7 + q)))) 2 agg_36 rfl rfl (by rw [va_size]; decide) fr_side)) (by decide) (by rintro _ _ ⟨rfl, rfl⟩; exact (by repeat first | exact List.Sublist.refl _ | apply List.Sublist.cons_cons | apply List.Sublist.cons)) ?_
              rintro _ _ ⟨rfl, rfl⟩
              refine TD.two 1 5 (by kernel_rfl) ?_ ?_
              ·
                refine TO.eff 1 rfl (EF.call (vs := [_]) call_15 rfl (word_ct h' w0 _ hd')) (by decide) (by rintro _ _ ⟨rfl, rfl⟩; exact (by repeat first | exact List.Sublist.refl _ | apply List.Sublist.cons_cons | apply List.Sublist.cons)) ?_
                rintro _ _ ⟨rfl, rfl⟩
                refine TD.eff 5 rfl (by kernel_rfl) (YF.ef (YF.loadAgg (v := va 248 (mn (fun q => x' (93 + q)) y')) 2 agg_47 rfl rfl (by rw [va_size]; decide) fr_main)) (by decide) (by rintro _ _ ⟨rfl, rfl⟩; exact (by repeat first | exact List.Sublist.refl _ | apply List.Sublist.cons_cons | apply List.Sublist.cons)) ?_
                rintro _ _ ⟨rfl, rfl⟩
                refine TD.eff 6 rfl (by kernel_rfl) (EF.call (vs := [_, _, _, _]) call_18 rfl (implStereo_ct (4294639616 + h' 0 * 4096 + h' 1 * 1024 + h' 2 * 512 + h' 5 * 256 + h' 3 * 64 + h' 4 * 16 + h' 6) (fun q => x' (7 + q)) (fun q => x' (93 + q)) y' ls l0 l1 0 G (by decide) w0 _ hls (fun k _ => hlx k) (fun k _ => hly k) (by omega) (by omega) hG0 hG100 (fun q hq => ⟨(hl q hq).1, (hGk q hq).1⟩) (fun q hq => ⟨(hl2 q hq).1, (hGk q hq).2⟩) hc0 hc1)) (by decide) (by rintro _ _ ⟨bo, l, r, hS, rfl, rfl⟩; exact (by repeat first | exact List.Sublist.refl _ | apply List.Sublist.cons_cons | apply List.Sublist.cons)) ?_
                rintro _ _ ⟨bo, l, r, hS, rfl, rfl⟩
                refine TD.take 7 rfl (by kernel_rfl) (by kernel_rfl) (by kernel_rfl) (fun _ _ _ h => h) (by repeat first | exact List.Sublist.refl _ | apply List.Sublist.cons_cons | apply List.Sublist.cons) (YF.move rfl) (by decide) ?_
                refine TD.take 8 rfl (by kernel_rfl) (by kernel_rfl) (by kernel_rfl) (fun _ _ _ h => h) (by repeat first | exact List.Sublist.refl _ | apply List.Sublist.cons_cons | apply List.Sublist.cons) (YF.extract rfl rfl) (by decide) ?_
                refine TD.take 9 rfl (by kernel_rfl) (by kernel_rfl) (by kernel_rfl) (fun _ _ _ h => h) (by repeat first | exact List.Sublist.refl _ | apply List.Sublist.cons_cons | apply List.Sublist.cons) (YF.extract rfl rfl) (by decide) ?_
                refine TD.take 13 rfl (by kernel_rfl) (by kernel_rfl) (by kernel_rfl) (fun _ _ _ h => h) (by repeat first | exact List.Sublist.refl _ | apply List.Sublist.cons_cons | apply List.Sublist.cons) (YF.indexArr arr_44 rfl rfl (by first | decide | omega) (show _ = 337 by omega)) (by decide) ?_
                refine TD.eff0 14 rfl (by kernel_rfl) (EF.store 3 rfl rfl rfl sz_43 rfl (by rw [va_size]; omega)) (by rintro _ _ ⟨rfl, rfl⟩; exact (by repeat first | exact List.Sublist.refl _ | apply List.Sublist.cons_cons | apply List.Sublist.cons)) ?_
                rintro _ _ ⟨rfl, rfl⟩
                refine TD.heap (_ :: _ :: _ :: (b10, .cells (va 341 (fr x' (upd y' 0 (.slice (some ⟨bo, 0, none⟩) 576 576)))) 49 (0, 0)) :: _) (by rw [← fr_setK (q := 337) (k := 0) rfl]; exact rfl) ?_
                refine TD.take 18 rfl (by kernel_rfl) (by kernel_rfl) (by kernel_rfl) (fun _ _ _ h => h) (by repeat first | exact List.Sublist.refl _ | apply List.Sublist.cons_cons | apply List.Sublist.cons) (YF.indexArr arr_44 rfl rfl (by first | decide | omega) (show _ = 338 by omega)) (by decide) ?_
                refine TD.eff0 19 rfl (by kernel_rfl) (EF.store 3 rfl rfl rfl sz_43 rfl (by rw [va_size]; omega)) (by rintro _ _ ⟨rfl, rfl⟩; exact (by repeat first | exact List.Sublist.refl _ | apply List.Sublist.cons_cons | apply List.Sublist.cons)) ?_
                rintro _ _ ⟨rfl, rfl⟩
                refine TD.heap (_ :: _ :: _ :: (b10, .cells (va 341 (fr x' (upd (upd y' 0 (.slice (some ⟨bo, 0, none⟩) 576 576)) 1 (.slice (some ⟨bo, 576, none⟩) 576 576)))) 49 (0, 0)) :: _) (by rw [← fr_setK (q := 338) (k := 1) rfl]; exact rfl) ?_
                refine TD.end (by kernel_rfl) ?_
                refine Arr.meet ?_
                exact fun a w ha hw => ⟨bo, l, r, hS, (ha.cons rfl (ha.cons rfl (ha.cons rfl (ha.cons rfl (ha.nil))))), hw⟩
              ·
                refine TO.eff 5 rfl (YF.ef (YF.loadAgg (v := va 248 (mn (fun q => x' (93 + q)) y')) 2 agg_47 rfl rfl (by rw [va_size]; decide) fr_main)) (by decide) (by rintro _ _ ⟨rfl, rfl⟩; exact (by repeat first | exact List.Sublist.refl _ | apply List.Sublist.cons_cons | apply List.Sublist.cons)) ?_
                rintro _ _ ⟨rfl, rfl⟩
                refine TD.eff 1 rfl (by kernel_rfl) (EF.call (vs := [_]) call_15 rfl (word_ct h' w0 _ hd')) (by decide) (by rintro _ _ ⟨rfl, rfl⟩; exact (by repeat first | exact List.Sublist.refl _ | apply List.Sublist.cons_cons | apply List.Sublist.cons)) ?_
                rintro _ _ ⟨rfl, rfl⟩
                refine TD.eff 6 rfl (by kernel_rfl) (EF.call (vs := [_, _, _, _]) call_18 rfl (implStereo_ct (4294639616 + h' 0 * 4096 + h' 1 * 1024 + h' 2 * 512 + h' 5 * 256 + h' 3 * 64 + h' 4 * 16 + h' 6) (fun q => x' (7 + q)) (fun q => x' (93 + q)) y' ls l0 l1 0 G (by decide) w0 _ hls (fun k _ => hlx k) (fun k _ => hly k) (by omega) (by omega) hG0 hG100 (fun q hq => ⟨(hl q hq).1, (hGk q hq).1⟩) (fun q hq => ⟨(hl2 q hq).1, (hGk q hq).2⟩) hc0 hc1)) (by decide) (by rintro _ _ ⟨bo, l, r, hS, rfl, rfl⟩; exact (by repeat first | exact List.Sublist.refl _ | apply List.Sublist.cons_cons | apply List.Sublist.cons)) ?_
                rintro _ _ ⟨bo, l, r, hS, rfl, rfl⟩
                refine TD.take 7 rfl (by kernel_rfl) (by kernel_rfl) (by kernel_rfl) (fun _ _ _ h => h) (by repeat first | exact List.Sublist.refl _ | apply List.Sublist.cons_cons | apply List.Sublist.cons) (YF.move rfl) (by decide) ?_
                refine TD.take 8 rfl (by kernel_rfl) (by kernel_rfl) (by kernel_rfl) (fun _ _ _ h => h) (by repeat first | exact List.Sublist.refl _ | apply List.Sublist.cons_cons | apply List.Sublist.cons) (YF.extract rfl rfl) (by decide) ?_
                refine TD.take 9 rfl (by kernel_rfl) (by kernel_rfl) (by kernel_rfl) (fun _ _ _ h => h) (by repeat first | exact List.Sublist.refl _ | apply List.Sublist.cons_cons | apply List.Sublist.cons) (YF.extract rfl rfl) (by decide) ?_
                refine TD.take 13 rfl (by kernel_rfl) (by kernel_rfl) (by kernel_rfl) (fun _ _ _ h => h) (by repeat first | exact List.Sublist.refl _ | apply List.Sublist.cons_cons | apply List.Sublist.cons) (YF.indexArr arr_44 rfl rfl (by first | decide | omega) (show _ = 337 by omega)) (by decide) ?_
                refine TD.eff0 14 rfl (by kernel_rfl) (EF.store 3 rfl rfl rfl sz_43 rfl (by rw [va_size]; omega)) (by rintro _ _ ⟨rfl, rfl⟩; exact (by repeat first | exact List.Sublist.refl _ | apply List.Sublist.cons_cons | apply List.Sublist.cons)) ?_
                rintro _ _ ⟨rfl, rfl⟩
                refine TD.heap (_ :: _ :: _ :: (b10, .cells (va 341 (fr x' (upd y' 0 (.slice (some ⟨bo, 0, none⟩) 576 576)))) 49 (0, 0)) :: _) (by rw [← fr_setK (q := 337) (k := 0) rfl]; exact rfl) ?_
                refine TD.take 18 rfl (by kernel_rfl) (by kernel_rfl) (by kernel_rfl) (fun _ _ _ h => h) (by repeat first | exact List.Sublist.refl _ | apply List.Sublist.cons_cons | apply List.Sublist.cons) (YF.indexArr arr_44 rfl rfl (by first | decide | omega) (show _ = 338 by omega)) (by decide) ?_
                refine TD.eff0 19 rfl (by kernel_rfl) (EF.store 3 rfl rfl rfl sz_43 rfl (by rw [va_size]; omega)) (by rintro _ _ ⟨rfl, rfl⟩; exact (by repeat first | exact List.Sublist.refl _ | apply List.Sublist.cons_cons | apply List.Sublist.cons)) ?_
                rintro _ _ ⟨rfl, rfl⟩
                refine TD.heap (_ :: _ :: _ :: (b10, .cells (va 341 (fr x' (upd (upd y' 0 (.slice (some ⟨bo, 0, none⟩) 576 576)) 1 (.slice (some ⟨bo, 576, none⟩) 576 576)))) 49 (0, 0)) :: _) (by rw [← fr_setK (q := 338) (k := 1) rfl]; exact rfl) ?_
                refine TD.end (by kernel_rfl) ?_
                refine Arr.meet ?_
                exact fun a w ha hw => ⟨bo, l, r, hS, (ha.cons rfl (ha.cons rfl (ha.cons rfl (ha.cons rfl (ha.nil))))), hw⟩
            ·
              refine TO.eff 5 rfl (YF.ef (YF.loadAgg (v := va 248 (mn (fun q => x' (93 + q)) y')) 2 agg_47 rfl rfl (by rw [va_size]; decide) fr_main)) (by decide) (by rintro _ _ ⟨rfl, rfl⟩; exact (by repeat first | exact List.Sublist.refl _ | apply List.Sublist.cons_cons | apply List.Sublist.cons)) ?_
              rintro _ _ ⟨rfl, rfl⟩
              refine TD.two 1 3 (by kernel_rfl) ?_ ?_
              ·
                refine TO.eff 1 rfl (EF.call (vs := [_]) call_15 rfl (word_ct h' w0 _ hd')) (by decide) (by rintro _ _ ⟨rfl, rfl⟩; exact (by repeat first | exact List.Sublist.refl _ | apply List.Sublist.cons_cons | apply List.Sublist.cons)) ?_
                rintro _ _ ⟨rfl, rfl⟩
                refine TD.eff 3 rfl (by kernel_rfl) (YF.ef (YF.loadAgg (v := va 86 (sd (fun q => x' (7 + q)))) 2 agg_36 rfl rfl (by rw [va_size]; decide) fr_side)) (by decide) (by rintro _ _ ⟨rfl, rfl⟩; exact (by repeat first | exact List.Sublist.refl _ | apply List.Sublist.cons_cons | apply List.Sublist.cons)) ?_
                rintro _ _ ⟨rfl, rfl⟩
                refine TD.eff 6 rfl (by kernel_rfl) (EF.call (vs := [_, _, _, _]) call_18 rfl (implStereo_ct (4294639616 + h' 0 * 4096 + h' 1 * 1024 + h' 2 * 512 + h' 5 * 256 + h' 3 * 64 + h' 4 * 16 + h' 6) (fun q => x' (7 + q)) (fun q => x' (93 + q)) y' ls l0 l1 0 G (by decide) w0 _ hls (fun k _ => hlx k) (fun k _ => hly k) (by omega) (by omega) hG0 hG100 (fun q hq => ⟨(hl q hq).1, (hGk q hq).1⟩) (fun q hq => ⟨(hl2 q hq).1, (hGk q hq).2⟩) hc0 hc1)) (by decide) (by rintro _ _ ⟨bo, l, r, hS, rfl, rfl⟩; exact (by repeat first | exact List.Sublist.refl _ | apply List.Sublist.cons_cons | apply List.Sublist.cons)) ?_
                rintro _ _ ⟨bo, l, r, hS, rfl, rfl⟩
                refine TD.take 7 rfl (by kernel_rfl) (by kernel_rfl) (by kernel_rfl) (fun _ _ _ h => h) (by repeat first | exact List.Sublist.refl _ | apply List.Sublist.cons_cons | apply List.Sublist.cons) (YF.move rfl) (by decide) ?_
                refine TD.take 8 rfl (by kernel_rfl) (by kernel_rfl) (by kernel_rfl) (fun _ _ _ h => h) (by repeat first | exact List.Sublist.refl _ | apply List.Sublist.cons_cons | apply List.Sublist.cons) (YF.extract rfl rfl) (by decide) ?_
                refine TD.take 9 rfl (by kernel_rfl) (by kernel_rfl) (by kernel_rfl) (fun _ _ _ h => h) (by repeat first | exact List.Sublist.refl _ | apply List.Sublist.cons_cons | apply List.Sublist.cons) (YF.extract rfl rfl) (by decide) ?_
                refine TD.take 13 rfl (by kernel_rfl) (by kernel_rfl) (by kernel_rfl) (fun _ _ _ h => h) (by repeat first | exact List.Sublist.refl _ | apply List.Sublist.cons_cons | apply List.Sublist.cons) (YF.indexArr arr_44 rfl rfl (by first | decide | omega) (show _ = 337 by omega)) (by decide) ?_
                refine TD.eff0 14 rfl (by kernel_rfl) (EF.store 3 rfl rfl rfl sz_43 rfl (by rw [va_size]; omega)) (by rintro _ _ ⟨rfl, rfl⟩; exact (by repeat first | exact List.Sublist.refl _ | apply List.Sublist.cons_cons | apply List.Sublist.cons)) ?_
                rintro _ _ ⟨rfl, rfl⟩
                refine TD.heap (_ :: _ :: _ :: (b10, .cells (va 341 (fr x' (upd y' 0 (.slice (some ⟨bo, 0, none⟩) 576 576)))) 49 (0, 0)) :: _) (by rw [← fr_setK (q := 337) (k := 0) rfl]; exact rfl) ?_
                refine TD.take 18 rfl (by kernel_rfl) (by kernel_rfl) (by kernel_rfl) (fun _ _ _ h => h) (by repeat first | exact List.Sublist.refl _ | apply List.Sublist.cons_cons | apply List.Sublist.cons) (YF.indexArr arr_44 rfl rfl (by first | decide | omega) (show _ = 338 by omega)) (by decide) ?_
                refine TD.eff0 19 rfl (by kernel_rfl) (EF.store 3 rfl rfl rfl sz_43 rfl (by rw [va_size]; omega)) (by rintro _ _ ⟨rfl, rfl⟩; exact (by repeat first | exact List.Sublist.refl _ | apply List.Sublist.cons_cons | apply List.Sublist.cons)) ?_
                rintro _ _ ⟨rfl, rfl⟩
                refine TD.heap (_ :: _ :: _ :: (b10, .cells (va 341 (fr x' (upd (upd y' 0 (.slice (some ⟨bo, 0, none⟩) 576 576)) 1 (.slice (some ⟨bo, 576, none⟩) 576 576)))) 49 (0, 0)) :: _) (by rw [← fr_setK (q := 338) (k := 1) rfl]; exact rfl) ?_
                refine TD.end (by kernel_rfl) ?_
                refine Arr.meet ?_
                exact fun a w ha hw => ⟨bo, l, r, hS, (ha.cons rfl (ha.cons rfl (ha.cons rfl (ha.cons rfl (ha.nil))))), hw⟩
              ·
                refine TO.eff 3 rfl (YF.ef (YF.loadAgg (v := va 86 (sd (fun q => x' (7 + q)))) 2 agg_36 rfl rfl (by rw [va_size]; decide) fr_side)) (by decide) (by rintro _ _ ⟨rfl, rfl⟩; exact (by repeat first | exact List.Sublist.refl _ | apply List.Sublist.cons_cons | apply List.Sublist.cons)) ?_
                rintro _ _ ⟨rfl, rfl⟩
                refine TD.eff 1 rfl (by kernel_rfl) (EF.call (vs := [_]) call_15 rfl (word_ct h' w0 _ hd')) (by decide) (by rintro _ _ ⟨rfl, rfl⟩; exact (by repeat first | exact List.Sublist.refl _ | apply List.Sublist.cons_cons | apply List.Sublist.cons)) ?_
                rintro _ _ ⟨rfl, rfl⟩
                refine TD.eff 6 rfl (by kernel_rfl) (EF.call (vs := [_, _, _, _]) call_18 rfl (implStereo_ct (4294639616 + h' 0 * 4096 + h' 1 * 1024 + h' 2 * 512 + h' 5 * 256 + h' 3 * 64 + h' 4 * 16 + h' 6) (fun q => x' (7 + q)) (fun q => x' (93 + q)) y' ls l0 l1 0 G (by decide) w0 _ hls (fun k _ => hlx k) (fun k _ => hly k) (by omega) (by omega) hG0 hG100 (fun q hq => ⟨(hl q hq).1, (hGk q hq).1⟩) (fun q hq => ⟨(hl2 q hq).1, (hGk q hq).2⟩) hc0 hc1)) (by decide) (by rintro _ _ ⟨bo, l, r, hS, rfl, rfl⟩; exact (by repeat first | exact List.Sublist.refl _ | apply List.Sublist.cons_cons | apply List.Sublist.cons)) ?_
                rintro _ _ ⟨bo, l, r, hS, rfl, rfl⟩
                refine TD.take 7 rfl (by kernel_rfl) (by kernel_rfl) (by kernel_rfl) (fun _ _ _ h => h) (by repeat first | exact List.Sublist.refl _ | apply List.Sublist.cons_cons | apply List.Sublist.cons) (YF.move rfl) (by decide) ?_
                refine TD.take 8 rfl (by kernel_rfl) (by kernel_rfl) (by kernel_rfl) (fun _ _ _ h => h) (by repeat first | exact List.Sublist.refl _ | apply List.Sublist.cons_cons | apply List.Sublist.cons) (YF.extract rfl rfl) (by decide) ?_
                refine TD.take 9 rfl (by kernel_rfl) (by kernel_rfl) (by kernel_rfl) (fun _ _ _ h => h) (by repeat first | exact List.Sublist.refl _ | apply List.Sublist.cons_cons | apply List.Sublist.cons) (YF.extract rfl rfl) (by decide) ?_
                refine TD.take 13 rfl (by kernel_rfl) (by kernel_rfl) (by kernel_rfl) (fun _ _ _ h => h) (by repeat first | exact List.Sublist.refl _ | apply List.Sublist.cons_cons | apply List.Sublist.cons) (YF.indexArr arr_44 rfl rfl (by first | decide | omega) (show _ = 337 by omega)) (by decide) ?_
                refine TD.eff0 14 rfl (by kernel_rfl) (EF.store 3 rfl rfl rfl sz_43 rfl (by rw [va_size]; omega)) (by rintro _ _ ⟨rfl, rfl⟩; exact (by repeat first | exact List.Sublist.refl _ | apply List.Sublist.cons_cons | apply List.Sublist.cons)) ?_
                rintro _ _ ⟨rfl, rfl⟩
                refine TD.heap (_ :: _ :: _ :: (b10, .cells (va 341 (fr x' (upd y' 0 (.slice (some ⟨bo, 0, none⟩) 576 576)))) 49 (0, 0)) :: _) (by rw [← fr_setK (q := 337) (k := 0) rfl]; exact rfl) ?_
                refine TD.take 18 rfl (by kernel_rfl) (by kernel_rfl) (by kernel_rfl) (fun _ _ _ h => h) (by repeat first | exact List.Sublist.refl _ | apply List.Sublist.cons_cons | apply List.Sublist.cons) (YF.indexArr arr_44 rfl rfl (by first | decide | omega) (show _ = 338 by omega)) (by decide) ?_
                refine TD.eff0 19 rfl (by kernel_rfl) (EF.store 3 rfl rfl rfl sz_43 rfl (by rw [va_size]; omega)) (by rintro _ _ ⟨rfl, rfl⟩; exact (by repeat first | exact List.Sublist.refl _ | apply List.Sublist.cons_cons | apply List.Sublist.cons)) ?_
                rintro _ _ ⟨rfl, rfl⟩
                refine TD.heap (_ :: _ :: _ :: (b10, .cells (va 341 (fr x' (upd (upd y' 0 (.slice (some ⟨bo, 0, none⟩) 576 576)) 1 (.slice (some ⟨bo, 576, none⟩) 576 576)))) 49 (0, 0)) :: _) (by rw [← fr_setK (q := 338) (k := 1) rfl]; exact rfl) ?_
                refine TD.end (by kernel_rfl) ?_
                refine Arr.meet ?_
                exact fun a w ha hw => ⟨bo, l, r, hS, (ha.cons rfl (ha.cons rfl (ha.cons rfl (ha.cons rfl (ha.nil))))), hw⟩
          rintro a w ⟨bo, l, r, hS, ha, hw⟩
          refine Arr.use ha hw ?_
          refine Arr.seq ?_
          refine Tr.seq ?_
          have hms : (4294639616 + h' 0 * 4096 + h' 1 * 1024 + h' 2 * 512 + h' 5 * 256 + h' 3 * 64 + h' 4 * 16 + h' 6) / 64 % 4 = 1 ∧ (4294639616 + h' 0 * 4096 + h' 1 * 1024 + h' 2 * 512 + h' 5 * 256 + h' 3 * 64 + h' 4 * 16 + h' 6) / 16 % 4 = 2 := ⟨by omega, by omega⟩
          have hMS := hS.1 hms
          obtain ⟨ls2, hls2, hlx2, hly2⟩ := LL.two (Hc := (bo, .cells (va 1152 (two l r)) 88 (0, 0)) :: (bl1, .cells (va 576 (fl .f32 l1)) 82 (0, 0)) :: (bl0, .cells (va 576 (fl .f32 l0)) 82 (0, 0)) :: (b10, .cells (va 341 (fr x' (upd (upd y' 0 (.slice (some ⟨bo, 0, none⟩) 576 576)) 1 (.slice (some ⟨bo, 576, none⟩) 576 576)))) 49 (0, 0)) :: (b9, .cells (va 7 (sd h')) 27 (0, 0)) :: (L ++ H)) (bo := bo) (l := l) (r := r) (y := y') (ls := ls) (fun i hi => (hls0 i hi).mono fun p hp => List.Sublist.subset (by repeat first | exact List.Sublist.refl _ | apply List.Sublist.cons_cons | apply List.Sublist.cons) hp) List.mem_cons_self
          have hb0 : ∀ q, q < 576 → Fl.Fin single (l q) ∧ mg (V single (l q)) ≤ 2 * G + G / 1000 + 1 / 10 ^ 28 := fun q hq => ⟨((hMS q hq).1 hq).1.fin, ((hMS q hq).1 hq).1.le (by have := (sum_le (hGk q hq).1 (hGk q hq).2).1; grind)⟩
          have hb1 : ∀ q, q < 576 → Fl.Fin single (r q) ∧ mg (V single (r q)) ≤ 2 * G + G / 1000 + 1 / 10 ^ 28 := fun q hq => ⟨((hMS q hq).1 hq).2.fin, ((hMS q hq).1 hq).2.le (by have := (sum_le (hGk q hq).1 (hGk q hq).2).2; grind)⟩
          refine Tr.drawE (_ :: _ :: _ :: _ :: _ :: _) (fun H => H) rfl mixed_ ?_
          refine TD.take 0 rfl (by kernel_rfl) (by kernel_rfl) (by kernel_rfl) (fun _ _ _ h => h) (by repeat first | exact List.Sublist.refl _ | apply List.Sublist.cons_cons | apply List.Sublist.cons) (YF.loadAll 4 agg_27 rfl rfl (va_size _ _)) (by decide) ?_
          refine TD.take 2 rfl (by kernel_rfl) (by kernel_rfl) (by kernel_rfl) (fun _ _ _ h => h) (by repeat first | exact List.Sublist.refl _ | apply List.Sublist.cons_cons | apply List.Sublist.cons) (YF.fieldAddr fo_49_1 rfl rfl) (by decide) ?_
          refine TD.take 3 rfl (by kernel_rfl) (by kernel_rfl) (by kernel_rfl) (fun _ _ _ h => h) (by repeat first | exact List.Sublist.refl _ | apply List.Sublist.cons_cons | apply List.Sublist.cons) (YF.loadAgg (v := va 86 (sd (fun q => x' (7 + q)))) 3 agg_36 rfl rfl (by rw [va_size]; decide) fr_side) (by decide) ?_
          refine TD.take 4 rfl (by kernel_rfl) (by kernel_rfl) (by kernel_rfl) (fun _ _ _ h => h) (by repeat first | exact List.Sublist.refl _ | apply List.Sublist.cons_cons | apply List.Sublist.cons) (YF.fieldAddr fo_49_2 rfl rfl) (by decide) ?_
          refine TD.take 5 rfl (by kernel_rfl) (by kernel_rfl) (by kernel_rfl) (fun _ _ _ h => h) (by repeat first | exact List.Sublist.refl _ | apply List.Sublist.cons_cons | apply List.Sublist.cons) (YF.loadAgg (v := va 248 (mn (fun q => x' (93 + q)) (upd (upd y' 0 (.slice (some ⟨bo, 0, none⟩) 576 576)) 1 (.slice (some ⟨bo, 576, none⟩) 576 576)))) 3 agg_47 rfl rfl (by rw [va_size]; decide) fr_main) (by decide) ?_
          refine TD.eff 1 rfl (by kernel_rfl) (EF.call (vs := [_]) call_15 rfl (word_ct h' w0 _ hd')) (by decide) (by rintro _ _ ⟨rfl, rfl⟩; exact (by repeat first | exact List.Sublist.refl _ | apply List.Sublist.cons_cons | apply List.Sublist.cons)) ?_
          rintro _ _ ⟨rfl, rfl⟩
          refine TD.eff 6 rfl (by kernel_rfl) (EF.call (vs := [_, _, _, _]) call_18 rfl (implStereo_ct (4294639616 + h' 0 * 4096 + h' 1 * 1024 + h' 2 * 512 + h' 5 * 256 + h' 3 * 64 + h' 4 * 16 + h' 6) (fun q => x' (7 + q)) (fun q => x' (93 + q)) _ ls2 l r 0 (2 * G + G / 1000 + 1 / 10 ^ 28) (by decide) w0 _ hls2 (fun k _ => hlx2 k) (fun k _ => hly2 k) (by omega) (by omega) (by grind) (by grind) hb0 hb1 hc0 hc1)) (by decide) (by rintro _ _ ⟨bo, l, r, hS, rfl, rfl⟩; exact (by repeat first | exact List.Sublist.refl _ | apply List.Sublist.cons_cons | apply List.Sublist.cons)) ?_
          rintro _ _ ⟨bo2, l2, r2, hS2, rfl, rfl⟩
          refine TD.take 7 rfl (by kernel_rfl) (by kernel_rfl) (by kernel_rfl) (fun _ _ _ h => h) (by repeat first | exact List.Sublist.refl _ | apply List.Sublist.cons_cons | apply List.Sublist.cons) (YF.move rfl) (by decide) ?_
          refine TD.take 8 rfl (by kernel_rfl) (by kernel_rfl) (by kernel_rfl) (fun _ _ _ h => h) (by repeat first | exact List.Sublist.refl _ | apply List.Sublist.cons_cons | apply List.Sublist.cons) (YF.extract rfl rfl) (by decide) ?_
          refine TD.take 9 rfl (by kernel_rfl) (by kernel_rfl) (by kernel_rfl) (fun _ _ _ h => h) (by repeat first | exact List.Sublist.refl _ | apply List.Sublist.cons_cons | apply List.Sublist.cons) (YF.extract rfl rfl) (by decide) ?_
          refine TD.take 10 rfl (by kernel_rfl) (by kernel_rfl) (by kernel_rfl) (fun _ _ _ h => h) (by repeat first | exact List.Sublist.refl _ | apply List.Sublist.cons_cons | apply List.Sublist.cons) (YF.assign rfl) (by decide) ?_
          refine TD.take 11 rfl (by kernel_rfl) (by kernel_rfl) (by kernel_rfl) (fun _ _ _ h => h) (by repeat first | exact List.Sublist.refl _ | apply List.Sublist.cons_cons | apply List.Sublist.cons) (YF.assign rfl) (by decide) ?_
          refine TD.end (by kernel_rfl) ?_
          refine Arr.seq ?_
          refine Tr.seq ?_
          refine Tr.region ?_
          refine TL.val (YF.move rfl) (by decide) ?_
          refine TL.call (vs := [_]) call_12 rfl (by decide) (wide_ct 3 bl0 l0 _ _ w0 _ rfl fun k hk => ⟨(hl k hk).1, Rat.le_trans (hl k hk).2 (by decide +kernel)⟩) ?_
          rintro _ _ ⟨bwA, mA, rfl, hmA, rfl⟩
          refine TL.call (vs := [_]) call_17 rfl (by decide) (greatest_ct 0 bwA mA _ _ w0 _ rfl fun k hk => (hmA k hk).1) ?_
          rintro _ _ ⟨t0, rfl, ht0, htm0, htM0, rfl⟩
          refine TL.val (YF.move rfl) (by decide) ?_
          refine TL.call (vs := [_]) call_12 rfl (by decide) (wide_ct 3 bl1 l1 _ _ w0 _ rfl fun k hk => ⟨(hl2 k hk).1, Rat.le_trans (hl2 k hk).2 (by decide +kernel)⟩) ?_
          rintro _ _ ⟨bwB, mB, rfl, hmB, rfl⟩
          refine TL.call (vs := [_]) call_17 rfl (by decide) (greatest_ct 0 bwB mB _ _ w0 _ rfl fun k hk => (hmB k hk).1) ?_
          rintro _ _ ⟨t1, rfl, ht1, htm1, htM1, rfl⟩
          have htG : G ≤ V double t0 + V double t1 := hGM _ (by have a0 := ht0.2; have a1 := ht1.2; grind) fun k hk => by
            have a0 := ht0.2; have a1 := ht1.2
            have b0 := htm0 k hk; have b1 := htm1 k hk
            rw [(hmA k hk).2] at b0; rw [(hmB k hk).2] at b1
            constructor <;> grind
          have ht09 : V double t0 ≤ 9 := htM0 9 (by decide) fun k hk => by rw [(hmA k hk).2]; exact (hl k hk).2
          have ht19 : V double t1 ≤ 9 := htM1 9 (by decide) fun k hk => by rw [(hmB k hk).2]; exact (hl2 k hk).2
          have a0 := ht0.2
          have a1 := ht1.2
          have hsum : mg (V double t0 + V double t1) = V double t0 + V double t1 := by unfold mg; rw [if_pos (by grind)]
          have hbig : (1000 : Rat) ≤ big := by decide +kernel
          obtain ⟨ts, hts, hts1⟩ := add_near two_double ht0.1 ht1.1 (by rw [hsum]; grind)
          have hUd : U double = 1 / 9007199254740992 := by decide +kernel
          have htn : tiny ≤ 1 / 10 ^ 30 := by decide +kernel
          have htn0 := tiny_nonneg
          have hn := hts1.near
          rw [hUd, hsum, mg_le] at hn
          have hV2 : V double 4611686018427387904 = 2 := by decide +kernel
          obtain ⟨tp, ht2, ht3⟩ := mul_near two_double (a := 4611686018427387904) (by unfold Fl.Fin; decide +kernel) hts1.fin (by rw [hV2, mg_le]; constructor <;> grind)
          have hn' := ht3.near
          have h2t : mg (2 * V double ts) ≤ 2 * V double ts + 4 / 10 ^ 30 := by rw [mg_le]; constructor <;> grind
          rw [hV2, hUd, mg_le] at hn'
          generalize mg (2 * V double ts) = gg at hn' h2t
          have ht4 : -(1 / 10 ^ 20) ≤ V double tp := by grind
          have ht5 : V double tp ≤ 100000 := by grind
          have hnear0 : G ≤ V double tp + 1 / 10 ^ 10 := by grind
          have hMS2 := hS2.1 hms
          refine TL.val (YF.farith rfl rfl hts) (by decide) ?_
          refine TL.val (YF.farith rfl rfl ht2) (by decide) ?_
          refine TL.val (YF.assign rfl) (by decide) ?_
          refine TL.end ?_
          refine Arr.seq ?_
          refine Tr.seq ?_
          refine Tr.region ?_
          refine TL.val (YF.move rfl) (by decide) ?_
          refine TL.val (YF.move rfl) (by decide) ?_
          refine TL.call (vs := [_]) call_12 rfl (by decide) (wide_ct 5 bl0 l0 _ _ w0 _ rfl fun k hk => ⟨(hl k hk).1, Rat.le_trans (hl k hk).2 (by decide +kernel)⟩) ?_
          rintro _ _ ⟨bwC, mC, rfl, hmC, rfl⟩
          refine TL.val (YF.move rfl) (by decide) ?_
          have hn0 : ∀ k, k < 576 → Fl.Fin single (l2 k) ∧ Fl.Fin double (mC k) ∧ mg (V single (l2 k)) ≤ 100000 ∧ mg (V single (l2 k) - V double (mC k)) ≤ V double tp / 20000 + 1 / 10 ^ 10 := fun k hk => by
            obtain ⟨q1, q2⟩ := (hMS k hk).1 hk
            obtain ⟨q3, q4⟩ := (hMS2 k hk).1 hk
            rw [(hmC k hk).2]
            obtain ⟨u1, u2⟩ := twice_near hG0 (by grind) (hGk k hk).1 (hGk k hk).2 q1.near q2.near q3 (by grind) ht4 hnear0
            exact ⟨q3.fin, (hmC k hk).1, u1, u2⟩
          refine TL.call (vs := [_, _, _]) call_13 rfl (by decide) (near_ct 3 0 bo2 bwC tp 0 576 576 l2 mC _ _ _ _ _ _ w0 _ rfl rfl (fun k hk => two_get0 hk) (fun k hk => va_get hk rfl) ht3.fin ht4 ht5 hn0) ?_
          rintro _ _ ⟨rfl, rfl⟩
          refine TL.val (YF.move rfl) (by decide) ?_
          first
            | refine TL.gno rfl (by decide) ?_
            | refine TL.gval rfl (YF.move rfl) (by decide) ?_
          first
            | refine TL.gno rfl (by decide) ?_
            | refine TL.gval rfl (YF.move rfl) (by decide) ?_
          first
            | refine TL.gno rfl (by decide) ?_
            | (refine TL.geff rfl (EF.call (vs := [_]) call_12 rfl (wide_ct 5 bl1 l1 _ _ w0 _ rfl fun k hk => ⟨(hl2 k hk).1, Rat.le_trans (hl2 k hk).2 (by decide +kernel)⟩)) (by decide) ?_
               rintro _ _ ⟨bwD, mD, rfl, hmD, rfl⟩)
          first
            | refine TL.gno rfl (by decide) ?_
            | refine TL.gval rfl (YF.move rfl) (by decide) ?_
          have hn1 : ∀ k, k < 576 → Fl.Fin single (r2 k) ∧ Fl.Fin double (mD k) ∧ mg (V single (r2 k)) ≤ 100000 ∧ mg (V single (r2 k) - V double (mD k)) ≤ V double tp / 20000 + 1 / 10 ^ 10 := fun k hk => by
            obtain ⟨q1, q2⟩ := (hMS k hk).1 hk
            obtain ⟨q3, q4⟩ := (hMS2 k hk).1 hk
            rw [(hmD k hk).2]
            obtain ⟨u1, u2⟩ := twice_near' hG0 (by grind) (hGk k hk).1 (hGk k hk).2 q1.near q2.near q4 (by grind) ht4 hnear0
            exact ⟨q4.fin, (hmD k hk).1, u1, u2⟩
          first
            | refine TL.gno rfl (by decide) ?_
            | (refine TL.geff rfl (EF.call (vs := [_, _, _]) call_13 rfl (near_ct 4 0 bo2 bwD tp 576 576 576 r2 mD _ _ _ _ _ _ w0 _ rfl rfl (fun k hk => two_get1 hk) (fun k hk => va_get hk rfl) ht3.fin ht4 ht5 hn1)) (by decide) ?_
               rintro _ _ ⟨rfl, rfl⟩)
          first
            | refine TL.val (YF.pickT rfl rfl) (by decide) ?_
            | refine TL.val (YF.pickF rfl rfl) (by decide) ?_
            | refine TL.val (YF.pick rfl rfl rfl rfl) (by decide) ?_
          refine TL.val (YF.assign rfl) (by decide) ?_
          refine TL.end ?_
          refine Arr.seq ?_
          refine Tr.retE ?_
          exact Ends.tmp rfl rfl rfl
      ·
        refine TL.val (YF.move (v := .bool true) (by show some (Value.bool (!(decide (0 ≤ 100) && decide (vl ≤ 1000)))) = _; rw [decide_eq_false hv1]; rfl)) (by decide) ?_
        first
          | refine TL.gno rfl (by decide) ?_
          | refine TL.gval rfl (YF.move rfl) (by decide) ?_
        first
          | refine TL.gno rfl (by decide) ?_
          | (refine TL.geff rfl (EF.call (vs := [_, _]) call_7 rfl (few_ct none bd 0 0 wl wc w0 _)) (by decide) ?_
             rintro _ _ ⟨rfl, hH⟩
             replace hH := hH.symm
             subst hH)
        first
          | refine TL.gno rfl (by decide) ?_
          | refine TL.gval rfl (YF.not rfl rfl) (by decide) ?_
        first
          | refine TL.val (YF.pickT rfl rfl) (by decide) ?_
          | refine TL.val (YF.pickF rfl rfl) (by decide) ?_
          | refine TL.val (YF.pick rfl rfl rfl rfl) (by decide) ?_
        refine TL.end ?_
        refine Arr.seq ?_
        refine Tr.condT rfl ?_
        refine Tr.seq ?_
        refine Tr.region ?_
        refine TL.val (YF.assign rfl) (by decide) ?_
        refine TL.end ?_
        refine Arr.seq ?_
        refine Tr.retE ?_
        refine Arr.seqR ?_
        exact Ends.tmp rfl rfl rfl

end Go.Proofs.YtbcjhkncifckiaaDoor
