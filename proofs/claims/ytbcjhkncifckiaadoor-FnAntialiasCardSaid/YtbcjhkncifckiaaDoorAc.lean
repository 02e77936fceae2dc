/- The walk of the law of the step between bands. -/
import Derived.Test.YtbcjhkncifckiaaDoorAb
import Derived.Test.YtbcjhkncifckiaaDoorWd
import Derived.Test.YtbcjhkncifckiaaDoorWb
namespace Go.Proofs.YtbcjhkncifckiaaDoor
open Go Go.RowKit Go.Proofs En Fl Ieee
set_option maxRecDepth 100000
set_option maxHeartbeats 0

/-- The numbers of a frame's header are a header's. -/
theorem head_of {h x : Nat → Int} (hd : HdOK h) (hx : ∀ q, q < 7 → x q = h q) : HdOK x := by
  obtain ⟨h1, h2, h3, h4, h5, h6, h7⟩ := hd
  constructor <;> simp only [hx _ (show 0 < 7 by decide), hx _ (show 1 < 7 by decide), hx _ (show 2 < 7 by decide), hx _ (show 3 < 7 by decide), hx _ (show 4 < 7 by decide), hx _ (show 5 < 7 by decide), hx _ (show 6 < 7 by decide)] <;> assumption

theorem fnAntialias_ct (nn gg cc sk : Int) (nd ad : Option Addr) (nl nc vl vc : Nat) (w0 : World) (H : Hp) (hnn : 0 ≤ nn ∧ nn ≤ 4294967295) (hgg : 0 ≤ gg ∧ gg ≤ 255) (hcc : 0 ≤ cc ∧ cc ≤ 255) (hsk : 0 ≤ sk ∧ sk ≤ 255) (hnum : U32s w0 nd nl) (hv : I8s w0 ad vl) (hcs : ∀ i, i < 8 → w0.cell? ⟨1, i, none⟩ = some (.float .f32 (csb i))) (hca : ∀ i, i < 8 → w0.cell? ⟨2, i, none⟩ = some (.float .f32 (cab i))) : Ct Tryd.prog 3 #[.int .u32 nn, .slice nd nl nc, .slice ad vl vc, .int .u8 gg, .int .u8 cc, .int .u8 sk] w0 (H) (fun v H' => v = .bool true) := by
  refine Ct.of_body (n := 86) (E := [(0, _), (1, _), (2, _), (3, _), (4, _), (5, _)]) Tryd.func3 rfl rfl rfl rfl ?_
  refine Tr.seq ?_
  refine Tr.region ?_
  refine TL.val (YF.assign rfl) (by decide) ?_
  refine TL.end ?_
  refine Arr.seq ?_
  refine Tr.seq ?_
  refine Tr.seq ?_
  refine Tr.region ?_
  refine TL.val (YF.move rfl) (by decide) ?_
  refine TL.val (YF.lenSl sl_23 rfl) (by decide) ?_
  by_cases hq : (2147483647 : Int) < nl
  ·
    refine TL.val (YF.gtr (b := true) rfl rfl (decide_eq_true hq)) (by decide) ?_
    refine TL.val (YF.move rfl) (by decide) ?_
    first
      | refine TL.gno rfl (by decide) ?_
      | refine TL.gval rfl (YF.move rfl) (by decide) ?_
    first
      | refine TL.gno rfl (by decide) ?_
      | refine TL.gval rfl (YF.lenSl sl_24 rfl) (by decide) ?_
    first
      | refine TL.gno rfl (by decide) ?_
      | refine TL.gval rfl (YF.gtr rfl rfl rfl) (by decide) ?_
    first
      | refine TL.val (YF.pickT rfl rfl) (by decide) ?_
      | refine TL.val (YF.pickF rfl rfl) (by decide) ?_
      | refine TL.val (YF.pick rfl rfl rfl rfl) (by decide) ?_
    refine TL.end ?_
    refine Arr.seq ?_
    refine Tr.condT rfl ?_
    refine Tr.seq ?_
    refine Tr.region ?_
    refine TL.val (YF.assign rfl) (by decide) ?_
    refine TL.end ?_
    refine Arr.seq ?_
    refine Tr.retE ?_
    refine Arr.seqR ?_
    exact Ends.tmp rfl rfl rfl
  ·
    refine TL.val (YF.gtr (b := false) rfl rfl (decide_eq_false hq)) (by decide) ?_
    refine TL.val (YF.move rfl) (by decide) ?_
    first
      | refine TL.gno rfl (by decide) ?_
      | refine TL.gval rfl (YF.move rfl) (by decide) ?_
    first
      | refine TL.gno rfl (by decide) ?_
      | refine TL.gval rfl (YF.lenSl sl_24 rfl) (by decide) ?_
    first
      | refine TL.gno rfl (by decide) ?_
      | refine TL.gval rfl (YF.gtr rfl rfl rfl) (by decide) ?_
    first
      | refine TL.val (YF.pickT rfl rfl) (by decide) ?_
      | refine TL.val (YF.pickF rfl rfl) (by decide) ?_
      | refine TL.val (YF.pick rfl rfl rfl rfl) (by decide) ?_
    refine TL.end ?_
    refine Arr.seq ?_
    refine Tr.cond rfl (fun h24 => ?_) (fun h24 => ?_)
    ·
      replace h24 := of_decide_eq_true h24
      refine Tr.seq ?_
      refine Tr.region ?_
      refine TL.val (YF.assign rfl) (by decide) ?_
      refine TL.end ?_
      refine Arr.seq ?_
      refine Tr.retE ?_
      refine Arr.seqR ?_
      exact Ends.tmp rfl rfl rfl
    ·
      replace h24 := of_decide_eq_false h24
      refine Tr.skipE ?_
      refine Arr.seq ?_
      refine Tr.seq ?_
      refine Tr.seq ?_
      refine Tr.region ?_
      refine TL.val (YF.move rfl) (by decide) ?_
      refine TL.val (YF.move rfl) (by decide) ?_
      refine TL.call (vs := [_, _]) call_7 rfl (by decide) (few_ct nd ad nl nc vl vc w0 _) ?_
      rintro _ _ ⟨rfl, hH⟩
      replace hH := hH.symm
      subst hH
      refine TL.val (YF.not rfl rfl) (by decide) ?_
      refine TL.end ?_
      refine Arr.seq ?_
      refine Tr.cond rfl (fun h28 => ?_) (fun h28 => ?_)
      ·
        refine Tr.seq ?_
        refine Tr.region ?_
        refine TL.val (YF.assign rfl) (by decide) ?_
        refine TL.end ?_
        refine Arr.seq ?_
        refine Tr.retE ?_
        refine Arr.seqR ?_
        exact Ends.tmp rfl rfl rfl
      ·
        have hfew : nl ≤ 100 ∧ vl ≤ 1000 := by
          simpa using h28
        refine Tr.skipE ?_
        refine Arr.seq ?_
        refine Tr.seq ?_
        refine Tr.region ?_
        refine TL.val (YF.move rfl) (by decide) ?_
        refine TL.call (vs := [_]) call_9 rfl (by decide) (headOf_ct nn w0 _ hnn) ?_
        rintro _ _ ⟨h, rfl, hd, hH⟩
        replace hH := hH.symm
        subst hH
        refine TL.val (YF.move rfl) (by decide) ?_
        refine TL.val (YF.move rfl) (by decide) ?_
        refine TL.call (vs := [_, _, _]) call_8 rfl (by decide) (frameOf_ct h nd ad nl nc vl vc w0 _ hd hnum (by omega) hv (by omega)) ?_
        rintro _ _ ⟨x, y, L, rfl, hx, hy, rfl⟩
        refine TL.allocA zero_49 (by decide) (fun b13 => ?_)
        
        refine TL.storeAll 0 (_ :: _) rfl rfl rfl sz_49 (va_size _ _) Zsz_49 (va_one fun q hq => by unfold fr; split; rfl; exact (hy _ (by omega)).one) rfl ?_
        refine TL.end ?_
        refine Arr.seq ?_
        refine Tr.seq ?_
        have hd := head_of hd hx.head
        obtain ⟨g, hg, hg2⟩ : ∃ g : Nat, gg % 2 = (g : Int) ∧ g < 2 := ⟨(gg % 2).toNat, by omega, by omega⟩
        obtain ⟨c, hc, hc2⟩ : ∃ c : Nat, cc % (if x 3 = 3 then 1 else 2) = (c : Int) ∧ c < 2 := ⟨(cc % (if x 3 = 3 then 1 else 2)).toNat, by split <;> omega, by split <;> omega⟩
        refine Tr.drawE (_ :: _) (fun H => H) rfl mixed_ ?_
        refine TD.take 0 rfl (by kernel_rfl) (by kernel_rfl) (by kernel_rfl) (fun _ _ _ h => h) (by repeat first | exact List.Sublist.refl _ | apply List.Sublist.cons_cons | apply List.Sublist.cons) (YF.move rfl) (by decide) ?_
        refine TD.take 1 rfl (by kernel_rfl) (by kernel_rfl) (by kernel_rfl) (fun _ _ _ h => h) (by repeat first | exact List.Sublist.refl _ | apply List.Sublist.cons_cons | apply List.Sublist.cons) (YF.rem rfl rfl (by omega) (IntWalk.rem_in _ _ (by omega))) (by decide) ?_
        refine TD.take 2 rfl (by kernel_rfl) (by kernel_rfl) (by kernel_rfl) (fun _ _ _ h => h) (by repeat first | exact List.Sublist.refl _ | apply List.Sublist.cons_cons | apply List.Sublist.cons) (YF.conv (r := (g : Int)) und_5 und_3 rfl (by rw [hg]; exact IntWalk.i64_in _ (by omega))) (by decide) ?_
        refine TD.take 3 rfl (by kernel_rfl) (by kernel_rfl) (by kernel_rfl) (fun _ _ _ h => h) (by repeat first | exact List.Sublist.refl _ | apply List.Sublist.cons_cons | apply List.Sublist.cons) (YF.move rfl) (by decide) ?_
        refine TD.take 4 rfl (by kernel_rfl) (by kernel_rfl) (by kernel_rfl) (fun _ _ _ h => h) (by repeat first | exact List.Sublist.refl _ | apply List.Sublist.cons_cons | apply List.Sublist.cons) (YF.conv und_5 und_3 rfl (IntWalk.i64_in _ (by omega))) (by decide) ?_
        refine TD.take 5 rfl (by kernel_rfl) (by kernel_rfl) (by kernel_rfl) (fun _ _ _ h => h) (by repeat first | exact List.Sublist.refl _ | apply List.Sublist.cons_cons | apply List.Sublist.cons) (YF.fieldAddr fo_49_0 rfl rfl) (by decide) ?_
        refine TD.take 6 rfl (by kernel_rfl) (by kernel_rfl) (by kernel_rfl) (fun _ _ _ h => h) (by repeat first | exact List.Sublist.refl _ | apply List.Sublist.cons_cons | apply List.Sublist.cons) (YF.loadAgg (v := va 7 (sd x)) 0 agg_27 rfl rfl (by rw [va_size]; decide) fr_head) (by decide) ?_
        refine TD.eff 7 rfl (by kernel_rfl) (EF.call (vs := [_]) call_10 rfl (channels_ct x w0 _)) (by decide) (by rintro _ _ ⟨rfl, rfl⟩; exact (by repeat first | exact List.Sublist.refl _ | apply List.Sublist.cons_cons | apply List.Sublist.cons)) ?_
        rintro _ _ ⟨rfl, rfl⟩
        refine TD.take 8 rfl (by kernel_rfl) (by kernel_rfl) (by kernel_rfl) (fun _ _ _ h => h) (by repeat first | exact List.Sublist.refl _ | apply List.Sublist.cons_cons | apply List.Sublist.cons) (YF.rem (r := (c : Int)) rfl rfl (by split <;> omega) (by rw [IntWalk.rem_in _ _ (by omega)]; exact hc)) (by decide) ?_
        refine TD.take 9 rfl (by kernel_rfl) (by kernel_rfl) (by kernel_rfl) (fun _ _ _ h => h) (by repeat first | exact List.Sublist.refl _ | apply List.Sublist.cons_cons | apply List.Sublist.cons) (YF.assign rfl) (by decide) ?_
        refine TD.take 10 rfl (by kernel_rfl) (by kernel_rfl) (by kernel_rfl) (fun _ _ _ h => h) (by repeat first | exact List.Sublist.refl _ | apply List.Sublist.cons_cons | apply List.Sublist.cons) (YF.assign rfl) (by decide) ?_
        refine TD.end (by kernel_rfl) ?_
        refine Arr.seq ?_
        refine Tr.seq ?_
        refine Tr.drawE (_) (fun H => (H.eraseIdx 0)) rfl mixed_ ?_
        refine TD.take 0 rfl (by kernel_rfl) (by kernel_rfl) (by kernel_rfl) (fun _ _ _ h => h) (by repeat first | exact List.Sublist.refl _ | apply List.Sublist.cons_cons | apply List.Sublist.cons) (YF.move rfl) (by decide) ?_
        refine TD.take 1 rfl (by kernel_rfl) (by kernel_rfl) (by kernel_rfl) (fun _ _ _ h => h) (by repeat first | exact List.Sublist.refl _ | apply List.Sublist.cons_cons | apply List.Sublist.cons) (YF.move rfl) (by decide) ?_
        refine TD.take 2 rfl (by kernel_rfl) (by kernel_rfl) (by kernel_rfl) (fun _ _ _ h => h) (by repeat first | exact List.Sublist.refl _ | apply List.Sublist.cons_cons | apply List.Sublist.cons) (YF.move rfl) (by decide) ?_
        refine TD.take 3 rfl (by kernel_rfl) (by kernel_rfl) (by kernel_rfl) (fun _ _ _ h => h) (by repeat first | exact List.Sublist.refl _ | apply List.Sublist.cons_cons | apply List.Sublist.cons) (YF.move rfl) (by decide) ?_
        refine TD.take 5 rfl (by kernel_rfl) (by kernel_rfl) (by kernel_rfl) (fun _ _ _ h => h) (by repeat first | exact List.Sublist.refl _ | apply List.Sublist.cons_cons | apply List.Sublist.cons) (YF.fieldAddr fo_49_2 rfl rfl) (by decide) ?_
        refine TD.take 6 rfl (by kernel_rfl) (by kernel_rfl) (by kernel_rfl) (fun _ _ _ h => h) (by repeat first | exact List.Sublist.refl _ | apply List.Sublist.cons_cons | apply List.Sublist.cons) (YF.fieldAddr fo_47_2 rfl rfl) (by decide) ?_
        refine TD.take 7 rfl (by kernel_rfl) (by kernel_rfl) (by kernel_rfl) (fun _ _ _ h => h) (by repeat first | exact List.Sublist.refl _ | apply List.Sublist.cons_cons | apply List.Sublist.cons) (YF.indexArr arr_45 rfl rfl (by first | decide | omega) rfl) (by decide) ?_
        refine TD.eff 4 rfl (by kernel_rfl) (EF.call (vs := [_, _]) call_11 rfl (spread_ct ad vl vc sk w0 _ hsk hv (by omega))) (by decide) (by rintro _ _ ⟨bl, l, rfl, hl, rfl⟩; exact (by repeat first | exact List.Sublist.refl _ | apply List.Sublist.cons_cons | apply List.Sublist.cons)) ?_
        rintro _ _ ⟨bl, l, rfl, hl, rfl⟩
        refine TD.take 8 rfl (by kernel_rfl) (by kernel_rfl) (by kernel_rfl) (fun _ _ _ h => h) (by repeat first | exact List.Sublist.refl _ | apply List.Sublist.cons_cons | apply List.Sublist.cons) (YF.indexArr arr_44 rfl rfl (by first | decide | omega) (show _ = 337 + (2 * g + c) by omega)) (by decide) ?_
        refine TD.eff0 9 rfl (by kernel_rfl) (EF.store 1 rfl rfl rfl sz_43 rfl (by rw [va_size]; omega)) (by rintro _ _ ⟨rfl, rfl⟩; exact (by repeat first | exact List.Sublist.refl _ | apply List.Sublist.cons_cons | apply List.Sublist.cons)) ?_
        rintro _ _ ⟨rfl, rfl⟩
        refine TD.heap (_ :: (b13, .cells (va 341 (fr x (upd y (337 + (2 * g + c) - 337) (.slice (some ⟨bl, 0, none⟩) 576 576)))) 49 (0, 0)) :: _) (by rw [← fr_setL (by omega)]; rfl) ?_
        refine TD.end (by kernel_rfl) ?_
        refine Arr.seq ?_
        refine Tr.seq ?_
        refine Tr.region ?_
        refine TL.val (YF.move rfl) (by decide) ?_
        refine TL.val (YF.move rfl) (by decide) ?_
        refine TL.val (YF.fieldAddr fo_49_1 rfl rfl) (by decide) ?_
        refine TL.val (YF.fieldAddr fo_36_17 rfl rfl) (by decide) ?_
        refine TL.val (YF.indexArr arr_31 rfl rfl (by first | decide | omega) rfl) (by decide) ?_
        refine TL.val (YF.indexArr arr_30 rfl rfl (by first | decide | omega) (show _ = 89 + (2 * g + c) by omega)) (by decide) ?_
        refine TL.storeV 1 (_ :: _ :: _) rfl rfl rfl sz_3 rfl (by rw [va_size]; omega) (fr_set (by omega)) rfl ?_
        refine TL.end ?_
        refine Arr.seq ?_
        refine Tr.seq ?_
        refine Tr.region ?_
        have hcn : upd x (89 + (2 * g + c)) 576 (7 + (82 + 2 * g + c)) = 576 := by rw [show 7 + (82 + 2 * g + c) = 89 + (2 * g + c) by omega, upd_at]
        have hmx : upd x (89 + (2 * g + c)) 576 (7 + (34 + 2 * g + c)) = 0 ∨ upd x (89 + (2 * g + c)) 576 (7 + (34 + 2 * g + c)) = 1 := by
          rw [upd_ne _ _ (by omega)]
          have := FI.mixed hx (7 + (34 + 2 * g + c)) (by omega)
          omega
        have hd : HdOK (upd x (89 + (2 * g + c)) 576) := head_of hd fun q hq => upd_ne _ _ (by omega)
        rw [show 337 + (2 * g + c) - 337 = 2 * g + c by omega]
        obtain ⟨y', hy'⟩ : ∃ y', y' = upd y (2 * g + c) (.slice (some ⟨bl, 0, none⟩) 576 576) := ⟨_, rfl⟩
        obtain ⟨x', hx'⟩ : ∃ x', x' = upd x (89 + (2 * g + c)) 576 := ⟨_, rfl⟩
        rw [← hy', ← hx']
        rw [← hx'] at hcn hmx hd
        refine TL.val (YF.move rfl) (by decide) ?_
        refine TL.val (YF.move rfl) (by decide) ?_
        refine TL.val (YF.fieldAddr fo_49_2 rfl rfl) (by decide) ?_
        refine TL.val (YF.fieldAddr fo_47_2 rfl rfl) (by decide) ?_
        refine TL.val (YF.indexArr arr_45 rfl rfl (by first | decide | omega) rfl) (by decide) ?_
        refine TL.val (YF.indexArr arr_44 rfl rfl (by first | decide | omega) (show _ = 337 + (2 * g + c) by omega)) (by decide) ?_
        refine TL.val (YF.load (v := .slice (some ⟨bl, 0, none⟩) 576 576) 1 sc_43 rfl rfl (va_get (by omega) (by unfold fr; rw [if_neg (by omega), hy', show 337 + (2 * g + c) - 337 = 2 * g + c by omega]; exact upd_at _ _ _))) (by decide) ?_
        refine TL.call (vs := [_]) call_12 rfl (by decide) (wide_ct 0 bl l _ _ w0 _ rfl fun k hk => ⟨(hl k hk).1, Rat.le_trans (hl k hk).2 (by decide +kernel)⟩) ?_
        rintro _ _ ⟨bw, m, rfl, hm, rfl⟩
        refine TL.val (YF.assign rfl) (by decide) ?_
        refine TL.end ?_
        refine Arr.seq ?_
        refine Tr.seq ?_
        obtain ⟨r, hr, hr3⟩ : ∃ r : Nat, x' 1 = (r : Int) ∧ r < 3 := ⟨(x' 1).toNat, by have := hd.r; omega, by have := hd.r; omega⟩
        obtain ⟨d1, d2, d3, d4, d5, d6, d7⟩ := id hd
        obtain ⟨ls, hls, hlx⟩ := LO.all (Hc := (bw, Obj.cells (va 576 (fl .f64 m)) 60 (0, 0)) :: (bl, .cells (va 576 (fl .f32 l)) 82 (0, 0)) :: (b13, .cells (va 341 (fr x' y')) 49 (0, 0)) :: (L ++ H)) (2 * g + c) bl l hy (fun p hp => by simp [hp]) (List.mem_cons_of_mem _ List.mem_cons_self)
        rw [← hy'] at hls
        obtain ⟨G, hG0, hGk, hGM⟩ := greatest_some 576 fun q => V single (l q)
        have hG9 : G ≤ 9 := hGM 9 (by decide) fun k hk => (hl k hk).2
        have hG10 : G ≤ 10 := by grind
        have hlG : ∀ q, q < 576 → Fl.Fin single (l q) ∧ mg (V single (l q)) ≤ G := fun q hq => ⟨(hl q hq).1, hGk q hq⟩
        refine Tr.drawE (_ :: _ :: _ :: _) (fun H => H) rfl mixed_ ?_
        refine TD.take 0 rfl (by kernel_rfl) (by kernel_rfl) (by kernel_rfl) (fun _ _ _ h => h) (by first | ((repeat first | exact List.Sublist.refl _ | apply List.Sublist.cons_cons | apply List.Sublist.cons); done) | (refine List.Sublist.trans ?_ (List.sublist_append_right _ _); repeat first | exact List.Sublist.refl _ | apply List.Sublist.cons_cons | apply List.Sublist.cons)) (YF.fieldAddr fo_49_0 rfl rfl) (by decide) ?_
        refine TD.take 1 rfl (by kernel_rfl) (by kernel_rfl) (by kernel_rfl) (fun _ _ _ h => h) (by first | ((repeat first | exact List.Sublist.refl _ | apply List.Sublist.cons_cons | apply List.Sublist.cons); done) | (refine List.Sublist.trans ?_ (List.sublist_append_right _ _); repeat first | exact List.Sublist.refl _ | apply List.Sublist.cons_cons | apply List.Sublist.cons)) (YF.loadAgg (v := va 7 (sd x')) 2 agg_27 rfl rfl (by rw [va_size]; decide) fr_head) (by decide) ?_
        refine TD.take 3 rfl (by kernel_rfl) (by kernel_rfl) (by kernel_rfl) (fun _ _ _ h => h) (by first | ((repeat first | exact List.Sublist.refl _ | apply List.Sublist.cons_cons | apply List.Sublist.cons); done) | (refine List.Sublist.trans ?_ (List.sublist_append_right _ _); repeat first | exact List.Sublist.refl _ | apply List.Sublist.cons_cons | apply List.Sublist.cons)) (YF.fieldAddr fo_49_1 rfl rfl) (by decide) ?_
        refine TD.take 4 rfl (by kernel_rfl) (by kernel_rfl) (by kernel_rfl) (fun _ _ _ h => h) (by first | ((repeat first | exact List.Sublist.refl _ | apply List.Sublist.cons_cons | apply List.Sublist.cons); done) | (refine List.Sublist.trans ?_ (List.sublist_append_right _ _); repeat first | exact List.Sublist.refl _ | apply List.Sublist.cons_cons | apply List.Sublist.cons)) (YF.loadAgg (v := va 86 (sd (fun q => x' (7 + q)))) 2 agg_36 rfl rfl (by rw [va_size]; decide) fr_side) (by decide) ?_
        refine TD.take 5 rfl (by kernel_rfl) (by kernel_rfl) (by kernel_rfl) (fun _ _ _ h => h) (by first | ((repeat first | exact List.Sublist.refl _ | apply List.Sublist.cons_cons | apply List.Sublist.cons); done) | (refine List.Sublist.trans ?_ (List.sublist_append_right _ _); repeat first | exact List.Sublist.refl _ | apply List.Sublist.cons_cons | apply List.Sublist.cons)) (YF.fieldAddr fo_49_2 rfl rfl) (by decide) ?_
        refine TD.take 6 rfl (by kernel_rfl) (by kernel_rfl) (by kernel_rfl) (fun _ _ _ h => h) (by first | ((repeat first | exact List.Sublist.refl _ | apply List.Sublist.cons_cons | apply List.Sublist.cons); done) | (refine List.Sublist.trans ?_ (List.sublist_append_right _ _); repeat first | exact List.Sublist.refl _ | apply List.Sublist.cons_cons | apply List.Sublist.cons)) (YF.loadAgg (v := va 248 (mn (fun q => x' (93 + q)) y')) 2 agg_47 rfl rfl (by rw [va_size]; decide) fr_main) (by decide) ?_
        refine TD.take 7 rfl (by kernel_rfl) (by kernel_rfl) (by kernel_rfl) (fun _ _ _ h => h) (by first | ((repeat first | exact List.Sublist.refl _ | apply List.Sublist.cons_cons | apply List.Sublist.cons); done) | (refine List.Sublist.trans ?_ (List.sublist_append_right _ _); repeat first | exact List.Sublist.refl _ | apply List.Sublist.cons_cons | apply List.Sublist.cons)) (YF.move rfl) (by decide) ?_
        refine TD.take 8 rfl (by kernel_rfl) (by kernel_rfl) (by kernel_rfl) (fun _ _ _ h => h) (by first | ((repeat first | exact List.Sublist.refl _ | apply List.Sublist.cons_cons | apply List.Sublist.cons); done) | (refine List.Sublist.trans ?_ (List.sublist_append_right _ _); repeat first | exact List.Sublist.refl _ | apply List.Sublist.cons_cons | apply List.Sublist.cons)) (YF.move rfl) (by decide) ?_
        refine TD.take 10 rfl (by kernel_rfl) (by kernel_rfl) (by kernel_rfl) (fun _ _ _ h => h) (by first | ((repeat first | exact List.Sublist.refl _ | apply List.Sublist.cons_cons | apply List.Sublist.cons); done) | (refine List.Sublist.trans ?_ (List.sublist_append_right _ _); repeat first | exact List.Sublist.refl _ | apply List.Sublist.cons_cons | apply List.Sublist.cons)) (YF.fieldAddr fo_49_1 rfl rfl) (by decide) ?_
        refine TD.take 11 rfl (by kernel_rfl) (by kernel_rfl) (by kernel_rfl) (fun _ _ _ h => h) (by first | ((repeat first | exact List.Sublist.refl _ | apply List.Sublist.cons_cons | apply List.Sublist.cons); done) | (refine List.Sublist.trans ?_ (List.sublist_append_right _ _); repeat first | exact List.Sublist.refl _ | apply List.Sublist.cons_cons | apply List.Sublist.cons)) (YF.loadAgg (v := va 86 (sd (fun q => x' (7 + q)))) 2 agg_36 rfl rfl (by rw [va_size]; decide) fr_side) (by decide) ?_
        refine TD.take 12 rfl (by kernel_rfl) (by kernel_rfl) (by kernel_rfl) (fun _ _ _ h => h) (by first | ((repeat first | exact List.Sublist.refl _ | apply List.Sublist.cons_cons | apply List.Sublist.cons); done) | (refine List.Sublist.trans ?_ (List.sublist_append_right _ _); repeat first | exact List.Sublist.refl _ | apply List.Sublist.cons_cons | apply List.Sublist.cons)) (YF.move rfl) (by decide) ?_
        refine TD.take 13 rfl (by kernel_rfl) (by kernel_rfl) (by kernel_rfl) (fun _ _ _ h => h) (by first | ((repeat first | exact List.Sublist.refl _ | apply List.Sublist.cons_cons | apply List.Sublist.cons); done) | (refine List.Sublist.trans ?_ (List.sublist_append_right _ _); repeat first | exact List.Sublist.refl _ | apply List.Sublist.cons_cons | apply List.Sublist.cons)) (YF.move rfl) (by decide) ?_
        refine TD.take 14 rfl (by kernel_rfl) (by kernel_rfl) (by kernel_rfl) (fun _ _ _ h => h) (by first | ((repeat first | exact List.Sublist.refl _ | apply List.Sublist.cons_cons | apply List.Sublist.cons); done) | (refine List.Sublist.trans ?_ (List.sublist_append_right _ _); repeat first | exact List.Sublist.refl _ | apply List.Sublist.cons_cons | apply List.Sublist.cons)) (YF.move rfl) (by decide) ?_
        refine TD.take 16 rfl (by kernel_rfl) (by kernel_rfl) (by kernel_rfl) (fun _ _ _ h => h) (by first | ((repeat first | exact List.Sublist.refl _ | apply List.Sublist.cons_cons | apply List.Sublist.cons); done) | (refine List.Sublist.trans ?_ (List.sublist_append_right _ _); repeat first | exact List.Sublist.refl _ | apply List.Sublist.cons_cons | apply List.Sublist.cons)) (YF.move rfl) (by decide) ?_
        refine TD.eff 2 rfl (by kernel_rfl) (EF.call (vs := [_]) call_15 rfl (word_ct x' w0 _ hd)) (by decide) (by rintro _ _ ⟨rfl, rfl⟩; exact (by repeat first | exact List.Sublist.refl _ | apply List.Sublist.cons_cons | apply List.Sublist.cons)) ?_
        rintro _ _ ⟨rfl, rfl⟩
        refine TD.eff 9 rfl (by kernel_rfl) (EF.call (vs := [_, _, _, _, _]) call_14 rfl (implAntialias_ct (4294639616 + x' 0 * 4096 + x' 1 * 1024 + x' 2 * 512 + x' 5 * 256 + x' 3 * 64 + x' 4 * 16 + x' 6) (fun q => x' (7 + q)) (fun q => x' (93 + q)) y' ls l g c hg2 hc2 G w0 _ hls (fun k _ => hlx k) hG0 hG10 hlG hmx hcs hca)) (by decide) (by rintro _ _ ⟨bo, y1, hy1, rfl, rfl⟩; exact (by repeat first | exact List.Sublist.refl _ | apply List.Sublist.cons_cons | apply List.Sublist.cons)) ?_
        rintro _ _ ⟨bo, y1, hy1, rfl, rfl⟩
        refine TD.eff 15 rfl (by kernel_rfl) (EF.call (vs := [_, _, _, _]) call_16 rfl (smooth_ct (fun q => x' (7 + q)) m (fun q => V single (l q)) G g c 1 bw hg2 hc2 _ _ w0 _ rfl hmx hG0 hG10 (fun q hq => ⟨(hm q hq).1, by rw [(hm q hq).2]; exact (hlG q hq).2⟩) (fun q hq => (hm q hq).2))) (by decide) (by rintro _ _ ⟨_, _, _, _, L', rfl, rfl, _, _, _⟩; refine List.Sublist.trans ?_ (List.sublist_append_right _ _); exact (by repeat first | exact List.Sublist.refl _ | apply List.Sublist.cons_cons | apply List.Sublist.cons)) ?_
        rintro _ _ ⟨b2, S, cs, y2, L', rfl, rfl, ⟨j2, t2, f2, hj2⟩, hcs2, hy2⟩
        refine TD.eff 17 rfl (by kernel_rfl) (EF.call (vs := [_]) call_17 rfl (greatest_ct (L'.length + 1) bw m _ _ w0 _ (app_get rfl) fun k hk => (hm k hk).1)) (by decide) (by rintro _ _ ⟨top, rfl, _, _, _, rfl⟩; refine List.Sublist.trans ?_ (List.sublist_append_right _ _); exact (by repeat first | exact List.Sublist.refl _ | apply List.Sublist.cons_cons | apply List.Sublist.cons)) ?_
        rintro _ _ ⟨top, rfl, ht, htm, htM, rfl⟩
        have htG : G ≤ V double top := hGM _ ht.2 fun k hk => by rw [← (hm k hk).2]; exact htm k hk
        have htG' : V double top ≤ G := htM G hG0 fun k hk => by rw [(hm k hk).2]; exact hGk k hk
        have hV2 : V double 4611686018427387904 = 2 := by decide +kernel
        obtain ⟨tp, ht2, ht3⟩ := mul_near two_double (a := 4611686018427387904) (by unfold Fl.Fin; decide +kernel) ht.1 (by rw [hV2, mg_le]; have hb : (1000 : Rat) ≤ big := (by decide +kernel); constructor <;> grind)
        have hUd : U double = 1 / 9007199254740992 := by decide +kernel
        have htn : tiny ≤ 1 / 10 ^ 30 := by decide +kernel
        have hn := ht3.near
        have h2t : mg (2 * V double top) = 2 * V double top := by unfold mg; rw [if_pos (by have := ht.2; grind)]
        have ht0 := ht.2
        rw [hV2, hUd, h2t, mg_le] at hn
        have ht4 : -(1 / 10 ^ 20) ≤ V double tp := by grind
        have ht5 : V double tp ≤ 100000 := by grind
        have hnear0 : G ≤ V double tp + 1 / 10 ^ 10 := by grind
        refine TD.take 18 rfl (by kernel_rfl) (by kernel_rfl) (by kernel_rfl) (fun _ _ _ h => h) (by first | ((repeat first | exact List.Sublist.refl _ | apply List.Sublist.cons_cons | apply List.Sublist.cons); done) | (refine List.Sublist.trans ?_ (List.sublist_append_right _ _); repeat first | exact List.Sublist.refl _ | apply List.Sublist.cons_cons | apply List.Sublist.cons)) (YF.farith rfl rfl ht2) (by decide) ?_
        have hnear : ∀ k, k < 576 → Fl.Fin single (y1 k) ∧ Fl.Fin double (y2 k) ∧ mg (V single (y1 k)) ≤ 100000 ∧ mg (V single (y1 k) - V double (y2 k)) ≤ V double tp / 20000 + 1 / 10 ^ 10 :=
          fun k hk => smooth_near (lastOf_le _ g c).2 hG0 hG10 hlG hm hy1 hy2 ht4 hnear0 k hk
        refine TD.eff 19 rfl (by kernel_rfl) (EF.call (vs := [_, _, _]) call_13 rfl (near_ct (L'.length + 0) j2 bo b2 tp 576 S y1 y2 _ cs _ _ _ _ w0 _ (app_get rfl) hj2 (fun k hk => va_get hk rfl) hcs2 ht3.fin ht4 ht5 hnear)) (by decide) (by rintro _ _ ⟨rfl, rfl⟩; refine List.Sublist.trans ?_ (List.sublist_append_right _ _); exact (by repeat first | exact List.Sublist.refl _ | apply List.Sublist.cons_cons | apply List.Sublist.cons)) ?_
        rintro _ _ ⟨rfl, rfl⟩
        refine TD.take 20 rfl (by kernel_rfl) (by kernel_rfl) (by kernel_rfl) (fun _ _ _ h => h) (by first | ((repeat first | exact List.Sublist.refl _ | apply List.Sublist.cons_cons | apply List.Sublist.cons); done) | (refine List.Sublist.trans ?_ (List.sublist_append_right _ _); repeat first | exact List.Sublist.refl _ | apply List.Sublist.cons_cons | apply List.Sublist.cons)) (YF.assign rfl) (by decide) ?_
        refine TD.end (by kernel_rfl) ?_
        refine Arr.seq ?_
        refine Tr.retE ?_
        exact Ends.tmp rfl rfl rfl

end Go.Proofs.YtbcjhkncifckiaaDoor
