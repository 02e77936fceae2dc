/- The walk of the law of lines into time. -/
import Derived.Test.YtbcjhkncifckiaaDoorHu
import Derived.Test.YtbcjhkncifckiaaDoorHq
import Derived.Test.YtbcjhkncifckiaaDoorWd
import Derived.Test.YtbcjhkncifckiaaDoorWb
namespace Go.Proofs.YtbcjhkncifckiaaDoor
open Go Go.RowKit Go.Proofs En Fl Ieee
set_option maxRecDepth 100000
set_option maxHeartbeats 0

/-- The numbers of a frame's header are a header's. -/
theorem head_of {h x : Nat → Int} (hd : HdOK h) (hx : ∀ q, q < 7 → x q = h q) : HdOK x := by
  obtain ⟨h1, h2, h3, h4, h5, h6, h7⟩ := hd
  constructor <;> simp only [hx _ (show 0 < 7 by decide), hx _ (show 1 < 7 by decide), hx _ (show 2 < 7 by decide), hx _ (show 3 < 7 by decide), hx _ (show 4 < 7 by decide), hx _ (show 5 < 7 by decide), hx _ (show 6 < 7 by decide)] <;> assumption

theorem eighteen : V double 4625759767262920704 = 18 := by decide +kernel

theorem fnHybrid_ct (nn gg cc sk : Int) (nd ad bd : Option Addr) (nl nc vl vc wl wc : Nat) (w0 : World) (H : Hp) (hnn : 0 ≤ nn ∧ nn ≤ 4294967295) (hgg : 0 ≤ gg ∧ gg ≤ 255) (hcc : 0 ≤ cc ∧ cc ≤ 255) (hsk : 0 ≤ sk ∧ sk ≤ 255) (hnum : U32s w0 nd nl) (hv : I8s w0 ad vl) (hv2 : I8s w0 bd wl) (hsn : ∀ i, i < 6 → w0.cell? ⟨4, i, none⟩ = some (.float .f64 (snb i))) (hcn : ∀ i, i < 6 → w0.cell? ⟨5, i, none⟩ = some (.float .f64 (cnb i))) : Ct Tryd.prog 6 #[.int .u32 nn, .slice nd nl nc, .slice ad vl vc, .slice bd wl wc, .int .u8 gg, .int .u8 cc, .int .u8 sk] w0 (H) (fun v H' => v = .bool true) := by
  refine Ct.of_body (n := 127) (E := [(0, _), (1, _), (2, _), (3, _), (4, _), (5, _), (6, _)]) Tryd.func6 rfl rfl rfl rfl ?_
  refine Tr.seq ?_
  refine Tr.region ?_
  refine TL.val (YF.assign rfl) (by decide) ?_
  refine TL.end ?_
  refine Arr.seq ?_
  refine Tr.seq ?_
  refine Tr.seq ?_
  refine Tr.region ?_
  refine TL.val (YF.move rfl) (by decide) ?_
  refine TL.val (YF.lenSl sl_23 rfl) (by decide) ?_
  by_cases hq1 : (2147483647 : Int) < nl
  all_goals by_cases hq2 : (2147483647 : Int) < vl
  ·
    refine TL.val (YF.gtr (b := true) rfl rfl (decide_eq_true hq1)) (by decide) ?_
    refine TL.val (YF.move rfl) (by decide) ?_
    first
      | refine TL.gno rfl (by decide) ?_
      | refine TL.gval rfl (YF.move rfl) (by decide) ?_
    first
      | refine TL.gno rfl (by decide) ?_
      | refine TL.gval rfl (YF.lenSl sl_24 rfl) (by decide) ?_
    first
      | refine TL.gno rfl (by decide) ?_
      | refine TL.gval rfl (YF.gtr rfl rfl rfl) (by decide) ?_
    first
      | refine TL.val (YF.pickT rfl rfl) (by decide) ?_
      | refine TL.val (YF.pickF rfl rfl) (by decide) ?_
      | refine TL.val (YF.pick rfl rfl rfl rfl) (by decide) ?_
    refine TL.val (YF.move rfl) (by decide) ?_
    first
      | refine TL.gno rfl (by decide) ?_
      | refine TL.gval rfl (YF.move rfl) (by decide) ?_
    first
      | refine TL.gno rfl (by decide) ?_
      | refine TL.gval rfl (YF.lenSl sl_24 rfl) (by decide) ?_
    first
      | refine TL.gno rfl (by decide) ?_
      | refine TL.gval rfl (YF.gtr rfl rfl rfl) (by decide) ?_
    first
      | refine TL.val (YF.pickT rfl rfl) (by decide) ?_
      | refine TL.val (YF.pickF rfl rfl) (by decide) ?_
      | refine TL.val (YF.pick rfl rfl rfl rfl) (by decide) ?_
    refine TL.end ?_
    refine Arr.seq ?_
    refine Tr.condT rfl ?_
    refine Tr.seq ?_
    refine Tr.region ?_
    refine TL.val (YF.assign rfl) (by decide) ?_
    refine TL.end ?_
    refine Arr.seq ?_
    refine Tr.retE ?_
    refine Arr.seqR ?_
    exact Ends.tmp rfl rfl rfl
  ·
    refine TL.val (YF.gtr (b := true) rfl rfl (decide_eq_true hq1)) (by decide) ?_
    refine TL.val (YF.move rfl) (by decide) ?_
    first
      | refine TL.gno rfl (by decide) ?_
      | refine TL.gval rfl (YF.move rfl) (by decide) ?_
    first
      | refine TL.gno rfl (by decide) ?_
      | refine TL.gval rfl (YF.lenSl sl_24 rfl) (by decide) ?_
    first
      | refine TL.gno rfl (by decide) ?_
      | refine TL.gval rfl (YF.gtr rfl rfl rfl) (by decide) ?_
    first
      | refine TL.val (YF.pickT rfl rfl) (by decide) ?_
      | refine TL.val (YF.pickF rfl rfl) (by decide) ?_
      | refine TL.val (YF.pick rfl rfl rfl rfl) (by decide) ?_
    refine TL.val (YF.move rfl) (by decide) ?_
    first
      | refine TL.gno rfl (by decide) ?_
      | refine TL.gval rfl (YF.move rfl) (by decide) ?_
    first
      | refine TL.gno rfl (by decide) ?_
      | refine TL.gval rfl (YF.lenSl sl_24 rfl) (by decide) ?_
    first
      | refine TL.gno rfl (by decide) ?_
      | refine TL.gval rfl (YF.gtr rfl rfl rfl) (by decide) ?_
    first
      | refine TL.val (YF.pickT rfl rfl) (by decide) ?_
      | refine TL.val (YF.pickF rfl rfl) (by decide) ?_
      | refine TL.val (YF.pick rfl rfl rfl rfl) (by decide) ?_
    refine TL.end ?_
    refine Arr.seq ?_
    refine Tr.condT rfl ?_
    refine Tr.seq ?_
    refine Tr.region ?_
    refine TL.val (YF.assign rfl) (by decide) ?_
    refine TL.end ?_
    refine Arr.seq ?_
    refine Tr.retE ?_
    refine Arr.seqR ?_
    exact Ends.tmp rfl rfl rfl
  ·
    refine TL.val (YF.gtr (b := false) rfl rfl (decide_eq_false hq1)) (by decide) ?_
    refine TL.val (YF.move rfl) (by decide) ?_
    first
      | refine TL.gno rfl (by decide) ?_
      | refine TL.gval rfl (YF.move rfl) (by decide) ?_
    first
      | refine TL.gno rfl (by decide) ?_
      | refine TL.gval rfl (YF.lenSl sl_24 rfl) (by decide) ?_
    first
      | refine TL.gno rfl (by decide) ?_
      | refine TL.gval rfl (YF.gtr (b := true) rfl rfl (decide_eq_true hq2)) (by decide) ?_
    first
      | refine TL.val (YF.pickT rfl rfl) (by decide) ?_
      | refine TL.val (YF.pickF rfl rfl) (by decide) ?_
      | refine TL.val (YF.pick rfl rfl rfl rfl) (by decide) ?_
    refine TL.val (YF.move rfl) (by decide) ?_
    first
      | refine TL.gno rfl (by decide) ?_
      | refine TL.gval rfl (YF.move rfl) (by decide) ?_
    first
      | refine TL.gno rfl (by decide) ?_
      | refine TL.gval rfl (YF.lenSl sl_24 rfl) (by decide) ?_
    first
      | refine TL.gno rfl (by decide) ?_
      | refine TL.gval rfl (YF.gtr rfl rfl rfl) (by decide) ?_
    first
      | refine TL.val (YF.pickT rfl rfl) (by decide) ?_
      | refine TL.val (YF.pickF rfl rfl) (by decide) ?_
      | refine TL.val (YF.pick rfl rfl rfl rfl) (by decide) ?_
    refine TL.end ?_
    refine Arr.seq ?_
    refine Tr.condT rfl ?_
    refine Tr.seq ?_
    refine Tr.region ?_
    refine TL.val (YF.assign rfl) (by decide) ?_
    refine TL.end ?_
    refine Arr.seq ?_
    refine Tr.retE ?_
    refine Arr.seqR ?_
    exact Ends.tmp rfl rfl rfl
  ·
    refine TL.val (YF.gtr (b := false) rfl rfl (decide_eq_false hq1)) (by decide) ?_
    refine TL.val (YF.move rfl) (by decide) ?_
    first
      | refine TL.gno rfl (by decide) ?_
      | refine TL.gval rfl (YF.move rfl) (by decide) ?_
    first
      | refine TL.gno rfl (by decide) ?_
      | refine TL.gval rfl (YF.lenSl sl_24 rfl) (by decide) ?_
    first
      | refine TL.gno rfl (by decide) ?_
      | refine TL.gval rfl (YF.gtr (b := false) rfl rfl (decide_eq_false hq2)) (by decide) ?_
    first
      | refine TL.val (YF.pickT rfl rfl) (by decide) ?_
      | refine TL.val (YF.pickF rfl rfl) (by decide) ?_
      | refine TL.val (YF.pick rfl rfl rfl rfl) (by decide) ?_
    refine TL.val (YF.move rfl) (by decide) ?_
    first
      | refine TL.gno rfl (by decide) ?_
      | refine TL.gval rfl (YF.move rfl) (by decide) ?_
    first
      | refine TL.gno rfl (by decide) ?_
      | refine TL.gval rfl (YF.lenSl sl_24 rfl) (by decide) ?_
    first
      | refine TL.gno rfl (by decide) ?_
      | refine TL.gval rfl (YF.gtr rfl rfl rfl) (by decide) ?_
    first
      | refine TL.val (YF.pickT rfl rfl) (by decide) ?_
      | refine TL.val (YF.pickF rfl rfl) (by decide) ?_
      | refine TL.val (YF.pick rfl rfl rfl rfl) (by decide) ?_
    refine TL.end ?_
    refine Arr.seq ?_
    refine Tr.cond rfl (fun h37 => ?_) (fun h37 => ?_)
    ·
      replace h37 := of_decide_eq_true h37
      refine Tr.seq ?_
      refine Tr.region ?_
      refine TL.val (YF.assign rfl) (by decide) ?_
      refine TL.end ?_
      refine Arr.seq ?_
      refine Tr.retE ?_
      refine Arr.seqR ?_
      exact Ends.tmp rfl rfl rfl
    ·
      replace h37 := of_decide_eq_false h37
      refine Tr.skipE ?_
      refine Arr.seq ?_
      refine Tr.seq ?_
      refine Tr.seq ?_
      refine Tr.region ?_
      refine TL.val (YF.move rfl) (by decide) ?_
      refine TL.val (YF.move rfl) (by decide) ?_
      refine TL.call (vs := [_, _]) call_7 rfl (by decide) (few_ct nd ad nl nc vl vc w0 _) ?_
      rintro _ _ ⟨rfl, hH⟩
      replace hH := hH.symm
      subst hH
      refine TL.val (YF.not rfl rfl) (by decide) ?_
      by_cases hv1 : nl ≤ 100 ∧ vl ≤ 1000
      ·
        refine TL.val (YF.move (v := .bool false) (by show some (Value.bool (!(decide (nl ≤ 100) && decide (vl ≤ 1000)))) = _; rw [decide_eq_true hv1.1, decide_eq_true hv1.2]; rfl)) (by decide) ?_
        first
          | refine TL.gno rfl (by decide) ?_
          | refine TL.gval rfl (YF.move rfl) (by decide) ?_
        first
          | refine TL.gno rfl (by decide) ?_
          | (refine TL.geff rfl (EF.call (vs := [_, _]) call_7 rfl (few_ct none bd 0 0 wl wc w0 _)) (by decide) ?_
             rintro _ _ ⟨rfl, hH⟩
             replace hH := hH.symm
             subst hH)
        first
          | refine TL.gno rfl (by decide) ?_
          | refine TL.gval rfl (YF.not rfl rfl) (by decide) ?_
        first
          | refine TL.val (YF.pickT rfl rfl) (by decide) ?_
          | refine TL.val (YF.pickF rfl rfl) (by decide) ?_
          | refine TL.val (YF.pick rfl rfl rfl rfl) (by decide) ?_
        refine TL.end ?_
        refine Arr.seq ?_
        refine Tr.cond rfl (fun h46 => ?_) (fun h46 => ?_)
        ·
          refine Tr.seq ?_
          refine Tr.region ?_
          refine TL.val (YF.assign rfl) (by decide) ?_
          refine TL.end ?_
          refine Arr.seq ?_
          refine Tr.retE ?_
          refine Arr.seqR ?_
          exact Ends.tmp rfl rfl rfl
        ·
          have hfew : wl ≤ 1000 := by
            simpa using h46
          refine Tr.skipE ?_
          refine Arr.seq ?_
          refine Tr.seq ?_
          refine Tr.region ?_
          refine TL.val (YF.move rfl) (by decide) ?_
          refine TL.call (vs := [_]) call_9 rfl (by decide) (headOf_ct nn w0 _ hnn) ?_
          rintro _ _ ⟨h, rfl, hd, hH⟩
          replace hH := hH.symm
          subst hH
          refine TL.val (YF.move rfl) (by decide) ?_
          refine TL.val (YF.move rfl) (by decide) ?_
          refine TL.call (vs := [_, _, _]) call_8 rfl (by decide) (frameOf_ct h nd ad nl nc vl vc w0 _ hd hnum (by omega) hv (by omega)) ?_
          rintro _ _ ⟨x, y, L, rfl, hx, hy, rfl⟩
          refine TL.allocA zero_49 (by decide) (fun b15 => ?_)
          refine TL.storeAll 0 (_ :: _) rfl rfl rfl sz_49 (va_size _ _) Zsz_49 (va_one fun q hq => by unfold fr; split; rfl; exact (hy _ (by omega)).one) rfl ?_
          refine TL.end ?_
          refine Arr.seq ?_
          refine Tr.seq ?_
          have hd := head_of hd hx.head
          obtain ⟨g, hg, hg2⟩ : ∃ g : Nat, gg % 2 = (g : Int) ∧ g < 2 := ⟨(gg % 2).toNat, by omega, by omega⟩
          obtain ⟨c, hc, hc2⟩ : ∃ c : Nat, cc % (if x 3 = 3 then 1 else 2) = (c : Int) ∧ c < 2 := ⟨(cc % (if x 3 = 3 then 1 else 2)).toNat, by split <;> omega, by split <;> omega⟩
          refine Tr.drawE (_ :: _) (fun H => H) rfl mixed_ ?_
          refine TD.take 0 rfl (by kernel_rfl) (by kernel_rfl) (by kernel_rfl) (fun _ _ _ h => h) (by repeat first | exact List.Sublist.refl _ | apply List.Sublist.cons_cons | apply List.Sublist.cons) (YF.move rfl) (by decide) ?_
          refine TD.take 1 rfl (by kernel_rfl) (by kernel_rfl) (by kernel_rfl) (fun _ _ _ h => h) (by repeat first | exact List.Sublist.refl _ | apply List.Sublist.cons_cons | apply List.Sublist.cons) (YF.rem rfl rfl (by omega) (IntWalk.rem_in _ _ (by omega))) (by decide) ?_
          refine TD.take 2 rfl (by kernel_rfl) (by kernel_rfl) (by kernel_rfl) (fun _ _ _ h => h) (by repeat first | exact List.Sublist.refl _ | apply List.Sublist.cons_cons | apply List.Sublist.cons) (YF.conv (r := (g : Int)) und_5 und_3 rfl (by rw [hg]; exact IntWalk.i64_in _ (by omega))) (by decide) ?_
          refine TD.take 3 rfl (by kernel_rfl) (by kernel_rfl) (by kernel_rfl) (fun _ _ _ h => h) (by repeat first | exact List.Sublist.refl _ | apply List.Sublist.cons_cons | apply List.Sublist.cons) (YF.move rfl) (by decide) ?_
          refine TD.take 4 rfl (by kernel_rfl) (by kernel_rfl) (by kernel_rfl) (fun _ _ _ h => h) (by repeat first | exact List.Sublist.refl _ | apply List.Sublist.cons_cons | apply List.Sublist.cons) (YF.conv und_5 und_3 rfl (IntWalk.i64_in _ (by omega))) (by decide) ?_
          refine TD.take 5 rfl (by kernel_rfl) (by kernel_rfl) (by kernel_rfl) (fun _ _ _ h => h) (by repeat first | exact List.Sublist.refl _ | apply List.Sublist.cons_cons | apply List.Sublist.cons) (YF.fieldAddr fo_49_0 rfl rfl) (by decide) ?_
          refine TD.take 6 rfl (by kernel_rfl) (by kernel_rfl) (by kernel_rfl) (fun _ _ _ h => h) (by repeat first | exact List.Sublist.refl _ | apply List.Sublist.cons_cons | apply List.Sublist.cons) (YF.loadAgg (v := va 7 (sd x)) 0 agg_27 rfl rfl (by rw [va_size]; decide) fr_head) (by decide) ?_
          refine TD.eff 7 rfl (by kernel_rfl) (EF.call (vs := [_]) call_10 rfl (channels_ct x w0 _)) (by decide) (by rintro _ _ ⟨rfl, rfl⟩; exact (by repeat first | exact List.Sublist.refl _ | apply List.Sublist.cons_cons | apply List.Sublist.cons)) ?_
          rintro _ _ ⟨rfl, rfl⟩
          refine TD.take 8 rfl (by kernel_rfl) (by kernel_rfl) (by kernel_rfl) (fun _ _ _ h => h) (by repeat first | exact List.Sublist.refl _ | apply List.Sublist.cons_cons | apply List.Sublist.cons) (YF.rem (r := (c : Int)) rfl rfl (by split <;> omega) (by rw [IntWalk.rem_in _ _ (by omega)]; exact hc)) (by decide) ?_
          refine TD.take 9 rfl (by kernel_rfl) (by kernel_rfl) (by kernel_rfl) (fun _ _ _ h => h) (by repeat first | exact List.Sublist.refl _ | apply List.Sublist.cons_cons | apply List.Sublist.cons) (YF.assign rfl) (by decide) ?_
          refine TD.take 10 rfl (by kernel_rfl) (by kernel_rfl) (by kernel_rfl) (fun _ _ _ h => h) (by repeat first | exact List.Sublist.refl _ | apply List.Sublist.cons_cons | apply List.Sublist.cons) (YF.assign rfl) (by decide) ?_
          refine TD.end (by kernel_rfl) ?_
          refine Arr.seq ?_
          refine Tr.seq ?_
          refine Tr.drawE (_) (fun H => (H.eraseIdx 0)) rfl mixed_ ?_
          refine TD.take 0 rfl (by kernel_rfl) (by kernel_rfl) (by kernel_rfl) (fun _ _ _ h => h) (by repeat first | exact List.Sublist.refl _ | apply List.Sublist.cons_cons | apply List.Sublist.cons) (YF.move rfl) (by decide) ?_
          refine TD.take 1 rfl (by kernel_rfl) (by kernel_rfl) (by kernel_rfl) (fun _ _ _ h => h) (by repeat first | exact List.Sublist.refl _ | apply List.Sublist.cons_cons | apply List.Sublist.cons) (YF.move rfl) (by decide) ?_
          refine TD.take 2 rfl (by kernel_rfl) (by kernel_rfl) (by kernel_rfl) (fun _ _ _ h => h) (by repeat first | exact List.Sublist.refl _ | apply List.Sublist.cons_cons | apply List.Sublist.cons) (YF.move rfl) (by decide) ?_
          refine TD.take 3 rfl (by kernel_rfl) (by kernel_rfl) (by kernel_rfl) (fun _ _ _ h => h) (by repeat first | exact List.Sublist.refl _ | apply List.Sublist.cons_cons | apply List.Sublist.cons) (YF.move rfl) (by decide) ?_
          refine TD.take 5 rfl (by kernel_rfl) (by kernel_rfl) (by kernel_rfl) (fun _ _ _ h => h) (by repeat first | exact List.Sublist.refl _ | apply List.Sublist.cons_cons | apply List.Sublist.cons) (YF.fieldAddr fo_49_2 rfl rfl) (by decide) ?_
          refine TD.take 6 rfl (by kernel_rfl) (by kernel_rfl) (by kernel_rfl) (fun _ _ _ h => h) (by repeat first | exact List.Sublist.refl _ | apply List.Sublist.cons_cons | apply List.Sublist.cons) (YF.fieldAddr fo_47_2 rfl rfl) (by decide) ?_
          refine TD.take 7 rfl (by kernel_rfl) (by kernel_rfl) (by kernel_rfl) (fun _ _ _ h => h) (by repeat first | exact List.Sublist.refl _ | apply List.Sublist.cons_cons | apply List.Sublist.cons) (YF.indexArr arr_45 rfl rfl (by first | decide | omega) rfl) (by decide) ?_
          refine TD.eff 4 rfl (by kernel_rfl) (EF.call (vs := [_, _]) call_11 rfl (spread_ct ad vl vc sk w0 _ hsk hv (by omega))) (by decide) (by rintro _ _ ⟨bl, l, rfl, hl, rfl⟩; exact (by repeat first | exact List.Sublist.refl _ | apply List.Sublist.cons_cons | apply List.Sublist.cons)) ?_
          rintro _ _ ⟨bl, l, rfl, hl, rfl⟩
          refine TD.take 8 rfl (by kernel_rfl) (by kernel_rfl) (by kernel_rfl) (fun _ _ _ h => h) (by repeat first | exact List.Sublist.refl _ | apply List.Sublist.cons_cons | apply List.Sublist.cons) (YF.indexArr arr_44 rfl rfl (by first | decide | omega) (show _ = 337 + (2 * g + c) by omega)) (by decide) ?_
          refine TD.eff0 9 rfl (by kernel_rfl) (EF.store 1 rfl rfl rfl sz_43 rfl (by rw [va_size]; omega)) (by rintro _ _ ⟨rfl, rfl⟩; exact (by repeat first | exact List.Sublist.refl _ | apply List.Sublist.cons_cons | apply List.Sublist.cons)) ?_
          rintro _ _ ⟨rfl, rfl⟩
          refine TD.heap (_ :: (b15, .cells (va 341 (fr x (upd y (337 + (2 * g + c) - 337) (.slice (some ⟨bl, 0, none⟩) 576 576)))) 49 (0, 0)) :: _) (by rw [← fr_setL (by omega)]; rfl) ?_
          refine TD.end (by kernel_rfl) ?_
          refine Arr.seq ?_
          refine Tr.seq ?_
          refine Tr.region ?_
          refine TL.val (YF.move rfl) (by decide) ?_
          refine TL.val (YF.move rfl) (by decide) ?_
          refine TL.val (YF.fieldAddr fo_49_1 rfl rfl) (by decide) ?_
          refine TL.val (YF.fieldAddr fo_36_17 rfl rfl) (by decide) ?_
          refine TL.val (YF.indexArr arr_31 rfl rfl (by first | decide | omega) rfl) (by decide) ?_
          refine TL.val (YF.indexArr arr_30 rfl rfl (by first | decide | omega) (show _ = 89 + (2 * g + c) by omega)) (by decide) ?_
          refine TL.storeV 1 (_ :: _ :: _) rfl rfl rfl sz_3 rfl (by rw [va_size]; omega) (fr_set (by omega)) rfl ?_
          refine TL.end ?_
          refine Arr.seq ?_
          refine Tr.seq ?_
          refine Tr.region ?_
          refine TL.val (YF.move rfl) (by decide) ?_
          refine TL.val (YF.move rfl) (by decide) ?_
          refine TL.val (YF.shr rfl rfl (by decide) (shrv (p := 16) 4 rfl (by decide) (by decide))) (by decide) ?_
          refine TL.call (vs := [_, _]) call_11 rfl (by decide) (spread_ct bd wl wc (sk / 16) w0 _ (by omega) hv2 (by omega)) ?_
          rintro _ _ ⟨bs0, st, rfl, hst, rfl⟩
          refine TL.val (YF.assign rfl) (by decide) ?_
          refine TL.end ?_
          refine Arr.seq ?_
          refine Tr.seq ?_
          have hsw : (upd x (89 + (2 * g + c)) 576) (7 + (26 + 2 * g + c)) = 0 ∨ (upd x (89 + (2 * g + c)) 576) (7 + (26 + 2 * g + c)) = 1 := by
            rw [upd_ne _ _ (by omega)]
            have := FI.switch hx (7 + (26 + 2 * g + c)) (by omega)
            omega
          have hbk : 0 ≤ (upd x (89 + (2 * g + c)) 576) (7 + (30 + 2 * g + c)) ∧ (upd x (89 + (2 * g + c)) 576) (7 + (30 + 2 * g + c)) ≤ 3 := by
            rw [upd_ne _ _ (by omega)]
            exact FI.block hx (7 + (30 + 2 * g + c)) (by omega)
          have hsb : (upd x (89 + (2 * g + c)) 576) (7 + (26 + 2 * g + c)) = 0 → (upd x (89 + (2 * g + c)) 576) (7 + (30 + 2 * g + c)) = 0 := by
            rw [upd_ne _ _ (by omega), upd_ne _ _ (by omega)]
            intro h0
            have := hx.sw (7 + (26 + 2 * g + c)) (by omega) (by omega) h0
            rwa [show 7 + (26 + 2 * g + c) + 4 = 7 + (30 + 2 * g + c) by omega] at this
          rw [show 337 + (2 * g + c) - 337 = 2 * g + c by omega]
          obtain ⟨y', hy'⟩ : ∃ y', y' = (upd y (2 * g + c) (.slice (some ⟨bl, 0, none⟩) 576 576)) := ⟨_, rfl⟩
          obtain ⟨x', hx'⟩ : ∃ x', x' = (upd x (89 + (2 * g + c)) 576) := ⟨_, rfl⟩
          rw [← hy', ← hx']
          rw [← hx'] at hsw hbk hsb
          obtain ⟨G, hG0, hGk, hGM⟩ := greatest_some 576 fun q => V single (l q)
          have hG9 : G ≤ 9 := hGM 9 (by decide) fun k hk => (hl k hk).2
          have hG10 : G ≤ 10 := by grind
          have hlG : ∀ q, q < 576 → Fl.Fin single (l q) ∧ mg (V single (l q)) ≤ G := fun q hq => ⟨(hl q hq).1, hGk q hq⟩
          obtain ⟨K, hK0, hKk, hKM⟩ := greatest_some 576 fun q => V single (st q)
          have hK9 : K ≤ 9 := hKM 9 (by decide) fun k hk => (hst k hk).2
          have hK10 : K ≤ 10 := by grind
          have hsK : ∀ q, q < 576 → Fl.Fin single (st q) ∧ mg (V single (st q)) ≤ K := fun q hq => ⟨(hst q hq).1, hKk q hq⟩
          obtain ⟨ls, hls, hlx⟩ := LO.all (Hc := (bs0, Obj.cells (va 576 (fl .f32 st)) 82 (0, 0)) :: (bl, Obj.cells (va 576 (fl .f32 l)) 82 (0, 0)) :: (b15, .cells (va 341 (fr x' y')) 49 (0, 0)) :: (L ++ H)) (2 * g + c) bl l hy (fun p hp => by simp [hp]) (List.mem_cons_of_mem _ List.mem_cons_self)
          rw [← hy'] at hls
          refine Tr.region ?_
          refine TL.val (YF.fieldAddr fo_49_1 rfl rfl) (by decide) ?_
          refine TL.val (YF.loadAgg (v := va 86 (sd (fun q => x' (7 + q)))) 2 agg_36 rfl rfl (by rw [va_size]; decide) fr_side) (by decide) ?_
          refine TL.val (YF.fieldAddr fo_49_2 rfl rfl) (by decide) ?_
          refine TL.val (YF.loadAgg (v := va 248 (mn (fun q => x' (93 + q)) y')) 2 agg_47 rfl rfl (by rw [va_size]; decide) fr_main) (by decide) ?_
          refine TL.val (YF.move rfl) (by decide) ?_
          refine TL.val (YF.move rfl) (by decide) ?_
          refine TL.val (YF.move rfl) (by decide) ?_
          refine TL.call (vs := [_, _, _, _, _]) call_20 rfl (by decide) (implHybrid_ct (fun q => x' (7 + q)) (fun q => x' (93 + q)) y' ls l st g c G K 0 bs0 hg2 hc2 _ _ w0 _ hls (fun k _ => hlx k) rfl hG0 hG10 hK0 hK10 hlG hsK hbk hsn hcn) ?_
          rintro _ _ ⟨bo, bk, cap, csk, y1, k1, hH1, hcsk, rfl, rfl⟩
          refine TL.val (YF.move rfl) (by decide) ?_
          refine TL.val (YF.extract rfl rfl) (by decide) ?_
          refine TL.val (YF.extract rfl rfl) (by decide) ?_
          refine TL.val (YF.assign rfl) (by decide) ?_
          refine TL.val (YF.assign rfl) (by decide) ?_
          refine TL.end ?_
          refine Arr.seq ?_
          refine Tr.seq ?_
          refine Tr.region ?_
          refine TL.val (YF.move rfl) (by decide) ?_
          refine TL.val (YF.move rfl) (by decide) ?_
          refine TL.val (YF.fieldAddr fo_49_2 rfl rfl) (by decide) ?_
          refine TL.val (YF.fieldAddr fo_47_2 rfl rfl) (by decide) ?_
          refine TL.val (YF.indexArr arr_45 rfl rfl (by first | decide | omega) rfl) (by decide) ?_
          refine TL.val (YF.indexArr arr_44 rfl rfl (by first | decide | omega) (show _ = 337 + (2 * g + c) by omega)) (by decide) ?_
          refine TL.val (YF.load (v := .slice (some ⟨bl, 0, none⟩) 576 576) 4 sc_43 rfl rfl (va_get (by omega) (by unfold fr; rw [if_neg (by omega), hy', show 337 + (2 * g + c) - 337 = 2 * g + c by omega]; exact upd_at _ _ _))) (by decide) ?_
          refine TL.call (vs := [_]) call_12 rfl (by decide) (wide_ct 3 bl l _ _ w0 _ rfl fun k hk => ⟨(hl k hk).1, Rat.le_trans (hl k hk).2 (by decide +kernel)⟩) ?_
          rintro _ _ ⟨bw, m, rfl, hm, rfl⟩
          refine TL.val (YF.assign rfl) (by decide) ?_
          refine TL.end ?_
          refine Arr.seq ?_
          refine Tr.seq ?_
          refine Tr.drawE (_ :: _ :: _ :: _ :: _ :: _ :: _) (fun H => H) rfl mixed_ ?_
          refine TD.take 0 rfl (by kernel_rfl) (by kernel_rfl) (by kernel_rfl) (fun _ _ _ h => h) (by repeat first | exact List.Sublist.refl _ | apply List.Sublist.cons_cons | apply List.Sublist.cons) (YF.fieldAddr fo_49_1 rfl rfl) (by decide) ?_
          refine TD.take 1 rfl (by kernel_rfl) (by kernel_rfl) (by kernel_rfl) (fun _ _ _ h => h) (by repeat first | exact List.Sublist.refl _ | apply List.Sublist.cons_cons | apply List.Sublist.cons) (YF.loadAgg (v := va 86 (sd (fun q => x' (7 + q)))) 5 agg_36 rfl rfl (by rw [va_size]; decide) fr_side) (by decide) ?_
          refine TD.take 2 rfl (by kernel_rfl) (by kernel_rfl) (by kernel_rfl) (fun _ _ _ h => h) (by repeat first | exact List.Sublist.refl _ | apply List.Sublist.cons_cons | apply List.Sublist.cons) (YF.move rfl) (by decide) ?_
          refine TD.take 3 rfl (by kernel_rfl) (by kernel_rfl) (by kernel_rfl) (fun _ _ _ h => h) (by repeat first | exact List.Sublist.refl _ | apply List.Sublist.cons_cons | apply List.Sublist.cons) (YF.move rfl) (by decide) ?_
          refine TD.take 4 rfl (by kernel_rfl) (by kernel_rfl) (by kernel_rfl) (fun _ _ _ h => h) (by repeat first | exact List.Sublist.refl _ | apply List.Sublist.cons_cons | apply List.Sublist.cons) (YF.move rfl) (by decide) ?_
          refine TD.take 5 rfl (by kernel_rfl) (by kernel_rfl) (by kernel_rfl) (fun _ _ _ h => h) (by repeat first | exact List.Sublist.refl _ | apply List.Sublist.cons_cons | apply List.Sublist.cons) (YF.move rfl) (by decide) ?_
          refine TD.eff 6 rfl (by kernel_rfl) (EF.call (vs := [_]) call_12 rfl (wide_ct 3 bs0 st _ _ w0 _ rfl fun k hk => ⟨(hst k hk).1, Rat.le_trans (hst k hk).2 (by decide +kernel)⟩)) (by decide) (by rintro _ _ ⟨bw, m, rfl, hm, rfl⟩; exact (by repeat first | exact List.Sublist.refl _ | apply List.Sublist.cons_cons | apply List.Sublist.cons)) ?_
          rintro _ _ ⟨bv, n, rfl, hn, rfl⟩
          refine TD.eff 7 rfl (by kernel_rfl) (EF.call (vs := [_, _, _, _, _]) call_21 rfl (timed_ct (fun q => x' (7 + q)) m n (fun q => V single (l q)) (fun q => V single (st q)) g c G K 1 0 bw bv hg2 hc2 _ _ _ _ w0 _ rfl rfl hG0 hG10 hK0 hK10 (fun q hq => ⟨(hm q hq).1, (hm q hq).2, (hlG q hq).2⟩) (fun q hq => ⟨(hn q hq).1, (hn q hq).2, (hsK q hq).2⟩) hsw hbk hsb hsn hcn)) (by decide) (by rintro _ _ ⟨b0, b1, y, k, hH, rfl, rfl⟩; exact (by repeat first | exact List.Sublist.refl _ | apply List.Sublist.cons_cons | apply List.Sublist.cons)) ?_
          rintro _ _ ⟨b0, b1, y2, k2, hH2, rfl, rfl⟩
          refine TD.take 8 rfl (by kernel_rfl) (by kernel_rfl) (by kernel_rfl) (fun _ _ _ h => h) (by repeat first | exact List.Sublist.refl _ | apply List.Sublist.cons_cons | apply List.Sublist.cons) (YF.move rfl) (by decide) ?_
          refine TD.take 9 rfl (by kernel_rfl) (by kernel_rfl) (by kernel_rfl) (fun _ _ _ h => h) (by repeat first | exact List.Sublist.refl _ | apply List.Sublist.cons_cons | apply List.Sublist.cons) (YF.extract rfl rfl) (by decide) ?_
          refine TD.take 10 rfl (by kernel_rfl) (by kernel_rfl) (by kernel_rfl) (fun _ _ _ h => h) (by repeat first | exact List.Sublist.refl _ | apply List.Sublist.cons_cons | apply List.Sublist.cons) (YF.extract rfl rfl) (by decide) ?_
          refine TD.take 11 rfl (by kernel_rfl) (by kernel_rfl) (by kernel_rfl) (fun _ _ _ h => h) (by repeat first | exact List.Sublist.refl _ | apply List.Sublist.cons_cons | apply List.Sublist.cons) (YF.assign rfl) (by decide) ?_
          refine TD.take 12 rfl (by kernel_rfl) (by kernel_rfl) (by kernel_rfl) (fun _ _ _ h => h) (by repeat first | exact List.Sublist.refl _ | apply List.Sublist.cons_cons | apply List.Sublist.cons) (YF.assign rfl) (by decide) ?_
          refine TD.end (by kernel_rfl) ?_
          refine Arr.seq ?_
          refine Tr.seq ?_
          refine Tr.region ?_
          refine TL.val (YF.move rfl) (by decide) ?_
          refine TL.call (vs := [_]) call_17 rfl (by decide) (greatest_ct 3 bw m _ _ w0 _ rfl fun k hk => (hm k hk).1) ?_
          rintro _ _ ⟨tl, rfl, htl, htlm, htlM, rfl⟩
          have htG : G ≤ V double tl := hGM _ htl.2 fun k hk => by rw [← (hm k hk).2]; exact htlm k hk
          have htl9 : V double tl ≤ 9 := htlM 9 (by decide) fun k hk => by rw [(hm k hk).2]; exact (hl k hk).2
          have htl0 := htl.2
          have hbig : (1000 : Rat) ≤ big := by decide +kernel
          obtain ⟨t1, ht1, ht1'⟩ := mul_near two_double (a := 4625759767262920704) (by unfold Fl.Fin; decide +kernel) htl.1 (by rw [eighteen, mg_le]; constructor <;> grind)
          refine TL.val (YF.farith rfl rfl ht1) (by decide) ?_
          refine TL.val (YF.move rfl) (by decide) ?_
          refine TL.call (vs := [_]) call_12 rfl (by decide) (wide_ct 6 bs0 st _ _ w0 _ rfl fun k hk => ⟨(hst k hk).1, Rat.le_trans (hst k hk).2 (by decide +kernel)⟩) ?_
          rintro _ _ ⟨bz, nz, rfl, hnz, rfl⟩
          refine TL.call (vs := [_]) call_17 rfl (by decide) (greatest_ct 0 bz nz _ _ w0 _ rfl fun k hk => (hnz k hk).1) ?_
          rintro _ _ ⟨ts, rfl, hts, htsm, htsM, rfl⟩
          have hsG : K ≤ V double ts := hKM _ hts.2 fun k hk => by rw [← (hnz k hk).2]; exact htsm k hk
          have hts9 : V double ts ≤ 9 := htsM 9 (by decide) fun k hk => by rw [(hnz k hk).2]; exact (hst k hk).2
          have hts0 := hts.2
          have hUd : U double = 1 / 9007199254740992 := by decide +kernel
          have htn : tiny ≤ 1 / 10 ^ 30 := by decide +kernel
          have htn0 := tiny_nonneg
          have hn1' := ht1'.near
          have h18 : mg (18 * V double tl) = 18 * V double tl := by unfold mg; rw [if_pos (by grind)]
          rw [eighteen, hUd, h18, mg_le] at hn1'
          obtain ⟨tp, ht2, ht3⟩ := add_near two_double ht1'.fin hts.1 (by rw [mg_le]; constructor <;> grind)
          have hn2' := ht3.near
          have hmgs : mg (V double t1 + V double ts) ≤ 200 := by rw [mg_le]; constructor <;> grind
          rw [hUd, mg_le] at hn2'
          have ht4 : -(1 / 10 ^ 20) ≤ V double tp := by
            have hge : mg (V double t1 + V double ts) ≤ V double t1 + V double ts + 2 / 10 ^ 29 := by rw [mg_le]; constructor <;> grind
            grind
          have ht5 : V double tp ≤ 100000 := by grind
          have hTT : 18 * G + K ≤ V double tp + 1 / 10 ^ 10 := by grind
          refine TL.val (YF.farith rfl rfl ht2) (by decide) ?_
          refine TL.val (YF.assign rfl) (by decide) ?_
          refine TL.end ?_
          refine Arr.seq ?_
          refine Tr.seq ?_
          refine Tr.region ?_
          refine TL.val (YF.move rfl) (by decide) ?_
          refine TL.val (YF.move rfl) (by decide) ?_
          refine TL.val (YF.move rfl) (by decide) ?_
          have hn0 : ∀ k, k < 576 → Fl.Fin single (y1 k) ∧ Fl.Fin double (y2 k) ∧ mg (V single (y1 k)) ≤ 100000 ∧ mg (V single (y1 k) - V double (y2 k)) ≤ V double tp / 20000 + 1 / 10 ^ 10 := fun k hk => by
            have hZ := (Yq_le (s := (fun q => x' (7 + q))) (g := g) (c := c) (X := fun q => V single (l q)) hbk hG0 (fun q hq => (hlG q hq).2) hk).1
            have hZ2 := mg_add (Yq (fun q => x' (7 + q)) g c (fun q => V single (l q)) k) (V single (st k))
            have hZ3 := (hsK k hk).2
            exact hybrid_near hG0 hG10 hK0 hK10 (by grind) ((hH1 k hk).1 hk).1 ((hH2 k hk).1 hk).1 hTT
          have hn1 : ∀ k, k < 576 → Fl.Fin single (k1 k) ∧ Fl.Fin double (k2 k) ∧ mg (V single (k1 k)) ≤ 100000 ∧ mg (V single (k1 k) - V double (k2 k)) ≤ V double tp / 20000 + 1 / 10 ^ 10 := fun k hk => by
            have hZ := (Yq_le (s := (fun q => x' (7 + q))) (g := g) (c := c) (X := fun q => V single (l q)) hbk hG0 (fun q hq => (hlG q hq).2) hk).2
            exact hybrid_near hG0 hG10 hK0 hK10 (by grind) ((hH1 k hk).1 hk).2 ((hH2 k hk).1 hk).2 hTT
          refine TL.call (vs := [_, _, _]) call_13 rfl (by decide) (near_ct 6 2 bo b0 tp 0 576 576 y1 y2 _ _ _ _ _ _ w0 _ rfl rfl (fun k hk => by rw [Nat.zero_add]; exact va_get hk rfl) (fun k hk => va_get hk rfl) ht3.fin ht4 ht5 hn0) ?_
          rintro _ _ ⟨rfl, rfl⟩
          refine TL.val (YF.move rfl) (by decide) ?_
          first
            | refine TL.gno rfl (by decide) ?_
            | refine TL.gval rfl (YF.move rfl) (by decide) ?_
          first
            | refine TL.gno rfl (by decide) ?_
            | refine TL.gval rfl (YF.move rfl) (by decide) ?_
          first
            | refine TL.gno rfl (by decide) ?_
            | refine TL.gval rfl (YF.move rfl) (by decide) ?_
          first
            | refine TL.gno rfl (by decide) ?_
            | (refine TL.geff rfl (EF.call (vs := [_, _, _]) call_13 rfl (near_ct 5 1 bk b1 tp 0 cap 576 k1 k2 csk _ _ _ _ _ w0 _ rfl rfl (fun k hk => by rw [Nat.zero_add]; exact hcsk k hk) (fun k hk => va_get hk rfl) ht3.fin ht4 ht5 hn1)) (by decide) ?_
               rintro _ _ ⟨rfl, rfl⟩)
          first
            | refine TL.val (YF.pickT rfl rfl) (by decide) ?_
            | refine TL.val (YF.pickF rfl rfl) (by decide) ?_
            | refine TL.val (YF.pick rfl rfl rfl rfl) (by decide) ?_
          refine TL.val (YF.assign rfl) (by decide) ?_
          refine TL.end ?_
          refine Arr.seq ?_
          refine Tr.retE ?_
          exact Ends.tmp rfl rfl rfl
      ·
        refine TL.val (YF.move (v := .bool true) (by show some (Value.bool (!(decide (nl ≤ 100) && decide (vl ≤ 1000)))) = _; rw [show (decide (nl ≤ 100) && decide (vl ≤ 1000)) = false from Bool.eq_false_iff.2 fun hq => hv1 (by simpa using hq)]; rfl)) (by decide) ?_
        first
          | refine TL.gno rfl (by decide) ?_
          | refine TL.gval rfl (YF.move rfl) (by decide) ?_
        first
          | refine TL.gno rfl (by decide) ?_
          | (refine TL.geff rfl (EF.call (vs := [_, _]) call_7 rfl (few_ct none bd 0 0 wl wc w0 _)) (by decide) ?_
             rintro _ _ ⟨rfl, hH⟩
             replace hH := hH.symm
             subst hH)
        first
          | refine TL.gno rfl (by decide) ?_
          | refine TL.gval rfl (YF.not rfl rfl) (by decide) ?_
        first
          | refine TL.val (YF.pickT rfl rfl) (by decide) ?_
          | refine TL.val (YF.pickF rfl rfl) (by decide) ?_
          | refine TL.val (YF.pick rfl rfl rfl rfl) (by decide) ?_
        refine TL.end ?_
        refine Arr.seq ?_
        refine Tr.condT rfl ?_
        refine Tr.seq ?_
        refine Tr.region ?_
        refine TL.val (YF.assign rfl) (by decide) ?_
        refine TL.end ?_
        refine Arr.seq ?_
        refine Tr.retE ?_
        refine Arr.seqR ?_
        exact Ends.tmp rfl rfl rfl

end Go.Proofs.YtbcjhkncifckiaaDoor
