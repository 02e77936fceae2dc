/- The walks of the step between bands. -/
import Derived.Test.YtbcjhkncifckiaaDoorAa
import Derived.Test.YtbcjhkncifckiaaDoorWe
namespace Go.Proofs.YtbcjhkncifckiaaDoor
open Go Go.RowKit Go.Proofs En Fl Ieee
set_option maxRecDepth 100000
set_option maxHeartbeats 0

theorem zzAntialias_ct (wd : Int) (s : Nat → Int) (x : Nat → Nat) (z0 : Nat → Value) (g c i bsi : Nat) (hg : g < 2) (hc : c < 2) (t' : TypeId) (f' : Nat × Nat) (G : Rat)  (w0 : World) (H : Hp) (hi : H[i]? = some (bsi, .cells (va 86 (sd s)) t' f')) (hG0 : 0 ≤ G) (hG : G ≤ 10) (hx : ∀ q, q < 576 → Fin single (x q) ∧ mg (V single (x q)) ≤ G) (hmx : s (34 + 2 * g + c) = 0 ∨ s (34 + 2 * g + c) = 1) (hcs : ∀ i, i < 8 → w0.cell? ⟨1, i, none⟩ = some (.float .f32 (csb i))) (hca : ∀ i, i < 8 → w0.cell? ⟨2, i, none⟩ = some (.float .f32 (cab i))) : Ct Tryd.prog 27 #[.int .u32 wd, .pointer (some ⟨bsi, 0, none⟩), .agg (va 2548 (zl z0 (244 + 576 * (2 * g + c)) x)), .int .i64 g, .int .i64 c] w0 (H) (fun v H' => ∃ y, AI single (G / 1000000 + 1 / 10 ^ 30) (fun q => V single (x q)) x (lastOf s g c) 0 y ∧ v = .agg (va 576 (fl .f32 y)) ∧ H' = H) := by
  refine Ct.of_body (n := 31) (E := [(0, _), (1, _), (2, _), (3, _), (4, _)]) Tryd.func27 rfl rfl rfl rfl ?_
  refine Tr.seq ?_
  refine Tr.region ?_
  refine TL.box rfl (by decide) (fun b7 => ?_)
  refine TL.allocA zero_84 (by decide) (fun b10 => ?_)
  refine TL.end ?_
  refine Arr.seq ?_
  refine Tr.seq ?_
  refine Tr.region ?_
  refine TL.val (YF.move rfl) (by decide) ?_
  refine TL.val (YF.move rfl) (by decide) ?_
  refine TL.val (YF.loadAll 1 agg_91 rfl rfl (va_size _ _)) (by decide) ?_
  refine TL.call (vs := [_, _, _]) call_36 rfl (by decide) (zzFrame_ct wd (some ⟨bsi, 0, none⟩) (zl z0 (244 + 576 * (2 * g + c)) x) w0 _) ?_
  rintro _ _ ⟨bf, bm, rfl, rfl⟩
  refine TL.val (YF.assign rfl) (by decide) ?_
  refine TL.end ?_
  refine Arr.seq ?_
  refine Tr.seq ?_
  refine Tr.region ?_
  refine TL.val (YF.move rfl) (by decide) ?_
  refine TL.val (YF.move rfl) (by decide) ?_
  refine TL.val (YF.move rfl) (by decide) ?_
  refine TL.call (vs := [_, _, _]) call_37 rfl (by decide) (antialias_ct wd s x z0 g c G (i + 2) bf bm bsi hg hc _ _ w0 _ hi hG0 hG hx hmx hcs hca) ?_
  rintro _ _ ⟨y, hy, rfl⟩
  refine TL.heap (_ :: _ :: _) rfl ?_
  refine TL.end ?_
  refine Arr.seq ?_
  refine Tr.seq ?_
  refine Tr.region ?_
  refine TL.val (YF.move rfl) (by decide) ?_
  refine TL.val (YF.nilCheck rfl) (by decide) ?_
  refine TL.val (YF.fieldAddr fo_112_2 rfl rfl) (by decide) ?_
  refine TL.val (YF.load (v := .pointer (some ⟨bm, 0, none⟩)) 0 sc_106 rfl rfl (va_get (by decide) rfl)) (by decide) ?_
  refine TL.val (YF.move rfl) (by decide) ?_
  refine TL.val (YF.move rfl) (by decide) ?_
  refine TL.val (YF.nilCheck rfl) (by decide) ?_
  refine TL.val (YF.fieldAddr fo_91_2 rfl rfl) (by decide) ?_
  refine TL.val (YF.indexArr arr_89 rfl rfl (by first | decide | omega) rfl) (by decide) ?_
  refine TL.val (YF.indexArr arr_88 rfl rfl (by first | decide | omega) (show _ = 244 + 576 * (2 * g + c) by omega)) (by decide) ?_
  refine TL.val (YF.loadAgg (v := va 576 (fl .f32 y)) 1 agg_84 rfl rfl (by rw [va_size]; omega) (zl_row (by omega) rfl)) (by decide) ?_
  refine TL.storeAll 2 (_ :: _ :: _ :: _ :: H) rfl rfl rfl sz_84 (va_size _ _) Zsz_84 (va_one fun _ _ => rfl) rfl ?_
  refine TL.end ?_
  refine Arr.seq ?_
  refine Tr.retE ?_
  refine Ends.cellG 2 rfl rfl agg_84 rfl (va_size _ _) ?_ ⟨y, hy, rfl, rfl⟩
  exact (by repeat first | exact List.Sublist.refl _ | apply List.Sublist.cons_cons | apply List.Sublist.cons)

theorem implAntialias_ct (wd : Int) (s xm : Nat → Int) (ym : Nat → Value) (ls : Nat → Nat → Value) (x : Nat → Nat) (g c : Nat) (hg : g < 2) (hc : c < 2) (G : Rat)  (w0 : World) (H : Hp) (hls : ∀ i, i < 4 → LL H (ym i) (ls i)) (hlsx : ∀ k, k < 576 → ls (2 * g + c) k = .float .f32 (x k)) (hG0 : 0 ≤ G) (hG : G ≤ 10) (hx : ∀ q, q < 576 → Fin single (x q) ∧ mg (V single (x q)) ≤ G) (hmx : s (34 + 2 * g + c) = 0 ∨ s (34 + 2 * g + c) = 1) (hcs : ∀ i, i < 8 → w0.cell? ⟨1, i, none⟩ = some (.float .f32 (csb i))) (hca : ∀ i, i < 8 → w0.cell? ⟨2, i, none⟩ = some (.float .f32 (cab i))) : Ct Tryd.prog 14 #[.int .u32 wd, .agg (va 86 (sd s)), .agg (va 248 (mn xm ym)), .int .i64 g, .int .i64 c] w0 (H) (fun v H' => ∃ b y, AI single (G / 1000000 + 1 / 10 ^ 30) (fun q => V single (x q)) x (lastOf s g c) 0 y ∧ v = .slice (some ⟨b, 0, none⟩) 576 576 ∧ H' = (b, .cells (va 576 (fl .f32 y)) 84 (0, 0)) :: H) := by
  refine Ct.of_body (n := 25) (E := [(0, _), (1, _), (2, _), (3, _), (4, _)]) Tryd.func14 rfl rfl rfl rfl ?_
  refine Tr.seq ?_
  refine Tr.region ?_
  refine TL.box rfl (by decide) (fun b6 => ?_)
  refine TL.box rfl (by decide) (fun b7 => ?_)
  refine TL.val (YF.assign rfl) (by decide) ?_
  refine TL.end ?_
  refine Arr.seq ?_
  refine Tr.seq ?_
  refine Tr.seq ?_
  refine Tr.region ?_
  refine TL.val (YF.move rfl) (by decide) ?_
  refine TL.val (YF.move rfl) (by decide) ?_
  refine TL.call (vs := [_, _]) call_26 rfl (by decide) (place_ct g c hg hc w0 _) ?_
  rintro _ _ ⟨rfl, rfl⟩
  refine TL.val (YF.not rfl rfl) (by decide) ?_
  refine TL.end ?_
  refine Arr.seq ?_
  refine Tr.condF rfl ?_
  refine Tr.skipE ?_
  refine Arr.seq ?_
  refine Tr.seq ?_
  refine Tr.drawE (_ :: _ :: _) (fun H => H) rfl mixed_ ?_
  refine TD.take 0 rfl (by kernel_rfl) (by kernel_rfl) (by kernel_rfl) (fun _ _ _ h => h) (by repeat first | exact List.Sublist.refl _ | apply List.Sublist.cons_cons | apply List.Sublist.cons) (YF.move rfl) (by decide) ?_
  refine TD.take 1 rfl (by kernel_rfl) (by kernel_rfl) (by kernel_rfl) (fun _ _ _ h => h) (by repeat first | exact List.Sublist.refl _ | apply List.Sublist.cons_cons | apply List.Sublist.cons) (YF.loadAll 1 agg_36 rfl rfl (va_size _ _)) (by decide) ?_
  refine TD.take 3 rfl (by kernel_rfl) (by kernel_rfl) (by kernel_rfl) (fun _ _ _ h => h) (by repeat first | exact List.Sublist.refl _ | apply List.Sublist.cons_cons | apply List.Sublist.cons) (YF.loadAll 0 agg_47 rfl rfl (va_size _ _)) (by decide) ?_
  refine TD.take 5 rfl (by kernel_rfl) (by kernel_rfl) (by kernel_rfl) (fun _ _ _ h => h) (by repeat first | exact List.Sublist.refl _ | apply List.Sublist.cons_cons | apply List.Sublist.cons) (YF.move rfl) (by decide) ?_
  refine TD.take 6 rfl (by kernel_rfl) (by kernel_rfl) (by kernel_rfl) (fun _ _ _ h => h) (by repeat first | exact List.Sublist.refl _ | apply List.Sublist.cons_cons | apply List.Sublist.cons) (YF.move rfl) (by decide) ?_
  refine TD.two 2 8 (by kernel_rfl) ?_ ?_
  ·
    refine TO.eff 2 rfl (EF.call (vs := [_]) call_28 rfl (made_ct s w0 _)) (by decide) (by rintro _ _ ⟨b, rfl, rfl⟩; exact (by repeat first | exact List.Sublist.refl _ | apply List.Sublist.cons_cons | apply List.Sublist.cons)) ?_
    rintro _ _ ⟨bs, rfl, rfl⟩
    refine TD.two 4 8 (by kernel_rfl) ?_ ?_
    ·
      refine TO.eff 4 rfl (EF.call (vs := [_]) call_29 rfl (lined1_ct xm ym ls (2 * g + c) x w0 _ (fun k hk => (hls k hk).mono fun q hq => by repeat (first | exact hq | apply List.mem_cons_of_mem)) (by omega) hlsx)) (by decide) (by rintro _ _ ⟨rfl, rfl⟩; exact (by repeat first | exact List.Sublist.refl _ | apply List.Sublist.cons_cons | apply List.Sublist.cons)) ?_
      rintro _ _ ⟨rfl, rfl⟩
      refine TD.two 7 8 (by kernel_rfl) ?_ ?_
      ·
        refine TO.eff 7 rfl (EF.call (vs := [_, _, _, _, _]) call_27 rfl (zzAntialias_ct wd s x (mdk xm ls 4) g c 0 bs hg hc _ _ G w0 _ rfl hG0 hG hx hmx hcs hca)) (by decide) (by rintro _ _ ⟨y, hy, rfl, rfl⟩; exact (by repeat first | exact List.Sublist.refl _ | apply List.Sublist.cons_cons | apply List.Sublist.cons)) ?_
        rintro _ _ ⟨y, hy, rfl, rfl⟩
        refine TD.eff 8 rfl (by kernel_rfl) (EF.alloc zero_84) (by decide) (by rintro _ _ ⟨_, rfl, rfl⟩; exact (by repeat first | exact List.Sublist.refl _ | apply List.Sublist.cons_cons | apply List.Sublist.cons)) ?_
        rintro _ _ ⟨b11, rfl, rfl⟩
        refine TD.eff0 9 rfl (by kernel_rfl) (EF.storeAll 0 rfl rfl rfl sz_84 (va_size _ _) Zsz_84 (va_one fun _ _ => rfl)) (by rintro _ _ rfl; exact (by repeat first | exact List.Sublist.refl _ | apply List.Sublist.cons_cons | apply List.Sublist.cons)) ?_
        rintro _ _ rfl
        refine TD.heap (_ :: _ :: _ :: _ :: _) rfl ?_
        refine TD.end (by kernel_rfl) ?_
        refine Arr.seq ?_
        refine Tr.seq ?_
        refine Tr.region ?_
        refine TL.val (YF.sliceArr arr_84 rfl) (by decide) ?_
        refine TL.val (YF.assign rfl) (by decide) ?_
        refine TL.end ?_
        refine Arr.seq ?_
        refine Tr.retE ?_
        refine Ends.sub ?_ (Ends.tmp rfl rfl ⟨b11, y, hy, rfl, rfl⟩)
        exact (by repeat first | exact List.Sublist.refl _ | apply List.Sublist.cons_cons | apply List.Sublist.cons)
      ·
        refine TO.eff 8 rfl (EF.alloc zero_84) (by decide) (by rintro _ _ ⟨_, rfl, rfl⟩; exact (by repeat first | exact List.Sublist.refl _ | apply List.Sublist.cons_cons | apply List.Sublist.cons)) ?_
        rintro _ _ ⟨b11, rfl, rfl⟩
        refine TD.eff 7 rfl (by kernel_rfl) (EF.call (vs := [_, _, _, _, _]) call_27 rfl (zzAntialias_ct wd s x (mdk xm ls 4) g c 1 bs hg hc _ _ G w0 _ rfl hG0 hG hx hmx hcs hca)) (by decide) (by rintro _ _ ⟨y, hy, rfl, rfl⟩; exact (by repeat first | exact List.Sublist.refl _ | apply List.Sublist.cons_cons | apply List.Sublist.cons)) ?_
        rintro _ _ ⟨y, hy, rfl, rfl⟩
        refine TD.eff0 9 rfl (by kernel_rfl) (EF.storeAll 0 rfl rfl rfl sz_84 (va_size _ _) Zsz_84 (va_one fun _ _ => rfl)) (by rintro _ _ rfl; exact (by repeat first | exact List.Sublist.refl _ | apply List.Sublist.cons_cons | apply List.Sublist.cons)) ?_
        rintro _ _ rfl
        refine TD.heap (_ :: _ :: _ :: _ :: _) rfl ?_
        refine TD.end (by kernel_rfl) ?_
        refine Arr.seq ?_
        refine Tr.seq ?_
        refine Tr.region ?_
        refine TL.val (YF.sliceArr arr_84 rfl) (by decide) ?_
        refine TL.val (YF.assign rfl) (by decide) ?_
        refine TL.end ?_
        refine Arr.seq ?_
        refine Tr.retE ?_
        refine Ends.sub ?_ (Ends.tmp rfl rfl ⟨b11, y, hy, rfl, rfl⟩)
        exact (by repeat first | exact List.Sublist.refl _ | apply List.Sublist.cons_cons | apply List.Sublist.cons)
    ·
      refine TO.eff 8 rfl (EF.alloc zero_84) (by decide) (by rintro _ _ ⟨_, rfl, rfl⟩; exact (by repeat first | exact List.Sublist.refl _ | apply List.Sublist.cons_cons | apply List.Sublist.cons)) ?_
      rintro _ _ ⟨b11, rfl, rfl⟩
      refine TD.eff 4 rfl (by kernel_rfl) (EF.call (vs := [_]) call_29 rfl (lined1_ct xm ym ls (2 * g + c) x w0 _ (fun k hk => (hls k hk).mono fun q hq => by repeat (first | exact hq | apply List.mem_cons_of_mem)) (by omega) hlsx)) (by decide) (by rintro _ _ ⟨rfl, rfl⟩; exact (by repeat first | exact List.Sublist.refl _ | apply List.Sublist.cons_cons | apply List.Sublist.cons)) ?_
      rintro _ _ ⟨rfl, rfl⟩
      refine TD.eff 7 rfl (by kernel_rfl) (EF.call (vs := [_, _, _, _, _]) call_27 rfl (zzAntialias_ct wd s x (mdk xm ls 4) g c 1 bs hg hc _ _ G w0 _ rfl hG0 hG hx hmx hcs hca)) (by decide) (by rintro _ _ ⟨y, hy, rfl, rfl⟩; exact (by repeat first | exact List.Sublist.refl _ | apply List.Sublist.cons_cons | apply List.Sublist.cons)) ?_
      rintro _ _ ⟨y, hy, rfl, rfl⟩
      refine TD.eff0 9 rfl (by kernel_rfl) (EF.storeAll 0 rfl rfl rfl sz_84 (va_size _ _) Zsz_84 (va_one fun _ _ => rfl)) (by rintro _ _ rfl; exact (by repeat first | exact List.Sublist.refl _ | apply List.Sublist.cons_cons | apply List.Sublist.cons)) ?_
      rintro _ _ rfl
      refine TD.heap (_ :: _ :: _ :: _ :: _) rfl ?_
      refine TD.end (by kernel_rfl) ?_
      refine Arr.seq ?_
      refine Tr.seq ?_
      refine Tr.region ?_
      refine TL.val (YF.sliceArr arr_84 rfl) (by decide) ?_
      refine TL.val (YF.assign rfl) (by decide) ?_
      refine TL.end ?_
      refine Arr.seq ?_
      refine Tr.retE ?_
      refine Ends.sub ?_ (Ends.tmp rfl rfl ⟨b11, y, hy, rfl, rfl⟩)
      exact (by repeat first | exact List.Sublist.refl _ | apply List.Sublist.cons_cons | apply List.Sublist.cons)
  ·
    refine TO.eff 8 rfl (EF.alloc zero_84) (by decide) (by rintro _ _ ⟨_, rfl, rfl⟩; exact (by repeat first | exact List.Sublist.refl _ | apply List.Sublist.cons_cons | apply List.Sublist.cons)) ?_
    rintro _ _ ⟨b11, rfl, rfl⟩
    refine TD.eff 2 rfl (by kernel_rfl) (EF.call (vs := [_]) call_28 rfl (made_ct s w0 _)) (by decide) (by rintro _ _ ⟨b, rfl, rfl⟩; exact (by repeat first | exact List.Sublist.refl _ | apply List.Sublist.cons_cons | apply List.Sublist.cons)) ?_
    rintro _ _ ⟨bs, rfl, rfl⟩
    refine TD.eff 4 rfl (by kernel_rfl) (EF.call (vs := [_]) call_29 rfl (lined1_ct xm ym ls (2 * g + c) x w0 _ (fun k hk => (hls k hk).mono fun q hq => by repeat (first | exact hq | apply List.mem_cons_of_mem)) (by omega) hlsx)) (by decide) (by rintro _ _ ⟨rfl, rfl⟩; exact (by repeat first | exact List.Sublist.refl _ | apply List.Sublist.cons_cons | apply List.Sublist.cons)) ?_
    rintro _ _ ⟨rfl, rfl⟩
    refine TD.eff 7 rfl (by kernel_rfl) (EF.call (vs := [_, _, _, _, _]) call_27 rfl (zzAntialias_ct wd s x (mdk xm ls 4) g c 0 bs hg hc _ _ G w0 _ rfl hG0 hG hx hmx hcs hca)) (by decide) (by rintro _ _ ⟨y, hy, rfl, rfl⟩; exact (by repeat first | exact List.Sublist.refl _ | apply List.Sublist.cons_cons | apply List.Sublist.cons)) ?_
    rintro _ _ ⟨y, hy, rfl, rfl⟩
    refine TD.eff0 9 rfl (by kernel_rfl) (EF.storeAll 1 rfl rfl rfl sz_84 (va_size _ _) Zsz_84 (va_one fun _ _ => rfl)) (by rintro _ _ rfl; exact (by repeat first | exact List.Sublist.refl _ | apply List.Sublist.cons_cons | apply List.Sublist.cons)) ?_
    rintro _ _ rfl
    refine TD.heap (_ :: _ :: _ :: _ :: _) rfl ?_
    refine TD.end (by kernel_rfl) ?_
    refine Arr.seq ?_
    refine Tr.seq ?_
    refine Tr.region ?_
    refine TL.val (YF.sliceArr arr_84 rfl) (by decide) ?_
    refine TL.val (YF.assign rfl) (by decide) ?_
    refine TL.end ?_
    refine Arr.seq ?_
    refine Tr.retE ?_
    refine Ends.sub ?_ (Ends.tmp rfl rfl ⟨b11, y, hy, rfl, rfl⟩)
    exact (by repeat first | exact List.Sublist.refl _ | apply List.Sublist.cons_cons | apply List.Sublist.cons)

end Go.Proofs.YtbcjhkncifckiaaDoor
