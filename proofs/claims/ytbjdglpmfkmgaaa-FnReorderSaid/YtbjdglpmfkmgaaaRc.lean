/- The walks of the step of short blocks. -/
import Derived.Test.YtbjdglpmfkmgaaaRb
import Derived.Test.YtbjdglpmfkmgaaaWe
namespace Go.Proofs.Ytbjdglpmfkmgaaa
open Go Go.RowKit Go.Proofs En
set_option maxRecDepth 100000
set_option maxHeartbeats 4000000

theorem zzReorder_ct (wd : Int) (s : Nat → Int) (x : Nat → Nat) (z0 : Nat → Value) (g c i bsi : Nat) (hg : g < 2) (hc : c < 2) (t' : TypeId) (f' : Nat × Nat) (r : Nat)  (w0 : World) (H : Hp) (hi : H[i]? = some (bsi, .cells (va 86 (sd s)) t' f')) (hwd : 0 ≤ wd ∧ wd < 4294967296) (h3 : wd / 524288 % 4 = 3) (hr : wd / 1024 % 4 = (r : Int)) (hr3 : r < 3) (hcn : s (82 + 2 * g + c) = 576) : Ct Try.prog 20 #[.int .u32 wd, .pointer (some ⟨bsi, 0, none⟩), .agg (va 2548 (zl z0 (244 + 576 * (2 * g + c)) x)), .int .i64 g, .int .i64 c] w0 (H) (fun v H' => ∃ y, RO r s g c x y ∧ v = .agg (va 576 (fl .f32 y)) ∧ H' = H) := by
  refine Ct.of_body (n := 31) (E := [(0, _), (1, _), (2, _), (3, _), (4, _)]) Try.func20 rfl rfl rfl rfl ?_
  refine Tr.seq ?_
  refine Tr.region ?_
  refine TL.box rfl (by decide) (fun b7 => ?_)
  refine TL.allocA zero_75 (by decide) (fun b10 => ?_)
  refine TL.end ?_
  refine Arr.seq ?_
  refine Tr.seq ?_
  refine Tr.region ?_
  refine TL.val (YF.move rfl) (by decide) ?_
  refine TL.val (YF.move rfl) (by decide) ?_
  refine TL.val (YF.loadAll 1 agg_82 rfl rfl (va_size _ _)) (by decide) ?_
  refine TL.call (vs := [_, _, _]) call_25 rfl (by decide) (zzFrame_ct wd (some ⟨bsi, 0, none⟩) (zl z0 (244 + 576 * (2 * g + c)) x) w0 _) ?_
  rintro _ _ ⟨bf, bm, rfl, rfl⟩
  refine TL.val (YF.assign rfl) (by decide) ?_
  refine TL.end ?_
  refine Arr.seq ?_
  refine Tr.seq ?_
  refine Tr.region ?_
  refine TL.val (YF.move rfl) (by decide) ?_
  refine TL.val (YF.move rfl) (by decide) ?_
  refine TL.val (YF.move rfl) (by decide) ?_
  refine TL.call (vs := [_, _, _]) call_26 rfl (by decide) (reorder_ct wd s x z0 g c r (i + 2) bf bm bsi hg hc _ _ w0 _ hi hwd h3 hr hr3 hcn) ?_
  rintro _ _ ⟨y, hy, rfl⟩
  refine TL.heap (_ :: _ :: _) rfl ?_
  refine TL.end ?_
  refine Arr.seq ?_
  refine Tr.seq ?_
  refine Tr.region ?_
  refine TL.val (YF.move rfl) (by decide) ?_
  refine TL.val (YF.nilCheck rfl) (by decide) ?_
  refine TL.val (YF.fieldAddr fo_97_2 rfl rfl) (by decide) ?_
  refine TL.val (YF.load (v := .pointer (some ⟨bm, 0, none⟩)) 0 sc_89 rfl rfl (va_get (by decide) rfl)) (by decide) ?_
  refine TL.val (YF.move rfl) (by decide) ?_
  refine TL.val (YF.move rfl) (by decide) ?_
  refine TL.val (YF.nilCheck rfl) (by decide) ?_
  refine TL.val (YF.fieldAddr fo_82_2 rfl rfl) (by decide) ?_
  refine TL.val (YF.indexArr arr_80 rfl rfl (by first | decide | omega) rfl) (by decide) ?_
  refine TL.val (YF.indexArr arr_79 rfl rfl (by first | decide | omega) (show _ = 244 + 576 * (2 * g + c) by omega)) (by decide) ?_
  refine TL.val (YF.loadAgg (v := va 576 (fl .f32 y)) 1 agg_75 rfl rfl (by rw [va_size]; omega) (zl_row (by omega) rfl)) (by decide) ?_
  refine TL.storeAll 2 (_ :: _ :: _ :: _ :: H) rfl rfl rfl sz_75 (va_size _ _) Zsz_75 (va_one fun _ _ => rfl) rfl ?_
  refine TL.end ?_
  refine Arr.seq ?_
  refine Tr.retE ?_
  refine Ends.cellG 2 rfl rfl agg_75 rfl (va_size _ _) ?_ ⟨y, hy, rfl, rfl⟩
  exact (by repeat first | exact List.Sublist.refl _ | apply List.Sublist.cons_cons | apply List.Sublist.cons)

theorem implReorder_ct (wd : Int) (s xm : Nat → Int) (ym : Nat → Value) (ls : Nat → Nat → Value) (x : Nat → Nat) (g c : Nat) (hg : g < 2) (hc : c < 2) (r : Nat)  (w0 : World) (H : Hp) (hls : ∀ i, i < 4 → LL H (ym i) (ls i)) (hx : ∀ k, k < 576 → ls (2 * g + c) k = .float .f32 (x k)) (hwd : 0 ≤ wd ∧ wd < 4294967296) (h3 : wd / 524288 % 4 = 3) (hr : wd / 1024 % 4 = (r : Int)) (hr3 : r < 3) (hcn : s (82 + 2 * g + c) = 576) : Ct Try.prog 11 #[.int .u32 wd, .agg (va 86 (sd s)), .agg (va 248 (mn xm ym)), .int .i64 g, .int .i64 c] w0 (H) (fun v H' => ∃ b y, RO r s g c x y ∧ v = .slice (some ⟨b, 0, none⟩) 576 576 ∧ H' = (b, .cells (va 576 (fl .f32 y)) 75 (0, 0)) :: H) := by
  refine Ct.of_body (n := 25) (E := [(0, _), (1, _), (2, _), (3, _), (4, _)]) Try.func11 rfl rfl rfl rfl ?_
  refine Tr.seq ?_
  refine Tr.region ?_
  refine TL.box rfl (by decide) (fun b6 => ?_)
  refine TL.box rfl (by decide) (fun b7 => ?_)
  refine TL.val (YF.assign rfl) (by decide) ?_
  refine TL.end ?_
  refine Arr.seq ?_
  refine Tr.seq ?_
  refine Tr.seq ?_
  refine Tr.region ?_
  refine TL.val (YF.move rfl) (by decide) ?_
  refine TL.val (YF.move rfl) (by decide) ?_
  refine TL.call (vs := [_, _]) call_19 rfl (by decide) (place_ct g c hg hc w0 _) ?_
  rintro _ _ ⟨rfl, rfl⟩
  refine TL.val (YF.not rfl rfl) (by decide) ?_
  refine TL.end ?_
  refine Arr.seq ?_
  refine Tr.condF rfl ?_
  refine Tr.skipE ?_
  refine Arr.seq ?_
  refine Tr.seq ?_
  refine Tr.drawE (_ :: _ :: _) (fun H => H) rfl mixed_ ?_
  refine TD.take 0 rfl (by kernel_rfl) (by kernel_rfl) (by kernel_rfl) (fun _ _ _ h => h) (by repeat first | exact List.Sublist.refl _ | apply List.Sublist.cons_cons | apply List.Sublist.cons) (YF.move rfl) (by decide) ?_
  refine TD.take 1 rfl (by kernel_rfl) (by kernel_rfl) (by kernel_rfl) (fun _ _ _ h => h) (by repeat first | exact List.Sublist.refl _ | apply List.Sublist.cons_cons | apply List.Sublist.cons) (YF.loadAll 1 agg_36 rfl rfl (va_size _ _)) (by decide) ?_
  refine TD.take 3 rfl (by kernel_rfl) (by kernel_rfl) (by kernel_rfl) (fun _ _ _ h => h) (by repeat first | exact List.Sublist.refl _ | apply List.Sublist.cons_cons | apply List.Sublist.cons) (YF.loadAll 0 agg_47 rfl rfl (va_size _ _)) (by decide) ?_
  refine TD.take 5 rfl (by kernel_rfl) (by kernel_rfl) (by kernel_rfl) (fun _ _ _ h => h) (by repeat first | exact List.Sublist.refl _ | apply List.Sublist.cons_cons | apply List.Sublist.cons) (YF.move rfl) (by decide) ?_
  refine TD.take 6 rfl (by kernel_rfl) (by kernel_rfl) (by kernel_rfl) (fun _ _ _ h => h) (by repeat first | exact List.Sublist.refl _ | apply List.Sublist.cons_cons | apply List.Sublist.cons) (YF.move rfl) (by decide) ?_
  refine TD.two 2 8 (by kernel_rfl) ?_ ?_
  ·
    refine TO.eff 2 rfl (EF.call (vs := [_]) call_21 rfl (made_ct s w0 _)) (by decide) (by rintro _ _ ⟨b, rfl, rfl⟩; exact (by repeat first | exact List.Sublist.refl _ | apply List.Sublist.cons_cons | apply List.Sublist.cons)) ?_
    rintro _ _ ⟨bs, rfl, rfl⟩
    refine TD.two 4 8 (by kernel_rfl) ?_ ?_
    ·
      refine TO.eff 4 rfl (EF.call (vs := [_]) call_22 rfl (lined1_ct xm ym ls (2 * g + c) x w0 _ (fun k hk => (hls k hk).mono fun q hq => by repeat (first | exact hq | apply List.mem_cons_of_mem)) (by omega) hx)) (by decide) (by rintro _ _ ⟨rfl, rfl⟩; exact (by repeat first | exact List.Sublist.refl _ | apply List.Sublist.cons_cons | apply List.Sublist.cons)) ?_
      rintro _ _ ⟨rfl, rfl⟩
      refine TD.two 7 8 (by kernel_rfl) ?_ ?_
      ·
        refine TO.eff 7 rfl (EF.call (vs := [_, _, _, _, _]) call_20 rfl (zzReorder_ct wd s x (mdk xm ls 4) g c 0 bs hg hc _ _ r w0 _ rfl hwd h3 hr hr3 hcn)) (by decide) (by rintro _ _ ⟨y, hy, rfl, rfl⟩; exact (by repeat first | exact List.Sublist.refl _ | apply List.Sublist.cons_cons | apply List.Sublist.cons)) ?_
        rintro _ _ ⟨y, hy, rfl, rfl⟩
        refine TD.eff 8 rfl (by kernel_rfl) (EF.alloc zero_75) (by decide) (by rintro _ _ ⟨_, rfl, rfl⟩; exact (by repeat first | exact List.Sublist.refl _ | apply List.Sublist.cons_cons | apply List.Sublist.cons)) ?_
        rintro _ _ ⟨b11, rfl, rfl⟩
        refine TD.eff0 9 rfl (by kernel_rfl) (EF.storeAll 0 rfl rfl rfl sz_75 (va_size _ _) Zsz_75 (va_one fun _ _ => rfl)) (by rintro _ _ rfl; exact (by repeat first | exact List.Sublist.refl _ | apply List.Sublist.cons_cons | apply List.Sublist.cons)) ?_
        rintro _ _ rfl
        refine TD.heap (_ :: _ :: _ :: _ :: _) rfl ?_
        refine TD.end (by kernel_rfl) ?_
        refine Arr.seq ?_
        refine Tr.seq ?_
        refine Tr.region ?_
        refine TL.val (YF.sliceArr arr_75 rfl) (by decide) ?_
        refine TL.val (YF.assign rfl) (by decide) ?_
        refine TL.end ?_
        refine Arr.seq ?_
        refine Tr.retE ?_
        refine Ends.sub ?_ (Ends.tmp rfl rfl ⟨b11, y, hy, rfl, rfl⟩)
        exact (by repeat first | exact List.Sublist.refl _ | apply List.Sublist.cons_cons | apply List.Sublist.cons)
      ·
        refine TO.eff 8 rfl (EF.alloc zero_75) (by decide) (by rintro _ _ ⟨_, rfl, rfl⟩; exact (by repeat first | exact List.Sublist.refl _ | apply List.Sublist.cons_cons | apply List.Sublist.cons)) ?_
        rintro _ _ ⟨b11, rfl, rfl⟩
        refine TD.eff 7 rfl (by kernel_rfl) (EF.call (vs := [_, _, _, _, _]) call_20 rfl (zzReorder_ct wd s x (mdk xm ls 4) g c 1 bs hg hc _ _ r w0 _ rfl hwd h3 hr hr3 hcn)) (by decide) (by rintro _ _ ⟨y, hy, rfl, rfl⟩; exact (by repeat first | exact List.Sublist.refl _ | apply List.Sublist.cons_cons | apply List.Sublist.cons)) ?_
        rintro _ _ ⟨y, hy, rfl, rfl⟩
        refine TD.eff0 9 rfl (by kernel_rfl) (EF.storeAll 0 rfl rfl rfl sz_75 (va_size _ _) Zsz_75 (va_one fun _ _ => rfl)) (by rintro _ _ rfl; exact (by repeat first | exact List.Sublist.refl _ | apply List.Sublist.cons_cons | apply List.Sublist.cons)) ?_
        rintro _ _ rfl
        refine TD.heap (_ :: _ :: _ :: _ :: _) rfl ?_
        refine TD.end (by kernel_rfl) ?_
        refine Arr.seq ?_
        refine Tr.seq ?_
        refine Tr.region ?_
        refine TL.val (YF.sliceArr arr_75 rfl) (by decide) ?_
        refine TL.val (YF.assign rfl) (by decide) ?_
        refine TL.end ?_
        refine Arr.seq ?_
        refine Tr.retE ?_
        refine Ends.sub ?_ (Ends.tmp rfl rfl ⟨b11, y, hy, rfl, rfl⟩)
        exact (by repeat first | exact List.Sublist.refl _ | apply List.Sublist.cons_cons | apply List.Sublist.cons)
    ·
      refine TO.eff 8 rfl (EF.alloc zero_75) (by decide) (by rintro _ _ ⟨_, rfl, rfl⟩; exact (by repeat first | exact List.Sublist.refl _ | apply List.Sublist.cons_cons | apply List.Sublist.cons)) ?_
      rintro _ _ ⟨b11, rfl, rfl⟩
      refine TD.eff 4 rfl (by kernel_rfl) (EF.call (vs := [_]) call_22 rfl (lined1_ct xm ym ls (2 * g + c) x w0 _ (fun k hk => (hls k hk).mono fun q hq => by repeat (first | exact hq | apply List.mem_cons_of_mem)) (by omega) hx)) (by decide) (by rintro _ _ ⟨rfl, rfl⟩; exact (by repeat first | exact List.Sublist.refl _ | apply List.Sublist.cons_cons | apply List.Sublist.cons)) ?_
      rintro _ _ ⟨rfl, rfl⟩
      refine TD.eff 7 rfl (by kernel_rfl) (EF.call (vs := [_, _, _, _, _]) call_20 rfl (zzReorder_ct wd s x (mdk xm ls 4) g c 1 bs hg hc _ _ r w0 _ rfl hwd h3 hr hr3 hcn)) (by decide) (by rintro _ _ ⟨y, hy, rfl, rfl⟩; exact (by repeat first | exact List.Sublist.refl _ | apply List.Sublist.cons_cons | apply List.Sublist.cons)) ?_
      rintro _ _ ⟨y, hy, rfl, rfl⟩
      refine TD.eff0 9 rfl (by kernel_rfl) (EF.storeAll 0 rfl rfl rfl sz_75 (va_size _ _) Zsz_75 (va_one fun _ _ => rfl)) (by rintro _ _ rfl; exact (by repeat first | exact List.Sublist.refl _ | apply List.Sublist.cons_cons | apply List.Sublist.cons)) ?_
      rintro _ _ rfl
      refine TD.heap (_ :: _ :: _ :: _ :: _) rfl ?_
      refine TD.end (by kernel_rfl) ?_
      refine Arr.seq ?_
      refine Tr.seq ?_
      refine Tr.region ?_
      refine TL.val (YF.sliceArr arr_75 rfl) (by decide) ?_
      refine TL.val (YF.assign rfl) (by decide) ?_
      refine TL.end ?_
      refine Arr.seq ?_
      refine Tr.retE ?_
      refine Ends.sub ?_ (Ends.tmp rfl rfl ⟨b11, y, hy, rfl, rfl⟩)
      exact (by repeat first | exact List.Sublist.refl _ | apply List.Sublist.cons_cons | apply List.Sublist.cons)
  ·
    refine TO.eff 8 rfl (EF.alloc zero_75) (by decide) (by rintro _ _ ⟨_, rfl, rfl⟩; exact (by repeat first | exact List.Sublist.refl _ | apply List.Sublist.cons_cons | apply List.Sublist.cons)) ?_
    rintro _ _ ⟨b11, rfl, rfl⟩
    refine TD.eff 2 rfl (by kernel_rfl) (EF.call (vs := [_]) call_21 rfl (made_ct s w0 _)) (by decide) (by rintro _ _ ⟨b, rfl, rfl⟩; exact (by repeat first | exact List.Sublist.refl _ | apply List.Sublist.cons_cons | apply List.Sublist.cons)) ?_
    rintro _ _ ⟨bs, rfl, rfl⟩
    refine TD.eff 4 rfl (by kernel_rfl) (EF.call (vs := [_]) call_22 rfl (lined1_ct xm ym ls (2 * g + c) x w0 _ (fun k hk => (hls k hk).mono fun q hq => by repeat (first | exact hq | apply List.mem_cons_of_mem)) (by omega) hx)) (by decide) (by rintro _ _ ⟨rfl, rfl⟩; exact (by repeat first | exact List.Sublist.refl _ | apply List.Sublist.cons_cons | apply List.Sublist.cons)) ?_
    rintro _ _ ⟨rfl, rfl⟩
    refine TD.eff 7 rfl (by kernel_rfl) (EF.call (vs := [_, _, _, _, _]) call_20 rfl (zzReorder_ct wd s x (mdk xm ls 4) g c 0 bs hg hc _ _ r w0 _ rfl hwd h3 hr hr3 hcn)) (by decide) (by rintro _ _ ⟨y, hy, rfl, rfl⟩; exact (by repeat first | exact List.Sublist.refl _ | apply List.Sublist.cons_cons | apply List.Sublist.cons)) ?_
    rintro _ _ ⟨y, hy, rfl, rfl⟩
    refine TD.eff0 9 rfl (by kernel_rfl) (EF.storeAll 1 rfl rfl rfl sz_75 (va_size _ _) Zsz_75 (va_one fun _ _ => rfl)) (by rintro _ _ rfl; exact (by repeat first | exact List.Sublist.refl _ | apply List.Sublist.cons_cons | apply List.Sublist.cons)) ?_
    rintro _ _ rfl
    refine TD.heap (_ :: _ :: _ :: _ :: _) rfl ?_
    refine TD.end (by kernel_rfl) ?_
    refine Arr.seq ?_
    refine Tr.seq ?_
    refine Tr.region ?_
    refine TL.val (YF.sliceArr arr_75 rfl) (by decide) ?_
    refine TL.val (YF.assign rfl) (by decide) ?_
    refine TL.end ?_
    refine Arr.seq ?_
    refine Tr.retE ?_
    refine Ends.sub ?_ (Ends.tmp rfl rfl ⟨b11, y, hy, rfl, rfl⟩)
    exact (by repeat first | exact List.Sublist.refl _ | apply List.Sublist.cons_cons | apply List.Sublist.cons)

end Go.Proofs.Ytbjdglpmfkmgaaa
