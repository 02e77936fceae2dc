/- The walks of the step into time. -/
import Derived.Test.YtbcjhkncifckiaaDoorHp
import Derived.Test.YtbcjhkncifckiaaDoorWe
namespace Go.Proofs.YtbcjhkncifckiaaDoor
open Go Go.RowKit Go.Proofs En Fl Ieee
set_option maxRecDepth 100000
set_option maxHeartbeats 0

theorem hybrid_ct (wd : Int) (s : Nat → Int) (x st : Nat → Nat) (z0 : Nat → Value) (g c : Nat) (G K : Rat) (i bf bm bsi : Nat) (hg : g < 2) (hc : c < 2) (t' : TypeId) (f' : Nat × Nat) (w0 : World) (H : Hp) (hi : H[i]? = some (bsi, .cells (va 86 (sd s)) t' f')) (hG0 : 0 ≤ G) (hG : G ≤ 10) (hK0 : 0 ≤ K) (hK : K ≤ 10) (hx : ∀ q, q < 576 → Fin single (x q) ∧ mg (V single (x q)) ≤ G) (hst : ∀ q, q < 576 → Fin single (st q) ∧ mg (V single (st q)) ≤ K) (hbk : 0 ≤ s (30 + 2 * g + c) ∧ s (30 + 2 * g + c) ≤ 3) (hsn : ∀ i, i < 6 → w0.cell? ⟨4, i, none⟩ = some (.float .f64 (snb i))) (hcn : ∀ i, i < 6 → w0.cell? ⟨5, i, none⟩ = some (.float .f64 (cnb i))) : Ct Tryd.prog 40 #[.pointer (some ⟨bf, 0, none⟩), .int .i64 g, .int .i64 c] w0 ((bf, .cells (va 3204 (zl (ff wd (some ⟨bsi, 0, none⟩) bm) (4 + 576 * c) st)) 112 (0, 0)) :: (bm, .cells (va 2548 (zl z0 (244 + 576 * (2 * g + c)) x)) 91 (0, 0)) :: H) (fun v H' => ∃ y k, HY single (HE G K) (fun q => Yq s g c (fun q => V single (x q)) q + V single (st q)) (Nq s g c (fun q => V single (x q))) x st (576) y k ∧ H' = (bf, .cells (va 3204 (zl (ff wd (some ⟨bsi, 0, none⟩) bm) (4 + 576 * c) k)) 112 (0, 0)) :: (bm, .cells (va 2548 (zl z0 (244 + 576 * (2 * g + c)) y)) 91 (0, 0)) :: H) := by
  refine Ct.of_body (n := 134) (E := [(0, _), (1, _), (2, _)]) Tryd.func40 rfl rfl rfl rfl ?_
  refine Tr.seq ?_
  refine Tr.region ?_
  refine TL.val (YF.assign rfl) (by decide) ?_
  refine TL.end ?_
  refine Arr.seq ?_
  refine Tr.block ?_
  refine Tr.loop (I := fun mq a w => ∃ (t : Nat) (y : Nat → Nat) (k : Nat → Nat), mq = 32 - t ∧ (t ≤ 32) ∧ (HY single (HE G K) (fun q => Yq s g c (fun q => V single (x q)) q + V single (st q)) (Nq s g c (fun q => V single (x q))) x st (18 * t) y k) ∧ Agree 134 [(0, .pointer (some ⟨bf, 0, none⟩)), (1, .int .i64 g), (2, .int .i64 c), (6, .int .i64 t)] a ∧ HS w0 ((bf, .cells (va 3204 (zl (ff wd (some ⟨bsi, 0, none⟩) bm) (4 + 576 * c) k)) 112 (0, 0)) :: (bm, .cells (va 2548 (zl z0 (244 + 576 * (2 * g + c)) y)) 91 (0, 0)) :: H) w) (32) ?_ ?_
  · intro a w ha hw
    exact ⟨0, x, st, rfl, by omega, HY.zero, (ha.cons rfl (ha.cons rfl (ha.cons rfl (ha.cons rfl (ha.nil))))), hw⟩
  rintro _ a w ⟨t, y, k, rfl, ht, hH, ha, hw⟩
  refine Tr.use ha hw ?_
  refine Tr.seq ?_
  refine Tr.seq ?_
  refine Tr.region ?_
  refine TL.val (YF.move rfl) (by decide) ?_
  refine TL.val (YF.lss rfl rfl rfl) (by decide) ?_
  refine TL.end ?_
  refine Arr.seq ?_
  refine Tr.cond rfl (fun h13 => ?_) (fun h13 => ?_)
  ·
    replace h13 := of_decide_eq_true h13
    refine Tr.skipE ?_
    refine Arr.seq ?_
    refine Tr.seq ?_
    refine Tr.block ?_
    refine Tr.seq ?_
    refine Tr.region ?_
    refine TL.val (YF.move rfl) (by decide) ?_
    refine TL.val (YF.nilCheck rfl) (by decide) ?_
    refine TL.val (YF.fieldAddr fo_112_1 rfl rfl) (by decide) ?_
    refine TL.val (YF.load (v := .pointer (some ⟨bsi, 0, none⟩)) 0 sc_86 rfl rfl (va_get (by decide) (ff_at (by decide) (by omega)))) (by decide) ?_
    refine TL.val (YF.move rfl) (by decide) ?_
    refine TL.val (YF.move rfl) (by decide) ?_
    refine TL.val (YF.nilCheck rfl) (by decide) ?_
    refine TL.val (YF.fieldAddr fo_114_8 rfl rfl) (by decide) ?_
    refine TL.val (YF.indexArr arr_31 rfl rfl (by first | decide | omega) rfl) (by decide) ?_
    refine TL.val (YF.indexArr arr_30 rfl rfl (by first | decide | omega) (show _ = 30 + 2 * g + c by omega)) (by decide) ?_
    refine TL.val (YF.load (i + 2) sc_3 rfl hi (sd_int (by omega))) (by decide) ?_
    refine TL.val (YF.assign rfl) (by decide) ?_
    refine TL.end ?_
    refine Arr.seq ?_
    refine Tr.seq ?_
    refine Tr.seq ?_
    refine Tr.cutN (R := fun a w => ∃ bb : Bool, (bb = true ↔ s (26 + 2 * g + c) = 1 ∧ s (34 + 2 * g + c) = 1 ∧ t < 2) ∧ Agree 134 [(0, .pointer (some ⟨bf, 0, none⟩)), (1, .int .i64 g), (2, .int .i64 c), (6, .int .i64 t), (7, .int .i64 (s (30 + 2 * g + c))), (56, .bool bb)] a ∧ HS w0 ((bf, .cells (va 3204 (zl (ff wd (some ⟨bsi, 0, none⟩) bm) (4 + 576 * c) k)) 112 (0, 0)) :: (bm, .cells (va 2548 (zl z0 (244 + 576 * (2 * g + c)) y)) 91 (0, 0)) :: H) w) ?_ ?_
    ·
      refine Tr.region ?_
      refine TL.val (YF.move rfl) (by decide) ?_
      refine TL.val (YF.nilCheck rfl) (by decide) ?_
      refine TL.val (YF.fieldAddr fo_112_1 rfl rfl) (by decide) ?_
      refine TL.val (YF.load (v := .pointer (some ⟨bsi, 0, none⟩)) 0 sc_86 rfl rfl (va_get (by decide) (ff_at (by decide) (by omega)))) (by decide) ?_
      refine TL.val (YF.move rfl) (by decide) ?_
      refine TL.val (YF.move rfl) (by decide) ?_
      refine TL.val (YF.nilCheck rfl) (by decide) ?_
      refine TL.val (YF.fieldAddr fo_114_7 rfl rfl) (by decide) ?_
      refine TL.val (YF.indexArr arr_31 rfl rfl (by first | decide | omega) rfl) (by decide) ?_
      refine TL.val (YF.indexArr arr_30 rfl rfl (by first | decide | omega) (show _ = 26 + 2 * g + c by omega)) (by decide) ?_
      refine TL.val (YF.load (i + 2) sc_3 rfl hi (sd_int (by omega))) (by decide) ?_
      by_cases h1 : s (26 + 2 * g + c) = 1
      all_goals by_cases h2 : s (34 + 2 * g + c) = 1
      all_goals by_cases h3 : t < 2
      ·
        first
          | refine TL.val (YF.eql (b := true) rfl rfl (decide_eq_true h1)) (by decide) ?_
          | refine TL.val (YF.eql (b := false) rfl rfl (decide_eq_false h1)) (by decide) ?_
        refine TL.val (YF.move rfl) (by decide) ?_
        first
          | refine TL.gno rfl (by decide) ?_
          | refine TL.gval rfl (YF.move rfl) (by decide) ?_
        first
          | refine TL.gno rfl (by decide) ?_
          | refine TL.gval rfl (YF.nilCheck rfl) (by decide) ?_
        first
          | refine TL.gno rfl (by decide) ?_
          | refine TL.gval rfl (YF.fieldAddr fo_112_1 rfl rfl) (by decide) ?_
        first
          | refine TL.gno rfl (by decide) ?_
          | refine TL.gval rfl (YF.load (v := .pointer (some ⟨bsi, 0, none⟩)) 0 sc_86 rfl rfl (va_get (by decide) (ff_at (by decide) (by omega)))) (by decide) ?_
        first
          | refine TL.gno rfl (by decide) ?_
          | refine TL.gval rfl (YF.move rfl) (by decide) ?_
        first
          | refine TL.gno rfl (by decide) ?_
          | refine TL.gval rfl (YF.move rfl) (by decide) ?_
        first
          | refine TL.gno rfl (by decide) ?_
          | refine TL.gval rfl (YF.nilCheck rfl) (by decide) ?_
        first
          | refine TL.gno rfl (by decide) ?_
          | refine TL.gval rfl (YF.fieldAddr fo_114_9 rfl rfl) (by decide) ?_
        first
          | refine TL.gno rfl (by decide) ?_
          | refine TL.gval rfl (YF.indexArr arr_31 rfl rfl (by first | decide | omega) rfl) (by decide) ?_
        first
          | refine TL.gno rfl (by decide) ?_
          | refine TL.gval rfl (YF.indexArr arr_30 rfl rfl (by first | decide | omega) (show _ = 34 + 2 * g + c by omega)) (by decide) ?_
        first
          | refine TL.gno rfl (by decide) ?_
          | refine TL.gval rfl (YF.load (i + 2) sc_3 rfl hi (sd_int (by omega))) (by decide) ?_
        first
          | refine TL.gval rfl (YF.eql (b := true) rfl rfl (decide_eq_true h2)) (by decide) ?_
          | refine TL.gval rfl (YF.eql (b := false) rfl rfl (decide_eq_false h2)) (by decide) ?_
          | refine TL.gno rfl (by decide) ?_
        first
          | refine TL.val (YF.pickT rfl rfl) (by decide) ?_
          | refine TL.val (YF.pickF rfl rfl) (by decide) ?_
          | refine TL.val (YF.pick rfl rfl rfl rfl) (by decide) ?_
        refine TL.val (YF.move rfl) (by decide) ?_
        first
          | refine TL.gno rfl (by decide) ?_
          | refine TL.gval rfl (YF.move rfl) (by decide) ?_
        first
          | refine TL.gval rfl (YF.lss (b := true) rfl rfl (decide_eq_true (by omega))) (by decide) ?_
          | refine TL.gval rfl (YF.lss (b := false) rfl rfl (decide_eq_false (by omega))) (by decide) ?_
          | refine TL.gno rfl (by decide) ?_
        first
          | refine TL.val (YF.pickT rfl rfl) (by decide) ?_
          | refine TL.val (YF.pickF rfl rfl) (by decide) ?_
          | refine TL.val (YF.pick rfl rfl rfl rfl) (by decide) ?_
        refine TL.end ?_
        refine Arr.meet ?_
        exact fun a w ha hw => ⟨_, ⟨(fun hq => by (first | exact ⟨h1, h2, h3⟩ | (cases hq))), (fun hq => by (first | rfl | exact absurd hq.1 h1 | exact absurd hq.2.1 h2 | exact absurd hq.2.2 h3))⟩, (ha.cons rfl (ha.cons rfl (ha.cons rfl (ha.cons rfl (ha.cons rfl (ha.cons rfl (ha.nil))))))), hw⟩
      ·
        first
          | refine TL.val (YF.eql (b := true) rfl rfl (decide_eq_true h1)) (by decide) ?_
          | refine TL.val (YF.eql (b := false) rfl rfl (decide_eq_false h1)) (by decide) ?_
        refine TL.val (YF.move rfl) (by decide) ?_
        first
          | refine TL.gno rfl (by decide) ?_
          | refine TL.gval rfl (YF.move rfl) (by decide) ?_
        first
          | refine TL.gno rfl (by decide) ?_
          | refine TL.gval rfl (YF.nilCheck rfl) (by decide) ?_
        first
          | refine TL.gno rfl (by decide) ?_
          | refine TL.gval rfl (YF.fieldAddr fo_112_1 rfl rfl) (by decide) ?_
        first
          | refine TL.gno rfl (by decide) ?_
          | refine TL.gval rfl (YF.load (v := .pointer (some ⟨bsi, 0, none⟩)) 0 sc_86 rfl rfl (va_get (by decide) (ff_at (by decide) (by omega)))) (by decide) ?_
        first
          | refine TL.gno rfl (by decide) ?_
          | refine TL.gval rfl (YF.move rfl) (by decide) ?_
        first
          | refine TL.gno rfl (by decide) ?_
          | refine TL.gval rfl (YF.move rfl) (by decide) ?_
        first
          | refine TL.gno rfl (by decide) ?_
          | refine TL.gval rfl (YF.nilCheck rfl) (by decide) ?_
        first
          | refine TL.gno rfl (by decide) ?_
          | refine TL.gval rfl (YF.fieldAddr fo_114_9 rfl rfl) (by decide) ?_
        first
          | refine TL.gno rfl (by decide) ?_
          | refine TL.gval rfl (YF.indexArr arr_31 rfl rfl (by first | decide | omega) rfl) (by decide) ?_
        first
          | refine TL.gno rfl (by decide) ?_
          | refine TL.gval rfl (YF.indexArr arr_30 rfl rfl (by first | decide | omega) (show _ = 34 + 2 * g + c by omega)) (by decide) ?_
        first
          | refine TL.gno rfl (by decide) ?_
          | refine TL.gval rfl (YF.load (i + 2) sc_3 rfl hi (sd_int (by omega))) (by decide) ?_
        first
          | refine TL.gval rfl (YF.eql (b := true) rfl rfl (decide_eq_true h2)) (by decide) ?_
          | refine TL.gval rfl (YF.eql (b := false) rfl rfl (decide_eq_false h2)) (by decide) ?_
          | refine TL.gno rfl (by decide) ?_
        first
          | refine TL.val (YF.pickT rfl rfl) (by decide) ?_
          | refine TL.val (YF.pickF rfl rfl) (by decide) ?_
          | refine TL.val (YF.pick rfl rfl rfl rfl) (by decide) ?_
        refine TL.val (YF.move rfl) (by decide) ?_
        first
          | refine TL.gno rfl (by decide) ?_
          | refine TL.gval rfl (YF.move rfl) (by decide) ?_
        first
          | refine TL.gval rfl (YF.lss (b := true) rfl rfl (decide_eq_true (by omega))) (by decide) ?_
          | refine TL.gval rfl (YF.lss (b := false) rfl rfl (decide_eq_false (by omega))) (by decide) ?_
          | refine TL.gno rfl (by decide) ?_
        first
          | refine TL.val (YF.pickT rfl rfl) (by decide) ?_
          | refine TL.val (YF.pickF rfl rfl) (by decide) ?_
          | refine TL.val (YF.pick rfl rfl rfl rfl) (by decide) ?_
        refine TL.end ?_
        refine Arr.meet ?_
        exact fun a w ha hw => ⟨_, ⟨(fun hq => by (first | exact ⟨h1, h2, h3⟩ | (cases hq))), (fun hq => by (first | rfl | exact absurd hq.1 h1 | exact absurd hq.2.1 h2 | exact absurd hq.2.2 h3))⟩, (ha.cons rfl (ha.cons rfl (ha.cons rfl (ha.cons rfl (ha.cons rfl (ha.cons rfl (ha.nil))))))), hw⟩
      ·
        first
          | refine TL.val (YF.eql (b := true) rfl rfl (decide_eq_true h1)) (by decide) ?_
          | refine TL.val (YF.eql (b := false) rfl rfl (decide_eq_false h1)) (by decide) ?_
        refine TL.val (YF.move rfl) (by decide) ?_
        first
          | refine TL.gno rfl (by decide) ?_
          | refine TL.gval rfl (YF.move rfl) (by decide) ?_
        first
          | refine TL.gno rfl (by decide) ?_
          | refine TL.gval rfl (YF.nilCheck rfl) (by decide) ?_
        first
          | refine TL.gno rfl (by decide) ?_
          | refine TL.gval rfl (YF.fieldAddr fo_112_1 rfl rfl) (by decide) ?_
        first
          | refine TL.gno rfl (by decide) ?_
          | refine TL.gval rfl (YF.load (v := .pointer (some ⟨bsi, 0, none⟩)) 0 sc_86 rfl rfl (va_get (by decide) (ff_at (by decide) (by omega)))) (by decide) ?_
        first
          | refine TL.gno rfl (by decide) ?_
          | refine TL.gval rfl (YF.move rfl) (by decide) ?_
        first
          | refine TL.gno rfl (by decide) ?_
          | refine TL.gval rfl (YF.move rfl) (by decide) ?_
        first
          | refine TL.gno rfl (by decide) ?_
          | refine TL.gval rfl (YF.nilCheck rfl) (by decide) ?_
        first
          | refine TL.gno rfl (by decide) ?_
          | refine TL.gval rfl (YF.fieldAddr fo_114_9 rfl rfl) (by decide) ?_
        first
          | refine TL.gno rfl (by decide) ?_
          | refine TL.gval rfl (YF.indexArr arr_31 rfl rfl (by first | decide | omega) rfl) (by decide) ?_
        first
          | refine TL.gno rfl (by decide) ?_
          | refine TL.gval rfl (YF.indexArr arr_30 rfl rfl (by first | decide | omega) (show _ = 34 + 2 * g + c by omega)) (by decide) ?_
        first
          | refine TL.gno rfl (by decide) ?_
          | refine TL.gval rfl (YF.load (i + 2) sc_3 rfl hi (sd_int (by omega))) (by decide) ?_
        first
          | refine TL.gval rfl (YF.eql (b := true) rfl rfl (decide_eq_true h2)) (by decide) ?_
          | refine TL.gval rfl (YF.eql (b := false) rfl rfl (decide_eq_false h2)) (by decide) ?_
          | refine TL.gno rfl (by decide) ?_
        first
          | refine TL.val (YF.pickT rfl rfl) (by decide) ?_
          | refine TL.val (YF.pickF rfl rfl) (by decide) ?_
          | refine TL.val (YF.pick rfl rfl rfl rfl) (by decide) ?_
        refine TL.val (YF.move rfl) (by decide) ?_
        first
          | refine TL.gno rfl (by decide) ?_
          | refine TL.gval rfl (YF.move rfl) (by decide) ?_
        first
          | refine TL.gval rfl (YF.lss (b := true) rfl rfl (decide_eq_true (by omega))) (by decide) ?_
          | refine TL.gval rfl (YF.lss (b := false) rfl rfl (decide_eq_false (by omega))) (by decide) ?_
          | refine TL.gno rfl (by decide) ?_
        first
          | refine TL.val (YF.pickT rfl rfl) (by decide) ?_
          | refine TL.val (YF.pickF rfl rfl) (by decide) ?_
          | refine TL.val (YF.pick rfl rfl rfl rfl) (by decide) ?_
        refine TL.end ?_
        refine Arr.meet ?_
        exact fun a w ha hw => ⟨_, ⟨(fun hq => by (first | exact ⟨h1, h2, h3⟩ | (cases hq))), (fun hq => by (first | rfl | exact absurd hq.1 h1 | exact absurd hq.2.1 h2 | exact absurd hq.2.2 h3))⟩, (ha.cons rfl (ha.cons rfl (ha.cons rfl (ha.cons rfl (ha.cons rfl (ha.cons rfl (ha.nil))))))), hw⟩
      ·
        first
          | refine TL.val (YF.eql (b := true) rfl rfl (decide_eq_true h1)) (by decide) ?_
          | refine TL.val (YF.eql (b := false) rfl rfl (decide_eq_false h1)) (by decide) ?_
        refine TL.val (YF.move rfl) (by decide) ?_
        first
          | refine TL.gno rfl (by decide) ?_
          | refine TL.gval rfl (YF.move rfl) (by decide) ?_
        first
          | refine TL.gno rfl (by decide) ?_
          | refine TL.gval rfl (YF.nilCheck rfl) (by decide) ?_
        first
          | refine TL.gno rfl (by decide) ?_
          | refine TL.gval rfl (YF.fieldAddr fo_112_1 rfl rfl) (by decide) ?_
        first
          | refine TL.gno rfl (by decide) ?_
          | refine TL.gval rfl (YF.load (v := .pointer (some ⟨bsi, 0, none⟩)) 0 sc_86 rfl rfl (va_get (by decide) (ff_at (by decide) (by omega)))) (by decide) ?_
        first
          | refine TL.gno rfl (by decide) ?_
          | refine TL.gval rfl (YF.move rfl) (by decide) ?_
        first
          | refine TL.gno rfl (by decide) ?_
          | refine TL.gval rfl (YF.move rfl) (by decide) ?_
        first
          | refine TL.gno rfl (by decide) ?_
          | refine TL.gval rfl (YF.nilCheck rfl) (by decide) ?_
        first
          | refine TL.gno rfl (by decide) ?_
          | refine TL.gval rfl (YF.fieldAddr fo_114_9 rfl rfl) (by decide) ?_
        first
          | refine TL.gno rfl (by decide) ?_
          | refine TL.gval rfl (YF.indexArr arr_31 rfl rfl (by first | decide | omega) rfl) (by decide) ?_
        first
          | refine TL.gno rfl (by decide) ?_
          | refine TL.gval rfl (YF.indexArr arr_30 rfl rfl (by first | decide | omega) (show _ = 34 + 2 * g + c by omega)) (by decide) ?_
        first
          | refine TL.gno rfl (by decide) ?_
          | refine TL.gval rfl (YF.load (i + 2) sc_3 rfl hi (sd_int (by omega))) (by decide) ?_
        first
          | refine TL.gval rfl (YF.eql (b := true) rfl rfl (decide_eq_true h2)) (by decide) ?_
          | refine TL.gval rfl (YF.eql (b := false) rfl rfl (decide_eq_false h2)) (by decide) ?_
          | refine TL.gno rfl (by decide) ?_
        first
          | refine TL.val (YF.pickT rfl rfl) (by decide) ?_
          | refine TL.val (YF.pickF rfl rfl) (by decide) ?_
          | refine TL.val (YF.pick rfl rfl rfl rfl) (by decide) ?_
        refine TL.val (YF.move rfl) (by decide) ?_
        first
          | refine TL.gno rfl (by decide) ?_
          | refine TL.gval rfl (YF.move rfl) (by decide) ?_
        first
          | refine TL.gval rfl (YF.lss (b := true) rfl rfl (decide_eq_true (by omega))) (by decide) ?_
          | refine TL.gval rfl (YF.lss (b := false) rfl rfl (decide_eq_false (by omega))) (by decide) ?_
          | refine TL.gno rfl (by decide) ?_
        first
          | refine TL.val (YF.pickT rfl rfl) (by decide) ?_
          | refine TL.val (YF.pickF rfl rfl) (by decide) ?_
          | refine TL.val (YF.pick rfl rfl rfl rfl) (by decide) ?_
        refine TL.end ?_
        refine Arr.meet ?_
        exact fun a w ha hw => ⟨_, ⟨(fun hq => by (first | exact ⟨h1, h2, h3⟩ | (cases hq))), (fun hq => by (first | rfl | exact absurd hq.1 h1 | exact absurd hq.2.1 h2 | exact absurd hq.2.2 h3))⟩, (ha.cons rfl (ha.cons rfl (ha.cons rfl (ha.cons rfl (ha.cons rfl (ha.cons rfl (ha.nil))))))), hw⟩
      ·
        first
          | refine TL.val (YF.eql (b := true) rfl rfl (decide_eq_true h1)) (by decide) ?_
          | refine TL.val (YF.eql (b := false) rfl rfl (decide_eq_false h1)) (by decide) ?_
        refine TL.val (YF.move rfl) (by decide) ?_
        first
          | refine TL.gno rfl (by decide) ?_
          | refine TL.gval rfl (YF.move rfl) (by decide) ?_
        first
          | refine TL.gno rfl (by decide) ?_
          | refine TL.gval rfl (YF.nilCheck rfl) (by decide) ?_
        first
          | refine TL.gno rfl (by decide) ?_
          | refine TL.gval rfl (YF.fieldAddr fo_112_1 rfl rfl) (by decide) ?_
        first
          | refine TL.gno rfl (by decide) ?_
          | refine TL.gval rfl (YF.load (v := .pointer (some ⟨bsi, 0, none⟩)) 0 sc_86 rfl rfl (va_get (by decide) (ff_at (by decide) (by omega)))) (by decide) ?_
        first
          | refine TL.gno rfl (by decide) ?_
          | refine TL.gval rfl (YF.move rfl) (by decide) ?_
        first
          | refine TL.gno rfl (by decide) ?_
          | refine TL.gval rfl (YF.move rfl) (by decide) ?_
        first
          | refine TL.gno rfl (by decide) ?_
          | refine TL.gval rfl (YF.nilCheck rfl) (by decide) ?_
        first
          | refine TL.gno rfl (by decide) ?_
          | refine TL.gval rfl (YF.fieldAddr fo_114_9 rfl rfl) (by decide) ?_
        first
          | refine TL.gno rfl (by decide) ?_
          | refine TL.gval rfl (YF.indexArr arr_31 rfl rfl (by first | decide | omega) rfl) (by decide) ?_
        first
          | refine TL.gno rfl (by decide) ?_
          | refine TL.gval rfl (YF.indexArr arr_30 rfl rfl (by first | decide | omega) (show _ = 34 + 2 * g + c by omega)) (by decide) ?_
        first
          | refine TL.gno rfl (by decide) ?_
          | refine TL.gval rfl (YF.load (i + 2) sc_3 rfl hi (sd_int (by omega))) (by decide) ?_
        first
          | refine TL.gval rfl (YF.eql (b := true) rfl rfl (decide_eq_true h2)) (by decide) ?_
          | refine TL.gval rfl (YF.eql (b := false) rfl rfl (decide_eq_false h2)) (by decide) ?_
          | refine TL.gno rfl (by decide) ?_
        first
          | refine TL.val (YF.pickT rfl rfl) (by decide) ?_
          | refine TL.val (YF.pickF rfl rfl) (by decide) ?_
          | refine TL.val (YF.pick rfl rfl rfl rfl) (by decide) ?_
        refine TL.val (YF.move rfl) (by decide) ?_
        first
          | refine TL.gno rfl (by decide) ?_
          | refine TL.gval rfl (YF.move rfl) (by decide) ?_
        first
          | refine TL.gval rfl (YF.lss (b := true) rfl rfl (decide_eq_true (by omega))) (by decide) ?_
          | refine TL.gval rfl (YF.lss (b := false) rfl rfl (decide_eq_false (by omega))) (by decide) ?_
          | refine TL.gno rfl (by decide) ?_
        first
          | refine TL.val (YF.pickT rfl rfl) (by decide) ?_
          | refine TL.val (YF.pickF rfl rfl) (by decide) ?_
          | refine TL.val (YF.pick rfl rfl rfl rfl) (by decide) ?_
        refine TL.end ?_
        refine Arr.meet ?_
        exact fun a w ha hw => ⟨_, ⟨(fun hq => by (first | exact ⟨h1, h2, h3⟩ | (cases hq))), (fun hq => by (first | rfl | exact absurd hq.1 h1 | exact absurd hq.2.1 h2 | exact absurd hq.2.2 h3))⟩, (ha.cons rfl (ha.cons rfl (ha.cons rfl (ha.cons rfl (ha.cons rfl (ha.cons rfl (ha.nil))))))), hw⟩
      ·
        first
          | refine TL.val (YF.eql (b := true) rfl rfl (decide_eq_true h1)) (by decide) ?_
          | refine TL.val (YF.eql (b := false) rfl rfl (decide_eq_false h1)) (by decide) ?_
        refine TL.val (YF.move rfl) (by decide) ?_
        first
          | refine TL.gno rfl (by decide) ?_
          | refine TL.gval rfl (YF.move rfl) (by decide) ?_
        first
          | refine TL.gno rfl (by decide) ?_
          | refine TL.gval rfl (YF.nilCheck rfl) (by decide) ?_
        first
          | refine TL.gno rfl (by decide) ?_
          | refine TL.gval rfl (YF.fieldAddr fo_112_1 rfl rfl) (by decide) ?_
        first
          | refine TL.gno rfl (by decide) ?_
          | refine TL.gval rfl (YF.load (v := .pointer (some ⟨bsi, 0, none⟩)) 0 sc_86 rfl rfl (va_get (by decide) (ff_at (by decide) (by omega)))) (by decide) ?_
        first
          | refine TL.gno rfl (by decide) ?_
          | refine TL.gval rfl (YF.move rfl) (by decide) ?_
        first
          | refine TL.gno rfl (by decide) ?_
          | refine TL.gval rfl (YF.move rfl) (by decide) ?_
        first
          | refine TL.gno rfl (by decide) ?_
          | refine TL.gval rfl (YF.nilCheck rfl) (by decide) ?_
        first
          | refine TL.gno rfl (by decide) ?_
          | refine TL.gval rfl (YF.fieldAddr fo_114_9 rfl rfl) (by decide) ?_
        first
          | refine TL.gno rfl (by decide) ?_
          | refine TL.gval rfl (YF.indexArr arr_31 rfl rfl (by first | decide | omega) rfl) (by decide) ?_
        first
          | refine TL.gno rfl (by decide) ?_
          | refine TL.gval rfl (YF.indexArr arr_30 rfl rfl (by first | decide | omega) (show _ = 34 + 2 * g + c by omega)) (by decide) ?_
        first
          | refine TL.gno rfl (by decide) ?_
          | refine TL.gval rfl (YF.load (i + 2) sc_3 rfl hi (sd_int (by omega))) (by decide) ?_
        first
          | refine TL.gval rfl (YF.eql (b := true) rfl rfl (decide_eq_true h2)) (by decide) ?_
          | refine TL.gval rfl (YF.eql (b := false) rfl rfl (decide_eq_false h2)) (by decide) ?_
          | refine TL.gno rfl (by decide) ?_
        first
          | refine TL.val (YF.pickT rfl rfl) (by decide) ?_
          | refine TL.val (YF.pickF rfl rfl) (by decide) ?_
          | refine TL.val (YF.pick rfl rfl rfl rfl) (by decide) ?_
        refine TL.val (YF.move rfl) (by decide) ?_
        first
          | refine TL.gno rfl (by decide) ?_
          | refine TL.gval rfl (YF.move rfl) (by decide) ?_
        first
          | refine TL.gval rfl (YF.lss (b := true) rfl rfl (decide_eq_true (by omega))) (by decide) ?_
          | refine TL.gval rfl (YF.lss (b := false) rfl rfl (decide_eq_false (by omega))) (by decide) ?_
          | refine TL.gno rfl (by decide) ?_
        first
          | refine TL.val (YF.pickT rfl rfl) (by decide) ?_
          | refine TL.val (YF.pickF rfl rfl) (by decide) ?_
          | refine TL.val (YF.pick rfl rfl rfl rfl) (by decide) ?_
        refine TL.end ?_
        refine Arr.meet ?_
        exact fun a w ha hw => ⟨_, ⟨(fun hq => by (first | exact ⟨h1, h2, h3⟩ | (cases hq))), (fun hq => by (first | rfl | exact absurd hq.1 h1 | exact absurd hq.2.1 h2 | exact absurd hq.2.2 h3))⟩, (ha.cons rfl (ha.cons rfl (ha.cons rfl (ha.cons rfl (ha.cons rfl (ha.cons rfl (ha.nil))))))), hw⟩
      ·
        first
          | refine TL.val (YF.eql (b := true) rfl rfl (decide_eq_true h1)) (by decide) ?_
          | refine TL.val (YF.eql (b := false) rfl rfl (decide_eq_false h1)) (by decide) ?_
        refine TL.val (YF.move rfl) (by decide) ?_
        first
          | refine TL.gno rfl (by decide) ?_
          | refine TL.gval rfl (YF.move rfl) (by decide) ?_
        first
          | refine TL.gno rfl (by decide) ?_
          | refine TL.gval rfl (YF.nilCheck rfl) (by decide) ?_
        first
          | refine TL.gno rfl (by decide) ?_
          | refine TL.gval rfl (YF.fieldAddr fo_112_1 rfl rfl) (by decide) ?_
        first
          | refine TL.gno rfl (by decide) ?_
          | refine TL.gval rfl (YF.load (v := .pointer (some ⟨bsi, 0, none⟩)) 0 sc_86 rfl rfl (va_get (by decide) (ff_at (by decide) (by omega)))) (by decide) ?_
        first
          | refine TL.gno rfl (by decide) ?_
          | refine TL.gval rfl (YF.move rfl) (by decide) ?_
        first
          | refine TL.gno rfl (by decide) ?_
          | refine TL.gval rfl (YF.move rfl) (by decide) ?_
        first
          | refine TL.gno rfl (by decide) ?_
          | refine TL.gval rfl (YF.nilCheck rfl) (by decide) ?_
        first
          | refine TL.gno rfl (by decide) ?_
          | refine TL.gval rfl (YF.fieldAddr fo_114_9 rfl rfl) (by decide) ?_
        first
          | refine TL.gno rfl (by decide) ?_
          | refine TL.gval rfl (YF.indexArr arr_31 rfl rfl (by first | decide | omega) rfl) (by decide) ?_
        first
          | refine TL.gno rfl (by decide) ?_
          | refine TL.gval rfl (YF.indexArr arr_30 rfl rfl (by first | decide | omega) (show _ = 34 + 2 * g + c by omega)) (by decide) ?_
        first
          | refine TL.gno rfl (by decide) ?_
          | refine TL.gval rfl (YF.load (i + 2) sc_3 rfl hi (sd_int (by omega))) (by decide) ?_
        first
          | refine TL.gval rfl (YF.eql (b := true) rfl rfl (decide_eq_true h2)) (by decide) ?_
          | refine TL.gval rfl (YF.eql (b := false) rfl rfl (decide_eq_false h2)) (by decide) ?_
          | refine TL.gno rfl (by decide) ?_
        first
          | refine TL.val (YF.pickT rfl rfl) (by decide) ?_
          | refine TL.val (YF.pickF rfl rfl) (by decide) ?_
          | refine TL.val (YF.pick rfl rfl rfl rfl) (by decide) ?_
        refine TL.val (YF.move rfl) (by decide) ?_
        first
          | refine TL.gno rfl (by decide) ?_
          | refine TL.gval rfl (YF.move rfl) (by decide) ?_
        first
          | refine TL.gval rfl (YF.lss (b := true) rfl rfl (decide_eq_true (by omega))) (by decide) ?_
          | refine TL.gval rfl (YF.lss (b := false) rfl rfl (decide_eq_false (by omega))) (by decide) ?_
          | refine TL.gno rfl (by decide) ?_
        first
          | refine TL.val (YF.pickT rfl rfl) (by decide) ?_
          | refine TL.val (YF.pickF rfl rfl) (by decide) ?_
          | refine TL.val (YF.pick rfl rfl rfl rfl) (by decide) ?_
        refine TL.end ?_
        refine Arr.meet ?_
        exact fun a w ha hw => ⟨_, ⟨(fun hq => by (first | exact ⟨h1, h2, h3⟩ | (cases hq))), (fun hq => by (first | rfl | exact absurd hq.1 h1 | exact absurd hq.2.1 h2 | exact absurd hq.2.2 h3))⟩, (ha.cons rfl (ha.cons rfl (ha.cons rfl (ha.cons rfl (ha.cons rfl (ha.cons rfl (ha.nil))))))), hw⟩
      ·
        first
          | refine TL.val (YF.eql (b := true) rfl rfl (decide_eq_true h1)) (by decide) ?_
          | refine TL.val (YF.eql (b := false) rfl rfl (decide_eq_false h1)) (by decide) ?_
        refine TL.val (YF.move rfl) (by decide) ?_
        first
          | refine TL.gno rfl (by decide) ?_
          | refine TL.gval rfl (YF.move rfl) (by decide) ?_
        first
          | refine TL.gno rfl (by decide) ?_
          | refine TL.gval rfl (YF.nilCheck rfl) (by decide) ?_
        first
          | refine TL.gno rfl (by decide) ?_
          | refine TL.gval rfl (YF.fieldAddr fo_112_1 rfl rfl) (by decide) ?_
        first
          | refine TL.gno rfl (by decide) ?_
          | refine TL.gval rfl (YF.load (v := .pointer (some ⟨bsi, 0, none⟩)) 0 sc_86 rfl rfl (va_get (by decide) (ff_at (by decide) (by omega)))) (by decide) ?_
        first
          | refine TL.gno rfl (by decide) ?_
          | refine TL.gval rfl (YF.move rfl) (by decide) ?_
        first
          | refine TL.gno rfl (by decide) ?_
          | refine TL.gval rfl (YF.move rfl) (by decide) ?_
        first
          | refine TL.gno rfl (by decide) ?_
          | refine TL.gval rfl (YF.nilCheck rfl) (by decide) ?_
        first
          | refine TL.gno rfl (by decide) ?_
          | refine TL.gval rfl (YF.fieldAddr fo_114_9 rfl rfl) (by decide) ?_
        first
          | refine TL.gno rfl (by decide) ?_
          | refine TL.gval rfl (YF.indexArr arr_31 rfl rfl (by first | decide | omega) rfl) (by decide) ?_
        first
          | refine TL.gno rfl (by decide) ?_
          | refine TL.gval rfl (YF.indexArr arr_30 rfl rfl (by first | decide | omega) (show _ = 34 + 2 * g + c by omega)) (by decide) ?_
        first
          | refine TL.gno rfl (by decide) ?_
          | refine TL.gval rfl (YF.load (i + 2) sc_3 rfl hi (sd_int (by omega))) (by decide) ?_
        first
          | refine TL.gval rfl (YF.eql (b := true) rfl rfl (decide_eq_true h2)) (by decide) ?_
          | refine TL.gval rfl (YF.eql (b := false) rfl rfl (decide_eq_false h2)) (by decide) ?_
          | refine TL.gno rfl (by decide) ?_
        first
          | refine TL.val (YF.pickT rfl rfl) (by decide) ?_
          | refine TL.val (YF.pickF rfl rfl) (by decide) ?_
          | refine TL.val (YF.pick rfl rfl rfl rfl) (by decide) ?_
        refine TL.val (YF.move rfl) (by decide) ?_
        first
          | refine TL.gno rfl (by decide) ?_
          | refine TL.gval rfl (YF.move rfl) (by decide) ?_
        first
          | refine TL.gval rfl (YF.lss (b := true) rfl rfl (decide_eq_true (by omega))) (by decide) ?_
          | refine TL.gval rfl (YF.lss (b := false) rfl rfl (decide_eq_false (by omega))) (by decide) ?_
          | refine TL.gno rfl (by decide) ?_
        first
          | refine TL.val (YF.pickT rfl rfl) (by decide) ?_
          | refine TL.val (YF.pickF rfl rfl) (by decide) ?_
          | refine TL.val (YF.pick rfl rfl rfl rfl) (by decide) ?_
        refine TL.end ?_
        refine Arr.meet ?_
        exact fun a w ha hw => ⟨_, ⟨(fun hq => by (first | exact ⟨h1, h2, h3⟩ | (cases hq))), (fun hq => by (first | rfl | exact absurd hq.1 h1 | exact absurd hq.2.1 h2 | exact absurd hq.2.2 h3))⟩, (ha.cons rfl (ha.cons rfl (ha.cons rfl (ha.cons rfl (ha.cons rfl (ha.cons rfl (ha.nil))))))), hw⟩
    rintro a w ⟨bb, hbb, ha, hw⟩
    refine Arr.use ha hw ?_
    refine Arr.seq ?_
    refine Tr.cutN (R := fun a w => Agree 134 [(0, .pointer (some ⟨bf, 0, none⟩)), (1, .int .i64 g), (2, .int .i64 c), (6, .int .i64 t), (7, .int .i64 (btOf s g c t : Nat))] a ∧ HS w0 ((bf, .cells (va 3204 (zl (ff wd (some ⟨bsi, 0, none⟩) bm) (4 + 576 * c) k)) 112 (0, 0)) :: (bm, .cells (va 2548 (zl z0 (244 + 576 * (2 * g + c)) y)) 91 (0, 0)) :: H) w) ?_ ?_
    ·
      refine Tr.cond rfl (fun h56 => ?_) (fun h56 => ?_)
      ·
        refine Tr.region ?_
        refine TL.val (YF.assign rfl) (by decide) ?_
        refine TL.end ?_
        refine Arr.meet ?_
        first
          | (rw [show ((btOf s g c t : Nat) : Int) = 0 by unfold btOf; rw [if_pos (hbb.1 h56)]; rfl]
             exact fun a w ha hw => ⟨(ha.cons rfl (ha.cons rfl (ha.cons rfl (ha.cons rfl (ha.cons rfl (ha.nil)))))), hw⟩)
          | (rw [show ((btOf s g c t : Nat) : Int) = s (30 + 2 * g + c) by unfold btOf; rw [if_neg (fun hq => by rw [hbb.2 hq] at h56; cases h56)]; omega]
             exact fun a w ha hw => ⟨(ha.cons rfl (ha.cons rfl (ha.cons rfl (ha.cons rfl (ha.cons rfl (ha.nil)))))), hw⟩)
      ·
        refine Tr.skipE ?_
        refine Arr.meet ?_
        first
          | (rw [show ((btOf s g c t : Nat) : Int) = 0 by unfold btOf; rw [if_pos (hbb.1 h56)]; rfl]
             exact fun a w ha hw => ⟨(ha.cons rfl (ha.cons rfl (ha.cons rfl (ha.cons rfl (ha.cons rfl (ha.nil)))))), hw⟩)
          | (rw [show ((btOf s g c t : Nat) : Int) = s (30 + 2 * g + c) by unfold btOf; rw [if_neg (fun hq => by rw [hbb.2 hq] at h56; cases h56)]; omega]
             exact fun a w ha hw => ⟨(ha.cons rfl (ha.cons rfl (ha.cons rfl (ha.cons rfl (ha.cons rfl (ha.nil)))))), hw⟩)
    rintro a w ⟨ha, hw⟩
    refine Arr.use ha hw ?_
    refine Arr.seq ?_
    refine Tr.seq ?_
    refine Tr.region ?_
    refine TL.makeSlice (m := 18) sl_43 bytes_82 zero_82 rfl rfl rfl rfl (by decide) (by decide) rfl (by decide) (fun bn => ?_)
    refine TL.val (YF.assign rfl) (by decide) ?_
    refine TL.end ?_
    refine Arr.seq ?_
    refine Tr.seq ?_
    refine Tr.seq ?_
    refine Tr.drop (G := (bn, .cells (va 18 (fl .f32 fun _ => 0)) 82 (0, 0)) :: (bf, .cells (va 3204 (zl (ff wd (some ⟨bsi, 0, none⟩) bm) (4 + 576 * c) k)) 112 (0, 0)) :: (bm, .cells (va 2548 (zl z0 (244 + 576 * (2 * g + c)) y)) 91 (0, 0)) :: H) (by rw [va_replicate]; exact List.Sublist.refl _) ?_
    refine Tr.region ?_
    refine TL.val (YF.move rfl) (by decide) ?_
    refine TL.val (YF.lenSl sl_43 rfl) (by decide) ?_
    refine TL.val (YF.move rfl) (by decide) ?_
    refine TL.end ?_
    refine Arr.seq ?_
    refine Tr.block ?_
    refine Tr.loop (I := fun mq a w => ∃ (u : Nat) (n : Nat → Nat), mq = 18 - u ∧ (u ≤ 18) ∧ (∀ q, q < u → n q = y (18 * t + q)) ∧ Agree 134 [(0, .pointer (some ⟨bf, 0, none⟩)), (1, .int .i64 g), (2, .int .i64 c), (6, .int .i64 t), (7, .int .i64 (btOf s g c t : Nat)), (8, .slice (some ⟨bn, 0, none⟩) 18 18), (59, .int .i64 18), (60, .int .i64 u)] a ∧ HS w0 ((bn, .cells (va 18 (fl .f32 n)) 82 (0, 0)) :: (bf, .cells (va 3204 (zl (ff wd (some ⟨bsi, 0, none⟩) bm) (4 + 576 * c) k)) 112 (0, 0)) :: (bm, .cells (va 2548 (zl z0 (244 + 576 * (2 * g + c)) y)) 91 (0, 0)) :: H) w) (18) ?_ ?_
    · intro a w ha hw
      exact ⟨0, fun _ => 0, rfl, by omega, fun q hq => absurd hq (by omega), (ha.cons rfl (ha.cons rfl (ha.cons rfl (ha.cons rfl (ha.cons rfl (ha.cons rfl (ha.cons rfl (ha.cons rfl (ha.nil))))))))), hw⟩
    rintro _ a w ⟨u, n, rfl, hu, hn, ha, hw⟩
    refine Tr.use ha hw ?_
    refine Tr.seq ?_
    refine Tr.region ?_
    refine TL.val (YF.lss rfl rfl rfl) (by decide) ?_
    refine TL.end ?_
    refine Arr.seq ?_
    refine Tr.seq ?_
    refine Tr.cond rfl (fun h61 => ?_) (fun h61 => ?_)
    ·
      replace h61 := of_decide_eq_true h61
      refine Tr.skipE ?_
      refine Arr.seq ?_
      refine Tr.seq ?_
      refine Tr.block ?_
      refine Tr.seq ?_
      refine Tr.region ?_
      refine TL.val (YF.move rfl) (by decide) ?_
      refine TL.val (YF.assign rfl) (by decide) ?_
      refine TL.end ?_
      refine Arr.seq ?_
      refine Tr.region ?_
      refine TL.val (YF.move rfl) (by decide) ?_
      refine TL.val (YF.move rfl) (by decide) ?_
      refine TL.val (YF.move rfl) (by decide) ?_
      refine TL.val (YF.nilCheck rfl) (by decide) ?_
      refine TL.val (YF.fieldAddr fo_112_2 rfl rfl) (by decide) ?_
      refine TL.val (YF.load (v := .pointer (some ⟨bm, 0, none⟩)) 1 sc_106 rfl rfl (va_get (by decide) (ff_at (by decide) (by omega)))) (by decide) ?_
      refine TL.val (YF.move rfl) (by decide) ?_
      refine TL.val (YF.move rfl) (by decide) ?_
      refine TL.val (YF.move rfl) (by decide) ?_
      refine TL.val (YF.mul rfl rfl (IntWalk.i64_in _ (by omega))) (by decide) ?_
      refine TL.val (YF.move rfl) (by decide) ?_
      refine TL.val (YF.add rfl rfl (IntWalk.i64_in _ (by omega))) (by decide) ?_
      refine TL.val (YF.nilCheck rfl) (by decide) ?_
      refine TL.val (YF.fieldAddr fo_91_2 rfl rfl) (by decide) ?_
      refine TL.val (YF.indexArr arr_89 rfl rfl (by first | decide | omega) rfl) (by decide) ?_
      refine TL.val (YF.indexArr arr_88 rfl rfl (by first | decide | omega) rfl) (by decide) ?_
      refine TL.val (YF.indexArr arr_84 rfl rfl (by first | decide | omega) (show _ = 244 + 576 * (2 * g + c) + (18 * t + u) by omega)) (by decide) ?_
      refine TL.val (YF.load (v := .float .f32 (y (18 * t + u))) 2 sc_82 rfl rfl (zl_get (by omega) rfl (by omega))) (by decide) ?_
      refine TL.val (YF.indexSl sl_43 rfl rfl (by first | decide | omega) (show _ = u by omega)) (by decide) ?_
      refine TL.storeV 0 (_ :: _ :: _ :: _) rfl rfl rfl sz_82 rfl (by rw [va_size]; omega) fl_set rfl ?_
      refine TL.end ?_
      refine Arr.block ?_
      refine Arr.seq ?_
      refine Tr.region ?_
      refine TL.val (YF.add rfl rfl (IntWalk.i64_in _ (by omega))) (by decide) ?_
      refine TL.val (YF.move rfl) (by decide) ?_
      refine TL.end ?_
      exact fun a w ha hw => ⟨_, by omega, u + 1, upd n u (y (18 * t + u)), rfl, by omega, (fun q hq => by
          by_cases e : q = u
          · subst e; rw [upd_at]
          · rw [upd_ne _ _ e]; exact hn q (by omega)), (ha.cons rfl (ha.cons rfl (ha.cons rfl (ha.cons rfl (ha.cons rfl (ha.cons rfl (ha.cons rfl (ha.cons rfl (ha.nil))))))))), hw⟩
    ·
      replace h61 := of_decide_eq_false h61
      refine Tr.exitE ?_
      refine Arr.seqX ?_
      refine Arr.seqX ?_
      refine Arr.blockE ?_
      refine Arr.seq ?_
      refine Tr.seq ?_
      have hnx : ∀ q, q < 18 → Fl.Fin single (n q) ∧ V single (n q) = V single (x (18 * t + q)) ∧ mg (V single (x (18 * t + q))) ≤ G := fun q hq => by
        have e : n q = x (18 * t + q) := (hn q (by omega)).trans ((hH (18 * t + q) (by omega)).2 (by omega)).1
        have := hx (18 * t + q) (by omega)
        rw [e]; exact ⟨this.1, rfl, this.2⟩
      refine Tr.region ?_
      refine TL.val (YF.move rfl) (by decide) ?_
      refine TL.val (YF.move rfl) (by decide) ?_
      refine TL.call (vs := [_, _]) call_49 rfl (by decide) (win_ct n (fun m => V single (x (18 * t + m))) G 0 bn (btOf s g c t) _ _ w0 _ rfl (btOf_lt hbk) hG0 hG hnx hsn hcn) ?_
      rintro _ _ ⟨bo, o, rfl, ho, rfl⟩
      refine TL.val (YF.assign rfl) (by decide) ?_
      refine TL.end ?_
      refine Arr.seq ?_
      refine Tr.seq ?_
      refine Tr.region ?_
      refine TL.val (YF.assign rfl) (by decide) ?_
      refine TL.end ?_
      refine Arr.seq ?_
      refine Tr.block ?_
      refine Tr.loop (I := fun mq a w => ∃ (v : Nat) (y : Nat → Nat) (k : Nat → Nat), mq = 18 - v ∧ (v ≤ 18) ∧ (HY single (HE G K) (fun q => Yq s g c (fun q => V single (x q)) q + V single (st q)) (Nq s g c (fun q => V single (x q))) x st (18 * t + v) y k) ∧ Agree 134 [(0, .pointer (some ⟨bf, 0, none⟩)), (1, .int .i64 g), (2, .int .i64 c), (6, .int .i64 t), (10, .slice (some ⟨bo, 0, none⟩) 36 36), (11, .int .i64 v)] a ∧ HS w0 ((bo, .cells (va 36 (fl .f32 o)) 82 (0, 0)) :: (bf, .cells (va 3204 (zl (ff wd (some ⟨bsi, 0, none⟩) bm) (4 + 576 * c) k)) 112 (0, 0)) :: (bm, .cells (va 2548 (zl z0 (244 + 576 * (2 * g + c)) y)) 91 (0, 0)) :: H) w) (18) ?_ ?_
      · intro a w ha hw
        exact ⟨0, y, k, rfl, by omega, hH, (ha.cons rfl (ha.cons rfl (ha.cons rfl (ha.cons rfl (ha.cons rfl (ha.cons rfl (ha.nil))))))), hw.mono (by repeat first | exact List.Sublist.refl _ | apply List.Sublist.cons_cons | apply List.Sublist.cons)⟩
      rintro _ a w ⟨v, y, k, rfl, hv, hH, ha, hw⟩
      refine Tr.use ha hw ?_
      refine Tr.seq ?_
      refine Tr.seq ?_
      refine Tr.region ?_
      refine TL.val (YF.move rfl) (by decide) ?_
      refine TL.val (YF.lss rfl rfl rfl) (by decide) ?_
      refine TL.end ?_
      refine Arr.seq ?_
      refine Tr.cond rfl (fun h87 => ?_) (fun h87 => ?_)
      ·
        replace h87 := of_decide_eq_true h87
        refine Tr.skipE ?_
        refine Arr.seq ?_
        refine Tr.seq ?_
        refine Tr.block ?_
        refine Tr.seq ?_
        have hk0 := ((hH (18 * t + v) (by omega)).2 (Nat.le_refl _)).2
        obtain ⟨r, g1, hr⟩ := lay_step two_single (st := st (18 * t + v)) hG0 hG hK0 hK (Yw_le (btOf_lt hbk) (show v < 36 by omega) hG0 fun q hq => (hx (18 * t + q) (by omega)).2) (ho v (by omega)) (hst (18 * t + v) (by omega)).1 rfl (hst (18 * t + v) (by omega)).2
        refine Tr.drawE (_ :: _ :: _) (fun H => (H.eraseIdx 2)) rfl mixed_ ?_
        refine TD.take 0 rfl (by kernel_rfl) (by kernel_rfl) (by kernel_rfl) (fun _ _ _ h => h) (by repeat first | exact List.Sublist.refl _ | apply List.Sublist.cons_cons | apply List.Sublist.cons) (YF.move rfl) (by decide) ?_
        refine TD.take 1 rfl (by kernel_rfl) (by kernel_rfl) (by kernel_rfl) (fun _ _ _ h => h) (by repeat first | exact List.Sublist.refl _ | apply List.Sublist.cons_cons | apply List.Sublist.cons) (YF.nilCheck rfl) (by decide) ?_
        refine TD.take 2 rfl (by kernel_rfl) (by kernel_rfl) (by kernel_rfl) (fun _ _ _ h => h) (by repeat first | exact List.Sublist.refl _ | apply List.Sublist.cons_cons | apply List.Sublist.cons) (YF.fieldAddr fo_112_2 rfl rfl) (by decide) ?_
        refine TD.take 3 rfl (by kernel_rfl) (by kernel_rfl) (by kernel_rfl) (fun _ _ _ h => h) (by repeat first | exact List.Sublist.refl _ | apply List.Sublist.cons_cons | apply List.Sublist.cons) (YF.load (v := .pointer (some ⟨bm, 0, none⟩)) 1 sc_106 rfl rfl (va_get (by decide) (ff_at (by decide) (by omega)))) (by decide) ?_
        refine TD.take 4 rfl (by kernel_rfl) (by kernel_rfl) (by kernel_rfl) (fun _ _ _ h => h) (by repeat first | exact List.Sublist.refl _ | apply List.Sublist.cons_cons | apply List.Sublist.cons) (YF.move rfl) (by decide) ?_
        refine TD.take 5 rfl (by kernel_rfl) (by kernel_rfl) (by kernel_rfl) (fun _ _ _ h => h) (by repeat first | exact List.Sublist.refl _ | apply List.Sublist.cons_cons | apply List.Sublist.cons) (YF.move rfl) (by decide) ?_
        refine TD.take 6 rfl (by kernel_rfl) (by kernel_rfl) (by kernel_rfl) (fun _ _ _ h => h) (by repeat first | exact List.Sublist.refl _ | apply List.Sublist.cons_cons | apply List.Sublist.cons) (YF.move rfl) (by decide) ?_
        refine TD.take 7 rfl (by kernel_rfl) (by kernel_rfl) (by kernel_rfl) (fun _ _ _ h => h) (by repeat first | exact List.Sublist.refl _ | apply List.Sublist.cons_cons | apply List.Sublist.cons) (YF.mul rfl rfl (IntWalk.i64_in _ (by omega))) (by decide) ?_
        refine TD.take 8 rfl (by kernel_rfl) (by kernel_rfl) (by kernel_rfl) (fun _ _ _ h => h) (by repeat first | exact List.Sublist.refl _ | apply List.Sublist.cons_cons | apply List.Sublist.cons) (YF.move rfl) (by decide) ?_
        refine TD.take 9 rfl (by kernel_rfl) (by kernel_rfl) (by kernel_rfl) (fun _ _ _ h => h) (by repeat first | exact List.Sublist.refl _ | apply List.Sublist.cons_cons | apply List.Sublist.cons) (YF.add rfl rfl (IntWalk.i64_in _ (by omega))) (by decide) ?_
        refine TD.take 10 rfl (by kernel_rfl) (by kernel_rfl) (by kernel_rfl) (fun _ _ _ h => h) (by repeat first | exact List.Sublist.refl _ | apply List.Sublist.cons_cons | apply List.Sublist.cons) (YF.move rfl) (by decide) ?_
        refine TD.take 11 rfl (by kernel_rfl) (by kernel_rfl) (by kernel_rfl) (fun _ _ _ h => h) (by repeat first | exact List.Sublist.refl _ | apply List.Sublist.cons_cons | apply List.Sublist.cons) (YF.move rfl) (by decide) ?_
        refine TD.take 12 rfl (by kernel_rfl) (by kernel_rfl) (by kernel_rfl) (fun _ _ _ h => h) (by repeat first | exact List.Sublist.refl _ | apply List.Sublist.cons_cons | apply List.Sublist.cons) (YF.indexSl sl_43 rfl rfl (by first | decide | omega) (show _ = v by omega)) (by decide) ?_
        refine TD.take 13 rfl (by kernel_rfl) (by kernel_rfl) (by kernel_rfl) (fun _ _ _ h => h) (by repeat first | exact List.Sublist.refl _ | apply List.Sublist.cons_cons | apply List.Sublist.cons) (YF.load 0 sc_82 rfl rfl (va_get (by omega) rfl)) (by decide) ?_
        refine TD.take 14 rfl (by kernel_rfl) (by kernel_rfl) (by kernel_rfl) (fun _ _ _ h => h) (by repeat first | exact List.Sublist.refl _ | apply List.Sublist.cons_cons | apply List.Sublist.cons) (YF.move rfl) (by decide) ?_
        refine TD.take 15 rfl (by kernel_rfl) (by kernel_rfl) (by kernel_rfl) (fun _ _ _ h => h) (by repeat first | exact List.Sublist.refl _ | apply List.Sublist.cons_cons | apply List.Sublist.cons) (YF.move rfl) (by decide) ?_
        refine TD.take 16 rfl (by kernel_rfl) (by kernel_rfl) (by kernel_rfl) (fun _ _ _ h => h) (by repeat first | exact List.Sublist.refl _ | apply List.Sublist.cons_cons | apply List.Sublist.cons) (YF.move rfl) (by decide) ?_
        refine TD.take 17 rfl (by kernel_rfl) (by kernel_rfl) (by kernel_rfl) (fun _ _ _ h => h) (by repeat first | exact List.Sublist.refl _ | apply List.Sublist.cons_cons | apply List.Sublist.cons) (YF.move rfl) (by decide) ?_
        refine TD.take 18 rfl (by kernel_rfl) (by kernel_rfl) (by kernel_rfl) (fun _ _ _ h => h) (by repeat first | exact List.Sublist.refl _ | apply List.Sublist.cons_cons | apply List.Sublist.cons) (YF.nilCheck rfl) (by decide) ?_
        refine TD.take 19 rfl (by kernel_rfl) (by kernel_rfl) (by kernel_rfl) (fun _ _ _ h => h) (by repeat first | exact List.Sublist.refl _ | apply List.Sublist.cons_cons | apply List.Sublist.cons) (YF.fieldAddr fo_112_4 rfl rfl) (by decide) ?_
        refine TD.take 20 rfl (by kernel_rfl) (by kernel_rfl) (by kernel_rfl) (fun _ _ _ h => h) (by repeat first | exact List.Sublist.refl _ | apply List.Sublist.cons_cons | apply List.Sublist.cons) (YF.indexArr arr_108 rfl rfl (by first | decide | omega) (show _ = 4 + 576 * c by omega)) (by decide) ?_
        refine TD.take 21 rfl (by kernel_rfl) (by kernel_rfl) (by kernel_rfl) (fun _ _ _ h => h) (by repeat first | exact List.Sublist.refl _ | apply List.Sublist.cons_cons | apply List.Sublist.cons) (YF.indexArr arr_96 rfl rfl (by first | decide | omega) (show _ = 4 + 576 * c + 18 * t by omega)) (by decide) ?_
        refine TD.take 22 rfl (by kernel_rfl) (by kernel_rfl) (by kernel_rfl) (fun _ _ _ h => h) (by repeat first | exact List.Sublist.refl _ | apply List.Sublist.cons_cons | apply List.Sublist.cons) (YF.indexArr arr_95 rfl rfl (by first | decide | omega) (show _ = 4 + 576 * c + (18 * t + v) by omega)) (by decide) ?_
        refine TD.take 23 rfl (by kernel_rfl) (by kernel_rfl) (by kernel_rfl) (fun _ _ _ h => h) (by repeat first | exact List.Sublist.refl _ | apply List.Sublist.cons_cons | apply List.Sublist.cons) (YF.load (v := .float .f32 (st (18 * t + v))) 1 sc_82 rfl rfl (by rw [← hk0]; exact zl_get (by omega) rfl (by omega))) (by decide) ?_
        refine TD.take 24 rfl (by kernel_rfl) (by kernel_rfl) (by kernel_rfl) (fun _ _ _ h => h) (by repeat first | exact List.Sublist.refl _ | apply List.Sublist.cons_cons | apply List.Sublist.cons) (YF.farith rfl rfl g1) (by decide) ?_
        refine TD.take 25 rfl (by kernel_rfl) (by kernel_rfl) (by kernel_rfl) (fun _ _ _ h => h) (by repeat first | exact List.Sublist.refl _ | apply List.Sublist.cons_cons | apply List.Sublist.cons) (YF.nilCheck rfl) (by decide) ?_
        refine TD.take 26 rfl (by kernel_rfl) (by kernel_rfl) (by kernel_rfl) (fun _ _ _ h => h) (by repeat first | exact List.Sublist.refl _ | apply List.Sublist.cons_cons | apply List.Sublist.cons) (YF.fieldAddr fo_91_2 rfl rfl) (by decide) ?_
        refine TD.take 27 rfl (by kernel_rfl) (by kernel_rfl) (by kernel_rfl) (fun _ _ _ h => h) (by repeat first | exact List.Sublist.refl _ | apply List.Sublist.cons_cons | apply List.Sublist.cons) (YF.indexArr arr_89 rfl rfl (by first | decide | omega) rfl) (by decide) ?_
        refine TD.take 28 rfl (by kernel_rfl) (by kernel_rfl) (by kernel_rfl) (fun _ _ _ h => h) (by repeat first | exact List.Sublist.refl _ | apply List.Sublist.cons_cons | apply List.Sublist.cons) (YF.indexArr arr_88 rfl rfl (by first | decide | omega) rfl) (by decide) ?_
        refine TD.take 29 rfl (by kernel_rfl) (by kernel_rfl) (by kernel_rfl) (fun _ _ _ h => h) (by repeat first | exact List.Sublist.refl _ | apply List.Sublist.cons_cons | apply List.Sublist.cons) (YF.indexArr arr_84 rfl rfl (by first | decide | omega) (show _ = 244 + 576 * (2 * g + c) + (18 * t + v) by omega)) (by decide) ?_
        refine TD.eff0 30 rfl (by kernel_rfl) (EF.store 2 rfl rfl rfl sz_82 rfl (by rw [va_size]; omega)) (by rintro _ _ ⟨rfl, rfl⟩; exact (by repeat first | exact List.Sublist.refl _ | apply List.Sublist.cons_cons | apply List.Sublist.cons)) ?_
        rintro _ _ ⟨rfl, rfl⟩
        refine TD.heap (_ :: _ :: (bm, .cells (va 2548 (zl z0 (244 + 576 * (2 * g + c)) (upd y (18 * t + v) r))) 91 (0, 0)) :: _) (by rw [← zl_set (k := 18 * t + v) (by omega) rfl]; rfl) ?_
        refine TD.end (by kernel_rfl) ?_
        refine Arr.seq ?_
        refine Tr.drawE (_ :: _ :: _) (fun H => (H.eraseIdx 1)) rfl mixed_ ?_
        refine TD.take 0 rfl (by kernel_rfl) (by kernel_rfl) (by kernel_rfl) (fun _ _ _ h => h) (by repeat first | exact List.Sublist.refl _ | apply List.Sublist.cons_cons | apply List.Sublist.cons) (YF.move rfl) (by decide) ?_
        refine TD.take 1 rfl (by kernel_rfl) (by kernel_rfl) (by kernel_rfl) (fun _ _ _ h => h) (by repeat first | exact List.Sublist.refl _ | apply List.Sublist.cons_cons | apply List.Sublist.cons) (YF.move rfl) (by decide) ?_
        refine TD.take 2 rfl (by kernel_rfl) (by kernel_rfl) (by kernel_rfl) (fun _ _ _ h => h) (by repeat first | exact List.Sublist.refl _ | apply List.Sublist.cons_cons | apply List.Sublist.cons) (YF.move rfl) (by decide) ?_
        refine TD.take 3 rfl (by kernel_rfl) (by kernel_rfl) (by kernel_rfl) (fun _ _ _ h => h) (by repeat first | exact List.Sublist.refl _ | apply List.Sublist.cons_cons | apply List.Sublist.cons) (YF.move rfl) (by decide) ?_
        refine TD.take 4 rfl (by kernel_rfl) (by kernel_rfl) (by kernel_rfl) (fun _ _ _ h => h) (by repeat first | exact List.Sublist.refl _ | apply List.Sublist.cons_cons | apply List.Sublist.cons) (YF.move rfl) (by decide) ?_
        refine TD.take 5 rfl (by kernel_rfl) (by kernel_rfl) (by kernel_rfl) (fun _ _ _ h => h) (by repeat first | exact List.Sublist.refl _ | apply List.Sublist.cons_cons | apply List.Sublist.cons) (YF.move rfl) (by decide) ?_
        refine TD.take 6 rfl (by kernel_rfl) (by kernel_rfl) (by kernel_rfl) (fun _ _ _ h => h) (by repeat first | exact List.Sublist.refl _ | apply List.Sublist.cons_cons | apply List.Sublist.cons) (YF.add rfl rfl (IntWalk.i64_in _ (by omega))) (by decide) ?_
        refine TD.take 7 rfl (by kernel_rfl) (by kernel_rfl) (by kernel_rfl) (fun _ _ _ h => h) (by repeat first | exact List.Sublist.refl _ | apply List.Sublist.cons_cons | apply List.Sublist.cons) (YF.indexSl sl_43 rfl rfl (by first | decide | omega) (show _ = 18 + v by omega)) (by decide) ?_
        refine TD.take 8 rfl (by kernel_rfl) (by kernel_rfl) (by kernel_rfl) (fun _ _ _ h => h) (by repeat first | exact List.Sublist.refl _ | apply List.Sublist.cons_cons | apply List.Sublist.cons) (YF.load (v := .float .f32 (o (18 + v))) 0 sc_82 rfl rfl (va_get (by omega) rfl)) (by decide) ?_
        refine TD.take 9 rfl (by kernel_rfl) (by kernel_rfl) (by kernel_rfl) (fun _ _ _ h => h) (by repeat first | exact List.Sublist.refl _ | apply List.Sublist.cons_cons | apply List.Sublist.cons) (YF.nilCheck rfl) (by decide) ?_
        refine TD.take 10 rfl (by kernel_rfl) (by kernel_rfl) (by kernel_rfl) (fun _ _ _ h => h) (by repeat first | exact List.Sublist.refl _ | apply List.Sublist.cons_cons | apply List.Sublist.cons) (YF.fieldAddr fo_112_4 rfl rfl) (by decide) ?_
        refine TD.take 11 rfl (by kernel_rfl) (by kernel_rfl) (by kernel_rfl) (fun _ _ _ h => h) (by repeat first | exact List.Sublist.refl _ | apply List.Sublist.cons_cons | apply List.Sublist.cons) (YF.indexArr arr_108 rfl rfl (by first | decide | omega) (show _ = 4 + 576 * c by omega)) (by decide) ?_
        refine TD.take 12 rfl (by kernel_rfl) (by kernel_rfl) (by kernel_rfl) (fun _ _ _ h => h) (by repeat first | exact List.Sublist.refl _ | apply List.Sublist.cons_cons | apply List.Sublist.cons) (YF.indexArr arr_96 rfl rfl (by first | decide | omega) (show _ = 4 + 576 * c + 18 * t by omega)) (by decide) ?_
        refine TD.take 13 rfl (by kernel_rfl) (by kernel_rfl) (by kernel_rfl) (fun _ _ _ h => h) (by repeat first | exact List.Sublist.refl _ | apply List.Sublist.cons_cons | apply List.Sublist.cons) (YF.indexArr arr_95 rfl rfl (by first | decide | omega) (show _ = 4 + 576 * c + (18 * t + v) by omega)) (by decide) ?_
        refine TD.eff0 14 rfl (by kernel_rfl) (EF.store 1 rfl rfl rfl sz_82 rfl (by rw [va_size]; omega)) (by rintro _ _ ⟨rfl, rfl⟩; exact (by repeat first | exact List.Sublist.refl _ | apply List.Sublist.cons_cons | apply List.Sublist.cons)) ?_
        rintro _ _ ⟨rfl, rfl⟩
        refine TD.heap (_ :: (bf, .cells (va 3204 (zl (ff wd (some ⟨bsi, 0, none⟩) bm) (4 + 576 * c) (upd k (18 * t + v) (o (18 + v))))) 112 (0, 0)) :: _) (by rw [← zl_set (o := 4 + 576 * c) (k := 18 * t + v) (by omega) rfl]; rfl) ?_
        refine TD.end (by kernel_rfl) ?_
        refine Arr.block ?_
        refine Arr.seq ?_
        refine Tr.region ?_
        refine TL.val (YF.move rfl) (by decide) ?_
        refine TL.val (YF.add rfl rfl (IntWalk.i64_in _ (by omega))) (by decide) ?_
        refine TL.val (YF.assign rfl) (by decide) ?_
        refine TL.end ?_
        exact fun a w ha hw => ⟨_, by omega, v + 1, upd y (18 * t + v) r, upd k (18 * t + v) (o (18 + v)), rfl, by omega, hH.step (by (try dsimp only); rw [Yq_at (by omega)]; exact hr) (by rw [Nq_at (by omega)]; exact keep_step hG0 hK0 (ho (18 + v) (by omega))), (ha.cons rfl (ha.cons rfl (ha.cons rfl (ha.cons rfl (ha.cons rfl (ha.cons rfl (ha.nil))))))), hw⟩
      ·
        replace h87 := of_decide_eq_false h87
        refine Tr.exitE ?_
        refine Arr.seqX ?_
        refine Arr.seqX ?_
        refine Arr.blockE ?_
        refine Arr.block ?_
        refine Arr.seq ?_
        refine Tr.region ?_
        refine TL.val (YF.move rfl) (by decide) ?_
        refine TL.val (YF.add rfl rfl (IntWalk.i64_in _ (by omega))) (by decide) ?_
        refine TL.val (YF.assign rfl) (by decide) ?_
        refine TL.end ?_
        exact fun a w ha hw => ⟨_, by omega, t + 1, y, k, rfl, by omega, (by have e : v = 18 := (by omega); subst e; exact hH), (ha.cons rfl (ha.cons rfl (ha.cons rfl (ha.cons rfl (ha.nil))))), hw.mono (by repeat first | exact List.Sublist.refl _ | apply List.Sublist.cons)⟩
  ·
    replace h13 := of_decide_eq_false h13
    refine Tr.exitE ?_
    refine Arr.seqX ?_
    refine Arr.seqX ?_
    refine Arr.blockE ?_
    exact Ends.noRes rfl ⟨y, k, (by have e : t = 32 := (by omega); subst e; exact hH), rfl⟩

theorem zzHybrid_ct (s : Nat → Int) (x st : Nat → Nat) (z0 : Nat → Value) (g c : Nat) (G K : Rat) (i bsi : Nat) (hg : g < 2) (hc : c < 2) (t' : TypeId) (f' : Nat × Nat) (w0 : World) (H : Hp) (hi : H[i]? = some (bsi, .cells (va 86 (sd s)) t' f')) (hG0 : 0 ≤ G) (hG : G ≤ 10) (hK0 : 0 ≤ K) (hK : K ≤ 10) (hx : ∀ q, q < 576 → Fin single (x q) ∧ mg (V single (x q)) ≤ G) (hst : ∀ q, q < 576 → Fin single (st q) ∧ mg (V single (st q)) ≤ K) (hbk : 0 ≤ s (30 + 2 * g + c) ∧ s (30 + 2 * g + c) ≤ 3) (hsn : ∀ i, i < 6 → w0.cell? ⟨4, i, none⟩ = some (.float .f64 (snb i))) (hcn : ∀ i, i < 6 → w0.cell? ⟨5, i, none⟩ = some (.float .f64 (cnb i))) : Ct Tryd.prog 32 #[.pointer (some ⟨bsi, 0, none⟩), .agg (va 2548 (zl z0 (244 + 576 * (2 * g + c)) x)), .int .i64 g, .int .i64 c, .agg (va 576 (fl .f32 st))] w0 (H) (fun v H' => ∃ y k, HY single (HE G K) (fun q => Yq s g c (fun q => V single (x q)) q + V single (st q)) (Nq s g c (fun q => V single (x q))) x st (576) y k ∧ v = .tuple #[.agg (va 576 (fl .f32 y)), .agg (va 576 (fl .f32 k))] ∧ H' = H) := by
  refine Ct.of_body (n := 43) (E := [(0, _), (1, _), (2, _), (3, _), (4, _)]) Tryd.func32 rfl rfl rfl rfl ?_
  refine Tr.seq ?_
  refine Tr.region ?_
  refine TL.box rfl (by decide) (fun b6 => ?_)
  refine TL.box rfl (by decide) (fun b9 => ?_)
  refine TL.allocA zero_84 (by decide) (fun b10 => ?_)
  refine TL.allocA zero_96 (by decide) (fun b11 => ?_)
  refine TL.end ?_
  refine Arr.seq ?_
  refine Tr.seq ?_
  refine Tr.region ?_
  refine TL.val (YF.move rfl) (by decide) ?_
  refine TL.val (YF.loadAll 3 agg_91 rfl rfl (va_size _ _)) (by decide) ?_
  refine TL.call (vs := [_, _, _]) call_36 rfl (by decide) (zzFrame_ct 0 (some ⟨bsi, 0, none⟩) (zl z0 (244 + 576 * (2 * g + c)) x) w0 _) ?_
  rintro _ _ ⟨bf, bm, rfl, rfl⟩
  refine TL.val (YF.assign rfl) (by decide) ?_
  refine TL.end ?_
  refine Arr.seq ?_
  refine Tr.seq ?_
  refine Tr.drawE (_ :: _ :: _ :: _ :: _ :: _) (fun H => (H.eraseIdx 0)) rfl mixed_ ?_
  refine TD.take 0 rfl (by kernel_rfl) (by kernel_rfl) (by kernel_rfl) (fun _ _ _ h => h) (by repeat first | exact List.Sublist.refl _ | apply List.Sublist.cons_cons | apply List.Sublist.cons) (YF.move rfl) (by decide) ?_
  refine TD.take 1 rfl (by kernel_rfl) (by kernel_rfl) (by kernel_rfl) (fun _ _ _ h => h) (by repeat first | exact List.Sublist.refl _ | apply List.Sublist.cons_cons | apply List.Sublist.cons) (YF.move rfl) (by decide) ?_
  refine TD.take 2 rfl (by kernel_rfl) (by kernel_rfl) (by kernel_rfl) (fun _ _ _ h => h) (by repeat first | exact List.Sublist.refl _ | apply List.Sublist.cons_cons | apply List.Sublist.cons) (YF.loadAll (c := va 576 (fl .f32 st)) 3 agg_96 rfl rfl (va_size _ _)) (by decide) ?_
  refine TD.take 3 rfl (by kernel_rfl) (by kernel_rfl) (by kernel_rfl) (fun _ _ _ h => h) (by repeat first | exact List.Sublist.refl _ | apply List.Sublist.cons_cons | apply List.Sublist.cons) (YF.nilCheck rfl) (by decide) ?_
  refine TD.take 4 rfl (by kernel_rfl) (by kernel_rfl) (by kernel_rfl) (fun _ _ _ h => h) (by repeat first | exact List.Sublist.refl _ | apply List.Sublist.cons_cons | apply List.Sublist.cons) (YF.fieldAddr fo_112_4 rfl rfl) (by decide) ?_
  refine TD.take 5 rfl (by kernel_rfl) (by kernel_rfl) (by kernel_rfl) (fun _ _ _ h => h) (by repeat first | exact List.Sublist.refl _ | apply List.Sublist.cons_cons | apply List.Sublist.cons) (YF.indexArr arr_108 rfl rfl (by first | decide | omega) (show _ = 4 + 576 * c by omega)) (by decide) ?_
  refine TD.eff0 6 rfl (by kernel_rfl) (EF.storeAgg 0 rfl rfl rfl sz_96 (va_size _ _) (va_one fun _ _ => rfl) (by rw [va_size]; omega)) (by rintro _ _ ⟨rfl, rfl⟩; exact (by repeat first | exact List.Sublist.refl _ | apply List.Sublist.cons_cons | apply List.Sublist.cons)) ?_
  rintro _ _ ⟨rfl, rfl⟩
  refine TD.heap ((bf, .cells (va 3204 (zl (ff 0 (some ⟨bsi, 0, none⟩) bm) (4 + 576 * c) st)) 112 (0, 0)) :: _) (by rw [va_splice (by omega)]; rfl) ?_
  refine TD.end (by kernel_rfl) ?_
  refine Arr.seq ?_
  refine Tr.seq ?_
  refine Tr.region ?_
  refine TL.val (YF.move rfl) (by decide) ?_
  refine TL.val (YF.move rfl) (by decide) ?_
  refine TL.val (YF.move rfl) (by decide) ?_
  refine TL.call (vs := [_, _, _]) call_40 rfl (by decide) (hybrid_ct 0 s x st z0 g c G K (i + 4) bf bm bsi hg hc _ _ w0 _ hi hG0 hG hK0 hK hx hst hbk hsn hcn) ?_
  rintro _ _ ⟨y, k, hH, rfl⟩
  refine TL.heap (_ :: _ :: _) rfl ?_
  refine TL.end ?_
  refine Arr.seq ?_
  refine Tr.seq ?_
  refine Tr.drawE (_ :: _ :: _ :: _ :: _) (fun H => ((H.eraseIdx 3).eraseIdx 2)) rfl mixed_ ?_
  refine TD.take 0 rfl (by kernel_rfl) (by kernel_rfl) (by kernel_rfl) (fun _ _ _ h => h) (by repeat first | exact List.Sublist.refl _ | apply List.Sublist.cons_cons | apply List.Sublist.cons) (YF.move rfl) (by decide) ?_
  refine TD.take 1 rfl (by kernel_rfl) (by kernel_rfl) (by kernel_rfl) (fun _ _ _ h => h) (by repeat first | exact List.Sublist.refl _ | apply List.Sublist.cons_cons | apply List.Sublist.cons) (YF.nilCheck rfl) (by decide) ?_
  refine TD.take 2 rfl (by kernel_rfl) (by kernel_rfl) (by kernel_rfl) (fun _ _ _ h => h) (by repeat first | exact List.Sublist.refl _ | apply List.Sublist.cons_cons | apply List.Sublist.cons) (YF.fieldAddr fo_112_2 rfl rfl) (by decide) ?_
  refine TD.take 3 rfl (by kernel_rfl) (by kernel_rfl) (by kernel_rfl) (fun _ _ _ h => h) (by repeat first | exact List.Sublist.refl _ | apply List.Sublist.cons_cons | apply List.Sublist.cons) (YF.load (v := .pointer (some ⟨bm, 0, none⟩)) 0 sc_106 rfl rfl (va_get (by decide) (ff_at (by decide) (by omega)))) (by decide) ?_
  refine TD.take 4 rfl (by kernel_rfl) (by kernel_rfl) (by kernel_rfl) (fun _ _ _ h => h) (by repeat first | exact List.Sublist.refl _ | apply List.Sublist.cons_cons | apply List.Sublist.cons) (YF.move rfl) (by decide) ?_
  refine TD.take 5 rfl (by kernel_rfl) (by kernel_rfl) (by kernel_rfl) (fun _ _ _ h => h) (by repeat first | exact List.Sublist.refl _ | apply List.Sublist.cons_cons | apply List.Sublist.cons) (YF.move rfl) (by decide) ?_
  refine TD.take 6 rfl (by kernel_rfl) (by kernel_rfl) (by kernel_rfl) (fun _ _ _ h => h) (by repeat first | exact List.Sublist.refl _ | apply List.Sublist.cons_cons | apply List.Sublist.cons) (YF.nilCheck rfl) (by decide) ?_
  refine TD.take 7 rfl (by kernel_rfl) (by kernel_rfl) (by kernel_rfl) (fun _ _ _ h => h) (by repeat first | exact List.Sublist.refl _ | apply List.Sublist.cons_cons | apply List.Sublist.cons) (YF.fieldAddr fo_91_2 rfl rfl) (by decide) ?_
  refine TD.take 8 rfl (by kernel_rfl) (by kernel_rfl) (by kernel_rfl) (fun _ _ _ h => h) (by repeat first | exact List.Sublist.refl _ | apply List.Sublist.cons_cons | apply List.Sublist.cons) (YF.indexArr arr_89 rfl rfl (by first | decide | omega) rfl) (by decide) ?_
  refine TD.take 9 rfl (by kernel_rfl) (by kernel_rfl) (by kernel_rfl) (fun _ _ _ h => h) (by repeat first | exact List.Sublist.refl _ | apply List.Sublist.cons_cons | apply List.Sublist.cons) (YF.indexArr arr_88 rfl rfl (by first | decide | omega) (show _ = 244 + 576 * (2 * g + c) by omega)) (by decide) ?_
  refine TD.take 10 rfl (by kernel_rfl) (by kernel_rfl) (by kernel_rfl) (fun _ _ _ h => h) (by repeat first | exact List.Sublist.refl _ | apply List.Sublist.cons_cons | apply List.Sublist.cons) (YF.loadAgg (v := va 576 (fl .f32 y)) 1 agg_84 rfl rfl (by rw [va_size]; omega) (zl_row (by omega) rfl)) (by decide) ?_
  refine TD.take 11 rfl (by kernel_rfl) (by kernel_rfl) (by kernel_rfl) (fun _ _ _ h => h) (by repeat first | exact List.Sublist.refl _ | apply List.Sublist.cons_cons | apply List.Sublist.cons) (YF.move rfl) (by decide) ?_
  refine TD.take 12 rfl (by kernel_rfl) (by kernel_rfl) (by kernel_rfl) (fun _ _ _ h => h) (by repeat first | exact List.Sublist.refl _ | apply List.Sublist.cons_cons | apply List.Sublist.cons) (YF.move rfl) (by decide) ?_
  refine TD.take 13 rfl (by kernel_rfl) (by kernel_rfl) (by kernel_rfl) (fun _ _ _ h => h) (by repeat first | exact List.Sublist.refl _ | apply List.Sublist.cons_cons | apply List.Sublist.cons) (YF.nilCheck rfl) (by decide) ?_
  refine TD.take 14 rfl (by kernel_rfl) (by kernel_rfl) (by kernel_rfl) (fun _ _ _ h => h) (by repeat first | exact List.Sublist.refl _ | apply List.Sublist.cons_cons | apply List.Sublist.cons) (YF.fieldAddr fo_112_4 rfl rfl) (by decide) ?_
  refine TD.take 15 rfl (by kernel_rfl) (by kernel_rfl) (by kernel_rfl) (fun _ _ _ h => h) (by repeat first | exact List.Sublist.refl _ | apply List.Sublist.cons_cons | apply List.Sublist.cons) (YF.indexArr arr_108 rfl rfl (by first | decide | omega) (show _ = 4 + 576 * c by omega)) (by decide) ?_
  refine TD.take 16 rfl (by kernel_rfl) (by kernel_rfl) (by kernel_rfl) (fun _ _ _ h => h) (by repeat first | exact List.Sublist.refl _ | apply List.Sublist.cons_cons | apply List.Sublist.cons) (YF.loadAgg (v := va 576 (fl .f32 k)) 0 agg_96 rfl rfl (by rw [va_size]; omega) (zl_row (by omega) rfl)) (by decide) ?_
  refine TD.eff0 17 rfl (by kernel_rfl) (EF.storeAll 3 rfl rfl rfl sz_84 (va_size _ _) Zsz_84 (va_one fun _ _ => rfl)) (by rintro _ _ rfl; exact (by repeat first | exact List.Sublist.refl _ | apply List.Sublist.cons_cons | apply List.Sublist.cons)) ?_
  rintro _ _ rfl
  refine TD.heap (_ :: _ :: _ :: _ :: _ :: _ :: _) rfl ?_
  refine TD.eff0 18 rfl (by kernel_rfl) (EF.storeAll 2 rfl rfl rfl sz_96 (va_size _ _) Zsz_96 (va_one fun _ _ => rfl)) (by rintro _ _ rfl; exact (by repeat first | exact List.Sublist.refl _ | apply List.Sublist.cons_cons | apply List.Sublist.cons)) ?_
  rintro _ _ rfl
  refine TD.heap (_ :: _ :: _ :: _ :: _ :: _ :: _) rfl ?_
  refine TD.end (by kernel_rfl) ?_
  refine Arr.seq ?_
  refine Tr.retE ?_
  refine En.Ends.cell2G 3 2 rfl rfl agg_84 rfl (va_size _ _) rfl agg_96 rfl (va_size _ _) ?_ ⟨y, k, hH, rfl, rfl⟩
  exact (by repeat first | exact List.Sublist.refl _ | apply List.Sublist.cons_cons | apply List.Sublist.cons)

theorem Zt96 : Zv_96 = va 576 (fl .f32 fun _ => 0) := by kernel_rfl

theorem implHybrid_ct (s xm : Nat → Int) (ym : Nat → Value) (ls : Nat → Nat → Value) (x st : Nat → Nat) (g c : Nat) (G K : Rat) (is bs0 : Nat) (hg : g < 2) (hc : c < 2) (t' : TypeId) (f' : Nat × Nat) (w0 : World) (H : Hp) (hls : ∀ i, i < 4 → LL H (ym i) (ls i)) (hlsx : ∀ k, k < 576 → ls (2 * g + c) k = .float .f32 (x k)) (his : H[is]? = some (bs0, .cells (va 576 (fl .f32 st)) t' f')) (hG0 : 0 ≤ G) (hG : G ≤ 10) (hK0 : 0 ≤ K) (hK : K ≤ 10) (hx : ∀ q, q < 576 → Fin single (x q) ∧ mg (V single (x q)) ≤ G) (hst : ∀ q, q < 576 → Fin single (st q) ∧ mg (V single (st q)) ≤ K) (hbk : 0 ≤ s (30 + 2 * g + c) ∧ s (30 + 2 * g + c) ≤ 3) (hsn : ∀ i, i < 6 → w0.cell? ⟨4, i, none⟩ = some (.float .f64 (snb i))) (hcn : ∀ i, i < 6 → w0.cell? ⟨5, i, none⟩ = some (.float .f64 (cnb i))) : Ct Tryd.prog 20 #[.agg (va 86 (sd s)), .agg (va 248 (mn xm ym)), .int .i64 g, .int .i64 c, .slice (some ⟨bs0, 0, none⟩) 576 576] w0 (H) (fun v H' => ∃ (bo bk cap : Nat) (cs : Array Value) (y k : Nat → Nat), HY single (HE G K) (fun q => Yq s g c (fun q => V single (x q)) q + V single (st q)) (Nq s g c (fun q => V single (x q))) x st (576) y k ∧ (∀ q, q < 576 → cs[q]? = some (.float .f32 (k q))) ∧ v = .tuple #[.slice (some ⟨bo, 0, none⟩) 576 576, .slice (some ⟨bk, 0, none⟩) 576 cap] ∧ H' = (bk, .cells cs 82 (0, 0)) :: (bo, .cells (va 576 (fl .f32 y)) 84 (0, 0)) :: H) := by
  refine Ct.of_body (n := 71) (E := [(0, _), (1, _), (2, _), (3, _), (4, _)]) Tryd.func20 rfl rfl rfl rfl ?_
  refine Tr.seq ?_
  refine Tr.region ?_
  refine TL.box rfl (by decide) (fun b5 => ?_)
  refine TL.box rfl (by decide) (fun b6 => ?_)
  refine TL.val (YF.assign rfl) (by decide) ?_
  refine TL.val (YF.assign rfl) (by decide) ?_
  refine TL.end ?_
  refine Arr.seq ?_
  refine Tr.seq ?_
  refine Tr.seq ?_
  refine Tr.region ?_
  refine TL.val (YF.move rfl) (by decide) ?_
  refine TL.val (YF.move rfl) (by decide) ?_
  refine TL.call (vs := [_, _]) call_26 rfl (by decide) (place_ct g c hg hc w0 _) ?_
  rintro _ _ ⟨rfl, rfl⟩
  refine TL.val (YF.not rfl rfl) (by decide) ?_
  refine TL.end ?_
  refine Arr.seq ?_
  refine Tr.condF rfl ?_
  refine Tr.skipE ?_
  refine Arr.seq ?_
  refine Tr.seq ?_
  refine Tr.region ?_
  refine TL.allocA zero_96 (by decide) (fun b12 => ?_)
  refine TL.end ?_
  refine Arr.seq ?_
  refine Tr.seq ?_
  refine Tr.seq ?_
  refine Tr.drop (G := (b12, .cells (va 576 (fl .f32 fun _ => 0)) 96 (0, 0)) :: (b6, .cells (va 248 (mn xm ym)) 47 (0, 0)) :: (b5, .cells (va 86 (sd s)) 36 (0, 0)) :: H) (by rw [Zt96]; exact List.Sublist.refl _) ?_
  refine Tr.region ?_
  refine TL.val (YF.move rfl) (by decide) ?_
  refine TL.end ?_
  refine Arr.seq ?_
  refine Tr.block ?_
  refine Tr.loop (I := fun mq a w => ∃ (t : Nat) (n : Nat → Nat), mq = 32 - t ∧ (t ≤ 32) ∧ (∀ q, q < 18 * t → n q = st q) ∧ Agree 71 [(2, .int .i64 g), (3, .int .i64 c), (4, .slice (some ⟨bs0, 0, none⟩) 576 576), (5, .pointer (some ⟨b5, 0, none⟩)), (6, .pointer (some ⟨b6, 0, none⟩)), (12, .pointer (some ⟨b12, 0, none⟩)), (23, .int .i64 t)] a ∧ HS w0 ((b12, .cells (va 576 (fl .f32 n)) 96 (0, 0)) :: (b6, .cells (va 248 (mn xm ym)) 47 (0, 0)) :: (b5, .cells (va 86 (sd s)) 36 (0, 0)) :: H) w) (32) ?_ ?_
  · intro a w ha hw
    exact ⟨0, fun _ => 0, rfl, by omega, fun q hq => absurd hq (by omega), (ha.cons rfl (ha.cons rfl (ha.cons rfl (ha.cons rfl (ha.cons rfl (ha.cons rfl (ha.cons rfl (ha.nil)))))))), hw⟩
  rintro _ a w ⟨t, n, rfl, ht, hn, ha, hw⟩
  refine Tr.use ha hw ?_
  refine Tr.seq ?_
  refine Tr.region ?_
  refine TL.val (YF.lss rfl rfl rfl) (by decide) ?_
  refine TL.end ?_
  refine Arr.seq ?_
  refine Tr.seq ?_
  refine Tr.cond rfl (fun h24 => ?_) (fun h24 => ?_)
  ·
    replace h24 := of_decide_eq_true h24
    refine Tr.skipE ?_
    refine Arr.seq ?_
    refine Tr.seq ?_
    refine Tr.block ?_
    refine Tr.seq ?_
    refine Tr.region ?_
    refine TL.val (YF.move rfl) (by decide) ?_
    refine TL.val (YF.assign rfl) (by decide) ?_
    refine TL.end ?_
    refine Arr.seq ?_
    refine Tr.seq ?_
    refine Tr.region ?_
    refine TL.val (YF.move rfl) (by decide) ?_
    refine TL.end ?_
    refine Arr.seq ?_
    refine Tr.block ?_
    refine Tr.loop (I := fun mq a w => ∃ (u : Nat) (n : Nat → Nat), mq = 18 - u ∧ (u ≤ 18) ∧ (∀ q, q < 18 * t + u → n q = st q) ∧ Agree 71 [(2, .int .i64 g), (3, .int .i64 c), (4, .slice (some ⟨bs0, 0, none⟩) 576 576), (5, .pointer (some ⟨b5, 0, none⟩)), (6, .pointer (some ⟨b6, 0, none⟩)), (12, .pointer (some ⟨b12, 0, none⟩)), (13, .int .i64 t), (23, .int .i64 t), (26, .int .i64 u)] a ∧ HS w0 ((b12, .cells (va 576 (fl .f32 n)) 96 (0, 0)) :: (b6, .cells (va 248 (mn xm ym)) 47 (0, 0)) :: (b5, .cells (va 86 (sd s)) 36 (0, 0)) :: H) w) (18) ?_ ?_
    · intro a w ha hw
      exact ⟨0, n, rfl, by omega, hn, (ha.cons rfl (ha.cons rfl (ha.cons rfl (ha.cons rfl (ha.cons rfl (ha.cons rfl (ha.cons rfl (ha.cons rfl (ha.cons rfl (ha.nil)))))))))), hw⟩
    rintro _ a w ⟨u, n, rfl, hu, hn, ha, hw⟩
    refine Tr.use ha hw ?_
    refine Tr.seq ?_
    refine Tr.region ?_
    refine TL.val (YF.lss rfl rfl rfl) (by decide) ?_
    refine TL.end ?_
    refine Arr.seq ?_
    refine Tr.seq ?_
    refine Tr.cond rfl (fun h27 => ?_) (fun h27 => ?_)
    ·
      replace h27 := of_decide_eq_true h27
      refine Tr.skipE ?_
      refine Arr.seq ?_
      refine Tr.seq ?_
      refine Tr.block ?_
      refine Tr.seq ?_
      refine Tr.region ?_
      refine TL.val (YF.move rfl) (by decide) ?_
      refine TL.val (YF.assign rfl) (by decide) ?_
      refine TL.end ?_
      refine Arr.seq ?_
      refine Tr.seq ?_
      refine Tr.region ?_
      refine TL.val (YF.move rfl) (by decide) ?_
      refine TL.val (YF.mul rfl rfl (IntWalk.i64_in _ (by omega))) (by decide) ?_
      refine TL.val (YF.move rfl) (by decide) ?_
      refine TL.val (YF.add rfl rfl (IntWalk.i64_in _ (by omega))) (by decide) ?_
      refine TL.val (YF.move rfl) (by decide) ?_
      refine TL.val (YF.lenSl sl_43 rfl) (by decide) ?_
      refine TL.val (YF.lss (b := true) rfl rfl (decide_eq_true (by omega))) (by decide) ?_
      refine TL.end ?_
      refine Arr.seq ?_
      refine Tr.condT rfl ?_
      refine Tr.drawE (_ :: _ :: _) (fun H => (H.eraseIdx 0)) rfl mixed_ ?_
      refine TD.take 0 rfl (by kernel_rfl) (by kernel_rfl) (by kernel_rfl) (fun _ _ _ h => h) (by repeat first | exact List.Sublist.refl _ | apply List.Sublist.cons_cons | apply List.Sublist.cons) (YF.move rfl) (by decide) ?_
      refine TD.take 1 rfl (by kernel_rfl) (by kernel_rfl) (by kernel_rfl) (fun _ _ _ h => h) (by repeat first | exact List.Sublist.refl _ | apply List.Sublist.cons_cons | apply List.Sublist.cons) (YF.move rfl) (by decide) ?_
      refine TD.take 2 rfl (by kernel_rfl) (by kernel_rfl) (by kernel_rfl) (fun _ _ _ h => h) (by repeat first | exact List.Sublist.refl _ | apply List.Sublist.cons_cons | apply List.Sublist.cons) (YF.move rfl) (by decide) ?_
      refine TD.take 3 rfl (by kernel_rfl) (by kernel_rfl) (by kernel_rfl) (fun _ _ _ h => h) (by repeat first | exact List.Sublist.refl _ | apply List.Sublist.cons_cons | apply List.Sublist.cons) (YF.move rfl) (by decide) ?_
      refine TD.take 4 rfl (by kernel_rfl) (by kernel_rfl) (by kernel_rfl) (fun _ _ _ h => h) (by repeat first | exact List.Sublist.refl _ | apply List.Sublist.cons_cons | apply List.Sublist.cons) (YF.mul rfl rfl (IntWalk.i64_in _ (by omega))) (by decide) ?_
      refine TD.take 5 rfl (by kernel_rfl) (by kernel_rfl) (by kernel_rfl) (fun _ _ _ h => h) (by repeat first | exact List.Sublist.refl _ | apply List.Sublist.cons_cons | apply List.Sublist.cons) (YF.move rfl) (by decide) ?_
      refine TD.take 6 rfl (by kernel_rfl) (by kernel_rfl) (by kernel_rfl) (fun _ _ _ h => h) (by repeat first | exact List.Sublist.refl _ | apply List.Sublist.cons_cons | apply List.Sublist.cons) (YF.add rfl rfl (IntWalk.i64_in _ (by omega))) (by decide) ?_
      refine TD.take 7 rfl (by kernel_rfl) (by kernel_rfl) (by kernel_rfl) (fun _ _ _ h => h) (by repeat first | exact List.Sublist.refl _ | apply List.Sublist.cons_cons | apply List.Sublist.cons) (YF.indexSl sl_43 rfl rfl (by first | decide | omega) (show _ = 18 * t + u by omega)) (by decide) ?_
      refine TD.take 8 rfl (by kernel_rfl) (by kernel_rfl) (by kernel_rfl) (fun _ _ _ h => h) (by repeat first | exact List.Sublist.refl _ | apply List.Sublist.cons_cons | apply List.Sublist.cons) (YF.load (is + 2) sc_82 rfl his (va_get (by omega) rfl)) (by decide) ?_
      refine TD.take 9 rfl (by kernel_rfl) (by kernel_rfl) (by kernel_rfl) (fun _ _ _ h => h) (by repeat first | exact List.Sublist.refl _ | apply List.Sublist.cons_cons | apply List.Sublist.cons) (YF.indexArr arr_96 rfl rfl (by first | decide | omega) (show _ = 18 * t by omega)) (by decide) ?_
      refine TD.take 10 rfl (by kernel_rfl) (by kernel_rfl) (by kernel_rfl) (fun _ _ _ h => h) (by repeat first | exact List.Sublist.refl _ | apply List.Sublist.cons_cons | apply List.Sublist.cons) (YF.indexArr arr_95 rfl rfl (by first | decide | omega) (show _ = 18 * t + u by omega)) (by decide) ?_
      refine TD.eff0 11 rfl (by kernel_rfl) (EF.store 0 rfl rfl rfl sz_82 rfl (by rw [va_size]; omega)) (by rintro _ _ ⟨rfl, rfl⟩; exact (by repeat first | exact List.Sublist.refl _ | apply List.Sublist.cons_cons | apply List.Sublist.cons)) ?_
      rintro _ _ ⟨rfl, rfl⟩
      refine TD.heap ((b12, .cells (va 576 (fl .f32 (upd n (18 * t + u) (st (18 * t + u))))) 96 (0, 0)) :: _) (by rw [← fl_set]; rfl) ?_
      refine TD.end (by kernel_rfl) ?_
      refine Arr.block ?_
      refine Arr.seq ?_
      refine Tr.region ?_
      refine TL.val (YF.add rfl rfl (IntWalk.i64_in _ (by omega))) (by decide) ?_
      refine TL.val (YF.move rfl) (by decide) ?_
      refine TL.end ?_
      exact fun a w ha hw => ⟨_, by omega, u + 1, upd n (18 * t + u) (st (18 * t + u)), rfl, by omega, (fun q hq => by
          by_cases e : q = 18 * t + u
          · subst e; rw [upd_at]
          · rw [upd_ne _ _ e]; exact hn q (by omega)), (ha.cons rfl (ha.cons rfl (ha.cons rfl (ha.cons rfl (ha.cons rfl (ha.cons rfl (ha.cons rfl (ha.cons rfl (ha.cons rfl (ha.nil)))))))))), hw⟩
    ·
      replace h27 := of_decide_eq_false h27
      refine Tr.exitE ?_
      refine Arr.seqX ?_
      refine Arr.seqX ?_
      refine Arr.blockE ?_
      refine Arr.block ?_
      refine Arr.seq ?_
      refine Tr.region ?_
      refine TL.val (YF.add rfl rfl (IntWalk.i64_in _ (by omega))) (by decide) ?_
      refine TL.val (YF.move rfl) (by decide) ?_
      refine TL.end ?_
      exact fun a w ha hw => ⟨_, by omega, t + 1, n, rfl, by omega, fun q hq => hn q (by omega), (ha.cons rfl (ha.cons rfl (ha.cons rfl (ha.cons rfl (ha.cons rfl (ha.cons rfl (ha.cons rfl (ha.nil)))))))), hw⟩
  ·
    replace h24 := of_decide_eq_false h24
    refine Tr.exitE ?_
    refine Arr.seqX ?_
    refine Arr.seqX ?_
    refine Arr.blockE ?_
    refine Arr.seq ?_
    refine Tr.seq ?_
    have e : va 576 (fl .f32 n) = va 576 (fl .f32 st) := va_tab fun q hq => hn q (by omega)
    rw [e]
    clear hn e
    refine Tr.cutN (R := fun a w => ∃ (b15 b16 : Nat) (y k : Nat → Nat), HY single (HE G K) (fun q => Yq s g c (fun q => V single (x q)) q + V single (st q)) (Nq s g c (fun q => V single (x q))) x st (576) y k ∧ Agree 71 [(15, .pointer (some ⟨b15, 0, none⟩)), (16, .pointer (some ⟨b16, 0, none⟩))] a ∧ HS w0 ((b15, .cells (va 576 (fl .f32 y)) 84 (0, 0)) :: (b16, .cells (va 576 (fl .f32 k)) 96 (0, 0)) :: H) w) ?_ ?_
    ·
      refine Tr.drawE (_ :: _ :: _ :: _) (fun H => H) rfl mixed_ ?_
      refine TD.take 0 rfl (by kernel_rfl) (by kernel_rfl) (by kernel_rfl) (fun _ _ _ h => h) (by repeat first | exact List.Sublist.refl _ | apply List.Sublist.cons_cons | apply List.Sublist.cons) (YF.loadAll 2 agg_36 rfl rfl (va_size _ _)) (by decide) ?_
      refine TD.take 2 rfl (by kernel_rfl) (by kernel_rfl) (by kernel_rfl) (fun _ _ _ h => h) (by repeat first | exact List.Sublist.refl _ | apply List.Sublist.cons_cons | apply List.Sublist.cons) (YF.loadAll 1 agg_47 rfl rfl (va_size _ _)) (by decide) ?_
      refine TD.take 4 rfl (by kernel_rfl) (by kernel_rfl) (by kernel_rfl) (fun _ _ _ h => h) (by repeat first | exact List.Sublist.refl _ | apply List.Sublist.cons_cons | apply List.Sublist.cons) (YF.move rfl) (by decide) ?_
      refine TD.take 5 rfl (by kernel_rfl) (by kernel_rfl) (by kernel_rfl) (fun _ _ _ h => h) (by repeat first | exact List.Sublist.refl _ | apply List.Sublist.cons_cons | apply List.Sublist.cons) (YF.move rfl) (by decide) ?_
      refine TD.take 6 rfl (by kernel_rfl) (by kernel_rfl) (by kernel_rfl) (fun _ _ _ h => h) (by repeat first | exact List.Sublist.refl _ | apply List.Sublist.cons_cons | apply List.Sublist.cons) (YF.loadAll 0 agg_96 rfl rfl (va_size _ _)) (by decide) ?_
      refine TD.three 1 11 12 (by kernel_rfl) ?_ ?_ ?_
      ·
        refine TO.eff 1 rfl (EF.call (vs := [_]) call_28 rfl (made_ct s w0 _)) (by decide) (by rintro _ _ ⟨b, rfl, rfl⟩; exact (by repeat first | exact List.Sublist.refl _ | apply List.Sublist.cons_cons | apply List.Sublist.cons)) ?_
        rintro _ _ ⟨bs, rfl, rfl⟩
        refine TD.three 3 11 12 (by kernel_rfl) ?_ ?_ ?_
        ·
          refine TO.eff 3 rfl (EF.call (vs := [_]) call_29 rfl (lined1_ct xm ym ls (2 * g + c) x w0 _ (fun k hk => (hls k hk).mono fun q hq => by repeat (first | exact hq | apply List.mem_cons_of_mem)) (by omega) hlsx)) (by decide) (by rintro _ _ ⟨rfl, rfl⟩; exact (by repeat first | exact List.Sublist.refl _ | apply List.Sublist.cons_cons | apply List.Sublist.cons)) ?_
          rintro _ _ ⟨rfl, rfl⟩
          refine TD.three 7 11 12 (by kernel_rfl) ?_ ?_ ?_
          ·
            refine TO.eff 7 rfl (EF.call (vs := [_, _, _, _, _]) call_32 rfl (zzHybrid_ct s x st (mdk xm ls 4) g c G K 0 bs hg hc _ _ w0 _ rfl hG0 hG hK0 hK hx hst hbk hsn hcn)) (by decide) (by rintro _ _ ⟨y, k, hH, rfl, rfl⟩; exact (by repeat first | exact List.Sublist.refl _ | apply List.Sublist.cons_cons | apply List.Sublist.cons)) ?_
            rintro _ _ ⟨y, k, hH, rfl, rfl⟩
            refine TD.take 8 rfl (by kernel_rfl) (by kernel_rfl) (by kernel_rfl) (fun _ _ _ h => h) (by repeat first | exact List.Sublist.refl _ | apply List.Sublist.cons_cons | apply List.Sublist.cons) (YF.move rfl) (by decide) ?_
            refine TD.take 9 rfl (by kernel_rfl) (by kernel_rfl) (by kernel_rfl) (fun _ _ _ h => h) (by repeat first | exact List.Sublist.refl _ | apply List.Sublist.cons_cons | apply List.Sublist.cons) (YF.extract rfl rfl) (by decide) ?_
            refine TD.take 10 rfl (by kernel_rfl) (by kernel_rfl) (by kernel_rfl) (fun _ _ _ h => h) (by repeat first | exact List.Sublist.refl _ | apply List.Sublist.cons_cons | apply List.Sublist.cons) (YF.extract rfl rfl) (by decide) ?_
            refine TD.two 11 12 (by kernel_rfl) ?_ ?_
            ·
              refine TO.eff 11 rfl (EF.alloc zero_84) (by decide) (by rintro _ _ ⟨_, rfl, rfl⟩; exact (by repeat first | exact List.Sublist.refl _ | apply List.Sublist.cons_cons | apply List.Sublist.cons)) ?_
              rintro _ _ ⟨b15, rfl, rfl⟩
              refine TD.eff 12 rfl (by kernel_rfl) (EF.alloc zero_96) (by decide) (by rintro _ _ ⟨_, rfl, rfl⟩; exact (by repeat first | exact List.Sublist.refl _ | apply List.Sublist.cons_cons | apply List.Sublist.cons)) ?_
              rintro _ _ ⟨b16, rfl, rfl⟩
              refine TD.eff0 13 rfl (by kernel_rfl) (EF.storeAll 1 rfl rfl rfl sz_84 (va_size _ _) Zsz_84 (va_one fun _ _ => rfl)) (by rintro _ _ rfl; exact (by repeat first | exact List.Sublist.refl _ | apply List.Sublist.cons_cons | apply List.Sublist.cons)) ?_
              rintro _ _ rfl
              refine TD.heap (_ :: _ :: _ :: _ :: _ :: _ :: _) rfl ?_
              refine TD.eff0 14 rfl (by kernel_rfl) (EF.storeAll 0 rfl rfl rfl sz_96 (va_size _ _) Zsz_96 (va_one fun _ _ => rfl)) (by rintro _ _ rfl; exact (by repeat first | exact List.Sublist.refl _ | apply List.Sublist.cons_cons | apply List.Sublist.cons)) ?_
              rintro _ _ rfl
              refine TD.heap (_ :: _ :: _ :: _ :: _ :: _ :: _) rfl ?_
              refine TD.end (by kernel_rfl) ?_
              refine Arr.meet ?_
              first
                | (intro a w ha hw
                   refine ⟨b15, b16, y, k, hH, (ha.cons rfl (ha.cons rfl (ha.nil))), hw.mono ?_⟩
                   (repeat first | exact List.Sublist.refl _ | apply List.Sublist.cons_cons | apply List.Sublist.cons)
                   done)
                | (intro a w ha hw
                   refine ⟨b15, b16, y, k, hH, (ha.cons rfl (ha.cons rfl (ha.nil))), (hw.mono (G := (b16, .cells (va 576 (fl .f32 k)) 96 (0, 0)) :: (b15, .cells (va 576 (fl .f32 y)) 84 (0, 0)) :: H) ?_).perm (List.Perm.swap _ _ _)⟩
                   (repeat first | exact List.Sublist.refl _ | apply List.Sublist.cons_cons | apply List.Sublist.cons)
                   done)
            ·
              refine TO.eff 12 rfl (EF.alloc zero_96) (by decide) (by rintro _ _ ⟨_, rfl, rfl⟩; exact (by repeat first | exact List.Sublist.refl _ | apply List.Sublist.cons_cons | apply List.Sublist.cons)) ?_
              rintro _ _ ⟨b16, rfl, rfl⟩
              refine TD.eff 11 rfl (by kernel_rfl) (EF.alloc zero_84) (by decide) (by rintro _ _ ⟨_, rfl, rfl⟩; exact (by repeat first | exact List.Sublist.refl _ | apply List.Sublist.cons_cons | apply List.Sublist.cons)) ?_
              rintro _ _ ⟨b15, rfl, rfl⟩
              refine TD.eff0 13 rfl (by kernel_rfl) (EF.storeAll 0 rfl rfl rfl sz_84 (va_size _ _) Zsz_84 (va_one fun _ _ => rfl)) (by rintro _ _ rfl; exact (by repeat first | exact List.Sublist.refl _ | apply List.Sublist.cons_cons | apply List.Sublist.cons)) ?_
              rintro _ _ rfl
              refine TD.heap (_ :: _ :: _ :: _ :: _ :: _ :: _) rfl ?_
              refine TD.eff0 14 rfl (by kernel_rfl) (EF.storeAll 1 rfl rfl rfl sz_96 (va_size _ _) Zsz_96 (va_one fun _ _ => rfl)) (by rintro _ _ rfl; exact (by repeat first | exact List.Sublist.refl _ | apply List.Sublist.cons_cons | apply List.Sublist.cons)) ?_
              rintro _ _ rfl
              refine TD.heap (_ :: _ :: _ :: _ :: _ :: _ :: _) rfl ?_
              refine TD.end (by kernel_rfl) ?_
              refine Arr.meet ?_
              first
                | (intro a w ha hw
                   refine ⟨b15, b16, y, k, hH, (ha.cons rfl (ha.cons rfl (ha.nil))), hw.mono ?_⟩
                   (repeat first | exact List.Sublist.refl _ | apply List.Sublist.cons_cons | apply List.Sublist.cons)
                   done)
                | (intro a w ha hw
                   refine ⟨b15, b16, y, k, hH, (ha.cons rfl (ha.cons rfl (ha.nil))), (hw.mono (G := (b16, .cells (va 576 (fl .f32 k)) 96 (0, 0)) :: (b15, .cells (va 576 (fl .f32 y)) 84 (0, 0)) :: H) ?_).perm (List.Perm.swap _ _ _)⟩
                   (repeat first | exact List.Sublist.refl _ | apply List.Sublist.cons_cons | apply List.Sublist.cons)
                   done)
          ·
            refine TO.eff 11 rfl (EF.alloc zero_84) (by decide) (by rintro _ _ ⟨_, rfl, rfl⟩; exact (by repeat first | exact List.Sublist.refl _ | apply List.Sublist.cons_cons | apply List.Sublist.cons)) ?_
            rintro _ _ ⟨b15, rfl, rfl⟩
            refine TD.two 7 12 (by kernel_rfl) ?_ ?_
            ·
              refine TO.eff 7 rfl (EF.call (vs := [_, _, _, _, _]) call_32 rfl (zzHybrid_ct s x st (mdk xm ls 4) g c G K 1 bs hg hc _ _ w0 _ rfl hG0 hG hK0 hK hx hst hbk hsn hcn)) (by decide) (by rintro _ _ ⟨y, k, hH, rfl, rfl⟩; exact (by repeat first | exact List.Sublist.refl _ | apply List.Sublist.cons_cons | apply List.Sublist.cons)) ?_
              rintro _ _ ⟨y, k, hH, rfl, rfl⟩
              refine TD.take 8 rfl (by kernel_rfl) (by kernel_rfl) (by kernel_rfl) (fun _ _ _ h => h) (by repeat first | exact List.Sublist.refl _ | apply List.Sublist.cons_cons | apply List.Sublist.cons) (YF.move rfl) (by decide) ?_
              refine TD.take 9 rfl (by kernel_rfl) (by kernel_rfl) (by kernel_rfl) (fun _ _ _ h => h) (by repeat first | exact List.Sublist.refl _ | apply List.Sublist.cons_cons | apply List.Sublist.cons) (YF.extract rfl rfl) (by decide) ?_
              refine TD.take 10 rfl (by kernel_rfl) (by kernel_rfl) (by kernel_rfl) (fun _ _ _ h => h) (by repeat first | exact List.Sublist.refl _ | apply List.Sublist.cons_cons | apply List.Sublist.cons) (YF.extract rfl rfl) (by decide) ?_
              refine TD.eff 12 rfl (by kernel_rfl) (EF.alloc zero_96) (by decide) (by rintro _ _ ⟨_, rfl, rfl⟩; exact (by repeat first | exact List.Sublist.refl _ | apply List.Sublist.cons_cons | apply List.Sublist.cons)) ?_
              rintro _ _ ⟨b16, rfl, rfl⟩
              refine TD.eff0 13 rfl (by kernel_rfl) (EF.storeAll 1 rfl rfl rfl sz_84 (va_size _ _) Zsz_84 (va_one fun _ _ => rfl)) (by rintro _ _ rfl; exact (by repeat first | exact List.Sublist.refl _ | apply List.Sublist.cons_cons | apply List.Sublist.cons)) ?_
              rintro _ _ rfl
              refine TD.heap (_ :: _ :: _ :: _ :: _ :: _ :: _) rfl ?_
              refine TD.eff0 14 rfl (by kernel_rfl) (EF.storeAll 0 rfl rfl rfl sz_96 (va_size _ _) Zsz_96 (va_one fun _ _ => rfl)) (by rintro _ _ rfl; exact (by repeat first | exact List.Sublist.refl _ | apply List.Sublist.cons_cons | apply List.Sublist.cons)) ?_
              rintro _ _ rfl
              refine TD.heap (_ :: _ :: _ :: _ :: _ :: _ :: _) rfl ?_
              refine TD.end (by kernel_rfl) ?_
              refine Arr.meet ?_
              first
                | (intro a w ha hw
                   refine ⟨b15, b16, y, k, hH, (ha.cons rfl (ha.cons rfl (ha.nil))), hw.mono ?_⟩
                   (repeat first | exact List.Sublist.refl _ | apply List.Sublist.cons_cons | apply List.Sublist.cons)
                   done)
                | (intro a w ha hw
                   refine ⟨b15, b16, y, k, hH, (ha.cons rfl (ha.cons rfl (ha.nil))), (hw.mono (G := (b16, .cells (va 576 (fl .f32 k)) 96 (0, 0)) :: (b15, .cells (va 576 (fl .f32 y)) 84 (0, 0)) :: H) ?_).perm (List.Perm.swap _ _ _)⟩
                   (repeat first | exact List.Sublist.refl _ | apply List.Sublist.cons_cons | apply List.Sublist.cons)
                   done)
            ·
              refine TO.eff 12 rfl (EF.alloc zero_96) (by decide) (by rintro _ _ ⟨_, rfl, rfl⟩; exact (by repeat first | exact List.Sublist.refl _ | apply List.Sublist.cons_cons | apply List.Sublist.cons)) ?_
              rintro _ _ ⟨b16, rfl, rfl⟩
              refine TD.eff 7 rfl (by kernel_rfl) (EF.call (vs := [_, _, _, _, _]) call_32 rfl (zzHybrid_ct s x st (mdk xm ls 4) g c G K 2 bs hg hc _ _ w0 _ rfl hG0 hG hK0 hK hx hst hbk hsn hcn)) (by decide) (by rintro _ _ ⟨y, k, hH, rfl, rfl⟩; exact (by repeat first | exact List.Sublist.refl _ | apply List.Sublist.cons_cons | apply List.Sublist.cons)) ?_
              rintro _ _ ⟨y, k, hH, rfl, rfl⟩
              refine TD.take 8 rfl (by kernel_rfl) (by kernel_rfl) (by kernel_rfl) (fun _ _ _ h => h) (by repeat first | exact List.Sublist.refl _ | apply List.Sublist.cons_cons | apply List.Sublist.cons) (YF.move rfl) (by decide) ?_
              refine TD.take 9 rfl (by kernel_rfl) (by kernel_rfl) (by kernel_rfl) (fun _ _ _ h => h) (by repeat first | exact List.Sublist.refl _ | apply List.Sublist.cons_cons | apply List.Sublist.cons) (YF.extract rfl rfl) (by decide) ?_
              refine TD.take 10 rfl (by kernel_rfl) (by kernel_rfl) (by kernel_rfl) (fun _ _ _ h => h) (by repeat first | exact List.Sublist.refl _ | apply List.Sublist.cons_cons | apply List.Sublist.cons) (YF.extract rfl rfl) (by decide) ?_
              refine TD.eff0 13 rfl (by kernel_rfl) (EF.storeAll 1 rfl rfl rfl sz_84 (va_size _ _) Zsz_84 (va_one fun _ _ => rfl)) (by rintro _ _ rfl; exact (by repeat first | exact List.Sublist.refl _ | apply List.Sublist.cons_cons | apply List.Sublist.cons)) ?_
              rintro _ _ rfl
              refine TD.heap (_ :: _ :: _ :: _ :: _ :: _ :: _) rfl ?_
              refine TD.eff0 14 rfl (by kernel_rfl) (EF.storeAll 0 rfl rfl rfl sz_96 (va_size _ _) Zsz_96 (va_one fun _ _ => rfl)) (by rintro _ _ rfl; exact (by repeat first | exact List.Sublist.refl _ | apply List.Sublist.cons_cons | apply List.Sublist.cons)) ?_
              rintro _ _ rfl
              refine TD.heap (_ :: _ :: _ :: _ :: _ :: _ :: _) rfl ?_
              refine TD.end (by kernel_rfl) ?_
              refine Arr.meet ?_
              first
                | (intro a w ha hw
                   refine ⟨b15, b16, y, k, hH, (ha.cons rfl (ha.cons rfl (ha.nil))), hw.mono ?_⟩
                   (repeat first | exact List.Sublist.refl _ | apply List.Sublist.cons_cons | apply List.Sublist.cons)
                   done)
                | (intro a w ha hw
                   refine ⟨b15, b16, y, k, hH, (ha.cons rfl (ha.cons rfl (ha.nil))), (hw.mono (G := (b16, .cells (va 576 (fl .f32 k)) 96 (0, 0)) :: (b15, .cells (va 576 (fl .f32 y)) 84 (0, 0)) :: H) ?_).perm (List.Perm.swap _ _ _)⟩
                   (repeat first | exact List.Sublist.refl _ | apply List.Sublist.cons_cons | apply List.Sublist.cons)
                   done)
          ·
            refine TO.eff 12 rfl (EF.alloc zero_96) (by decide) (by rintro _ _ ⟨_, rfl, rfl⟩; exact (by repeat first | exact List.Sublist.refl _ | apply List.Sublist.cons_cons | apply List.Sublist.cons)) ?_
            rintro _ _ ⟨b16, rfl, rfl⟩
            refine TD.two 7 11 (by kernel_rfl) ?_ ?_
            ·
              refine TO.eff 7 rfl (EF.call (vs := [_, _, _, _, _]) call_32 rfl (zzHybrid_ct s x st (mdk xm ls 4) g c G K 1 bs hg hc _ _ w0 _ rfl hG0 hG hK0 hK hx hst hbk hsn hcn)) (by decide) (by rintro _ _ ⟨y, k, hH, rfl, rfl⟩; exact (by repeat first | exact List.Sublist.refl _ | apply List.Sublist.cons_cons | apply List.Sublist.cons)) ?_
              rintro _ _ ⟨y, k, hH, rfl, rfl⟩
              refine TD.take 8 rfl (by kernel_rfl) (by kernel_rfl) (by kernel_rfl) (fun _ _ _ h => h) (by repeat first | exact List.Sublist.refl _ | apply List.Sublist.cons_cons | apply List.Sublist.cons) (YF.move rfl) (by decide) ?_
              refine TD.take 9 rfl (by kernel_rfl) (by kernel_rfl) (by kernel_rfl) (fun _ _ _ h => h) (by repeat first | exact List.Sublist.refl _ | apply List.Sublist.cons_cons | apply List.Sublist.cons) (YF.extract rfl rfl) (by decide) ?_
              refine TD.take 10 rfl (by kernel_rfl) (by kernel_rfl) (by kernel_rfl) (fun _ _ _ h => h) (by repeat first | exact List.Sublist.refl _ | apply List.Sublist.cons_cons | apply List.Sublist.cons) (YF.extract rfl rfl) (by decide) ?_
              refine TD.eff 11 rfl (by kernel_rfl) (EF.alloc zero_84) (by decide) (by rintro _ _ ⟨_, rfl, rfl⟩; exact (by repeat first | exact List.Sublist.refl _ | apply List.Sublist.cons_cons | apply List.Sublist.cons)) ?_
              rintro _ _ ⟨b15, rfl, rfl⟩
              refine TD.eff0 13 rfl (by kernel_rfl) (EF.storeAll 0 rfl rfl rfl sz_84 (va_size _ _) Zsz_84 (va_one fun _ _ => rfl)) (by rintro _ _ rfl; exact (by repeat first | exact List.Sublist.refl _ | apply List.Sublist.cons_cons | apply List.Sublist.cons)) ?_
              rintro _ _ rfl
              refine TD.heap (_ :: _ :: _ :: _ :: _ :: _ :: _) rfl ?_
              refine TD.eff0 14 rfl (by kernel_rfl) (EF.storeAll 1 rfl rfl rfl sz_96 (va_size _ _) Zsz_96 (va_one fun _ _ => rfl)) (by rintro _ _ rfl; exact (by repeat first | exact List.Sublist.refl _ | apply List.Sublist.cons_cons | apply List.Sublist.cons)) ?_
              rintro _ _ rfl
              refine TD.heap (_ :: _ :: _ :: _ :: _ :: _ :: _) rfl ?_
              refine TD.end (by kernel_rfl) ?_
              refine Arr.meet ?_
              first
                | (intro a w ha hw
                   refine ⟨b15, b16, y, k, hH, (ha.cons rfl (ha.cons rfl (ha.nil))), hw.mono ?_⟩
                   (repeat first | exact List.Sublist.refl _ | apply List.Sublist.cons_cons | apply List.Sublist.cons)
                   done)
                | (intro a w ha hw
                   refine ⟨b15, b16, y, k, hH, (ha.cons rfl (ha.cons rfl (ha.nil))), (hw.mono (G := (b16, .cells (va 576 (fl .f32 k)) 96 (0, 0)) :: (b15, .cells (va 576 (fl .f32 y)) 84 (0, 0)) :: H) ?_).perm (List.Perm.swap _ _ _)⟩
                   (repeat first | exact List.Sublist.refl _ | apply List.Sublist.cons_cons | apply List.Sublist.cons)
                   done)
            ·
              refine TO.eff 11 rfl (EF.alloc zero_84) (by decide) (by rintro _ _ ⟨_, rfl, rfl⟩; exact (by repeat first | exact List.Sublist.refl _ | apply List.Sublist.cons_cons | apply List.Sublist.cons)) ?_
              rintro _ _ ⟨b15, rfl, rfl⟩
              refine TD.eff 7 rfl (by kernel_rfl) (EF.call (vs := [_, _, _, _, _]) call_32 rfl (zzHybrid_ct s x st (mdk xm ls 4) g c G K 2 bs hg hc _ _ w0 _ rfl hG0 hG hK0 hK hx hst hbk hsn hcn)) (by decide) (by rintro _ _ ⟨y, k, hH, rfl, rfl⟩; exact (by repeat first | exact List.Sublist.refl _ | apply List.Sublist.cons_cons | apply List.Sublist.cons)) ?_
              rintro _ _ ⟨y, k, hH, rfl, rfl⟩
              refine TD.take 8 rfl (by kernel_rfl) (by kernel_rfl) (by kernel_rfl) (fun _ _ _ h => h) (by repeat first | exact List.Sublist.refl _ | apply List.Sublist.cons_cons | apply List.Sublist.cons) (YF.move rfl) (by decide) ?_
              refine TD.take 9 rfl (by kernel_rfl) (by kernel_rfl) (by kernel_rfl) (fun _ _ _ h => h) (by repeat first | exact List.Sublist.refl _ | apply List.Sublist.cons_cons | apply List.Sublist.cons) (YF.extract rfl rfl) (by decide) ?_
              refine TD.take 10 rfl (by kernel_rfl) (by kernel_rfl) (by kernel_rfl) (fun _ _ _ h => h) (by repeat first | exact List.Sublist.refl _ | apply List.Sublist.cons_cons | apply List.Sublist.cons) (YF.extract rfl rfl) (by decide) ?_
              refine TD.eff0 13 rfl (by kernel_rfl) (EF.storeAll 0 rfl rfl rfl sz_84 (va_size _ _) Zsz_84 (va_one fun _ _ => rfl)) (by rintro _ _ rfl; exact (by repeat first | exact List.Sublist.refl _ | apply List.Sublist.cons_cons | apply List.Sublist.cons)) ?_
              rintro _ _ rfl
              refine TD.heap (_ :: _ :: _ :: _ :: _ :: _ :: _) rfl ?_
              refine TD.eff0 14 rfl (by kernel_rfl) (EF.storeAll 1 rfl rfl rfl sz_96 (va_size _ _) Zsz_96 (va_one fun _ _ => rfl)) (by rintro _ _ rfl; exact (by repeat first | exact List.Sublist.refl _ | apply List.Sublist.cons_cons | apply List.Sublist.cons)) ?_
              rintro _ _ rfl
              refine TD.heap (_ :: _ :: _ :: _ :: _ :: _ :: _) rfl ?_
              refine TD.end (by kernel_rfl) ?_
              refine Arr.meet ?_
              first
                | (intro a w ha hw
                   refine ⟨b15, b16, y, k, hH, (ha.cons rfl (ha.cons rfl (ha.nil))), hw.mono ?_⟩
                   (repeat first | exact List.Sublist.refl _ | apply List.Sublist.cons_cons | apply List.Sublist.cons)
                   done)
                | (intro a w ha hw
                   refine ⟨b15, b16, y, k, hH, (ha.cons rfl (ha.cons rfl (ha.nil))), (hw.mono (G := (b16, .cells (va 576 (fl .f32 k)) 96 (0, 0)) :: (b15, .cells (va 576 (fl .f32 y)) 84 (0, 0)) :: H) ?_).perm (List.Perm.swap _ _ _)⟩
                   (repeat first | exact List.Sublist.refl _ | apply List.Sublist.cons_cons | apply List.Sublist.cons)
                   done)
        ·
          refine TO.eff 11 rfl (EF.alloc zero_84) (by decide) (by rintro _ _ ⟨_, rfl, rfl⟩; exact (by repeat first | exact List.Sublist.refl _ | apply List.Sublist.cons_cons | apply List.Sublist.cons)) ?_
          rintro _ _ ⟨b15, rfl, rfl⟩
          refine TD.two 3 12 (by kernel_rfl) ?_ ?_
          ·
            refine TO.eff 3 rfl (EF.call (vs := [_]) call_29 rfl (lined1_ct xm ym ls (2 * g + c) x w0 _ (fun k hk => (hls k hk).mono fun q hq => by repeat (first | exact hq | apply List.mem_cons_of_mem)) (by omega) hlsx)) (by decide) (by rintro _ _ ⟨rfl, rfl⟩; exact (by repeat first | exact List.Sublist.refl _ | apply List.Sublist.cons_cons | apply List.Sublist.cons)) ?_
            rintro _ _ ⟨rfl, rfl⟩
            refine TD.two 7 12 (by kernel_rfl) ?_ ?_
            ·
              refine TO.eff 7 rfl (EF.call (vs := [_, _, _, _, _]) call_32 rfl (zzHybrid_ct s x st (mdk xm ls 4) g c G K 1 bs hg hc _ _ w0 _ rfl hG0 hG hK0 hK hx hst hbk hsn hcn)) (by decide) (by rintro _ _ ⟨y, k, hH, rfl, rfl⟩; exact (by repeat first | exact List.Sublist.refl _ | apply List.Sublist.cons_cons | apply List.Sublist.cons)) ?_
              rintro _ _ ⟨y, k, hH, rfl, rfl⟩
              refine TD.take 8 rfl (by kernel_rfl) (by kernel_rfl) (by kernel_rfl) (fun _ _ _ h => h) (by repeat first | exact List.Sublist.refl _ | apply List.Sublist.cons_cons | apply List.Sublist.cons) (YF.move rfl) (by decide) ?_
              refine TD.take 9 rfl (by kernel_rfl) (by kernel_rfl) (by kernel_rfl) (fun _ _ _ h => h) (by repeat first | exact List.Sublist.refl _ | apply List.Sublist.cons_cons | apply List.Sublist.cons) (YF.extract rfl rfl) (by decide) ?_
              refine TD.take 10 rfl (by kernel_rfl) (by kernel_rfl) (by kernel_rfl) (fun _ _ _ h => h) (by repeat first | exact List.Sublist.refl _ | apply List.Sublist.cons_cons | apply List.Sublist.cons) (YF.extract rfl rfl) (by decide) ?_
              refine TD.eff 12 rfl (by kernel_rfl) (EF.alloc zero_96) (by decide) (by rintro _ _ ⟨_, rfl, rfl⟩; exact (by repeat first | exact List.Sublist.refl _ | apply List.Sublist.cons_cons | apply List.Sublist.cons)) ?_
              rintro _ _ ⟨b16, rfl, rfl⟩
              refine TD.eff0 13 rfl (by kernel_rfl) (EF.storeAll 1 rfl rfl rfl sz_84 (va_size _ _) Zsz_84 (va_one fun _ _ => rfl)) (by rintro _ _ rfl; exact (by repeat first | exact List.Sublist.refl _ | apply List.Sublist.cons_cons | apply List.Sublist.cons)) ?_
              rintro _ _ rfl
              refine TD.heap (_ :: _ :: _ :: _ :: _ :: _ :: _) rfl ?_
              refine TD.eff0 14 rfl (by kernel_rfl) (EF.storeAll 0 rfl rfl rfl sz_96 (va_size _ _) Zsz_96 (va_one fun _ _ => rfl)) (by rintro _ _ rfl; exact (by repeat first | exact List.Sublist.refl _ | apply List.Sublist.cons_cons | apply List.Sublist.cons)) ?_
              rintro _ _ rfl
              refine TD.heap (_ :: _ :: _ :: _ :: _ :: _ :: _) rfl ?_
              refine TD.end (by kernel_rfl) ?_
              refine Arr.meet ?_
              first
                | (intro a w ha hw
                   refine ⟨b15, b16, y, k, hH, (ha.cons rfl (ha.cons rfl (ha.nil))), hw.mono ?_⟩
                   (repeat first | exact List.Sublist.refl _ | apply List.Sublist.cons_cons | apply List.Sublist.cons)
                   done)
                | (intro a w ha hw
                   refine ⟨b15, b16, y, k, hH, (ha.cons rfl (ha.cons rfl (ha.nil))), (hw.mono (G := (b16, .cells (va 576 (fl .f32 k)) 96 (0, 0)) :: (b15, .cells (va 576 (fl .f32 y)) 84 (0, 0)) :: H) ?_).perm (List.Perm.swap _ _ _)⟩
                   (repeat first | exact List.Sublist.refl _ | apply List.Sublist.cons_cons | apply List.Sublist.cons)
                   done)
            ·
              refine TO.eff 12 rfl (EF.alloc zero_96) (by decide) (by rintro _ _ ⟨_, rfl, rfl⟩; exact (by repeat first | exact List.Sublist.refl _ | apply List.Sublist.cons_cons | apply List.Sublist.cons)) ?_
              rintro _ _ ⟨b16, rfl, rfl⟩
              refine TD.eff 7 rfl (by kernel_rfl) (EF.call (vs := [_, _, _, _, _]) call_32 rfl (zzHybrid_ct s x st (mdk xm ls 4) g c G K 2 bs hg hc _ _ w0 _ rfl hG0 hG hK0 hK hx hst hbk hsn hcn)) (by decide) (by rintro _ _ ⟨y, k, hH, rfl, rfl⟩; exact (by repeat first | exact List.Sublist.refl _ | apply List.Sublist.cons_cons | apply List.Sublist.cons)) ?_
              rintro _ _ ⟨y, k, hH, rfl, rfl⟩
              refine TD.take 8 rfl (by kernel_rfl) (by kernel_rfl) (by kernel_rfl) (fun _ _ _ h => h) (by repeat first | exact List.Sublist.refl _ | apply List.Sublist.cons_cons | apply List.Sublist.cons) (YF.move rfl) (by decide) ?_
              refine TD.take 9 rfl (by kernel_rfl) (by kernel_rfl) (by kernel_rfl) (fun _ _ _ h => h) (by repeat first | exact List.Sublist.refl _ | apply List.Sublist.cons_cons | apply List.Sublist.cons) (YF.extract rfl rfl) (by decide) ?_
              refine TD.take 10 rfl (by kernel_rfl) (by kernel_rfl) (by kernel_rfl) (fun _ _ _ h => h) (by repeat first | exact List.Sublist.refl _ | apply List.Sublist.cons_cons | apply List.Sublist.cons) (YF.extract rfl rfl) (by decide) ?_
              refine TD.eff0 13 rfl (by kernel_rfl) (EF.storeAll 1 rfl rfl rfl sz_84 (va_size _ _) Zsz_84 (va_one fun _ _ => rfl)) (by rintro _ _ rfl; exact (by repeat first | exact List.Sublist.refl _ | apply List.Sublist.cons_cons | apply List.Sublist.cons)) ?_
              rintro _ _ rfl
              refine TD.heap (_ :: _ :: _ :: _ :: _ :: _ :: _) rfl ?_
              refine TD.eff0 14 rfl (by kernel_rfl) (EF.storeAll 0 rfl rfl rfl sz_96 (va_size _ _) Zsz_96 (va_one fun _ _ => rfl)) (by rintro _ _ rfl; exact (by repeat first | exact List.Sublist.refl _ | apply List.Sublist.cons_cons | apply List.Sublist.cons)) ?_
              rintro _ _ rfl
              refine TD.heap (_ :: _ :: _ :: _ :: _ :: _ :: _) rfl ?_
              refine TD.end (by kernel_rfl) ?_
              refine Arr.meet ?_
              first
                | (intro a w ha hw
                   refine ⟨b15, b16, y, k, hH, (ha.cons rfl (ha.cons rfl (ha.nil))), hw.mono ?_⟩
                   (repeat first | exact List.Sublist.refl _ | apply List.Sublist.cons_cons | apply List.Sublist.cons)
                   done)
                | (intro a w ha hw
                   refine ⟨b15, b16, y, k, hH, (ha.cons rfl (ha.cons rfl (ha.nil))), (hw.mono (G := (b16, .cells (va 576 (fl .f32 k)) 96 (0, 0)) :: (b15, .cells (va 576 (fl .f32 y)) 84 (0, 0)) :: H) ?_).perm (List.Perm.swap _ _ _)⟩
                   (repeat first | exact List.Sublist.refl _ | apply List.Sublist.cons_cons | apply List.Sublist.cons)
                   done)
          ·
            refine TO.eff 12 rfl (EF.alloc zero_96) (by decide) (by rintro _ _ ⟨_, rfl, rfl⟩; exact (by repeat first | exact List.Sublist.refl _ | apply List.Sublist.cons_cons | apply List.Sublist.cons)) ?_
            rintro _ _ ⟨b16, rfl, rfl⟩
            refine TD.eff 3 rfl (by kernel_rfl) (EF.call (vs := [_]) call_29 rfl (lined1_ct xm ym ls (2 * g + c) x w0 _ (fun k hk => (hls k hk).mono fun q hq => by repeat (first | exact hq | apply List.mem_cons_of_mem)) (by omega) hlsx)) (by decide) (by rintro _ _ ⟨rfl, rfl⟩; exact (by repeat first | exact List.Sublist.refl _ | apply List.Sublist.cons_cons | apply List.Sublist.cons)) ?_
            rintro _ _ ⟨rfl, rfl⟩
            refine TD.eff 7 rfl (by kernel_rfl) (EF.call (vs := [_, _, _, _, _]) call_32 rfl (zzHybrid_ct s x st (mdk xm ls 4) g c G K 2 bs hg hc _ _ w0 _ rfl hG0 hG hK0 hK hx hst hbk hsn hcn)) (by decide) (by rintro _ _ ⟨y, k, hH, rfl, rfl⟩; exact (by repeat first | exact List.Sublist.refl _ | apply List.Sublist.cons_cons | apply List.Sublist.cons)) ?_
            rintro _ _ ⟨y, k, hH, rfl, rfl⟩
            refine TD.take 8 rfl (by kernel_rfl) (by kernel_rfl) (by kernel_rfl) (fun _ _ _ h => h) (by repeat first | exact List.Sublist.refl _ | apply List.Sublist.cons_cons | apply List.Sublist.cons) (YF.move rfl) (by decide) ?_
            refine TD.take 9 rfl (by kernel_rfl) (by kernel_rfl) (by kernel_rfl) (fun _ _ _ h => h) (by repeat first | exact List.Sublist.refl _ | apply List.Sublist.cons_cons | apply List.Sublist.cons) (YF.extract rfl rfl) (by decide) ?_
            refine TD.take 10 rfl (by kernel_rfl) (by kernel_rfl) (by kernel_rfl) (fun _ _ _ h => h) (by repeat first | exact List.Sublist.refl _ | apply List.Sublist.cons_cons | apply List.Sublist.cons) (YF.extract rfl rfl) (by decide) ?_
            refine TD.eff0 13 rfl (by kernel_rfl) (EF.storeAll 1 rfl rfl rfl sz_84 (va_size _ _) Zsz_84 (va_one fun _ _ => rfl)) (by rintro _ _ rfl; exact (by repeat first | exact List.Sublist.refl _ | apply List.Sublist.cons_cons | apply List.Sublist.cons)) ?_
            rintro _ _ rfl
            refine TD.heap (_ :: _ :: _ :: _ :: _ :: _ :: _) rfl ?_
            refine TD.eff0 14 rfl (by kernel_rfl) (EF.storeAll 0 rfl rfl rfl sz_96 (va_size _ _) Zsz_96 (va_one fun _ _ => rfl)) (by rintro _ _ rfl; exact (by repeat first | exact List.Sublist.refl _ | apply List.Sublist.cons_cons | apply List.Sublist.cons)) ?_
            rintro _ _ rfl
            refine TD.heap (_ :: _ :: _ :: _ :: _ :: _ :: _) rfl ?_
            refine TD.end (by kernel_rfl) ?_
            refine Arr.meet ?_
            first
              | (intro a w ha hw
                 refine ⟨b15, b16, y, k, hH, (ha.cons rfl (ha.cons rfl (ha.nil))), hw.mono ?_⟩
                 (repeat first | exact List.Sublist.refl _ | apply List.Sublist.cons_cons | apply List.Sublist.cons)
                 done)
              | (intro a w ha hw
                 refine ⟨b15, b16, y, k, hH, (ha.cons rfl (ha.cons rfl (ha.nil))), (hw.mono (G := (b16, .cells (va 576 (fl .f32 k)) 96 (0, 0)) :: (b15, .cells (va 576 (fl .f32 y)) 84 (0, 0)) :: H) ?_).perm (List.Perm.swap _ _ _)⟩
                 (repeat first | exact List.Sublist.refl _ | apply List.Sublist.cons_cons | apply List.Sublist.cons)
                 done)
        ·
          refine TO.eff 12 rfl (EF.alloc zero_96) (by decide) (by rintro _ _ ⟨_, rfl, rfl⟩; exact (by repeat first | exact List.Sublist.refl _ | apply List.Sublist.cons_cons | apply List.Sublist.cons)) ?_
          rintro _ _ ⟨b16, rfl, rfl⟩
          refine TD.two 3 11 (by kernel_rfl) ?_ ?_
          ·
            refine TO.eff 3 rfl (EF.call (vs := [_]) call_29 rfl (lined1_ct xm ym ls (2 * g + c) x w0 _ (fun k hk => (hls k hk).mono fun q hq => by repeat (first | exact hq | apply List.mem_cons_of_mem)) (by omega) hlsx)) (by decide) (by rintro _ _ ⟨rfl, rfl⟩; exact (by repeat first | exact List.Sublist.refl _ | apply List.Sublist.cons_cons | apply List.Sublist.cons)) ?_
            rintro _ _ ⟨rfl, rfl⟩
            refine TD.two 7 11 (by kernel_rfl) ?_ ?_
            ·
              refine TO.eff 7 rfl (EF.call (vs := [_, _, _, _, _]) call_32 rfl (zzHybrid_ct s x st (mdk xm ls 4) g c G K 1 bs hg hc _ _ w0 _ rfl hG0 hG hK0 hK hx hst hbk hsn hcn)) (by decide) (by rintro _ _ ⟨y, k, hH, rfl, rfl⟩; exact (by repeat first | exact List.Sublist.refl _ | apply List.Sublist.cons_cons | apply List.Sublist.cons)) ?_
              rintro _ _ ⟨y, k, hH, rfl, rfl⟩
              refine TD.take 8 rfl (by kernel_rfl) (by kernel_rfl) (by kernel_rfl) (fun _ _ _ h => h) (by repeat first | exact List.Sublist.refl _ | apply List.Sublist.cons_cons | apply List.Sublist.cons) (YF.move rfl) (by decide) ?_
              refine TD.take 9 rfl (by kernel_rfl) (by kernel_rfl) (by kernel_rfl) (fun _ _ _ h => h) (by repeat first | exact List.Sublist.refl _ | apply List.Sublist.cons_cons | apply List.Sublist.cons) (YF.extract rfl rfl) (by decide) ?_
              refine TD.take 10 rfl (by kernel_rfl) (by kernel_rfl) (by kernel_rfl) (fun _ _ _ h => h) (by repeat first | exact List.Sublist.refl _ | apply List.Sublist.cons_cons | apply List.Sublist.cons) (YF.extract rfl rfl) (by decide) ?_
              refine TD.eff 11 rfl (by kernel_rfl) (EF.alloc zero_84) (by decide) (by rintro _ _ ⟨_, rfl, rfl⟩; exact (by repeat first | exact List.Sublist.refl _ | apply List.Sublist.cons_cons | apply List.Sublist.cons)) ?_
              rintro _ _ ⟨b15, rfl, rfl⟩
              refine TD.eff0 13 rfl (by kernel_rfl) (EF.storeAll 0 rfl rfl rfl sz_84 (va_size _ _) Zsz_84 (va_one fun _ _ => rfl)) (by rintro _ _ rfl; exact (by repeat first | exact List.Sublist.refl _ | apply List.Sublist.cons_cons | apply List.Sublist.cons)) ?_
              rintro _ _ rfl
              refine TD.heap (_ :: _ :: _ :: _ :: _ :: _ :: _) rfl ?_
              refine TD.eff0 14 rfl (by kernel_rfl) (EF.storeAll 1 rfl rfl rfl sz_96 (va_size _ _) Zsz_96 (va_one fun _ _ => rfl)) (by rintro _ _ rfl; exact (by repeat first | exact List.Sublist.refl _ | apply List.Sublist.cons_cons | apply List.Sublist.cons)) ?_
              rintro _ _ rfl
              refine TD.heap (_ :: _ :: _ :: _ :: _ :: _ :: _) rfl ?_
              refine TD.end (by kernel_rfl) ?_
              refine Arr.meet ?_
              first
                | (intro a w ha hw
                   refine ⟨b15, b16, y, k, hH, (ha.cons rfl (ha.cons rfl (ha.nil))), hw.mono ?_⟩
                   (repeat first | exact List.Sublist.refl _ | apply List.Sublist.cons_cons | apply List.Sublist.cons)
                   done)
                | (intro a w ha hw
                   refine ⟨b15, b16, y, k, hH, (ha.cons rfl (ha.cons rfl (ha.nil))), (hw.mono (G := (b16, .cells (va 576 (fl .f32 k)) 96 (0, 0)) :: (b15, .cells (va 576 (fl .f32 y)) 84 (0, 0)) :: H) ?_).perm (List.Perm.swap _ _ _)⟩
                   (repeat first | exact List.Sublist.refl _ | apply List.Sublist.cons_cons | apply List.Sublist.cons)
                   done)
            ·
              refine TO.eff 11 rfl (EF.alloc zero_84) (by decide) (by rintro _ _ ⟨_, rfl, rfl⟩; exact (by repeat first | exact List.Sublist.refl _ | apply List.Sublist.cons_cons | apply List.Sublist.cons)) ?_
              rintro _ _ ⟨b15, rfl, rfl⟩
              refine TD.eff 7 rfl (by kernel_rfl) (EF.call (vs := [_, _, _, _, _]) call_32 rfl (zzHybrid_ct s x st (mdk xm ls 4) g c G K 2 bs hg hc _ _ w0 _ rfl hG0 hG hK0 hK hx hst hbk hsn hcn)) (by decide) (by rintro _ _ ⟨y, k, hH, rfl, rfl⟩; exact (by repeat first | exact List.Sublist.refl _ | apply List.Sublist.cons_cons | apply List.Sublist.cons)) ?_
              rintro _ _ ⟨y, k, hH, rfl, rfl⟩
              refine TD.take 8 rfl (by kernel_rfl) (by kernel_rfl) (by kernel_rfl) (fun _ _ _ h => h) (by repeat first | exact List.Sublist.refl _ | apply List.Sublist.cons_cons | apply List.Sublist.cons) (YF.move rfl) (by decide) ?_
              refine TD.take 9 rfl (by kernel_rfl) (by kernel_rfl) (by kernel_rfl) (fun _ _ _ h => h) (by repeat first | exact List.Sublist.refl _ | apply List.Sublist.cons_cons | apply List.Sublist.cons) (YF.extract rfl rfl) (by decide) ?_
              refine TD.take 10 rfl (by kernel_rfl) (by kernel_rfl) (by kernel_rfl) (fun _ _ _ h => h) (by repeat first | exact List.Sublist.refl _ | apply List.Sublist.cons_cons | apply List.Sublist.cons) (YF.extract rfl rfl) (by decide) ?_
              refine TD.eff0 13 rfl (by kernel_rfl) (EF.storeAll 0 rfl rfl rfl sz_84 (va_size _ _) Zsz_84 (va_one fun _ _ => rfl)) (by rintro _ _ rfl; exact (by repeat first | exact List.Sublist.refl _ | apply List.Sublist.cons_cons | apply List.Sublist.cons)) ?_
              rintro _ _ rfl
              refine TD.heap (_ :: _ :: _ :: _ :: _ :: _ :: _) rfl ?_
              refine TD.eff0 14 rfl (by kernel_rfl) (EF.storeAll 1 rfl rfl rfl sz_96 (va_size _ _) Zsz_96 (va_one fun _ _ => rfl)) (by rintro _ _ rfl; exact (by repeat first | exact List.Sublist.refl _ | apply List.Sublist.cons_cons | apply List.Sublist.cons)) ?_
              rintro _ _ rfl
              refine TD.heap (_ :: _ :: _ :: _ :: _ :: _ :: _) rfl ?_
              refine TD.end (by kernel_rfl) ?_
              refine Arr.meet ?_
              first
                | (intro a w ha hw
                   refine ⟨b15, b16, y, k, hH, (ha.cons rfl (ha.cons rfl (ha.nil))), hw.mono ?_⟩
                   (repeat first | exact List.Sublist.refl _ | apply List.Sublist.cons_cons | apply List.Sublist.cons)
                   done)
                | (intro a w ha hw
                   refine ⟨b15, b16, y, k, hH, (ha.cons rfl (ha.cons rfl (ha.nil))), (hw.mono (G := (b16, .cells (va 576 (fl .f32 k)) 96 (0, 0)) :: (b15, .cells (va 576 (fl .f32 y)) 84 (0, 0)) :: H) ?_).perm (List.Perm.swap _ _ _)⟩
                   (repeat first | exact List.Sublist.refl _ | apply List.Sublist.cons_cons | apply List.Sublist.cons)
                   done)
          ·
            refine TO.eff 11 rfl (EF.alloc zero_84) (by decide) (by rintro _ _ ⟨_, rfl, rfl⟩; exact (by repeat first | exact List.Sublist.refl _ | apply List.Sublist.cons_cons | apply List.Sublist.cons)) ?_
            rintro _ _ ⟨b15, rfl, rfl⟩
            refine TD.eff 3 rfl (by kernel_rfl) (EF.call (vs := [_]) call_29 rfl (lined1_ct xm ym ls (2 * g + c) x w0 _ (fun k hk => (hls k hk).mono fun q hq => by repeat (first | exact hq | apply List.mem_cons_of_mem)) (by omega) hlsx)) (by decide) (by rintro _ _ ⟨rfl, rfl⟩; exact (by repeat first | exact List.Sublist.refl _ | apply List.Sublist.cons_cons | apply List.Sublist.cons)) ?_
            rintro _ _ ⟨rfl, rfl⟩
            refine TD.eff 7 rfl (by kernel_rfl) (EF.call (vs := [_, _, _, _, _]) call_32 rfl (zzHybrid_ct s x st (mdk xm ls 4) g c G K 2 bs hg hc _ _ w0 _ rfl hG0 hG hK0 hK hx hst hbk hsn hcn)) (by decide) (by rintro _ _ ⟨y, k, hH, rfl, rfl⟩; exact (by repeat first | exact List.Sublist.refl _ | apply List.Sublist.cons_cons | apply List.Sublist.cons)) ?_
            rintro _ _ ⟨y, k, hH, rfl, rfl⟩
            refine TD.take 8 rfl (by kernel_rfl) (by kernel_rfl) (by kernel_rfl) (fun _ _ _ h => h) (by repeat first | exact List.Sublist.refl _ | apply List.Sublist.cons_cons | apply List.Sublist.cons) (YF.move rfl) (by decide) ?_
            refine TD.take 9 rfl (by kernel_rfl) (by kernel_rfl) (by kernel_rfl) (fun _ _ _ h => h) (by repeat first | exact List.Sublist.refl _ | apply List.Sublist.cons_cons | apply List.Sublist.cons) (YF.extract rfl rfl) (by decide) ?_
            refine TD.take 10 rfl (by kernel_rfl) (by kernel_rfl) (by kernel_rfl) (fun _ _ _ h => h) (by repeat first | exact List.Sublist.refl _ | apply List.Sublist.cons_cons | apply List.Sublist.cons) (YF.extract rfl rfl) (by decide) ?_
            refine TD.eff0 13 rfl (by kernel_rfl) (EF.storeAll 0 rfl rfl rfl sz_84 (va_size _ _) Zsz_84 (va_one fun _ _ => rfl)) (by rintro _ _ rfl; exact (by repeat first | exact List.Sublist.refl _ | apply List.Sublist.cons_cons | apply List.Sublist.cons)) ?_
            rintro _ _ rfl
            refine TD.heap (_ :: _ :: _ :: _ :: _ :: _ :: _) rfl ?_
            refine TD.eff0 14 rfl (by kernel_rfl) (EF.storeAll 1 rfl rfl rfl sz_96 (va_size _ _) Zsz_96 (va_one fun _ _ => rfl)) (by rintro _ _ rfl; exact (by repeat first | exact List.Sublist.refl _ | apply List.Sublist.cons_cons | apply List.Sublist.cons)) ?_
            rintro _ _ rfl
            refine TD.heap (_ :: _ :: _ :: _ :: _ :: _ :: _) rfl ?_
            refine TD.end (by kernel_rfl) ?_
            refine Arr.meet ?_
            first
              | (intro a w ha hw
                 refine ⟨b15, b16, y, k, hH, (ha.cons rfl (ha.cons rfl (ha.nil))), hw.mono ?_⟩
                 (repeat first | exact List.Sublist.refl _ | apply List.Sublist.cons_cons | apply List.Sublist.cons)
                 done)
              | (intro a w ha hw
                 refine ⟨b15, b16, y, k, hH, (ha.cons rfl (ha.cons rfl (ha.nil))), (hw.mono (G := (b16, .cells (va 576 (fl .f32 k)) 96 (0, 0)) :: (b15, .cells (va 576 (fl .f32 y)) 84 (0, 0)) :: H) ?_).perm (List.Perm.swap _ _ _)⟩
                 (repeat first | exact List.Sublist.refl _ | apply List.Sublist.cons_cons | apply List.Sublist.cons)
                 done)
      ·
        refine TO.eff 11 rfl (EF.alloc zero_84) (by decide) (by rintro _ _ ⟨_, rfl, rfl⟩; exact (by repeat first | exact List.Sublist.refl _ | apply List.Sublist.cons_cons | apply List.Sublist.cons)) ?_
        rintro _ _ ⟨b15, rfl, rfl⟩
        refine TD.two 1 12 (by kernel_rfl) ?_ ?_
        ·
          refine TO.eff 1 rfl (EF.call (vs := [_]) call_28 rfl (made_ct s w0 _)) (by decide) (by rintro _ _ ⟨b, rfl, rfl⟩; exact (by repeat first | exact List.Sublist.refl _ | apply List.Sublist.cons_cons | apply List.Sublist.cons)) ?_
          rintro _ _ ⟨bs, rfl, rfl⟩
          refine TD.two 3 12 (by kernel_rfl) ?_ ?_
          ·
            refine TO.eff 3 rfl (EF.call (vs := [_]) call_29 rfl (lined1_ct xm ym ls (2 * g + c) x w0 _ (fun k hk => (hls k hk).mono fun q hq => by repeat (first | exact hq | apply List.mem_cons_of_mem)) (by omega) hlsx)) (by decide) (by rintro _ _ ⟨rfl, rfl⟩; exact (by repeat first | exact List.Sublist.refl _ | apply List.Sublist.cons_cons | apply List.Sublist.cons)) ?_
            rintro _ _ ⟨rfl, rfl⟩
            refine TD.two 7 12 (by kernel_rfl) ?_ ?_
            ·
              refine TO.eff 7 rfl (EF.call (vs := [_, _, _, _, _]) call_32 rfl (zzHybrid_ct s x st (mdk xm ls 4) g c G K 0 bs hg hc _ _ w0 _ rfl hG0 hG hK0 hK hx hst hbk hsn hcn)) (by decide) (by rintro _ _ ⟨y, k, hH, rfl, rfl⟩; exact (by repeat first | exact List.Sublist.refl _ | apply List.Sublist.cons_cons | apply List.Sublist.cons)) ?_
              rintro _ _ ⟨y, k, hH, rfl, rfl⟩
              refine TD.take 8 rfl (by kernel_rfl) (by kernel_rfl) (by kernel_rfl) (fun _ _ _ h => h) (by repeat first | exact List.Sublist.refl _ | apply List.Sublist.cons_cons | apply List.Sublist.cons) (YF.move rfl) (by decide) ?_
              refine TD.take 9 rfl (by kernel_rfl) (by kernel_rfl) (by kernel_rfl) (fun _ _ _ h => h) (by repeat first | exact List.Sublist.refl _ | apply List.Sublist.cons_cons | apply List.Sublist.cons) (YF.extract rfl rfl) (by decide) ?_
              refine TD.take 10 rfl (by kernel_rfl) (by kernel_rfl) (by kernel_rfl) (fun _ _ _ h => h) (by repeat first | exact List.Sublist.refl _ | apply List.Sublist.cons_cons | apply List.Sublist.cons) (YF.extract rfl rfl) (by decide) ?_
              refine TD.eff 12 rfl (by kernel_rfl) (EF.alloc zero_96) (by decide) (by rintro _ _ ⟨_, rfl, rfl⟩; exact (by repeat first | exact List.Sublist.refl _ | apply List.Sublist.cons_cons | apply List.Sublist.cons)) ?_
              rintro _ _ ⟨b16, rfl, rfl⟩
              refine TD.eff0 13 rfl (by kernel_rfl) (EF.storeAll 2 rfl rfl rfl sz_84 (va_size _ _) Zsz_84 (va_one fun _ _ => rfl)) (by rintro _ _ rfl; exact (by repeat first | exact List.Sublist.refl _ | apply List.Sublist.cons_cons | apply List.Sublist.cons)) ?_
              rintro _ _ rfl
              refine TD.heap (_ :: _ :: _ :: _ :: _ :: _ :: _) rfl ?_
              refine TD.eff0 14 rfl (by kernel_rfl) (EF.storeAll 0 rfl rfl rfl sz_96 (va_size _ _) Zsz_96 (va_one fun _ _ => rfl)) (by rintro _ _ rfl; exact (by repeat first | exact List.Sublist.refl _ | apply List.Sublist.cons_cons | apply List.Sublist.cons)) ?_
              rintro _ _ rfl
              refine TD.heap (_ :: _ :: _ :: _ :: _ :: _ :: _) rfl ?_
              refine TD.end (by kernel_rfl) ?_
              refine Arr.meet ?_
              first
                | (intro a w ha hw
                   refine ⟨b15, b16, y, k, hH, (ha.cons rfl (ha.cons rfl (ha.nil))), hw.mono ?_⟩
                   (repeat first | exact List.Sublist.refl _ | apply List.Sublist.cons_cons | apply List.Sublist.cons)
                   done)
                | (intro a w ha hw
                   refine ⟨b15, b16, y, k, hH, (ha.cons rfl (ha.cons rfl (ha.nil))), (hw.mono (G := (b16, .cells (va 576 (fl .f32 k)) 96 (0, 0)) :: (b15, .cells (va 576 (fl .f32 y)) 84 (0, 0)) :: H) ?_).perm (List.Perm.swap _ _ _)⟩
                   (repeat first | exact List.Sublist.refl _ | apply List.Sublist.cons_cons | apply List.Sublist.cons)
                   done)
            ·
              refine TO.eff 12 rfl (EF.alloc zero_96) (by decide) (by rintro _ _ ⟨_, rfl, rfl⟩; exact (by repeat first | exact List.Sublist.refl _ | apply List.Sublist.cons_cons | apply List.Sublist.cons)) ?_
              rintro _ _ ⟨b16, rfl, rfl⟩
              refine TD.eff 7 rfl (by kernel_rfl) (EF.call (vs := [_, _, _, _, _]) call_32 rfl (zzHybrid_ct s x st (mdk xm ls 4) g c G K 1 bs hg hc _ _ w0 _ rfl hG0 hG hK0 hK hx hst hbk hsn hcn)) (by decide) (by rintro _ _ ⟨y, k, hH, rfl, rfl⟩; exact (by repeat first | exact List.Sublist.refl _ | apply List.Sublist.cons_cons | apply List.Sublist.cons)) ?_
              rintro _ _ ⟨y, k, hH, rfl, rfl⟩
              refine TD.take 8 rfl (by kernel_rfl) (by kernel_rfl) (by kernel_rfl) (fun _ _ _ h => h) (by repeat first | exact List.Sublist.refl _ | apply List.Sublist.cons_cons | apply List.Sublist.cons) (YF.move rfl) (by decide) ?_
              refine TD.take 9 rfl (by kernel_rfl) (by kernel_rfl) (by kernel_rfl) (fun _ _ _ h => h) (by repeat first | exact List.Sublist.refl _ | apply List.Sublist.cons_cons | apply List.Sublist.cons) (YF.extract rfl rfl) (by decide) ?_
              refine TD.take 10 rfl (by kernel_rfl) (by kernel_rfl) (by kernel_rfl) (fun _ _ _ h => h) (by repeat first | exact List.Sublist.refl _ | apply List.Sublist.cons_cons | apply List.Sublist.cons) (YF.extract rfl rfl) (by decide) ?_
              refine TD.eff0 13 rfl (by kernel_rfl) (EF.storeAll 2 rfl rfl rfl sz_84 (va_size _ _) Zsz_84 (va_one fun _ _ => rfl)) (by rintro _ _ rfl; exact (by repeat first | exact List.Sublist.refl _ | apply List.Sublist.cons_cons | apply List.Sublist.cons)) ?_
              rintro _ _ rfl
              refine TD.heap (_ :: _ :: _ :: _ :: _ :: _ :: _) rfl ?_
              refine TD.eff0 14 rfl (by kernel_rfl) (EF.storeAll 0 rfl rfl rfl sz_96 (va_size _ _) Zsz_96 (va_one fun _ _ => rfl)) (by rintro _ _ rfl; exact (by repeat first | exact List.Sublist.refl _ | apply List.Sublist.cons_cons | apply List.Sublist.cons)) ?_
              rintro _ _ rfl
              refine TD.heap (_ :: _ :: _ :: _ :: _ :: _ :: _) rfl ?_
              refine TD.end (by kernel_rfl) ?_
              refine Arr.meet ?_
              first
                | (intro a w ha hw
                   refine ⟨b15, b16, y, k, hH, (ha.cons rfl (ha.cons rfl (ha.nil))), hw.mono ?_⟩
                   (repeat first | exact List.Sublist.refl _ | apply List.Sublist.cons_cons | apply List.Sublist.cons)
                   done)
                | (intro a w ha hw
                   refine ⟨b15, b16, y, k, hH, (ha.cons rfl (ha.cons rfl (ha.nil))), (hw.mono (G := (b16, .cells (va 576 (fl .f32 k)) 96 (0, 0)) :: (b15, .cells (va 576 (fl .f32 y)) 84 (0, 0)) :: H) ?_).perm (List.Perm.swap _ _ _)⟩
                   (repeat first | exact List.Sublist.refl _ | apply List.Sublist.cons_cons | apply List.Sublist.cons)
                   done)
          ·
            refine TO.eff 12 rfl (EF.alloc zero_96) (by decide) (by rintro _ _ ⟨_, rfl, rfl⟩; exact (by repeat first | exact List.Sublist.refl _ | apply List.Sublist.cons_cons | apply List.Sublist.cons)) ?_
            rintro _ _ ⟨b16, rfl, rfl⟩
            refine TD.eff 3 rfl (by kernel_rfl) (EF.call (vs := [_]) call_29 rfl (lined1_ct xm ym ls (2 * g + c) x w0 _ (fun k hk => (hls k hk).mono fun q hq => by repeat (first | exact hq | apply List.mem_cons_of_mem)) (by omega) hlsx)) (by decide) (by rintro _ _ ⟨rfl, rfl⟩; exact (by repeat first | exact List.Sublist.refl _ | apply List.Sublist.cons_cons | apply List.Sublist.cons)) ?_
            rintro _ _ ⟨rfl, rfl⟩
            refine TD.eff 7 rfl (by kernel_rfl) (EF.call (vs := [_, _, _, _, _]) call_32 rfl (zzHybrid_ct s x st (mdk xm ls 4) g c G K 1 bs hg hc _ _ w0 _ rfl hG0 hG hK0 hK hx hst hbk hsn hcn)) (by decide) (by rintro _ _ ⟨y, k, hH, rfl, rfl⟩; exact (by repeat first | exact List.Sublist.refl _ | apply List.Sublist.cons_cons | apply List.Sublist.cons)) ?_
            rintro _ _ ⟨y, k, hH, rfl, rfl⟩
            refine TD.take 8 rfl (by kernel_rfl) (by kernel_rfl) (by kernel_rfl) (fun _ _ _ h => h) (by repeat first | exact List.Sublist.refl _ | apply List.Sublist.cons_cons | apply List.Sublist.cons) (YF.move rfl) (by decide) ?_
            refine TD.take 9 rfl (by kernel_rfl) (by kernel_rfl) (by kernel_rfl) (fun _ _ _ h => h) (by repeat first | exact List.Sublist.refl _ | apply List.Sublist.cons_cons | apply List.Sublist.cons) (YF.extract rfl rfl) (by decide) ?_
            refine TD.take 10 rfl (by kernel_rfl) (by kernel_rfl) (by kernel_rfl) (fun _ _ _ h => h) (by repeat first | exact List.Sublist.refl _ | apply List.Sublist.cons_cons | apply List.Sublist.cons) (YF.extract rfl rfl) (by decide) ?_
            refine TD.eff0 13 rfl (by kernel_rfl) (EF.storeAll 2 rfl rfl rfl sz_84 (va_size _ _) Zsz_84 (va_one fun _ _ => rfl)) (by rintro _ _ rfl; exact (by repeat first | exact List.Sublist.refl _ | apply List.Sublist.cons_cons | apply List.Sublist.cons)) ?_
            rintro _ _ rfl
            refine TD.heap (_ :: _ :: _ :: _ :: _ :: _ :: _) rfl ?_
            refine TD.eff0 14 rfl (by kernel_rfl) (EF.storeAll 0 rfl rfl rfl sz_96 (va_size _ _) Zsz_96 (va_one fun _ _ => rfl)) (by rintro _ _ rfl; exact (by repeat first | exact List.Sublist.refl _ | apply List.Sublist.cons_cons | apply List.Sublist.cons)) ?_
            rintro _ _ rfl
            refine TD.heap (_ :: _ :: _ :: _ :: _ :: _ :: _) rfl ?_
            refine TD.end (by kernel_rfl) ?_
            refine Arr.meet ?_
            first
              | (intro a w ha hw
                 refine ⟨b15, b16, y, k, hH, (ha.cons rfl (ha.cons rfl (ha.nil))), hw.mono ?_⟩
                 (repeat first | exact List.Sublist.refl _ | apply List.Sublist.cons_cons | apply List.Sublist.cons)
                 done)
              | (intro a w ha hw
                 refine ⟨b15, b16, y, k, hH, (ha.cons rfl (ha.cons rfl (ha.nil))), (hw.mono (G := (b16, .cells (va 576 (fl .f32 k)) 96 (0, 0)) :: (b15, .cells (va 576 (fl .f32 y)) 84 (0, 0)) :: H) ?_).perm (List.Perm.swap _ _ _)⟩
                 (repeat first | exact List.Sublist.refl _ | apply List.Sublist.cons_cons | apply List.Sublist.cons)
                 done)
        ·
          refine TO.eff 12 rfl (EF.alloc zero_96) (by decide) (by rintro _ _ ⟨_, rfl, rfl⟩; exact (by repeat first | exact List.Sublist.refl _ | apply List.Sublist.cons_cons | apply List.Sublist.cons)) ?_
          rintro _ _ ⟨b16, rfl, rfl⟩
          refine TD.eff 1 rfl (by kernel_rfl) (EF.call (vs := [_]) call_28 rfl (made_ct s w0 _)) (by decide) (by rintro _ _ ⟨b, rfl, rfl⟩; exact (by repeat first | exact List.Sublist.refl _ | apply List.Sublist.cons_cons | apply List.Sublist.cons)) ?_
          rintro _ _ ⟨bs, rfl, rfl⟩
          refine TD.eff 3 rfl (by kernel_rfl) (EF.call (vs := [_]) call_29 rfl (lined1_ct xm ym ls (2 * g + c) x w0 _ (fun k hk => (hls k hk).mono fun q hq => by repeat (first | exact hq | apply List.mem_cons_of_mem)) (by omega) hlsx)) (by decide) (by rintro _ _ ⟨rfl, rfl⟩; exact (by repeat first | exact List.Sublist.refl _ | apply List.Sublist.cons_cons | apply List.Sublist.cons)) ?_
          rintro _ _ ⟨rfl, rfl⟩
          refine TD.eff 7 rfl (by kernel_rfl) (EF.call (vs := [_, _, _, _, _]) call_32 rfl (zzHybrid_ct s x st (mdk xm ls 4) g c G K 0 bs hg hc _ _ w0 _ rfl hG0 hG hK0 hK hx hst hbk hsn hcn)) (by decide) (by rintro _ _ ⟨y, k, hH, rfl, rfl⟩; exact (by repeat first | exact List.Sublist.refl _ | apply List.Sublist.cons_cons | apply List.Sublist.cons)) ?_
          rintro _ _ ⟨y, k, hH, rfl, rfl⟩
          refine TD.take 8 rfl (by kernel_rfl) (by kernel_rfl) (by kernel_rfl) (fun _ _ _ h => h) (by repeat first | exact List.Sublist.refl _ | apply List.Sublist.cons_cons | apply List.Sublist.cons) (YF.move rfl) (by decide) ?_
          refine TD.take 9 rfl (by kernel_rfl) (by kernel_rfl) (by kernel_rfl) (fun _ _ _ h => h) (by repeat first | exact List.Sublist.refl _ | apply List.Sublist.cons_cons | apply List.Sublist.cons) (YF.extract rfl rfl) (by decide) ?_
          refine TD.take 10 rfl (by kernel_rfl) (by kernel_rfl) (by kernel_rfl) (fun _ _ _ h => h) (by repeat first | exact List.Sublist.refl _ | apply List.Sublist.cons_cons | apply List.Sublist.cons) (YF.extract rfl rfl) (by decide) ?_
          refine TD.eff0 13 rfl (by kernel_rfl) (EF.storeAll 2 rfl rfl rfl sz_84 (va_size _ _) Zsz_84 (va_one fun _ _ => rfl)) (by rintro _ _ rfl; exact (by repeat first | exact List.Sublist.refl _ | apply List.Sublist.cons_cons | apply List.Sublist.cons)) ?_
          rintro _ _ rfl
          refine TD.heap (_ :: _ :: _ :: _ :: _ :: _ :: _) rfl ?_
          refine TD.eff0 14 rfl (by kernel_rfl) (EF.storeAll 1 rfl rfl rfl sz_96 (va_size _ _) Zsz_96 (va_one fun _ _ => rfl)) (by rintro _ _ rfl; exact (by repeat first | exact List.Sublist.refl _ | apply List.Sublist.cons_cons | apply List.Sublist.cons)) ?_
          rintro _ _ rfl
          refine TD.heap (_ :: _ :: _ :: _ :: _ :: _ :: _) rfl ?_
          refine TD.end (by kernel_rfl) ?_
          refine Arr.meet ?_
          first
            | (intro a w ha hw
               refine ⟨b15, b16, y, k, hH, (ha.cons rfl (ha.cons rfl (ha.nil))), hw.mono ?_⟩
               (repeat first | exact List.Sublist.refl _ | apply List.Sublist.cons_cons | apply List.Sublist.cons)
               done)
            | (intro a w ha hw
               refine ⟨b15, b16, y, k, hH, (ha.cons rfl (ha.cons rfl (ha.nil))), (hw.mono (G := (b16, .cells (va 576 (fl .f32 k)) 96 (0, 0)) :: (b15, .cells (va 576 (fl .f32 y)) 84 (0, 0)) :: H) ?_).perm (List.Perm.swap _ _ _)⟩
               (repeat first | exact List.Sublist.refl _ | apply List.Sublist.cons_cons | apply List.Sublist.cons)
               done)
      ·
        refine TO.eff 12 rfl (EF.alloc zero_96) (by decide) (by rintro _ _ ⟨_, rfl, rfl⟩; exact (by repeat first | exact List.Sublist.refl _ | apply List.Sublist.cons_cons | apply List.Sublist.cons)) ?_
        rintro _ _ ⟨b16, rfl, rfl⟩
        refine TD.two 1 11 (by kernel_rfl) ?_ ?_
        ·
          refine TO.eff 1 rfl (EF.call (vs := [_]) call_28 rfl (made_ct s w0 _)) (by decide) (by rintro _ _ ⟨b, rfl, rfl⟩; exact (by repeat first | exact List.Sublist.refl _ | apply List.Sublist.cons_cons | apply List.Sublist.cons)) ?_
          rintro _ _ ⟨bs, rfl, rfl⟩
          refine TD.two 3 11 (by kernel_rfl) ?_ ?_
          ·
            refine TO.eff 3 rfl (EF.call (vs := [_]) call_29 rfl (lined1_ct xm ym ls (2 * g + c) x w0 _ (fun k hk => (hls k hk).mono fun q hq => by repeat (first | exact hq | apply List.mem_cons_of_mem)) (by omega) hlsx)) (by decide) (by rintro _ _ ⟨rfl, rfl⟩; exact (by repeat first | exact List.Sublist.refl _ | apply List.Sublist.cons_cons | apply List.Sublist.cons)) ?_
            rintro _ _ ⟨rfl, rfl⟩
            refine TD.two 7 11 (by kernel_rfl) ?_ ?_
            ·
              refine TO.eff 7 rfl (EF.call (vs := [_, _, _, _, _]) call_32 rfl (zzHybrid_ct s x st (mdk xm ls 4) g c G K 0 bs hg hc _ _ w0 _ rfl hG0 hG hK0 hK hx hst hbk hsn hcn)) (by decide) (by rintro _ _ ⟨y, k, hH, rfl, rfl⟩; exact (by repeat first | exact List.Sublist.refl _ | apply List.Sublist.cons_cons | apply List.Sublist.cons)) ?_
              rintro _ _ ⟨y, k, hH, rfl, rfl⟩
              refine TD.take 8 rfl (by kernel_rfl) (by kernel_rfl) (by kernel_rfl) (fun _ _ _ h => h) (by repeat first | exact List.Sublist.refl _ | apply List.Sublist.cons_cons | apply List.Sublist.cons) (YF.move rfl) (by decide) ?_
              refine TD.take 9 rfl (by kernel_rfl) (by kernel_rfl) (by kernel_rfl) (fun _ _ _ h => h) (by repeat first | exact List.Sublist.refl _ | apply List.Sublist.cons_cons | apply List.Sublist.cons) (YF.extract rfl rfl) (by decide) ?_
              refine TD.take 10 rfl (by kernel_rfl) (by kernel_rfl) (by kernel_rfl) (fun _ _ _ h => h) (by repeat first | exact List.Sublist.refl _ | apply List.Sublist.cons_cons | apply List.Sublist.cons) (YF.extract rfl rfl) (by decide) ?_
              refine TD.eff 11 rfl (by kernel_rfl) (EF.alloc zero_84) (by decide) (by rintro _ _ ⟨_, rfl, rfl⟩; exact (by repeat first | exact List.Sublist.refl _ | apply List.Sublist.cons_cons | apply List.Sublist.cons)) ?_
              rintro _ _ ⟨b15, rfl, rfl⟩
              refine TD.eff0 13 rfl (by kernel_rfl) (EF.storeAll 0 rfl rfl rfl sz_84 (va_size _ _) Zsz_84 (va_one fun _ _ => rfl)) (by rintro _ _ rfl; exact (by repeat first | exact List.Sublist.refl _ | apply List.Sublist.cons_cons | apply List.Sublist.cons)) ?_
              rintro _ _ rfl
              refine TD.heap (_ :: _ :: _ :: _ :: _ :: _ :: _) rfl ?_
              refine TD.eff0 14 rfl (by kernel_rfl) (EF.storeAll 2 rfl rfl rfl sz_96 (va_size _ _) Zsz_96 (va_one fun _ _ => rfl)) (by rintro _ _ rfl; exact (by repeat first | exact List.Sublist.refl _ | apply List.Sublist.cons_cons | apply List.Sublist.cons)) ?_
              rintro _ _ rfl
              refine TD.heap (_ :: _ :: _ :: _ :: _ :: _ :: _) rfl ?_
              refine TD.end (by kernel_rfl) ?_
              refine Arr.meet ?_
              first
                | (intro a w ha hw
                   refine ⟨b15, b16, y, k, hH, (ha.cons rfl (ha.cons rfl (ha.nil))), hw.mono ?_⟩
                   (repeat first | exact List.Sublist.refl _ | apply List.Sublist.cons_cons | apply List.Sublist.cons)
                   done)
                | (intro a w ha hw
                   refine ⟨b15, b16, y, k, hH, (ha.cons rfl (ha.cons rfl (ha.nil))), (hw.mono (G := (b16, .cells (va 576 (fl .f32 k)) 96 (0, 0)) :: (b15, .cells (va 576 (fl .f32 y)) 84 (0, 0)) :: H) ?_).perm (List.Perm.swap _ _ _)⟩
                   (repeat first | exact List.Sublist.refl _ | apply List.Sublist.cons_cons | apply List.Sublist.cons)
                   done)
            ·
              refine TO.eff 11 rfl (EF.alloc zero_84) (by decide) (by rintro _ _ ⟨_, rfl, rfl⟩; exact (by repeat first | exact List.Sublist.refl _ | apply List.Sublist.cons_cons | apply List.Sublist.cons)) ?_
              rintro _ _ ⟨b15, rfl, rfl⟩
              refine TD.eff 7 rfl (by kernel_rfl) (EF.call (vs := [_, _, _, _, _]) call_32 rfl (zzHybrid_ct s x st (mdk xm ls 4) g c G K 1 bs hg hc _ _ w0 _ rfl hG0 hG hK0 hK hx hst hbk hsn hcn)) (by decide) (by rintro _ _ ⟨y, k, hH, rfl, rfl⟩; exact (by repeat first | exact List.Sublist.refl _ | apply List.Sublist.cons_cons | apply List.Sublist.cons)) ?_
              rintro _ _ ⟨y, k, hH, rfl, rfl⟩
              refine TD.take 8 rfl (by kernel_rfl) (by kernel_rfl) (by kernel_rfl) (fun _ _ _ h => h) (by repeat first | exact List.Sublist.refl _ | apply List.Sublist.cons_cons | apply List.Sublist.cons) (YF.move rfl) (by decide) ?_
              refine TD.take 9 rfl (by kernel_rfl) (by kernel_rfl) (by kernel_rfl) (fun _ _ _ h => h) (by repeat first | exact List.Sublist.refl _ | apply List.Sublist.cons_cons | apply List.Sublist.cons) (YF.extract rfl rfl) (by decide) ?_
              refine TD.take 10 rfl (by kernel_rfl) (by kernel_rfl) (by kernel_rfl) (fun _ _ _ h => h) (by repeat first | exact List.Sublist.refl _ | apply List.Sublist.cons_cons | apply List.Sublist.cons) (YF.extract rfl rfl) (by decide) ?_
              refine TD.eff0 13 rfl (by kernel_rfl) (EF.storeAll 0 rfl rfl rfl sz_84 (va_size _ _) Zsz_84 (va_one fun _ _ => rfl)) (by rintro _ _ rfl; exact (by repeat first | exact List.Sublist.refl _ | apply List.Sublist.cons_cons | apply List.Sublist.cons)) ?_
              rintro _ _ rfl
              refine TD.heap (_ :: _ :: _ :: _ :: _ :: _ :: _) rfl ?_
              refine TD.eff0 14 rfl (by kernel_rfl) (EF.storeAll 2 rfl rfl rfl sz_96 (va_size _ _) Zsz_96 (va_one fun _ _ => rfl)) (by rintro _ _ rfl; exact (by repeat first | exact List.Sublist.refl _ | apply List.Sublist.cons_cons | apply List.Sublist.cons)) ?_
              rintro _ _ rfl
              refine TD.heap (_ :: _ :: _ :: _ :: _ :: _ :: _) rfl ?_
              refine TD.end (by kernel_rfl) ?_
              refine Arr.meet ?_
              first
                | (intro a w ha hw
                   refine ⟨b15, b16, y, k, hH, (ha.cons rfl (ha.cons rfl (ha.nil))), hw.mono ?_⟩
                   (repeat first | exact List.Sublist.refl _ | apply List.Sublist.cons_cons | apply List.Sublist.cons)
                   done)
                | (intro a w ha hw
                   refine ⟨b15, b16, y, k, hH, (ha.cons rfl (ha.cons rfl (ha.nil))), (hw.mono (G := (b16, .cells (va 576 (fl .f32 k)) 96 (0, 0)) :: (b15, .cells (va 576 (fl .f32 y)) 84 (0, 0)) :: H) ?_).perm (List.Perm.swap _ _ _)⟩
                   (repeat first | exact List.Sublist.refl _ | apply List.Sublist.cons_cons | apply List.Sublist.cons)
                   done)
          ·
            refine TO.eff 11 rfl (EF.alloc zero_84) (by decide) (by rintro _ _ ⟨_, rfl, rfl⟩; exact (by repeat first | exact List.Sublist.refl _ | apply List.Sublist.cons_cons | apply List.Sublist.cons)) ?_
            rintro _ _ ⟨b15, rfl, rfl⟩
            refine TD.eff 3 rfl (by kernel_rfl) (EF.call (vs := [_]) call_29 rfl (lined1_ct xm ym ls (2 * g + c) x w0 _ (fun k hk => (hls k hk).mono fun q hq => by repeat (first | exact hq | apply List.mem_cons_of_mem)) (by omega) hlsx)) (by decide) (by rintro _ _ ⟨rfl, rfl⟩; exact (by repeat first | exact List.Sublist.refl _ | apply List.Sublist.cons_cons | apply List.Sublist.cons)) ?_
            rintro _ _ ⟨rfl, rfl⟩
            refine TD.eff 7 rfl (by kernel_rfl) (EF.call (vs := [_, _, _, _, _]) call_32 rfl (zzHybrid_ct s x st (mdk xm ls 4) g c G K 1 bs hg hc _ _ w0 _ rfl hG0 hG hK0 hK hx hst hbk hsn hcn)) (by decide) (by rintro _ _ ⟨y, k, hH, rfl, rfl⟩; exact (by repeat first | exact List.Sublist.refl _ | apply List.Sublist.cons_cons | apply List.Sublist.cons)) ?_
            rintro _ _ ⟨y, k, hH, rfl, rfl⟩
            refine TD.take 8 rfl (by kernel_rfl) (by kernel_rfl) (by kernel_rfl) (fun _ _ _ h => h) (by repeat first | exact List.Sublist.refl _ | apply List.Sublist.cons_cons | apply List.Sublist.cons) (YF.move rfl) (by decide) ?_
            refine TD.take 9 rfl (by kernel_rfl) (by kernel_rfl) (by kernel_rfl) (fun _ _ _ h => h) (by repeat first | exact List.Sublist.refl _ | apply List.Sublist.cons_cons | apply List.Sublist.cons) (YF.extract rfl rfl) (by decide) ?_
            refine TD.take 10 rfl (by kernel_rfl) (by kernel_rfl) (by kernel_rfl) (fun _ _ _ h => h) (by repeat first | exact List.Sublist.refl _ | apply List.Sublist.cons_cons | apply List.Sublist.cons) (YF.extract rfl rfl) (by decide) ?_
            refine TD.eff0 13 rfl (by kernel_rfl) (EF.storeAll 0 rfl rfl rfl sz_84 (va_size _ _) Zsz_84 (va_one fun _ _ => rfl)) (by rintro _ _ rfl; exact (by repeat first | exact List.Sublist.refl _ | apply List.Sublist.cons_cons | apply List.Sublist.cons)) ?_
            rintro _ _ rfl
            refine TD.heap (_ :: _ :: _ :: _ :: _ :: _ :: _) rfl ?_
            refine TD.eff0 14 rfl (by kernel_rfl) (EF.storeAll 2 rfl rfl rfl sz_96 (va_size _ _) Zsz_96 (va_one fun _ _ => rfl)) (by rintro _ _ rfl; exact (by repeat first | exact List.Sublist.refl _ | apply List.Sublist.cons_cons | apply List.Sublist.cons)) ?_
            rintro _ _ rfl
            refine TD.heap (_ :: _ :: _ :: _ :: _ :: _ :: _) rfl ?_
            refine TD.end (by kernel_rfl) ?_
            refine Arr.meet ?_
            first
              | (intro a w ha hw
                 refine ⟨b15, b16, y, k, hH, (ha.cons rfl (ha.cons rfl (ha.nil))), hw.mono ?_⟩
                 (repeat first | exact List.Sublist.refl _ | apply List.Sublist.cons_cons | apply List.Sublist.cons)
                 done)
              | (intro a w ha hw
                 refine ⟨b15, b16, y, k, hH, (ha.cons rfl (ha.cons rfl (ha.nil))), (hw.mono (G := (b16, .cells (va 576 (fl .f32 k)) 96 (0, 0)) :: (b15, .cells (va 576 (fl .f32 y)) 84 (0, 0)) :: H) ?_).perm (List.Perm.swap _ _ _)⟩
                 (repeat first | exact List.Sublist.refl _ | apply List.Sublist.cons_cons | apply List.Sublist.cons)
                 done)
        ·
          refine TO.eff 11 rfl (EF.alloc zero_84) (by decide) (by rintro _ _ ⟨_, rfl, rfl⟩; exact (by repeat first | exact List.Sublist.refl _ | apply List.Sublist.cons_cons | apply List.Sublist.cons)) ?_
          rintro _ _ ⟨b15, rfl, rfl⟩
          refine TD.eff 1 rfl (by kernel_rfl) (EF.call (vs := [_]) call_28 rfl (made_ct s w0 _)) (by decide) (by rintro _ _ ⟨b, rfl, rfl⟩; exact (by repeat first | exact List.Sublist.refl _ | apply List.Sublist.cons_cons | apply List.Sublist.cons)) ?_
          rintro _ _ ⟨bs, rfl, rfl⟩
          refine TD.eff 3 rfl (by kernel_rfl) (EF.call (vs := [_]) call_29 rfl (lined1_ct xm ym ls (2 * g + c) x w0 _ (fun k hk => (hls k hk).mono fun q hq => by repeat (first | exact hq | apply List.mem_cons_of_mem)) (by omega) hlsx)) (by decide) (by rintro _ _ ⟨rfl, rfl⟩; exact (by repeat first | exact List.Sublist.refl _ | apply List.Sublist.cons_cons | apply List.Sublist.cons)) ?_
          rintro _ _ ⟨rfl, rfl⟩
          refine TD.eff 7 rfl (by kernel_rfl) (EF.call (vs := [_, _, _, _, _]) call_32 rfl (zzHybrid_ct s x st (mdk xm ls 4) g c G K 0 bs hg hc _ _ w0 _ rfl hG0 hG hK0 hK hx hst hbk hsn hcn)) (by decide) (by rintro _ _ ⟨y, k, hH, rfl, rfl⟩; exact (by repeat first | exact List.Sublist.refl _ | apply List.Sublist.cons_cons | apply List.Sublist.cons)) ?_
          rintro _ _ ⟨y, k, hH, rfl, rfl⟩
          refine TD.take 8 rfl (by kernel_rfl) (by kernel_rfl) (by kernel_rfl) (fun _ _ _ h => h) (by repeat first | exact List.Sublist.refl _ | apply List.Sublist.cons_cons | apply List.Sublist.cons) (YF.move rfl) (by decide) ?_
          refine TD.take 9 rfl (by kernel_rfl) (by kernel_rfl) (by kernel_rfl) (fun _ _ _ h => h) (by repeat first | exact List.Sublist.refl _ | apply List.Sublist.cons_cons | apply List.Sublist.cons) (YF.extract rfl rfl) (by decide) ?_
          refine TD.take 10 rfl (by kernel_rfl) (by kernel_rfl) (by kernel_rfl) (fun _ _ _ h => h) (by repeat first | exact List.Sublist.refl _ | apply List.Sublist.cons_cons | apply List.Sublist.cons) (YF.extract rfl rfl) (by decide) ?_
          refine TD.eff0 13 rfl (by kernel_rfl) (EF.storeAll 1 rfl rfl rfl sz_84 (va_size _ _) Zsz_84 (va_one fun _ _ => rfl)) (by rintro _ _ rfl; exact (by repeat first | exact List.Sublist.refl _ | apply List.Sublist.cons_cons | apply List.Sublist.cons)) ?_
          rintro _ _ rfl
          refine TD.heap (_ :: _ :: _ :: _ :: _ :: _ :: _) rfl ?_
          refine TD.eff0 14 rfl (by kernel_rfl) (EF.storeAll 2 rfl rfl rfl sz_96 (va_size _ _) Zsz_96 (va_one fun _ _ => rfl)) (by rintro _ _ rfl; exact (by repeat first | exact List.Sublist.refl _ | apply List.Sublist.cons_cons | apply List.Sublist.cons)) ?_
          rintro _ _ rfl
          refine TD.heap (_ :: _ :: _ :: _ :: _ :: _ :: _) rfl ?_
          refine TD.end (by kernel_rfl) ?_
          refine Arr.meet ?_
          first
            | (intro a w ha hw
               refine ⟨b15, b16, y, k, hH, (ha.cons rfl (ha.cons rfl (ha.nil))), hw.mono ?_⟩
               (repeat first | exact List.Sublist.refl _ | apply List.Sublist.cons_cons | apply List.Sublist.cons)
               done)
            | (intro a w ha hw
               refine ⟨b15, b16, y, k, hH, (ha.cons rfl (ha.cons rfl (ha.nil))), (hw.mono (G := (b16, .cells (va 576 (fl .f32 k)) 96 (0, 0)) :: (b15, .cells (va 576 (fl .f32 y)) 84 (0, 0)) :: H) ?_).perm (List.Perm.swap _ _ _)⟩
               (repeat first | exact List.Sublist.refl _ | apply List.Sublist.cons_cons | apply List.Sublist.cons)
               done)
    rintro a w ⟨b15, b16, y, k, hH, ha, hw⟩
    refine Arr.use ha hw ?_
    refine Arr.seq ?_
    refine Tr.seq ?_
    refine Tr.region ?_
    refine TL.val (YF.assign rfl) (by decide) ?_
    refine TL.end ?_
    refine Arr.seq ?_
    refine Tr.seq ?_
    refine Tr.seq ?_
    refine Tr.region ?_
    refine TL.val (YF.move rfl) (by decide) ?_
    refine TL.end ?_
    refine Arr.seq ?_
    refine Tr.block ?_
    refine Tr.loop (I := fun mq a w => ∃ (t : Nat) (kv : Value) (Hk : Hp), mq = 32 - t ∧ (t ≤ 32) ∧ (Kept 82 k (18 * t) kv Hk) ∧ Agree 71 [(15, .pointer (some ⟨b15, 0, none⟩)), (16, .pointer (some ⟨b16, 0, none⟩)), (17, kv), (60, .int .i64 t)] a ∧ HS w0 (Hk ++ ((b15, .cells (va 576 (fl .f32 y)) 84 (0, 0)) :: (b16, .cells (va 576 (fl .f32 k)) 96 (0, 0)) :: H)) w) (32) ?_ ?_
    · intro a w ha hw
      exact ⟨0, .slice none 0 0, [], rfl, by omega, .inl ⟨rfl, rfl, rfl⟩, (ha.cons rfl (ha.cons rfl (ha.cons rfl (ha.cons rfl (ha.nil))))), hw⟩
    rintro _ a w ⟨t, kv, Hk, rfl, ht, hk, ha, hw⟩
    refine Tr.use ha hw ?_
    refine Tr.seq ?_
    refine Tr.region ?_
    refine TL.val (YF.lss rfl rfl rfl) (by decide) ?_
    refine TL.end ?_
    refine Arr.seq ?_
    refine Tr.seq ?_
    refine Tr.cond rfl (fun h61 => ?_) (fun h61 => ?_)
    ·
      replace h61 := of_decide_eq_true h61
      refine Tr.skipE ?_
      refine Arr.seq ?_
      refine Tr.seq ?_
      refine Tr.block ?_
      refine Tr.seq ?_
      refine Tr.region ?_
      refine TL.val (YF.move rfl) (by decide) ?_
      refine TL.val (YF.assign rfl) (by decide) ?_
      refine TL.end ?_
      refine Arr.seq ?_
      refine Tr.region ?_
      refine TL.val (YF.move rfl) (by decide) ?_
      refine TL.val (YF.move rfl) (by decide) ?_
      refine TL.val (YF.indexArr arr_96 rfl rfl (by first | decide | omega) (show _ = 18 * t by omega)) (by decide) ?_
      refine TL.val (YF.sliceArr arr_95 rfl) (by decide) ?_
      refine TL.eff (EF.appendKept 1 sl_43 bytes_82 zero_82 rfl rfl rfl hk (by omega) (by decide) rfl rfl rfl (by omega)) (by decide) ?_
      rintro kv2 _ ⟨Hk2, hk2, rfl⟩
      refine TL.val (YF.assign rfl) (by decide) ?_
      refine TL.end ?_
      refine Arr.block ?_
      refine Arr.seq ?_
      refine Tr.region ?_
      refine TL.val (YF.add rfl rfl (IntWalk.i64_in _ (by omega))) (by decide) ?_
      refine TL.val (YF.move rfl) (by decide) ?_
      refine TL.end ?_
      exact fun a w ha hw => ⟨_, by omega, t + 1, kv2, Hk2, rfl, by omega, hk2, (ha.cons rfl (ha.cons rfl (ha.cons rfl (ha.cons rfl (ha.nil))))), hw⟩
    ·
      replace h61 := of_decide_eq_false h61
      refine Tr.exitE ?_
      refine Arr.seqX ?_
      refine Arr.seqX ?_
      refine Arr.blockE ?_
      refine Arr.seq ?_
      refine Tr.seq ?_
      refine Tr.region ?_
      refine TL.val (YF.sliceArr arr_84 rfl) (by decide) ?_
      refine TL.val (YF.move rfl) (by decide) ?_
      refine TL.val (YF.assign rfl) (by decide) ?_
      refine TL.val (YF.assign rfl) (by decide) ?_
      refine TL.end ?_
      refine Arr.seq ?_
      refine Tr.retE ?_
      have e : t = 32 := by omega
      subst e
      obtain ⟨bk, cap, cs, rfl, rfl, hcs⟩ := hk.out (by decide)
      refine Ends.sub (G := (bk, .cells cs 82 (0, 0)) :: (b15, .cells (va 576 (fl .f32 y)) 84 (0, 0)) :: H) ?_ (Ends.tmp2 rfl rfl rfl ⟨b15, bk, cap, cs, y, k, hH, hcs, rfl, rfl⟩)
      exact (by repeat first | exact List.Sublist.refl _ | apply List.Sublist.cons_cons | apply List.Sublist.cons)

end Go.Proofs.YtbcjhkncifckiaaDoor
