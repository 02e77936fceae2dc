/- The walks of the reference's step into time. -/
import Derived.Test.YtbcjhkncifckiaaDoorHm
import Derived.Test.YtbcjhkncifckiaaDoorHr
namespace Go.Proofs.YtbcjhkncifckiaaDoor
open Go Go.RowKit Go.Proofs En Fl Ieee
set_option maxRecDepth 100000
set_option maxHeartbeats 0

theorem sine_ct (z : Int) (k m r : Nat) (w0 : World) (H : Hp) (hz : z = (k : Int)) (hsn : ∀ i, i < 6 → w0.cell? ⟨4, i, none⟩ = some (.float .f64 (snb i))) (hcn : ∀ i, i < 6 → w0.cell? ⟨5, i, none⟩ = some (.float .f64 (cnb i))) (h : sinS k m = some r) : Ct Tryd.prog 43 #[.int .i64 z, .int .i64 m] w0 (H) (fun v H' => v = .float .f64 r ∧ H' = H) := by
  refine Ct.of_body (n := 13) (E := [(0, _), (1, _)]) Tryd.func43 rfl rfl rfl rfl ?_
  refine Tr.seq ?_
  subst hz
  obtain ⟨q, b, x, e1, e2, e3, e4⟩ := sinS_spec h
  refine Tr.region ?_
  refine TL.val (YF.assign rfl) (by decide) ?_
  refine TL.end ?_
  refine Arr.seq ?_
  refine Tr.seq ?_
  refine Tr.region ?_
  refine TL.val (YF.move rfl) (by decide) ?_
  refine TL.val (YF.convIF und_3 und_60 rfl rfl) (by decide) ?_
  refine TL.val (YF.farith rfl rfl e1) (by decide) ?_
  refine TL.val (YF.move rfl) (by decide) ?_
  refine TL.val (YF.convIF und_3 und_60 rfl rfl) (by decide) ?_
  refine TL.val (YF.farith rfl rfl e2) (by decide) ?_
  refine TL.val (YF.farith rfl rfl e3) (by decide) ?_
  refine TL.call (vs := [_]) call_52 rfl (by decide) (Sin_ct x r w0 _ hsn hcn e4) ?_
  rintro _ _ ⟨rfl, hH⟩
  replace hH := hH.symm
  subst hH
  refine TL.val (YF.assign rfl) (by decide) ?_
  refine TL.end ?_
  refine Arr.seq ?_
  refine Tr.retE ?_
  exact Ends.tmp rfl rfl ⟨rfl, rfl⟩

theorem shape_ct (k b : Nat) (w0 : World) (H : Hp) (hk : k < 36) (hb : b = 0 ∨ b = 1 ∨ b = 3) (hsn : ∀ i, i < 6 → w0.cell? ⟨4, i, none⟩ = some (.float .f64 (snb i))) (hcn : ∀ i, i < 6 → w0.cell? ⟨5, i, none⟩ = some (.float .f64 (cnb i))) : Ct Tryd.prog 42 #[.int .i64 k, .int .i64 b] w0 (H) (fun v H' => v = .float .f64 (shb b k) ∧ H' = H) := by
  refine Ct.of_body (n := 57) (E := [(0, _), (1, _)]) Tryd.func42 rfl rfl rfl rfl ?_
  refine Tr.seq ?_
  refine Tr.region ?_
  refine TL.val (YF.assign rfl) (by decide) ?_
  refine TL.end ?_
  refine Arr.seq ?_
  refine Tr.seq ?_
  refine Tr.block ?_
  refine Tr.seq ?_
  refine Tr.region ?_
  refine TL.val (YF.move rfl) (by decide) ?_
  rcases (show b = 0 ∨ (b = 1 ∧ k < 18) ∨ (b = 1 ∧ 18 ≤ k ∧ k < 24) ∨ (b = 1 ∧ 24 ≤ k ∧ k < 30) ∨ (b = 1 ∧ 30 ≤ k) ∨ (b = 3 ∧ k < 6) ∨ (b = 3 ∧ 6 ≤ k ∧ k < 12) ∨ (b = 3 ∧ 12 ≤ k ∧ k < 18) ∨ (b = 3 ∧ 18 ≤ k) by omega) with rfl | ⟨rfl, h1⟩ | ⟨rfl, h1, h2⟩ | ⟨rfl, h1, h2⟩ | ⟨rfl, h1⟩ | ⟨rfl, h1⟩ | ⟨rfl, h1, h2⟩ | ⟨rfl, h1, h2⟩ | ⟨rfl, h1⟩
  ·
    have hh := sh0 hk
    first
      | refine TL.val (YF.eql (b := true) rfl rfl (decide_eq_true (by omega))) (by decide) ?_
      | refine TL.val (YF.eql (b := false) rfl rfl (decide_eq_false (by omega))) (by decide) ?_
    refine TL.val (YF.move rfl) (by decide) ?_
    first
      | refine TL.gno rfl (by decide) ?_
      | refine TL.gval rfl (YF.move rfl) (by decide) ?_
      | refine TL.gnoU rfl (by decide) ?_
    first
      | refine TL.gval rfl (YF.geq (b := true) rfl rfl (decide_eq_true (by omega))) (by decide) ?_
      | refine TL.gval rfl (YF.geq (b := false) rfl rfl (decide_eq_false (by omega))) (by decide) ?_
      | refine TL.gno rfl (by decide) ?_
      | refine TL.gnoU rfl (by decide) ?_
    first
      | refine TL.val (YF.pickT rfl rfl) (by decide) ?_
      | refine TL.val (YF.pickF rfl rfl) (by decide) ?_
      | refine TL.val (YF.pick rfl rfl rfl rfl) (by decide) ?_
    refine TL.val (YF.move rfl) (by decide) ?_
    first
      | refine TL.gno rfl (by decide) ?_
      | refine TL.gval rfl (YF.move rfl) (by decide) ?_
      | refine TL.gnoU rfl (by decide) ?_
    first
      | refine TL.gval rfl (YF.eql (b := true) rfl rfl (decide_eq_true (by omega))) (by decide) ?_
      | refine TL.gval rfl (YF.eql (b := false) rfl rfl (decide_eq_false (by omega))) (by decide) ?_
      | refine TL.gno rfl (by decide) ?_
      | refine TL.gnoU rfl (by decide) ?_
    first
      | refine TL.gno rfl (by decide) ?_
      | refine TL.gval rfl (YF.move rfl) (by decide) ?_
      | refine TL.gnoU rfl (by decide) ?_
    first
      | refine TL.gno rfl (by decide) ?_
      | refine TL.gval rfl (YF.move rfl) (by decide) ?_
      | refine TL.gnoU rfl (by decide) ?_
    first
      | refine TL.gval rfl (YF.lss (b := true) rfl rfl (decide_eq_true (by omega))) (by decide) ?_
      | refine TL.gval rfl (YF.lss (b := false) rfl rfl (decide_eq_false (by omega))) (by decide) ?_
      | refine TL.gno rfl (by decide) ?_
      | refine TL.gnoU rfl (by decide) ?_
    first
      | refine TL.gno rfl (by decide) ?_
      | refine TL.gval rfl (YF.pickT rfl rfl) (by decide) ?_
      | refine TL.gval rfl (YF.pickF rfl rfl) (by decide) ?_
      | refine TL.gval rfl (YF.pick rfl rfl rfl rfl) (by decide) ?_
      | refine TL.gnoU rfl (by decide) ?_
    first
      | refine TL.val (YF.pickT rfl rfl) (by decide) ?_
      | refine TL.val (YF.pickF rfl rfl) (by decide) ?_
      | refine TL.val (YF.pick rfl rfl rfl rfl) (by decide) ?_
    refine TL.val (YF.assign rfl) (by decide) ?_
    refine TL.end ?_
    refine Arr.seq ?_
    refine Tr.condF rfl ?_
    refine Tr.seq ?_
    refine Tr.region ?_
    refine TL.val (YF.move rfl) (by decide) ?_
    first
      | refine TL.val (YF.eql (b := true) rfl rfl (decide_eq_true (by omega))) (by decide) ?_
      | refine TL.val (YF.eql (b := false) rfl rfl (decide_eq_false (by omega))) (by decide) ?_
    refine TL.val (YF.move rfl) (by decide) ?_
    first
      | refine TL.gno rfl (by decide) ?_
      | refine TL.gval rfl (YF.move rfl) (by decide) ?_
      | refine TL.gnoU rfl (by decide) ?_
    first
      | refine TL.gval rfl (YF.geq (b := true) rfl rfl (decide_eq_true (by omega))) (by decide) ?_
      | refine TL.gval rfl (YF.geq (b := false) rfl rfl (decide_eq_false (by omega))) (by decide) ?_
      | refine TL.gno rfl (by decide) ?_
      | refine TL.gnoU rfl (by decide) ?_
    first
      | refine TL.val (YF.pickT rfl rfl) (by decide) ?_
      | refine TL.val (YF.pickF rfl rfl) (by decide) ?_
      | refine TL.val (YF.pick rfl rfl rfl rfl) (by decide) ?_
    refine TL.val (YF.assign rfl) (by decide) ?_
    refine TL.end ?_
    refine Arr.seq ?_
    refine Tr.condF rfl ?_
    refine Tr.seq ?_
    refine Tr.region ?_
    refine TL.val (YF.move rfl) (by decide) ?_
    first
      | refine TL.val (YF.eql (b := true) rfl rfl (decide_eq_true (by omega))) (by decide) ?_
      | refine TL.val (YF.eql (b := false) rfl rfl (decide_eq_false (by omega))) (by decide) ?_
    refine TL.val (YF.move rfl) (by decide) ?_
    first
      | refine TL.gno rfl (by decide) ?_
      | refine TL.gval rfl (YF.move rfl) (by decide) ?_
      | refine TL.gnoU rfl (by decide) ?_
    first
      | refine TL.gval rfl (YF.lss (b := true) rfl rfl (decide_eq_true (by omega))) (by decide) ?_
      | refine TL.gval rfl (YF.lss (b := false) rfl rfl (decide_eq_false (by omega))) (by decide) ?_
      | refine TL.gno rfl (by decide) ?_
      | refine TL.gnoU rfl (by decide) ?_
    first
      | refine TL.val (YF.pickT rfl rfl) (by decide) ?_
      | refine TL.val (YF.pickF rfl rfl) (by decide) ?_
      | refine TL.val (YF.pick rfl rfl rfl rfl) (by decide) ?_
    refine TL.val (YF.assign rfl) (by decide) ?_
    refine TL.end ?_
    refine Arr.seq ?_
    refine Tr.condF rfl ?_
    refine Tr.seq ?_
    refine Tr.region ?_
    refine TL.val (YF.move rfl) (by decide) ?_
    first
      | refine TL.val (YF.eql (b := true) rfl rfl (decide_eq_true (by omega))) (by decide) ?_
      | refine TL.val (YF.eql (b := false) rfl rfl (decide_eq_false (by omega))) (by decide) ?_
    refine TL.val (YF.move rfl) (by decide) ?_
    first
      | refine TL.gno rfl (by decide) ?_
      | refine TL.gval rfl (YF.move rfl) (by decide) ?_
      | refine TL.gnoU rfl (by decide) ?_
    first
      | refine TL.gval rfl (YF.geq (b := true) rfl rfl (decide_eq_true (by omega))) (by decide) ?_
      | refine TL.gval rfl (YF.geq (b := false) rfl rfl (decide_eq_false (by omega))) (by decide) ?_
      | refine TL.gno rfl (by decide) ?_
      | refine TL.gnoU rfl (by decide) ?_
    first
      | refine TL.val (YF.pickT rfl rfl) (by decide) ?_
      | refine TL.val (YF.pickF rfl rfl) (by decide) ?_
      | refine TL.val (YF.pick rfl rfl rfl rfl) (by decide) ?_
    refine TL.val (YF.move rfl) (by decide) ?_
    first
      | refine TL.gno rfl (by decide) ?_
      | refine TL.gval rfl (YF.move rfl) (by decide) ?_
      | refine TL.gnoU rfl (by decide) ?_
    first
      | refine TL.gval rfl (YF.eql (b := true) rfl rfl (decide_eq_true (by omega))) (by decide) ?_
      | refine TL.gval rfl (YF.eql (b := false) rfl rfl (decide_eq_false (by omega))) (by decide) ?_
      | refine TL.gno rfl (by decide) ?_
      | refine TL.gnoU rfl (by decide) ?_
    first
      | refine TL.gno rfl (by decide) ?_
      | refine TL.gval rfl (YF.move rfl) (by decide) ?_
      | refine TL.gnoU rfl (by decide) ?_
    first
      | refine TL.gno rfl (by decide) ?_
      | refine TL.gval rfl (YF.move rfl) (by decide) ?_
      | refine TL.gnoU rfl (by decide) ?_
    first
      | refine TL.gval rfl (YF.lss (b := true) rfl rfl (decide_eq_true (by omega))) (by decide) ?_
      | refine TL.gval rfl (YF.lss (b := false) rfl rfl (decide_eq_false (by omega))) (by decide) ?_
      | refine TL.gno rfl (by decide) ?_
      | refine TL.gnoU rfl (by decide) ?_
    first
      | refine TL.gno rfl (by decide) ?_
      | refine TL.gval rfl (YF.pickT rfl rfl) (by decide) ?_
      | refine TL.gval rfl (YF.pickF rfl rfl) (by decide) ?_
      | refine TL.gval rfl (YF.pick rfl rfl rfl rfl) (by decide) ?_
      | refine TL.gnoU rfl (by decide) ?_
    first
      | refine TL.val (YF.pickT rfl rfl) (by decide) ?_
      | refine TL.val (YF.pickF rfl rfl) (by decide) ?_
      | refine TL.val (YF.pick rfl rfl rfl rfl) (by decide) ?_
    refine TL.val (YF.assign rfl) (by decide) ?_
    refine TL.end ?_
    refine Arr.seq ?_
    refine Tr.condF rfl ?_
    refine Tr.skipE ?_
    refine Arr.block ?_
    refine Arr.seq ?_
    refine Tr.seq ?_
    refine Tr.region ?_
    refine TL.val (YF.move rfl) (by decide) ?_
    refine TL.call (vs := [_, _]) call_43 rfl (by decide) (sine_ct _ (k) 36 _ w0 _ (by omega) hsn hcn hh) ?_
    rintro _ _ ⟨rfl, hH⟩
    replace hH := hH.symm
    subst hH
    refine TL.val (YF.assign rfl) (by decide) ?_
    refine TL.end ?_
    refine Arr.seq ?_
    refine Tr.retE ?_
    first
      | exact Ends.tmp rfl rfl ⟨rfl, rfl⟩
      | exact Ends.tmp rfl rfl ⟨congrArg (Value.float .f64) hh, rfl⟩
  ·
    have hh := (sh1 hk).1 h1
    first
      | refine TL.val (YF.eql (b := true) rfl rfl (decide_eq_true (by omega))) (by decide) ?_
      | refine TL.val (YF.eql (b := false) rfl rfl (decide_eq_false (by omega))) (by decide) ?_
    refine TL.val (YF.move rfl) (by decide) ?_
    first
      | refine TL.gno rfl (by decide) ?_
      | refine TL.gval rfl (YF.move rfl) (by decide) ?_
      | refine TL.gnoU rfl (by decide) ?_
    first
      | refine TL.gval rfl (YF.geq (b := true) rfl rfl (decide_eq_true (by omega))) (by decide) ?_
      | refine TL.gval rfl (YF.geq (b := false) rfl rfl (decide_eq_false (by omega))) (by decide) ?_
      | refine TL.gno rfl (by decide) ?_
      | refine TL.gnoU rfl (by decide) ?_
    first
      | refine TL.val (YF.pickT rfl rfl) (by decide) ?_
      | refine TL.val (YF.pickF rfl rfl) (by decide) ?_
      | refine TL.val (YF.pick rfl rfl rfl rfl) (by decide) ?_
    refine TL.val (YF.move rfl) (by decide) ?_
    first
      | refine TL.gno rfl (by decide) ?_
      | refine TL.gval rfl (YF.move rfl) (by decide) ?_
      | refine TL.gnoU rfl (by decide) ?_
    first
      | refine TL.gval rfl (YF.eql (b := true) rfl rfl (decide_eq_true (by omega))) (by decide) ?_
      | refine TL.gval rfl (YF.eql (b := false) rfl rfl (decide_eq_false (by omega))) (by decide) ?_
      | refine TL.gno rfl (by decide) ?_
      | refine TL.gnoU rfl (by decide) ?_
    first
      | refine TL.gno rfl (by decide) ?_
      | refine TL.gval rfl (YF.move rfl) (by decide) ?_
      | refine TL.gnoU rfl (by decide) ?_
    first
      | refine TL.gno rfl (by decide) ?_
      | refine TL.gval rfl (YF.move rfl) (by decide) ?_
      | refine TL.gnoU rfl (by decide) ?_
    first
      | refine TL.gval rfl (YF.lss (b := true) rfl rfl (decide_eq_true (by omega))) (by decide) ?_
      | refine TL.gval rfl (YF.lss (b := false) rfl rfl (decide_eq_false (by omega))) (by decide) ?_
      | refine TL.gno rfl (by decide) ?_
      | refine TL.gnoU rfl (by decide) ?_
    first
      | refine TL.gno rfl (by decide) ?_
      | refine TL.gval rfl (YF.pickT rfl rfl) (by decide) ?_
      | refine TL.gval rfl (YF.pickF rfl rfl) (by decide) ?_
      | refine TL.gval rfl (YF.pick rfl rfl rfl rfl) (by decide) ?_
      | refine TL.gnoU rfl (by decide) ?_
    first
      | refine TL.val (YF.pickT rfl rfl) (by decide) ?_
      | refine TL.val (YF.pickF rfl rfl) (by decide) ?_
      | refine TL.val (YF.pick rfl rfl rfl rfl) (by decide) ?_
    refine TL.val (YF.assign rfl) (by decide) ?_
    refine TL.end ?_
    refine Arr.seq ?_
    refine Tr.condF rfl ?_
    refine Tr.seq ?_
    refine Tr.region ?_
    refine TL.val (YF.move rfl) (by decide) ?_
    first
      | refine TL.val (YF.eql (b := true) rfl rfl (decide_eq_true (by omega))) (by decide) ?_
      | refine TL.val (YF.eql (b := false) rfl rfl (decide_eq_false (by omega))) (by decide) ?_
    refine TL.val (YF.move rfl) (by decide) ?_
    first
      | refine TL.gno rfl (by decide) ?_
      | refine TL.gval rfl (YF.move rfl) (by decide) ?_
      | refine TL.gnoU rfl (by decide) ?_
    first
      | refine TL.gval rfl (YF.geq (b := true) rfl rfl (decide_eq_true (by omega))) (by decide) ?_
      | refine TL.gval rfl (YF.geq (b := false) rfl rfl (decide_eq_false (by omega))) (by decide) ?_
      | refine TL.gno rfl (by decide) ?_
      | refine TL.gnoU rfl (by decide) ?_
    first
      | refine TL.val (YF.pickT rfl rfl) (by decide) ?_
      | refine TL.val (YF.pickF rfl rfl) (by decide) ?_
      | refine TL.val (YF.pick rfl rfl rfl rfl) (by decide) ?_
    refine TL.val (YF.assign rfl) (by decide) ?_
    refine TL.end ?_
    refine Arr.seq ?_
    refine Tr.condF rfl ?_
    refine Tr.seq ?_
    refine Tr.region ?_
    refine TL.val (YF.move rfl) (by decide) ?_
    first
      | refine TL.val (YF.eql (b := true) rfl rfl (decide_eq_true (by omega))) (by decide) ?_
      | refine TL.val (YF.eql (b := false) rfl rfl (decide_eq_false (by omega))) (by decide) ?_
    refine TL.val (YF.move rfl) (by decide) ?_
    first
      | refine TL.gno rfl (by decide) ?_
      | refine TL.gval rfl (YF.move rfl) (by decide) ?_
      | refine TL.gnoU rfl (by decide) ?_
    first
      | refine TL.gval rfl (YF.lss (b := true) rfl rfl (decide_eq_true (by omega))) (by decide) ?_
      | refine TL.gval rfl (YF.lss (b := false) rfl rfl (decide_eq_false (by omega))) (by decide) ?_
      | refine TL.gno rfl (by decide) ?_
      | refine TL.gnoU rfl (by decide) ?_
    first
      | refine TL.val (YF.pickT rfl rfl) (by decide) ?_
      | refine TL.val (YF.pickF rfl rfl) (by decide) ?_
      | refine TL.val (YF.pick rfl rfl rfl rfl) (by decide) ?_
    refine TL.val (YF.assign rfl) (by decide) ?_
    refine TL.end ?_
    refine Arr.seq ?_
    refine Tr.condF rfl ?_
    refine Tr.seq ?_
    refine Tr.region ?_
    refine TL.val (YF.move rfl) (by decide) ?_
    first
      | refine TL.val (YF.eql (b := true) rfl rfl (decide_eq_true (by omega))) (by decide) ?_
      | refine TL.val (YF.eql (b := false) rfl rfl (decide_eq_false (by omega))) (by decide) ?_
    refine TL.val (YF.move rfl) (by decide) ?_
    first
      | refine TL.gno rfl (by decide) ?_
      | refine TL.gval rfl (YF.move rfl) (by decide) ?_
      | refine TL.gnoU rfl (by decide) ?_
    first
      | refine TL.gval rfl (YF.geq (b := true) rfl rfl (decide_eq_true (by omega))) (by decide) ?_
      | refine TL.gval rfl (YF.geq (b := false) rfl rfl (decide_eq_false (by omega))) (by decide) ?_
      | refine TL.gno rfl (by decide) ?_
      | refine TL.gnoU rfl (by decide) ?_
    first
      | refine TL.val (YF.pickT rfl rfl) (by decide) ?_
      | refine TL.val (YF.pickF rfl rfl) (by decide) ?_
      | refine TL.val (YF.pick rfl rfl rfl rfl) (by decide) ?_
    refine TL.val (YF.move rfl) (by decide) ?_
    first
      | refine TL.gno rfl (by decide) ?_
      | refine TL.gval rfl (YF.move rfl) (by decide) ?_
      | refine TL.gnoU rfl (by decide) ?_
    first
      | refine TL.gval rfl (YF.eql (b := true) rfl rfl (decide_eq_true (by omega))) (by decide) ?_
      | refine TL.gval rfl (YF.eql (b := false) rfl rfl (decide_eq_false (by omega))) (by decide) ?_
      | refine TL.gno rfl (by decide) ?_
      | refine TL.gnoU rfl (by decide) ?_
    first
      | refine TL.gno rfl (by decide) ?_
      | refine TL.gval rfl (YF.move rfl) (by decide) ?_
      | refine TL.gnoU rfl (by decide) ?_
    first
      | refine TL.gno rfl (by decide) ?_
      | refine TL.gval rfl (YF.move rfl) (by decide) ?_
      | refine TL.gnoU rfl (by decide) ?_
    first
      | refine TL.gval rfl (YF.lss (b := true) rfl rfl (decide_eq_true (by omega))) (by decide) ?_
      | refine TL.gval rfl (YF.lss (b := false) rfl rfl (decide_eq_false (by omega))) (by decide) ?_
      | refine TL.gno rfl (by decide) ?_
      | refine TL.gnoU rfl (by decide) ?_
    first
      | refine TL.gno rfl (by decide) ?_
      | refine TL.gval rfl (YF.pickT rfl rfl) (by decide) ?_
      | refine TL.gval rfl (YF.pickF rfl rfl) (by decide) ?_
      | refine TL.gval rfl (YF.pick rfl rfl rfl rfl) (by decide) ?_
      | refine TL.gnoU rfl (by decide) ?_
    first
      | refine TL.val (YF.pickT rfl rfl) (by decide) ?_
      | refine TL.val (YF.pickF rfl rfl) (by decide) ?_
      | refine TL.val (YF.pick rfl rfl rfl rfl) (by decide) ?_
    refine TL.val (YF.assign rfl) (by decide) ?_
    refine TL.end ?_
    refine Arr.seq ?_
    refine Tr.condF rfl ?_
    refine Tr.skipE ?_
    refine Arr.block ?_
    refine Arr.seq ?_
    refine Tr.seq ?_
    refine Tr.region ?_
    refine TL.val (YF.move rfl) (by decide) ?_
    refine TL.call (vs := [_, _]) call_43 rfl (by decide) (sine_ct _ (k) 36 _ w0 _ (by omega) hsn hcn hh) ?_
    rintro _ _ ⟨rfl, hH⟩
    replace hH := hH.symm
    subst hH
    refine TL.val (YF.assign rfl) (by decide) ?_
    refine TL.end ?_
    refine Arr.seq ?_
    refine Tr.retE ?_
    first
      | exact Ends.tmp rfl rfl ⟨rfl, rfl⟩
      | exact Ends.tmp rfl rfl ⟨congrArg (Value.float .f64) hh, rfl⟩
  ·
    have hh := (sh1 hk).2.1 h1 h2
    first
      | refine TL.val (YF.eql (b := true) rfl rfl (decide_eq_true (by omega))) (by decide) ?_
      | refine TL.val (YF.eql (b := false) rfl rfl (decide_eq_false (by omega))) (by decide) ?_
    refine TL.val (YF.move rfl) (by decide) ?_
    first
      | refine TL.gno rfl (by decide) ?_
      | refine TL.gval rfl (YF.move rfl) (by decide) ?_
      | refine TL.gnoU rfl (by decide) ?_
    first
      | refine TL.gval rfl (YF.geq (b := true) rfl rfl (decide_eq_true (by omega))) (by decide) ?_
      | refine TL.gval rfl (YF.geq (b := false) rfl rfl (decide_eq_false (by omega))) (by decide) ?_
      | refine TL.gno rfl (by decide) ?_
      | refine TL.gnoU rfl (by decide) ?_
    first
      | refine TL.val (YF.pickT rfl rfl) (by decide) ?_
      | refine TL.val (YF.pickF rfl rfl) (by decide) ?_
      | refine TL.val (YF.pick rfl rfl rfl rfl) (by decide) ?_
    refine TL.val (YF.move rfl) (by decide) ?_
    first
      | refine TL.gno rfl (by decide) ?_
      | refine TL.gval rfl (YF.move rfl) (by decide) ?_
      | refine TL.gnoU rfl (by decide) ?_
    first
      | refine TL.gval rfl (YF.eql (b := true) rfl rfl (decide_eq_true (by omega))) (by decide) ?_
      | refine TL.gval rfl (YF.eql (b := false) rfl rfl (decide_eq_false (by omega))) (by decide) ?_
      | refine TL.gno rfl (by decide) ?_
      | refine TL.gnoU rfl (by decide) ?_
    first
      | refine TL.gno rfl (by decide) ?_
      | refine TL.gval rfl (YF.move rfl) (by decide) ?_
      | refine TL.gnoU rfl (by decide) ?_
    first
      | refine TL.gno rfl (by decide) ?_
      | refine TL.gval rfl (YF.move rfl) (by decide) ?_
      | refine TL.gnoU rfl (by decide) ?_
    first
      | refine TL.gval rfl (YF.lss (b := true) rfl rfl (decide_eq_true (by omega))) (by decide) ?_
      | refine TL.gval rfl (YF.lss (b := false) rfl rfl (decide_eq_false (by omega))) (by decide) ?_
      | refine TL.gno rfl (by decide) ?_
      | refine TL.gnoU rfl (by decide) ?_
    first
      | refine TL.gno rfl (by decide) ?_
      | refine TL.gval rfl (YF.pickT rfl rfl) (by decide) ?_
      | refine TL.gval rfl (YF.pickF rfl rfl) (by decide) ?_
      | refine TL.gval rfl (YF.pick rfl rfl rfl rfl) (by decide) ?_
      | refine TL.gnoU rfl (by decide) ?_
    first
      | refine TL.val (YF.pickT rfl rfl) (by decide) ?_
      | refine TL.val (YF.pickF rfl rfl) (by decide) ?_
      | refine TL.val (YF.pick rfl rfl rfl rfl) (by decide) ?_
    refine TL.val (YF.assign rfl) (by decide) ?_
    refine TL.end ?_
    refine Arr.seq ?_
    refine Tr.condF rfl ?_
    refine Tr.seq ?_
    refine Tr.region ?_
    refine TL.val (YF.move rfl) (by decide) ?_
    first
      | refine TL.val (YF.eql (b := true) rfl rfl (decide_eq_true (by omega))) (by decide) ?_
      | refine TL.val (YF.eql (b := false) rfl rfl (decide_eq_false (by omega))) (by decide) ?_
    refine TL.val (YF.move rfl) (by decide) ?_
    first
      | refine TL.gno rfl (by decide) ?_
      | refine TL.gval rfl (YF.move rfl) (by decide) ?_
      | refine TL.gnoU rfl (by decide) ?_
    first
      | refine TL.gval rfl (YF.geq (b := true) rfl rfl (decide_eq_true (by omega))) (by decide) ?_
      | refine TL.gval rfl (YF.geq (b := false) rfl rfl (decide_eq_false (by omega))) (by decide) ?_
      | refine TL.gno rfl (by decide) ?_
      | refine TL.gnoU rfl (by decide) ?_
    first
      | refine TL.val (YF.pickT rfl rfl) (by decide) ?_
      | refine TL.val (YF.pickF rfl rfl) (by decide) ?_
      | refine TL.val (YF.pick rfl rfl rfl rfl) (by decide) ?_
    refine TL.val (YF.assign rfl) (by decide) ?_
    refine TL.end ?_
    refine Arr.seq ?_
    refine Tr.condF rfl ?_
    refine Tr.seq ?_
    refine Tr.region ?_
    refine TL.val (YF.move rfl) (by decide) ?_
    first
      | refine TL.val (YF.eql (b := true) rfl rfl (decide_eq_true (by omega))) (by decide) ?_
      | refine TL.val (YF.eql (b := false) rfl rfl (decide_eq_false (by omega))) (by decide) ?_
    refine TL.val (YF.move rfl) (by decide) ?_
    first
      | refine TL.gno rfl (by decide) ?_
      | refine TL.gval rfl (YF.move rfl) (by decide) ?_
      | refine TL.gnoU rfl (by decide) ?_
    first
      | refine TL.gval rfl (YF.lss (b := true) rfl rfl (decide_eq_true (by omega))) (by decide) ?_
      | refine TL.gval rfl (YF.lss (b := false) rfl rfl (decide_eq_false (by omega))) (by decide) ?_
      | refine TL.gno rfl (by decide) ?_
      | refine TL.gnoU rfl (by decide) ?_
    first
      | refine TL.val (YF.pickT rfl rfl) (by decide) ?_
      | refine TL.val (YF.pickF rfl rfl) (by decide) ?_
      | refine TL.val (YF.pick rfl rfl rfl rfl) (by decide) ?_
    refine TL.val (YF.assign rfl) (by decide) ?_
    refine TL.end ?_
    refine Arr.seq ?_
    refine Tr.condF rfl ?_
    refine Tr.seq ?_
    refine Tr.region ?_
    refine TL.val (YF.move rfl) (by decide) ?_
    first
      | refine TL.val (YF.eql (b := true) rfl rfl (decide_eq_true (by omega))) (by decide) ?_
      | refine TL.val (YF.eql (b := false) rfl rfl (decide_eq_false (by omega))) (by decide) ?_
    refine TL.val (YF.move rfl) (by decide) ?_
    first
      | refine TL.gno rfl (by decide) ?_
      | refine TL.gval rfl (YF.move rfl) (by decide) ?_
      | refine TL.gnoU rfl (by decide) ?_
    first
      | refine TL.gval rfl (YF.geq (b := true) rfl rfl (decide_eq_true (by omega))) (by decide) ?_
      | refine TL.gval rfl (YF.geq (b := false) rfl rfl (decide_eq_false (by omega))) (by decide) ?_
      | refine TL.gno rfl (by decide) ?_
      | refine TL.gnoU rfl (by decide) ?_
    first
      | refine TL.val (YF.pickT rfl rfl) (by decide) ?_
      | refine TL.val (YF.pickF rfl rfl) (by decide) ?_
      | refine TL.val (YF.pick rfl rfl rfl rfl) (by decide) ?_
    refine TL.val (YF.move rfl) (by decide) ?_
    first
      | refine TL.gno rfl (by decide) ?_
      | refine TL.gval rfl (YF.move rfl) (by decide) ?_
      | refine TL.gnoU rfl (by decide) ?_
    first
      | refine TL.gval rfl (YF.eql (b := true) rfl rfl (decide_eq_true (by omega))) (by decide) ?_
      | refine TL.gval rfl (YF.eql (b := false) rfl rfl (decide_eq_false (by omega))) (by decide) ?_
      | refine TL.gno rfl (by decide) ?_
      | refine TL.gnoU rfl (by decide) ?_
    first
      | refine TL.gno rfl (by decide) ?_
      | refine TL.gval rfl (YF.move rfl) (by decide) ?_
      | refine TL.gnoU rfl (by decide) ?_
    first
      | refine TL.gno rfl (by decide) ?_
      | refine TL.gval rfl (YF.move rfl) (by decide) ?_
      | refine TL.gnoU rfl (by decide) ?_
    first
      | refine TL.gval rfl (YF.lss (b := true) rfl rfl (decide_eq_true (by omega))) (by decide) ?_
      | refine TL.gval rfl (YF.lss (b := false) rfl rfl (decide_eq_false (by omega))) (by decide) ?_
      | refine TL.gno rfl (by decide) ?_
      | refine TL.gnoU rfl (by decide) ?_
    first
      | refine TL.gno rfl (by decide) ?_
      | refine TL.gval rfl (YF.pickT rfl rfl) (by decide) ?_
      | refine TL.gval rfl (YF.pickF rfl rfl) (by decide) ?_
      | refine TL.gval rfl (YF.pick rfl rfl rfl rfl) (by decide) ?_
      | refine TL.gnoU rfl (by decide) ?_
    first
      | refine TL.val (YF.pickT rfl rfl) (by decide) ?_
      | refine TL.val (YF.pickF rfl rfl) (by decide) ?_
      | refine TL.val (YF.pick rfl rfl rfl rfl) (by decide) ?_
    refine TL.val (YF.assign rfl) (by decide) ?_
    refine TL.end ?_
    refine Arr.seq ?_
    refine Tr.condT rfl ?_
    refine Tr.seq ?_
    refine Tr.region ?_
    refine TL.val (YF.assign rfl) (by decide) ?_
    refine TL.end ?_
    refine Arr.seq ?_
    refine Tr.retE ?_
    refine Arr.blockR ?_
    refine Arr.seqR ?_
    first
      | exact Ends.tmp rfl rfl ⟨rfl, rfl⟩
      | exact Ends.tmp rfl rfl ⟨congrArg (Value.float .f64) hh, rfl⟩
  ·
    have hh := (sh1 hk).2.2.1 h1 h2
    first
      | refine TL.val (YF.eql (b := true) rfl rfl (decide_eq_true (by omega))) (by decide) ?_
      | refine TL.val (YF.eql (b := false) rfl rfl (decide_eq_false (by omega))) (by decide) ?_
    refine TL.val (YF.move rfl) (by decide) ?_
    first
      | refine TL.gno rfl (by decide) ?_
      | refine TL.gval rfl (YF.move rfl) (by decide) ?_
      | refine TL.gnoU rfl (by decide) ?_
    first
      | refine TL.gval rfl (YF.geq (b := true) rfl rfl (decide_eq_true (by omega))) (by decide) ?_
      | refine TL.gval rfl (YF.geq (b := false) rfl rfl (decide_eq_false (by omega))) (by decide) ?_
      | refine TL.gno rfl (by decide) ?_
      | refine TL.gnoU rfl (by decide) ?_
    first
      | refine TL.val (YF.pickT rfl rfl) (by decide) ?_
      | refine TL.val (YF.pickF rfl rfl) (by decide) ?_
      | refine TL.val (YF.pick rfl rfl rfl rfl) (by decide) ?_
    refine TL.val (YF.move rfl) (by decide) ?_
    first
      | refine TL.gno rfl (by decide) ?_
      | refine TL.gval rfl (YF.move rfl) (by decide) ?_
      | refine TL.gnoU rfl (by decide) ?_
    first
      | refine TL.gval rfl (YF.eql (b := true) rfl rfl (decide_eq_true (by omega))) (by decide) ?_
      | refine TL.gval rfl (YF.eql (b := false) rfl rfl (decide_eq_false (by omega))) (by decide) ?_
      | refine TL.gno rfl (by decide) ?_
      | refine TL.gnoU rfl (by decide) ?_
    first
      | refine TL.gno rfl (by decide) ?_
      | refine TL.gval rfl (YF.move rfl) (by decide) ?_
      | refine TL.gnoU rfl (by decide) ?_
    first
      | refine TL.gno rfl (by decide) ?_
      | refine TL.gval rfl (YF.move rfl) (by decide) ?_
      | refine TL.gnoU rfl (by decide) ?_
    first
      | refine TL.gval rfl (YF.lss (b := true) rfl rfl (decide_eq_true (by omega))) (by decide) ?_
      | refine TL.gval rfl (YF.lss (b := false) rfl rfl (decide_eq_false (by omega))) (by decide) ?_
      | refine TL.gno rfl (by decide) ?_
      | refine TL.gnoU rfl (by decide) ?_
    first
      | refine TL.gno rfl (by decide) ?_
      | refine TL.gval rfl (YF.pickT rfl rfl) (by decide) ?_
      | refine TL.gval rfl (YF.pickF rfl rfl) (by decide) ?_
      | refine TL.gval rfl (YF.pick rfl rfl rfl rfl) (by decide) ?_
      | refine TL.gnoU rfl (by decide) ?_
    first
      | refine TL.val (YF.pickT rfl rfl) (by decide) ?_
      | refine TL.val (YF.pickF rfl rfl) (by decide) ?_
      | refine TL.val (YF.pick rfl rfl rfl rfl) (by decide) ?_
    refine TL.val (YF.assign rfl) (by decide) ?_
    refine TL.end ?_
    refine Arr.seq ?_
    refine Tr.condF rfl ?_
    refine Tr.seq ?_
    refine Tr.region ?_
    refine TL.val (YF.move rfl) (by decide) ?_
    first
      | refine TL.val (YF.eql (b := true) rfl rfl (decide_eq_true (by omega))) (by decide) ?_
      | refine TL.val (YF.eql (b := false) rfl rfl (decide_eq_false (by omega))) (by decide) ?_
    refine TL.val (YF.move rfl) (by decide) ?_
    first
      | refine TL.gno rfl (by decide) ?_
      | refine TL.gval rfl (YF.move rfl) (by decide) ?_
      | refine TL.gnoU rfl (by decide) ?_
    first
      | refine TL.gval rfl (YF.geq (b := true) rfl rfl (decide_eq_true (by omega))) (by decide) ?_
      | refine TL.gval rfl (YF.geq (b := false) rfl rfl (decide_eq_false (by omega))) (by decide) ?_
      | refine TL.gno rfl (by decide) ?_
      | refine TL.gnoU rfl (by decide) ?_
    first
      | refine TL.val (YF.pickT rfl rfl) (by decide) ?_
      | refine TL.val (YF.pickF rfl rfl) (by decide) ?_
      | refine TL.val (YF.pick rfl rfl rfl rfl) (by decide) ?_
    refine TL.val (YF.assign rfl) (by decide) ?_
    refine TL.end ?_
    refine Arr.seq ?_
    refine Tr.condT rfl ?_
    refine Tr.seq ?_
    refine Tr.region ?_
    refine TL.val (YF.move rfl) (by decide) ?_
    refine TL.val (YF.sub rfl rfl (IntWalk.i64_in _ (by omega))) (by decide) ?_
    refine TL.call (vs := [_, _]) call_43 rfl (by decide) (sine_ct _ (k - 18) 12 _ w0 _ (by omega) hsn hcn hh) ?_
    rintro _ _ ⟨rfl, hH⟩
    replace hH := hH.symm
    subst hH
    refine TL.val (YF.assign rfl) (by decide) ?_
    refine TL.end ?_
    refine Arr.seq ?_
    refine Tr.retE ?_
    refine Arr.blockR ?_
    refine Arr.seqR ?_
    first
      | exact Ends.tmp rfl rfl ⟨rfl, rfl⟩
      | exact Ends.tmp rfl rfl ⟨congrArg (Value.float .f64) hh, rfl⟩
  ·
    have hh := (sh1 hk).2.2.2 h1
    first
      | refine TL.val (YF.eql (b := true) rfl rfl (decide_eq_true (by omega))) (by decide) ?_
      | refine TL.val (YF.eql (b := false) rfl rfl (decide_eq_false (by omega))) (by decide) ?_
    refine TL.val (YF.move rfl) (by decide) ?_
    first
      | refine TL.gno rfl (by decide) ?_
      | refine TL.gval rfl (YF.move rfl) (by decide) ?_
      | refine TL.gnoU rfl (by decide) ?_
    first
      | refine TL.gval rfl (YF.geq (b := true) rfl rfl (decide_eq_true (by omega))) (by decide) ?_
      | refine TL.gval rfl (YF.geq (b := false) rfl rfl (decide_eq_false (by omega))) (by decide) ?_
      | refine TL.gno rfl (by decide) ?_
      | refine TL.gnoU rfl (by decide) ?_
    first
      | refine TL.val (YF.pickT rfl rfl) (by decide) ?_
      | refine TL.val (YF.pickF rfl rfl) (by decide) ?_
      | refine TL.val (YF.pick rfl rfl rfl rfl) (by decide) ?_
    refine TL.val (YF.move rfl) (by decide) ?_
    first
      | refine TL.gno rfl (by decide) ?_
      | refine TL.gval rfl (YF.move rfl) (by decide) ?_
      | refine TL.gnoU rfl (by decide) ?_
    first
      | refine TL.gval rfl (YF.eql (b := true) rfl rfl (decide_eq_true (by omega))) (by decide) ?_
      | refine TL.gval rfl (YF.eql (b := false) rfl rfl (decide_eq_false (by omega))) (by decide) ?_
      | refine TL.gno rfl (by decide) ?_
      | refine TL.gnoU rfl (by decide) ?_
    first
      | refine TL.gno rfl (by decide) ?_
      | refine TL.gval rfl (YF.move rfl) (by decide) ?_
      | refine TL.gnoU rfl (by decide) ?_
    first
      | refine TL.gno rfl (by decide) ?_
      | refine TL.gval rfl (YF.move rfl) (by decide) ?_
      | refine TL.gnoU rfl (by decide) ?_
    first
      | refine TL.gval rfl (YF.lss (b := true) rfl rfl (decide_eq_true (by omega))) (by decide) ?_
      | refine TL.gval rfl (YF.lss (b := false) rfl rfl (decide_eq_false (by omega))) (by decide) ?_
      | refine TL.gno rfl (by decide) ?_
      | refine TL.gnoU rfl (by decide) ?_
    first
      | refine TL.gno rfl (by decide) ?_
      | refine TL.gval rfl (YF.pickT rfl rfl) (by decide) ?_
      | refine TL.gval rfl (YF.pickF rfl rfl) (by decide) ?_
      | refine TL.gval rfl (YF.pick rfl rfl rfl rfl) (by decide) ?_
      | refine TL.gnoU rfl (by decide) ?_
    first
      | refine TL.val (YF.pickT rfl rfl) (by decide) ?_
      | refine TL.val (YF.pickF rfl rfl) (by decide) ?_
      | refine TL.val (YF.pick rfl rfl rfl rfl) (by decide) ?_
    refine TL.val (YF.assign rfl) (by decide) ?_
    refine TL.end ?_
    refine Arr.seq ?_
    refine Tr.condT rfl ?_
    refine Tr.seq ?_
    refine Tr.region ?_
    refine TL.val (YF.assign rfl) (by decide) ?_
    refine TL.end ?_
    refine Arr.seq ?_
    refine Tr.retE ?_
    refine Arr.blockR ?_
    refine Arr.seqR ?_
    first
      | exact Ends.tmp rfl rfl ⟨rfl, rfl⟩
      | exact Ends.tmp rfl rfl ⟨congrArg (Value.float .f64) hh, rfl⟩
  ·
    have hh := (sh3 hk).1 h1
    first
      | refine TL.val (YF.eql (b := true) rfl rfl (decide_eq_true (by omega))) (by decide) ?_
      | refine TL.val (YF.eql (b := false) rfl rfl (decide_eq_false (by omega))) (by decide) ?_
    refine TL.val (YF.move rfl) (by decide) ?_
    first
      | refine TL.gno rfl (by decide) ?_
      | refine TL.gval rfl (YF.move rfl) (by decide) ?_
      | refine TL.gnoU rfl (by decide) ?_
    first
      | refine TL.gval rfl (YF.geq (b := true) rfl rfl (decide_eq_true (by omega))) (by decide) ?_
      | refine TL.gval rfl (YF.geq (b := false) rfl rfl (decide_eq_false (by omega))) (by decide) ?_
      | refine TL.gno rfl (by decide) ?_
      | refine TL.gnoU rfl (by decide) ?_
    first
      | refine TL.val (YF.pickT rfl rfl) (by decide) ?_
      | refine TL.val (YF.pickF rfl rfl) (by decide) ?_
      | refine TL.val (YF.pick rfl rfl rfl rfl) (by decide) ?_
    refine TL.val (YF.move rfl) (by decide) ?_
    first
      | refine TL.gno rfl (by decide) ?_
      | refine TL.gval rfl (YF.move rfl) (by decide) ?_
      | refine TL.gnoU rfl (by decide) ?_
    first
      | refine TL.gval rfl (YF.eql (b := true) rfl rfl (decide_eq_true (by omega))) (by decide) ?_
      | refine TL.gval rfl (YF.eql (b := false) rfl rfl (decide_eq_false (by omega))) (by decide) ?_
      | refine TL.gno rfl (by decide) ?_
      | refine TL.gnoU rfl (by decide) ?_
    first
      | refine TL.gno rfl (by decide) ?_
      | refine TL.gval rfl (YF.move rfl) (by decide) ?_
      | refine TL.gnoU rfl (by decide) ?_
    first
      | refine TL.gno rfl (by decide) ?_
      | refine TL.gval rfl (YF.move rfl) (by decide) ?_
      | refine TL.gnoU rfl (by decide) ?_
    first
      | refine TL.gval rfl (YF.lss (b := true) rfl rfl (decide_eq_true (by omega))) (by decide) ?_
      | refine TL.gval rfl (YF.lss (b := false) rfl rfl (decide_eq_false (by omega))) (by decide) ?_
      | refine TL.gno rfl (by decide) ?_
      | refine TL.gnoU rfl (by decide) ?_
    first
      | refine TL.gno rfl (by decide) ?_
      | refine TL.gval rfl (YF.pickT rfl rfl) (by decide) ?_
      | refine TL.gval rfl (YF.pickF rfl rfl) (by decide) ?_
      | refine TL.gval rfl (YF.pick rfl rfl rfl rfl) (by decide) ?_
      | refine TL.gnoU rfl (by decide) ?_
    first
      | refine TL.val (YF.pickT rfl rfl) (by decide) ?_
      | refine TL.val (YF.pickF rfl rfl) (by decide) ?_
      | refine TL.val (YF.pick rfl rfl rfl rfl) (by decide) ?_
    refine TL.val (YF.assign rfl) (by decide) ?_
    refine TL.end ?_
    refine Arr.seq ?_
    refine Tr.condT rfl ?_
    refine Tr.seq ?_
    refine Tr.region ?_
    refine TL.val (YF.assign rfl) (by decide) ?_
    refine TL.end ?_
    refine Arr.seq ?_
    refine Tr.retE ?_
    refine Arr.blockR ?_
    refine Arr.seqR ?_
    first
      | exact Ends.tmp rfl rfl ⟨rfl, rfl⟩
      | exact Ends.tmp rfl rfl ⟨congrArg (Value.float .f64) hh, rfl⟩
  ·
    have hh := (sh3 hk).2.1 h1 h2
    first
      | refine TL.val (YF.eql (b := true) rfl rfl (decide_eq_true (by omega))) (by decide) ?_
      | refine TL.val (YF.eql (b := false) rfl rfl (decide_eq_false (by omega))) (by decide) ?_
    refine TL.val (YF.move rfl) (by decide) ?_
    first
      | refine TL.gno rfl (by decide) ?_
      | refine TL.gval rfl (YF.move rfl) (by decide) ?_
      | refine TL.gnoU rfl (by decide) ?_
    first
      | refine TL.gval rfl (YF.geq (b := true) rfl rfl (decide_eq_true (by omega))) (by decide) ?_
      | refine TL.gval rfl (YF.geq (b := false) rfl rfl (decide_eq_false (by omega))) (by decide) ?_
      | refine TL.gno rfl (by decide) ?_
      | refine TL.gnoU rfl (by decide) ?_
    first
      | refine TL.val (YF.pickT rfl rfl) (by decide) ?_
      | refine TL.val (YF.pickF rfl rfl) (by decide) ?_
      | refine TL.val (YF.pick rfl rfl rfl rfl) (by decide) ?_
    refine TL.val (YF.move rfl) (by decide) ?_
    first
      | refine TL.gno rfl (by decide) ?_
      | refine TL.gval rfl (YF.move rfl) (by decide) ?_
      | refine TL.gnoU rfl (by decide) ?_
    first
      | refine TL.gval rfl (YF.eql (b := true) rfl rfl (decide_eq_true (by omega))) (by decide) ?_
      | refine TL.gval rfl (YF.eql (b := false) rfl rfl (decide_eq_false (by omega))) (by decide) ?_
      | refine TL.gno rfl (by decide) ?_
      | refine TL.gnoU rfl (by decide) ?_
    first
      | refine TL.gno rfl (by decide) ?_
      | refine TL.gval rfl (YF.move rfl) (by decide) ?_
      | refine TL.gnoU rfl (by decide) ?_
    first
      | refine TL.gno rfl (by decide) ?_
      | refine TL.gval rfl (YF.move rfl) (by decide) ?_
      | refine TL.gnoU rfl (by decide) ?_
    first
      | refine TL.gval rfl (YF.lss (b := true) rfl rfl (decide_eq_true (by omega))) (by decide) ?_
      | refine TL.gval rfl (YF.lss (b := false) rfl rfl (decide_eq_false (by omega))) (by decide) ?_
      | refine TL.gno rfl (by decide) ?_
      | refine TL.gnoU rfl (by decide) ?_
    first
      | refine TL.gno rfl (by decide) ?_
      | refine TL.gval rfl (YF.pickT rfl rfl) (by decide) ?_
      | refine TL.gval rfl (YF.pickF rfl rfl) (by decide) ?_
      | refine TL.gval rfl (YF.pick rfl rfl rfl rfl) (by decide) ?_
      | refine TL.gnoU rfl (by decide) ?_
    first
      | refine TL.val (YF.pickT rfl rfl) (by decide) ?_
      | refine TL.val (YF.pickF rfl rfl) (by decide) ?_
      | refine TL.val (YF.pick rfl rfl rfl rfl) (by decide) ?_
    refine TL.val (YF.assign rfl) (by decide) ?_
    refine TL.end ?_
    refine Arr.seq ?_
    refine Tr.condF rfl ?_
    refine Tr.seq ?_
    refine Tr.region ?_
    refine TL.val (YF.move rfl) (by decide) ?_
    first
      | refine TL.val (YF.eql (b := true) rfl rfl (decide_eq_true (by omega))) (by decide) ?_
      | refine TL.val (YF.eql (b := false) rfl rfl (decide_eq_false (by omega))) (by decide) ?_
    refine TL.val (YF.move rfl) (by decide) ?_
    first
      | refine TL.gno rfl (by decide) ?_
      | refine TL.gval rfl (YF.move rfl) (by decide) ?_
      | refine TL.gnoU rfl (by decide) ?_
    first
      | refine TL.gval rfl (YF.geq (b := true) rfl rfl (decide_eq_true (by omega))) (by decide) ?_
      | refine TL.gval rfl (YF.geq (b := false) rfl rfl (decide_eq_false (by omega))) (by decide) ?_
      | refine TL.gno rfl (by decide) ?_
      | refine TL.gnoU rfl (by decide) ?_
    first
      | refine TL.val (YF.pickT rfl rfl) (by decide) ?_
      | refine TL.val (YF.pickF rfl rfl) (by decide) ?_
      | refine TL.val (YF.pick rfl rfl rfl rfl) (by decide) ?_
    refine TL.val (YF.assign rfl) (by decide) ?_
    refine TL.end ?_
    refine Arr.seq ?_
    refine Tr.condF rfl ?_
    refine Tr.seq ?_
    refine Tr.region ?_
    refine TL.val (YF.move rfl) (by decide) ?_
    first
      | refine TL.val (YF.eql (b := true) rfl rfl (decide_eq_true (by omega))) (by decide) ?_
      | refine TL.val (YF.eql (b := false) rfl rfl (decide_eq_false (by omega))) (by decide) ?_
    refine TL.val (YF.move rfl) (by decide) ?_
    first
      | refine TL.gno rfl (by decide) ?_
      | refine TL.gval rfl (YF.move rfl) (by decide) ?_
      | refine TL.gnoU rfl (by decide) ?_
    first
      | refine TL.gval rfl (YF.lss (b := true) rfl rfl (decide_eq_true (by omega))) (by decide) ?_
      | refine TL.gval rfl (YF.lss (b := false) rfl rfl (decide_eq_false (by omega))) (by decide) ?_
      | refine TL.gno rfl (by decide) ?_
      | refine TL.gnoU rfl (by decide) ?_
    first
      | refine TL.val (YF.pickT rfl rfl) (by decide) ?_
      | refine TL.val (YF.pickF rfl rfl) (by decide) ?_
      | refine TL.val (YF.pick rfl rfl rfl rfl) (by decide) ?_
    refine TL.val (YF.assign rfl) (by decide) ?_
    refine TL.end ?_
    refine Arr.seq ?_
    refine Tr.condT rfl ?_
    refine Tr.seq ?_
    refine Tr.region ?_
    refine TL.val (YF.move rfl) (by decide) ?_
    refine TL.val (YF.sub rfl rfl (IntWalk.i64_in _ (by omega))) (by decide) ?_
    refine TL.call (vs := [_, _]) call_43 rfl (by decide) (sine_ct _ (k - 6) 12 _ w0 _ (by omega) hsn hcn hh) ?_
    rintro _ _ ⟨rfl, hH⟩
    replace hH := hH.symm
    subst hH
    refine TL.val (YF.assign rfl) (by decide) ?_
    refine TL.end ?_
    refine Arr.seq ?_
    refine Tr.retE ?_
    refine Arr.blockR ?_
    refine Arr.seqR ?_
    first
      | exact Ends.tmp rfl rfl ⟨rfl, rfl⟩
      | exact Ends.tmp rfl rfl ⟨congrArg (Value.float .f64) hh, rfl⟩
  ·
    have hh := (sh3 hk).2.2.1 h1 h2
    first
      | refine TL.val (YF.eql (b := true) rfl rfl (decide_eq_true (by omega))) (by decide) ?_
      | refine TL.val (YF.eql (b := false) rfl rfl (decide_eq_false (by omega))) (by decide) ?_
    refine TL.val (YF.move rfl) (by decide) ?_
    first
      | refine TL.gno rfl (by decide) ?_
      | refine TL.gval rfl (YF.move rfl) (by decide) ?_
      | refine TL.gnoU rfl (by decide) ?_
    first
      | refine TL.gval rfl (YF.geq (b := true) rfl rfl (decide_eq_true (by omega))) (by decide) ?_
      | refine TL.gval rfl (YF.geq (b := false) rfl rfl (decide_eq_false (by omega))) (by decide) ?_
      | refine TL.gno rfl (by decide) ?_
      | refine TL.gnoU rfl (by decide) ?_
    first
      | refine TL.val (YF.pickT rfl rfl) (by decide) ?_
      | refine TL.val (YF.pickF rfl rfl) (by decide) ?_
      | refine TL.val (YF.pick rfl rfl rfl rfl) (by decide) ?_
    refine TL.val (YF.move rfl) (by decide) ?_
    first
      | refine TL.gno rfl (by decide) ?_
      | refine TL.gval rfl (YF.move rfl) (by decide) ?_
      | refine TL.gnoU rfl (by decide) ?_
    first
      | refine TL.gval rfl (YF.eql (b := true) rfl rfl (decide_eq_true (by omega))) (by decide) ?_
      | refine TL.gval rfl (YF.eql (b := false) rfl rfl (decide_eq_false (by omega))) (by decide) ?_
      | refine TL.gno rfl (by decide) ?_
      | refine TL.gnoU rfl (by decide) ?_
    first
      | refine TL.gno rfl (by decide) ?_
      | refine TL.gval rfl (YF.move rfl) (by decide) ?_
      | refine TL.gnoU rfl (by decide) ?_
    first
      | refine TL.gno rfl (by decide) ?_
      | refine TL.gval rfl (YF.move rfl) (by decide) ?_
      | refine TL.gnoU rfl (by decide) ?_
    first
      | refine TL.gval rfl (YF.lss (b := true) rfl rfl (decide_eq_true (by omega))) (by decide) ?_
      | refine TL.gval rfl (YF.lss (b := false) rfl rfl (decide_eq_false (by omega))) (by decide) ?_
      | refine TL.gno rfl (by decide) ?_
      | refine TL.gnoU rfl (by decide) ?_
    first
      | refine TL.gno rfl (by decide) ?_
      | refine TL.gval rfl (YF.pickT rfl rfl) (by decide) ?_
      | refine TL.gval rfl (YF.pickF rfl rfl) (by decide) ?_
      | refine TL.gval rfl (YF.pick rfl rfl rfl rfl) (by decide) ?_
      | refine TL.gnoU rfl (by decide) ?_
    first
      | refine TL.val (YF.pickT rfl rfl) (by decide) ?_
      | refine TL.val (YF.pickF rfl rfl) (by decide) ?_
      | refine TL.val (YF.pick rfl rfl rfl rfl) (by decide) ?_
    refine TL.val (YF.assign rfl) (by decide) ?_
    refine TL.end ?_
    refine Arr.seq ?_
    refine Tr.condF rfl ?_
    refine Tr.seq ?_
    refine Tr.region ?_
    refine TL.val (YF.move rfl) (by decide) ?_
    first
      | refine TL.val (YF.eql (b := true) rfl rfl (decide_eq_true (by omega))) (by decide) ?_
      | refine TL.val (YF.eql (b := false) rfl rfl (decide_eq_false (by omega))) (by decide) ?_
    refine TL.val (YF.move rfl) (by decide) ?_
    first
      | refine TL.gno rfl (by decide) ?_
      | refine TL.gval rfl (YF.move rfl) (by decide) ?_
      | refine TL.gnoU rfl (by decide) ?_
    first
      | refine TL.gval rfl (YF.geq (b := true) rfl rfl (decide_eq_true (by omega))) (by decide) ?_
      | refine TL.gval rfl (YF.geq (b := false) rfl rfl (decide_eq_false (by omega))) (by decide) ?_
      | refine TL.gno rfl (by decide) ?_
      | refine TL.gnoU rfl (by decide) ?_
    first
      | refine TL.val (YF.pickT rfl rfl) (by decide) ?_
      | refine TL.val (YF.pickF rfl rfl) (by decide) ?_
      | refine TL.val (YF.pick rfl rfl rfl rfl) (by decide) ?_
    refine TL.val (YF.assign rfl) (by decide) ?_
    refine TL.end ?_
    refine Arr.seq ?_
    refine Tr.condF rfl ?_
    refine Tr.seq ?_
    refine Tr.region ?_
    refine TL.val (YF.move rfl) (by decide) ?_
    first
      | refine TL.val (YF.eql (b := true) rfl rfl (decide_eq_true (by omega))) (by decide) ?_
      | refine TL.val (YF.eql (b := false) rfl rfl (decide_eq_false (by omega))) (by decide) ?_
    refine TL.val (YF.move rfl) (by decide) ?_
    first
      | refine TL.gno rfl (by decide) ?_
      | refine TL.gval rfl (YF.move rfl) (by decide) ?_
      | refine TL.gnoU rfl (by decide) ?_
    first
      | refine TL.gval rfl (YF.lss (b := true) rfl rfl (decide_eq_true (by omega))) (by decide) ?_
      | refine TL.gval rfl (YF.lss (b := false) rfl rfl (decide_eq_false (by omega))) (by decide) ?_
      | refine TL.gno rfl (by decide) ?_
      | refine TL.gnoU rfl (by decide) ?_
    first
      | refine TL.val (YF.pickT rfl rfl) (by decide) ?_
      | refine TL.val (YF.pickF rfl rfl) (by decide) ?_
      | refine TL.val (YF.pick rfl rfl rfl rfl) (by decide) ?_
    refine TL.val (YF.assign rfl) (by decide) ?_
    refine TL.end ?_
    refine Arr.seq ?_
    refine Tr.condF rfl ?_
    refine Tr.seq ?_
    refine Tr.region ?_
    refine TL.val (YF.move rfl) (by decide) ?_
    first
      | refine TL.val (YF.eql (b := true) rfl rfl (decide_eq_true (by omega))) (by decide) ?_
      | refine TL.val (YF.eql (b := false) rfl rfl (decide_eq_false (by omega))) (by decide) ?_
    refine TL.val (YF.move rfl) (by decide) ?_
    first
      | refine TL.gno rfl (by decide) ?_
      | refine TL.gval rfl (YF.move rfl) (by decide) ?_
      | refine TL.gnoU rfl (by decide) ?_
    first
      | refine TL.gval rfl (YF.geq (b := true) rfl rfl (decide_eq_true (by omega))) (by decide) ?_
      | refine TL.gval rfl (YF.geq (b := false) rfl rfl (decide_eq_false (by omega))) (by decide) ?_
      | refine TL.gno rfl (by decide) ?_
      | refine TL.gnoU rfl (by decide) ?_
    first
      | refine TL.val (YF.pickT rfl rfl) (by decide) ?_
      | refine TL.val (YF.pickF rfl rfl) (by decide) ?_
      | refine TL.val (YF.pick rfl rfl rfl rfl) (by decide) ?_
    refine TL.val (YF.move rfl) (by decide) ?_
    first
      | refine TL.gno rfl (by decide) ?_
      | refine TL.gval rfl (YF.move rfl) (by decide) ?_
      | refine TL.gnoU rfl (by decide) ?_
    first
      | refine TL.gval rfl (YF.eql (b := true) rfl rfl (decide_eq_true (by omega))) (by decide) ?_
      | refine TL.gval rfl (YF.eql (b := false) rfl rfl (decide_eq_false (by omega))) (by decide) ?_
      | refine TL.gno rfl (by decide) ?_
      | refine TL.gnoU rfl (by decide) ?_
    first
      | refine TL.gno rfl (by decide) ?_
      | refine TL.gval rfl (YF.move rfl) (by decide) ?_
      | refine TL.gnoU rfl (by decide) ?_
    first
      | refine TL.gno rfl (by decide) ?_
      | refine TL.gval rfl (YF.move rfl) (by decide) ?_
      | refine TL.gnoU rfl (by decide) ?_
    first
      | refine TL.gval rfl (YF.lss (b := true) rfl rfl (decide_eq_true (by omega))) (by decide) ?_
      | refine TL.gval rfl (YF.lss (b := false) rfl rfl (decide_eq_false (by omega))) (by decide) ?_
      | refine TL.gno rfl (by decide) ?_
      | refine TL.gnoU rfl (by decide) ?_
    first
      | refine TL.gno rfl (by decide) ?_
      | refine TL.gval rfl (YF.pickT rfl rfl) (by decide) ?_
      | refine TL.gval rfl (YF.pickF rfl rfl) (by decide) ?_
      | refine TL.gval rfl (YF.pick rfl rfl rfl rfl) (by decide) ?_
      | refine TL.gnoU rfl (by decide) ?_
    first
      | refine TL.val (YF.pickT rfl rfl) (by decide) ?_
      | refine TL.val (YF.pickF rfl rfl) (by decide) ?_
      | refine TL.val (YF.pick rfl rfl rfl rfl) (by decide) ?_
    refine TL.val (YF.assign rfl) (by decide) ?_
    refine TL.end ?_
    refine Arr.seq ?_
    refine Tr.condT rfl ?_
    refine Tr.seq ?_
    refine Tr.region ?_
    refine TL.val (YF.assign rfl) (by decide) ?_
    refine TL.end ?_
    refine Arr.seq ?_
    refine Tr.retE ?_
    refine Arr.blockR ?_
    refine Arr.seqR ?_
    first
      | exact Ends.tmp rfl rfl ⟨rfl, rfl⟩
      | exact Ends.tmp rfl rfl ⟨congrArg (Value.float .f64) hh, rfl⟩
  ·
    have hh := (sh3 hk).2.2.2 h1
    first
      | refine TL.val (YF.eql (b := true) rfl rfl (decide_eq_true (by omega))) (by decide) ?_
      | refine TL.val (YF.eql (b := false) rfl rfl (decide_eq_false (by omega))) (by decide) ?_
    refine TL.val (YF.move rfl) (by decide) ?_
    first
      | refine TL.gno rfl (by decide) ?_
      | refine TL.gval rfl (YF.move rfl) (by decide) ?_
      | refine TL.gnoU rfl (by decide) ?_
    first
      | refine TL.gval rfl (YF.geq (b := true) rfl rfl (decide_eq_true (by omega))) (by decide) ?_
      | refine TL.gval rfl (YF.geq (b := false) rfl rfl (decide_eq_false (by omega))) (by decide) ?_
      | refine TL.gno rfl (by decide) ?_
      | refine TL.gnoU rfl (by decide) ?_
    first
      | refine TL.val (YF.pickT rfl rfl) (by decide) ?_
      | refine TL.val (YF.pickF rfl rfl) (by decide) ?_
      | refine TL.val (YF.pick rfl rfl rfl rfl) (by decide) ?_
    refine TL.val (YF.move rfl) (by decide) ?_
    first
      | refine TL.gno rfl (by decide) ?_
      | refine TL.gval rfl (YF.move rfl) (by decide) ?_
      | refine TL.gnoU rfl (by decide) ?_
    first
      | refine TL.gval rfl (YF.eql (b := true) rfl rfl (decide_eq_true (by omega))) (by decide) ?_
      | refine TL.gval rfl (YF.eql (b := false) rfl rfl (decide_eq_false (by omega))) (by decide) ?_
      | refine TL.gno rfl (by decide) ?_
      | refine TL.gnoU rfl (by decide) ?_
    first
      | refine TL.gno rfl (by decide) ?_
      | refine TL.gval rfl (YF.move rfl) (by decide) ?_
      | refine TL.gnoU rfl (by decide) ?_
    first
      | refine TL.gno rfl (by decide) ?_
      | refine TL.gval rfl (YF.move rfl) (by decide) ?_
      | refine TL.gnoU rfl (by decide) ?_
    first
      | refine TL.gval rfl (YF.lss (b := true) rfl rfl (decide_eq_true (by omega))) (by decide) ?_
      | refine TL.gval rfl (YF.lss (b := false) rfl rfl (decide_eq_false (by omega))) (by decide) ?_
      | refine TL.gno rfl (by decide) ?_
      | refine TL.gnoU rfl (by decide) ?_
    first
      | refine TL.gno rfl (by decide) ?_
      | refine TL.gval rfl (YF.pickT rfl rfl) (by decide) ?_
      | refine TL.gval rfl (YF.pickF rfl rfl) (by decide) ?_
      | refine TL.gval rfl (YF.pick rfl rfl rfl rfl) (by decide) ?_
      | refine TL.gnoU rfl (by decide) ?_
    first
      | refine TL.val (YF.pickT rfl rfl) (by decide) ?_
      | refine TL.val (YF.pickF rfl rfl) (by decide) ?_
      | refine TL.val (YF.pick rfl rfl rfl rfl) (by decide) ?_
    refine TL.val (YF.assign rfl) (by decide) ?_
    refine TL.end ?_
    refine Arr.seq ?_
    refine Tr.condF rfl ?_
    refine Tr.seq ?_
    refine Tr.region ?_
    refine TL.val (YF.move rfl) (by decide) ?_
    first
      | refine TL.val (YF.eql (b := true) rfl rfl (decide_eq_true (by omega))) (by decide) ?_
      | refine TL.val (YF.eql (b := false) rfl rfl (decide_eq_false (by omega))) (by decide) ?_
    refine TL.val (YF.move rfl) (by decide) ?_
    first
      | refine TL.gno rfl (by decide) ?_
      | refine TL.gval rfl (YF.move rfl) (by decide) ?_
      | refine TL.gnoU rfl (by decide) ?_
    first
      | refine TL.gval rfl (YF.geq (b := true) rfl rfl (decide_eq_true (by omega))) (by decide) ?_
      | refine TL.gval rfl (YF.geq (b := false) rfl rfl (decide_eq_false (by omega))) (by decide) ?_
      | refine TL.gno rfl (by decide) ?_
      | refine TL.gnoU rfl (by decide) ?_
    first
      | refine TL.val (YF.pickT rfl rfl) (by decide) ?_
      | refine TL.val (YF.pickF rfl rfl) (by decide) ?_
      | refine TL.val (YF.pick rfl rfl rfl rfl) (by decide) ?_
    refine TL.val (YF.assign rfl) (by decide) ?_
    refine TL.end ?_
    refine Arr.seq ?_
    refine Tr.condF rfl ?_
    refine Tr.seq ?_
    refine Tr.region ?_
    refine TL.val (YF.move rfl) (by decide) ?_
    first
      | refine TL.val (YF.eql (b := true) rfl rfl (decide_eq_true (by omega))) (by decide) ?_
      | refine TL.val (YF.eql (b := false) rfl rfl (decide_eq_false (by omega))) (by decide) ?_
    refine TL.val (YF.move rfl) (by decide) ?_
    first
      | refine TL.gno rfl (by decide) ?_
      | refine TL.gval rfl (YF.move rfl) (by decide) ?_
      | refine TL.gnoU rfl (by decide) ?_
    first
      | refine TL.gval rfl (YF.lss (b := true) rfl rfl (decide_eq_true (by omega))) (by decide) ?_
      | refine TL.gval rfl (YF.lss (b := false) rfl rfl (decide_eq_false (by omega))) (by decide) ?_
      | refine TL.gno rfl (by decide) ?_
      | refine TL.gnoU rfl (by decide) ?_
    first
      | refine TL.val (YF.pickT rfl rfl) (by decide) ?_
      | refine TL.val (YF.pickF rfl rfl) (by decide) ?_
      | refine TL.val (YF.pick rfl rfl rfl rfl) (by decide) ?_
    refine TL.val (YF.assign rfl) (by decide) ?_
    refine TL.end ?_
    refine Arr.seq ?_
    refine Tr.condF rfl ?_
    refine Tr.seq ?_
    refine Tr.region ?_
    refine TL.val (YF.move rfl) (by decide) ?_
    first
      | refine TL.val (YF.eql (b := true) rfl rfl (decide_eq_true (by omega))) (by decide) ?_
      | refine TL.val (YF.eql (b := false) rfl rfl (decide_eq_false (by omega))) (by decide) ?_
    refine TL.val (YF.move rfl) (by decide) ?_
    first
      | refine TL.gno rfl (by decide) ?_
      | refine TL.gval rfl (YF.move rfl) (by decide) ?_
      | refine TL.gnoU rfl (by decide) ?_
    first
      | refine TL.gval rfl (YF.geq (b := true) rfl rfl (decide_eq_true (by omega))) (by decide) ?_
      | refine TL.gval rfl (YF.geq (b := false) rfl rfl (decide_eq_false (by omega))) (by decide) ?_
      | refine TL.gno rfl (by decide) ?_
      | refine TL.gnoU rfl (by decide) ?_
    first
      | refine TL.val (YF.pickT rfl rfl) (by decide) ?_
      | refine TL.val (YF.pickF rfl rfl) (by decide) ?_
      | refine TL.val (YF.pick rfl rfl rfl rfl) (by decide) ?_
    refine TL.val (YF.move rfl) (by decide) ?_
    first
      | refine TL.gno rfl (by decide) ?_
      | refine TL.gval rfl (YF.move rfl) (by decide) ?_
      | refine TL.gnoU rfl (by decide) ?_
    first
      | refine TL.gval rfl (YF.eql (b := true) rfl rfl (decide_eq_true (by omega))) (by decide) ?_
      | refine TL.gval rfl (YF.eql (b := false) rfl rfl (decide_eq_false (by omega))) (by decide) ?_
      | refine TL.gno rfl (by decide) ?_
      | refine TL.gnoU rfl (by decide) ?_
    first
      | refine TL.gno rfl (by decide) ?_
      | refine TL.gval rfl (YF.move rfl) (by decide) ?_
      | refine TL.gnoU rfl (by decide) ?_
    first
      | refine TL.gno rfl (by decide) ?_
      | refine TL.gval rfl (YF.move rfl) (by decide) ?_
      | refine TL.gnoU rfl (by decide) ?_
    first
      | refine TL.gval rfl (YF.lss (b := true) rfl rfl (decide_eq_true (by omega))) (by decide) ?_
      | refine TL.gval rfl (YF.lss (b := false) rfl rfl (decide_eq_false (by omega))) (by decide) ?_
      | refine TL.gno rfl (by decide) ?_
      | refine TL.gnoU rfl (by decide) ?_
    first
      | refine TL.gno rfl (by decide) ?_
      | refine TL.gval rfl (YF.pickT rfl rfl) (by decide) ?_
      | refine TL.gval rfl (YF.pickF rfl rfl) (by decide) ?_
      | refine TL.gval rfl (YF.pick rfl rfl rfl rfl) (by decide) ?_
      | refine TL.gnoU rfl (by decide) ?_
    first
      | refine TL.val (YF.pickT rfl rfl) (by decide) ?_
      | refine TL.val (YF.pickF rfl rfl) (by decide) ?_
      | refine TL.val (YF.pick rfl rfl rfl rfl) (by decide) ?_
    refine TL.val (YF.assign rfl) (by decide) ?_
    refine TL.end ?_
    refine Arr.seq ?_
    refine Tr.condF rfl ?_
    refine Tr.skipE ?_
    refine Arr.block ?_
    refine Arr.seq ?_
    refine Tr.seq ?_
    refine Tr.region ?_
    refine TL.val (YF.move rfl) (by decide) ?_
    refine TL.call (vs := [_, _]) call_43 rfl (by decide) (sine_ct _ (k) 36 _ w0 _ (by omega) hsn hcn hh) ?_
    rintro _ _ ⟨rfl, hH⟩
    replace hH := hH.symm
    subst hH
    refine TL.val (YF.assign rfl) (by decide) ?_
    refine TL.end ?_
    refine Arr.seq ?_
    refine Tr.retE ?_
    first
      | exact Ends.tmp rfl rfl ⟨rfl, rfl⟩
      | exact Ends.tmp rfl rfl ⟨congrArg (Value.float .f64) hh, rfl⟩

theorem blockOf_ct (s : Nat → Int) (g c t : Nat) (hg : g < 2) (hc : c < 2) (w0 : World) (H : Hp) (hsw : s (26 + 2 * g + c) = 0 ∨ s (26 + 2 * g + c) = 1) (hbk : 0 ≤ s (30 + 2 * g + c) ∧ s (30 + 2 * g + c) ≤ 3) (hsb : s (26 + 2 * g + c) = 0 → s (30 + 2 * g + c) = 0) : Ct Tryd.prog 34 #[.agg (va 86 (sd s)), .int .i64 g, .int .i64 c, .int .i64 t] w0 (H) (fun v H' => v = .int .i64 (btOf s g c t : Nat) ∧ H' = H) := by
  refine Ct.of_body (n := 35) (E := [(0, _), (1, _), (2, _), (3, _)]) Tryd.func34 rfl rfl rfl rfl ?_
  refine Tr.seq ?_
  refine Tr.region ?_
  refine TL.box rfl (by decide) (fun b4 => ?_)
  refine TL.val (YF.assign rfl) (by decide) ?_
  refine TL.end ?_
  refine Arr.seq ?_
  refine Tr.seq ?_
  refine Tr.seq ?_
  refine Tr.region ?_
  refine TL.val (YF.move rfl) (by decide) ?_
  refine TL.val (YF.move rfl) (by decide) ?_
  refine TL.val (YF.fieldAddr fo_36_7 rfl rfl) (by decide) ?_
  refine TL.val (YF.indexArr arr_31 rfl rfl (by first | decide | omega) rfl) (by decide) ?_
  refine TL.val (YF.indexArr arr_30 rfl rfl (by first | decide | omega) (show _ = 26 + 2 * g + c by omega)) (by decide) ?_
  refine TL.val (YF.load 0 sc_3 rfl rfl (sd_int (by omega))) (by decide) ?_
  by_cases h1 : s (26 + 2 * g + c) = 0
  all_goals by_cases h2 : s (34 + 2 * g + c) = 1
  all_goals by_cases h3 : t < 2
  ·
    first
      | refine TL.val (YF.eql (b := true) rfl rfl (decide_eq_true (by omega))) (by decide) ?_
      | refine TL.val (YF.eql (b := false) rfl rfl (decide_eq_false (by omega))) (by decide) ?_
    refine TL.val (YF.move rfl) (by decide) ?_
    first
      | refine TL.gno rfl (by decide) ?_
      | refine TL.gval rfl (YF.move rfl) (by decide) ?_
      | refine TL.gnoU rfl (by decide) ?_
    first
      | refine TL.gno rfl (by decide) ?_
      | refine TL.gval rfl (YF.move rfl) (by decide) ?_
      | refine TL.gnoU rfl (by decide) ?_
    first
      | refine TL.gno rfl (by decide) ?_
      | refine TL.gval rfl (YF.fieldAddr fo_36_9 rfl rfl) (by decide) ?_
      | refine TL.gnoU rfl (by decide) ?_
    first
      | refine TL.gno rfl (by decide) ?_
      | refine TL.gval rfl (YF.indexArr arr_31 rfl rfl (by first | decide | omega) rfl) (by decide) ?_
      | refine TL.gnoU rfl (by decide) ?_
    first
      | refine TL.gno rfl (by decide) ?_
      | refine TL.gval rfl (YF.indexArr arr_30 rfl rfl (by first | decide | omega) (show _ = 34 + 2 * g + c by omega)) (by decide) ?_
      | refine TL.gnoU rfl (by decide) ?_
    first
      | refine TL.gno rfl (by decide) ?_
      | refine TL.gval rfl (YF.load 0 sc_3 rfl rfl (sd_int (by omega))) (by decide) ?_
    first
      | refine TL.gval rfl (YF.eql (b := true) rfl rfl (decide_eq_true (by omega))) (by decide) ?_
      | refine TL.gval rfl (YF.eql (b := false) rfl rfl (decide_eq_false (by omega))) (by decide) ?_
      | refine TL.gno rfl (by decide) ?_
      | refine TL.gnoU rfl (by decide) ?_
    first
      | refine TL.gno rfl (by decide) ?_
      | refine TL.gval rfl (YF.move rfl) (by decide) ?_
      | refine TL.gnoU rfl (by decide) ?_
    first
      | refine TL.gno rfl (by decide) ?_
      | refine TL.gval rfl (YF.move rfl) (by decide) ?_
      | refine TL.gnoU rfl (by decide) ?_
    first
      | refine TL.gval rfl (YF.lss (b := true) rfl rfl (decide_eq_true (by omega))) (by decide) ?_
      | refine TL.gval rfl (YF.lss (b := false) rfl rfl (decide_eq_false (by omega))) (by decide) ?_
      | refine TL.gno rfl (by decide) ?_
      | refine TL.gnoU rfl (by decide) ?_
    first
      | refine TL.gno rfl (by decide) ?_
      | refine TL.gval rfl (YF.pickT rfl rfl) (by decide) ?_
      | refine TL.gval rfl (YF.pickF rfl rfl) (by decide) ?_
      | refine TL.gval rfl (YF.pick rfl rfl rfl rfl) (by decide) ?_
      | refine TL.gnoU rfl (by decide) ?_
    first
      | refine TL.val (YF.pickT rfl rfl) (by decide) ?_
      | refine TL.val (YF.pickF rfl rfl) (by decide) ?_
      | refine TL.val (YF.pick rfl rfl rfl rfl) (by decide) ?_
    refine TL.end ?_
    refine Arr.seq ?_
    refine Tr.condT rfl ?_
    refine Tr.seq ?_
    refine Tr.region ?_
    refine TL.val (YF.assign rfl) (by decide) ?_
    refine TL.end ?_
    refine Arr.seq ?_
    refine Tr.retE ?_
    refine Arr.seqR ?_
    first
      | (refine Ends.sub ((List.Sublist.refl _).cons _) (Ends.tmp rfl rfl ⟨?_, rfl⟩)
         rw [btOf_zero h1 (hsb h1)]
         try rfl)
      | (refine Ends.sub ((List.Sublist.refl _).cons _) (Ends.tmp rfl rfl ⟨?_, rfl⟩)
         rw [btOf_mixed (by omega) h2 h3]
         try rfl)
      | (refine Ends.sub ((List.Sublist.refl _).cons _) (Ends.tmp rfl rfl ⟨?_, rfl⟩)
         rw [btOf_else (by omega) hbk.1]
         try rfl)
  ·
    first
      | refine TL.val (YF.eql (b := true) rfl rfl (decide_eq_true (by omega))) (by decide) ?_
      | refine TL.val (YF.eql (b := false) rfl rfl (decide_eq_false (by omega))) (by decide) ?_
    refine TL.val (YF.move rfl) (by decide) ?_
    first
      | refine TL.gno rfl (by decide) ?_
      | refine TL.gval rfl (YF.move rfl) (by decide) ?_
      | refine TL.gnoU rfl (by decide) ?_
    first
      | refine TL.gno rfl (by decide) ?_
      | refine TL.gval rfl (YF.move rfl) (by decide) ?_
      | refine TL.gnoU rfl (by decide) ?_
    first
      | refine TL.gno rfl (by decide) ?_
      | refine TL.gval rfl (YF.fieldAddr fo_36_9 rfl rfl) (by decide) ?_
      | refine TL.gnoU rfl (by decide) ?_
    first
      | refine TL.gno rfl (by decide) ?_
      | refine TL.gval rfl (YF.indexArr arr_31 rfl rfl (by first | decide | omega) rfl) (by decide) ?_
      | refine TL.gnoU rfl (by decide) ?_
    first
      | refine TL.gno rfl (by decide) ?_
      | refine TL.gval rfl (YF.indexArr arr_30 rfl rfl (by first | decide | omega) (show _ = 34 + 2 * g + c by omega)) (by decide) ?_
      | refine TL.gnoU rfl (by decide) ?_
    first
      | refine TL.gno rfl (by decide) ?_
      | refine TL.gval rfl (YF.load 0 sc_3 rfl rfl (sd_int (by omega))) (by decide) ?_
    first
      | refine TL.gval rfl (YF.eql (b := true) rfl rfl (decide_eq_true (by omega))) (by decide) ?_
      | refine TL.gval rfl (YF.eql (b := false) rfl rfl (decide_eq_false (by omega))) (by decide) ?_
      | refine TL.gno rfl (by decide) ?_
      | refine TL.gnoU rfl (by decide) ?_
    first
      | refine TL.gno rfl (by decide) ?_
      | refine TL.gval rfl (YF.move rfl) (by decide) ?_
      | refine TL.gnoU rfl (by decide) ?_
    first
      | refine TL.gno rfl (by decide) ?_
      | refine TL.gval rfl (YF.move rfl) (by decide) ?_
      | refine TL.gnoU rfl (by decide) ?_
    first
      | refine TL.gval rfl (YF.lss (b := true) rfl rfl (decide_eq_true (by omega))) (by decide) ?_
      | refine TL.gval rfl (YF.lss (b := false) rfl rfl (decide_eq_false (by omega))) (by decide) ?_
      | refine TL.gno rfl (by decide) ?_
      | refine TL.gnoU rfl (by decide) ?_
    first
      | refine TL.gno rfl (by decide) ?_
      | refine TL.gval rfl (YF.pickT rfl rfl) (by decide) ?_
      | refine TL.gval rfl (YF.pickF rfl rfl) (by decide) ?_
      | refine TL.gval rfl (YF.pick rfl rfl rfl rfl) (by decide) ?_
      | refine TL.gnoU rfl (by decide) ?_
    first
      | refine TL.val (YF.pickT rfl rfl) (by decide) ?_
      | refine TL.val (YF.pickF rfl rfl) (by decide) ?_
      | refine TL.val (YF.pick rfl rfl rfl rfl) (by decide) ?_
    refine TL.end ?_
    refine Arr.seq ?_
    refine Tr.condT rfl ?_
    refine Tr.seq ?_
    refine Tr.region ?_
    refine TL.val (YF.assign rfl) (by decide) ?_
    refine TL.end ?_
    refine Arr.seq ?_
    refine Tr.retE ?_
    refine Arr.seqR ?_
    first
      | (refine Ends.sub ((List.Sublist.refl _).cons _) (Ends.tmp rfl rfl ⟨?_, rfl⟩)
         rw [btOf_zero h1 (hsb h1)]
         try rfl)
      | (refine Ends.sub ((List.Sublist.refl _).cons _) (Ends.tmp rfl rfl ⟨?_, rfl⟩)
         rw [btOf_mixed (by omega) h2 h3]
         try rfl)
      | (refine Ends.sub ((List.Sublist.refl _).cons _) (Ends.tmp rfl rfl ⟨?_, rfl⟩)
         rw [btOf_else (by omega) hbk.1]
         try rfl)
  ·
    first
      | refine TL.val (YF.eql (b := true) rfl rfl (decide_eq_true (by omega))) (by decide) ?_
      | refine TL.val (YF.eql (b := false) rfl rfl (decide_eq_false (by omega))) (by decide) ?_
    refine TL.val (YF.move rfl) (by decide) ?_
    first
      | refine TL.gno rfl (by decide) ?_
      | refine TL.gval rfl (YF.move rfl) (by decide) ?_
      | refine TL.gnoU rfl (by decide) ?_
    first
      | refine TL.gno rfl (by decide) ?_
      | refine TL.gval rfl (YF.move rfl) (by decide) ?_
      | refine TL.gnoU rfl (by decide) ?_
    first
      | refine TL.gno rfl (by decide) ?_
      | refine TL.gval rfl (YF.fieldAddr fo_36_9 rfl rfl) (by decide) ?_
      | refine TL.gnoU rfl (by decide) ?_
    first
      | refine TL.gno rfl (by decide) ?_
      | refine TL.gval rfl (YF.indexArr arr_31 rfl rfl (by first | decide | omega) rfl) (by decide) ?_
      | refine TL.gnoU rfl (by decide) ?_
    first
      | refine TL.gno rfl (by decide) ?_
      | refine TL.gval rfl (YF.indexArr arr_30 rfl rfl (by first | decide | omega) (show _ = 34 + 2 * g + c by omega)) (by decide) ?_
      | refine TL.gnoU rfl (by decide) ?_
    first
      | refine TL.gno rfl (by decide) ?_
      | refine TL.gval rfl (YF.load 0 sc_3 rfl rfl (sd_int (by omega))) (by decide) ?_
    first
      | refine TL.gval rfl (YF.eql (b := true) rfl rfl (decide_eq_true (by omega))) (by decide) ?_
      | refine TL.gval rfl (YF.eql (b := false) rfl rfl (decide_eq_false (by omega))) (by decide) ?_
      | refine TL.gno rfl (by decide) ?_
      | refine TL.gnoU rfl (by decide) ?_
    first
      | refine TL.gno rfl (by decide) ?_
      | refine TL.gval rfl (YF.move rfl) (by decide) ?_
      | refine TL.gnoU rfl (by decide) ?_
    first
      | refine TL.gno rfl (by decide) ?_
      | refine TL.gval rfl (YF.move rfl) (by decide) ?_
      | refine TL.gnoU rfl (by decide) ?_
    first
      | refine TL.gval rfl (YF.lss (b := true) rfl rfl (decide_eq_true (by omega))) (by decide) ?_
      | refine TL.gval rfl (YF.lss (b := false) rfl rfl (decide_eq_false (by omega))) (by decide) ?_
      | refine TL.gno rfl (by decide) ?_
      | refine TL.gnoU rfl (by decide) ?_
    first
      | refine TL.gno rfl (by decide) ?_
      | refine TL.gval rfl (YF.pickT rfl rfl) (by decide) ?_
      | refine TL.gval rfl (YF.pickF rfl rfl) (by decide) ?_
      | refine TL.gval rfl (YF.pick rfl rfl rfl rfl) (by decide) ?_
      | refine TL.gnoU rfl (by decide) ?_
    first
      | refine TL.val (YF.pickT rfl rfl) (by decide) ?_
      | refine TL.val (YF.pickF rfl rfl) (by decide) ?_
      | refine TL.val (YF.pick rfl rfl rfl rfl) (by decide) ?_
    refine TL.end ?_
    refine Arr.seq ?_
    refine Tr.condT rfl ?_
    refine Tr.seq ?_
    refine Tr.region ?_
    refine TL.val (YF.assign rfl) (by decide) ?_
    refine TL.end ?_
    refine Arr.seq ?_
    refine Tr.retE ?_
    refine Arr.seqR ?_
    first
      | (refine Ends.sub ((List.Sublist.refl _).cons _) (Ends.tmp rfl rfl ⟨?_, rfl⟩)
         rw [btOf_zero h1 (hsb h1)]
         try rfl)
      | (refine Ends.sub ((List.Sublist.refl _).cons _) (Ends.tmp rfl rfl ⟨?_, rfl⟩)
         rw [btOf_mixed (by omega) h2 h3]
         try rfl)
      | (refine Ends.sub ((List.Sublist.refl _).cons _) (Ends.tmp rfl rfl ⟨?_, rfl⟩)
         rw [btOf_else (by omega) hbk.1]
         try rfl)
  ·
    first
      | refine TL.val (YF.eql (b := true) rfl rfl (decide_eq_true (by omega))) (by decide) ?_
      | refine TL.val (YF.eql (b := false) rfl rfl (decide_eq_false (by omega))) (by decide) ?_
    refine TL.val (YF.move rfl) (by decide) ?_
    first
      | refine TL.gno rfl (by decide) ?_
      | refine TL.gval rfl (YF.move rfl) (by decide) ?_
      | refine TL.gnoU rfl (by decide) ?_
    first
      | refine TL.gno rfl (by decide) ?_
      | refine TL.gval rfl (YF.move rfl) (by decide) ?_
      | refine TL.gnoU rfl (by decide) ?_
    first
      | refine TL.gno rfl (by decide) ?_
      | refine TL.gval rfl (YF.fieldAddr fo_36_9 rfl rfl) (by decide) ?_
      | refine TL.gnoU rfl (by decide) ?_
    first
      | refine TL.gno rfl (by decide) ?_
      | refine TL.gval rfl (YF.indexArr arr_31 rfl rfl (by first | decide | omega) rfl) (by decide) ?_
      | refine TL.gnoU rfl (by decide) ?_
    first
      | refine TL.gno rfl (by decide) ?_
      | refine TL.gval rfl (YF.indexArr arr_30 rfl rfl (by first | decide | omega) (show _ = 34 + 2 * g + c by omega)) (by decide) ?_
      | refine TL.gnoU rfl (by decide) ?_
    first
      | refine TL.gno rfl (by decide) ?_
      | refine TL.gval rfl (YF.load 0 sc_3 rfl rfl (sd_int (by omega))) (by decide) ?_
    first
      | refine TL.gval rfl (YF.eql (b := true) rfl rfl (decide_eq_true (by omega))) (by decide) ?_
      | refine TL.gval rfl (YF.eql (b := false) rfl rfl (decide_eq_false (by omega))) (by decide) ?_
      | refine TL.gno rfl (by decide) ?_
      | refine TL.gnoU rfl (by decide) ?_
    first
      | refine TL.gno rfl (by decide) ?_
      | refine TL.gval rfl (YF.move rfl) (by decide) ?_
      | refine TL.gnoU rfl (by decide) ?_
    first
      | refine TL.gno rfl (by decide) ?_
      | refine TL.gval rfl (YF.move rfl) (by decide) ?_
      | refine TL.gnoU rfl (by decide) ?_
    first
      | refine TL.gval rfl (YF.lss (b := true) rfl rfl (decide_eq_true (by omega))) (by decide) ?_
      | refine TL.gval rfl (YF.lss (b := false) rfl rfl (decide_eq_false (by omega))) (by decide) ?_
      | refine TL.gno rfl (by decide) ?_
      | refine TL.gnoU rfl (by decide) ?_
    first
      | refine TL.gno rfl (by decide) ?_
      | refine TL.gval rfl (YF.pickT rfl rfl) (by decide) ?_
      | refine TL.gval rfl (YF.pickF rfl rfl) (by decide) ?_
      | refine TL.gval rfl (YF.pick rfl rfl rfl rfl) (by decide) ?_
      | refine TL.gnoU rfl (by decide) ?_
    first
      | refine TL.val (YF.pickT rfl rfl) (by decide) ?_
      | refine TL.val (YF.pickF rfl rfl) (by decide) ?_
      | refine TL.val (YF.pick rfl rfl rfl rfl) (by decide) ?_
    refine TL.end ?_
    refine Arr.seq ?_
    refine Tr.condT rfl ?_
    refine Tr.seq ?_
    refine Tr.region ?_
    refine TL.val (YF.assign rfl) (by decide) ?_
    refine TL.end ?_
    refine Arr.seq ?_
    refine Tr.retE ?_
    refine Arr.seqR ?_
    first
      | (refine Ends.sub ((List.Sublist.refl _).cons _) (Ends.tmp rfl rfl ⟨?_, rfl⟩)
         rw [btOf_zero h1 (hsb h1)]
         try rfl)
      | (refine Ends.sub ((List.Sublist.refl _).cons _) (Ends.tmp rfl rfl ⟨?_, rfl⟩)
         rw [btOf_mixed (by omega) h2 h3]
         try rfl)
      | (refine Ends.sub ((List.Sublist.refl _).cons _) (Ends.tmp rfl rfl ⟨?_, rfl⟩)
         rw [btOf_else (by omega) hbk.1]
         try rfl)
  ·
    first
      | refine TL.val (YF.eql (b := true) rfl rfl (decide_eq_true (by omega))) (by decide) ?_
      | refine TL.val (YF.eql (b := false) rfl rfl (decide_eq_false (by omega))) (by decide) ?_
    refine TL.val (YF.move rfl) (by decide) ?_
    first
      | refine TL.gno rfl (by decide) ?_
      | refine TL.gval rfl (YF.move rfl) (by decide) ?_
      | refine TL.gnoU rfl (by decide) ?_
    first
      | refine TL.gno rfl (by decide) ?_
      | refine TL.gval rfl (YF.move rfl) (by decide) ?_
      | refine TL.gnoU rfl (by decide) ?_
    first
      | refine TL.gno rfl (by decide) ?_
      | refine TL.gval rfl (YF.fieldAddr fo_36_9 rfl rfl) (by decide) ?_
      | refine TL.gnoU rfl (by decide) ?_
    first
      | refine TL.gno rfl (by decide) ?_
      | refine TL.gval rfl (YF.indexArr arr_31 rfl rfl (by first | decide | omega) rfl) (by decide) ?_
      | refine TL.gnoU rfl (by decide) ?_
    first
      | refine TL.gno rfl (by decide) ?_
      | refine TL.gval rfl (YF.indexArr arr_30 rfl rfl (by first | decide | omega) (show _ = 34 + 2 * g + c by omega)) (by decide) ?_
      | refine TL.gnoU rfl (by decide) ?_
    first
      | refine TL.gno rfl (by decide) ?_
      | refine TL.gval rfl (YF.load 0 sc_3 rfl rfl (sd_int (by omega))) (by decide) ?_
    first
      | refine TL.gval rfl (YF.eql (b := true) rfl rfl (decide_eq_true (by omega))) (by decide) ?_
      | refine TL.gval rfl (YF.eql (b := false) rfl rfl (decide_eq_false (by omega))) (by decide) ?_
      | refine TL.gno rfl (by decide) ?_
      | refine TL.gnoU rfl (by decide) ?_
    first
      | refine TL.gno rfl (by decide) ?_
      | refine TL.gval rfl (YF.move rfl) (by decide) ?_
      | refine TL.gnoU rfl (by decide) ?_
    first
      | refine TL.gno rfl (by decide) ?_
      | refine TL.gval rfl (YF.move rfl) (by decide) ?_
      | refine TL.gnoU rfl (by decide) ?_
    first
      | refine TL.gval rfl (YF.lss (b := true) rfl rfl (decide_eq_true (by omega))) (by decide) ?_
      | refine TL.gval rfl (YF.lss (b := false) rfl rfl (decide_eq_false (by omega))) (by decide) ?_
      | refine TL.gno rfl (by decide) ?_
      | refine TL.gnoU rfl (by decide) ?_
    first
      | refine TL.gno rfl (by decide) ?_
      | refine TL.gval rfl (YF.pickT rfl rfl) (by decide) ?_
      | refine TL.gval rfl (YF.pickF rfl rfl) (by decide) ?_
      | refine TL.gval rfl (YF.pick rfl rfl rfl rfl) (by decide) ?_
      | refine TL.gnoU rfl (by decide) ?_
    first
      | refine TL.val (YF.pickT rfl rfl) (by decide) ?_
      | refine TL.val (YF.pickF rfl rfl) (by decide) ?_
      | refine TL.val (YF.pick rfl rfl rfl rfl) (by decide) ?_
    refine TL.end ?_
    refine Arr.seq ?_
    refine Tr.condT rfl ?_
    refine Tr.seq ?_
    refine Tr.region ?_
    refine TL.val (YF.assign rfl) (by decide) ?_
    refine TL.end ?_
    refine Arr.seq ?_
    refine Tr.retE ?_
    refine Arr.seqR ?_
    first
      | (refine Ends.sub ((List.Sublist.refl _).cons _) (Ends.tmp rfl rfl ⟨?_, rfl⟩)
         rw [btOf_zero h1 (hsb h1)]
         try rfl)
      | (refine Ends.sub ((List.Sublist.refl _).cons _) (Ends.tmp rfl rfl ⟨?_, rfl⟩)
         rw [btOf_mixed (by omega) h2 h3]
         try rfl)
      | (refine Ends.sub ((List.Sublist.refl _).cons _) (Ends.tmp rfl rfl ⟨?_, rfl⟩)
         rw [btOf_else (by omega) hbk.1]
         try rfl)
  ·
    first
      | refine TL.val (YF.eql (b := true) rfl rfl (decide_eq_true (by omega))) (by decide) ?_
      | refine TL.val (YF.eql (b := false) rfl rfl (decide_eq_false (by omega))) (by decide) ?_
    refine TL.val (YF.move rfl) (by decide) ?_
    first
      | refine TL.gno rfl (by decide) ?_
      | refine TL.gval rfl (YF.move rfl) (by decide) ?_
      | refine TL.gnoU rfl (by decide) ?_
    first
      | refine TL.gno rfl (by decide) ?_
      | refine TL.gval rfl (YF.move rfl) (by decide) ?_
      | refine TL.gnoU rfl (by decide) ?_
    first
      | refine TL.gno rfl (by decide) ?_
      | refine TL.gval rfl (YF.fieldAddr fo_36_9 rfl rfl) (by decide) ?_
      | refine TL.gnoU rfl (by decide) ?_
    first
      | refine TL.gno rfl (by decide) ?_
      | refine TL.gval rfl (YF.indexArr arr_31 rfl rfl (by first | decide | omega) rfl) (by decide) ?_
      | refine TL.gnoU rfl (by decide) ?_
    first
      | refine TL.gno rfl (by decide) ?_
      | refine TL.gval rfl (YF.indexArr arr_30 rfl rfl (by first | decide | omega) (show _ = 34 + 2 * g + c by omega)) (by decide) ?_
      | refine TL.gnoU rfl (by decide) ?_
    first
      | refine TL.gno rfl (by decide) ?_
      | refine TL.gval rfl (YF.load 0 sc_3 rfl rfl (sd_int (by omega))) (by decide) ?_
    first
      | refine TL.gval rfl (YF.eql (b := true) rfl rfl (decide_eq_true (by omega))) (by decide) ?_
      | refine TL.gval rfl (YF.eql (b := false) rfl rfl (decide_eq_false (by omega))) (by decide) ?_
      | refine TL.gno rfl (by decide) ?_
      | refine TL.gnoU rfl (by decide) ?_
    first
      | refine TL.gno rfl (by decide) ?_
      | refine TL.gval rfl (YF.move rfl) (by decide) ?_
      | refine TL.gnoU rfl (by decide) ?_
    first
      | refine TL.gno rfl (by decide) ?_
      | refine TL.gval rfl (YF.move rfl) (by decide) ?_
      | refine TL.gnoU rfl (by decide) ?_
    first
      | refine TL.gval rfl (YF.lss (b := true) rfl rfl (decide_eq_true (by omega))) (by decide) ?_
      | refine TL.gval rfl (YF.lss (b := false) rfl rfl (decide_eq_false (by omega))) (by decide) ?_
      | refine TL.gno rfl (by decide) ?_
      | refine TL.gnoU rfl (by decide) ?_
    first
      | refine TL.gno rfl (by decide) ?_
      | refine TL.gval rfl (YF.pickT rfl rfl) (by decide) ?_
      | refine TL.gval rfl (YF.pickF rfl rfl) (by decide) ?_
      | refine TL.gval rfl (YF.pick rfl rfl rfl rfl) (by decide) ?_
      | refine TL.gnoU rfl (by decide) ?_
    first
      | refine TL.val (YF.pickT rfl rfl) (by decide) ?_
      | refine TL.val (YF.pickF rfl rfl) (by decide) ?_
      | refine TL.val (YF.pick rfl rfl rfl rfl) (by decide) ?_
    refine TL.end ?_
    refine Arr.seq ?_
    refine Tr.condF rfl ?_
    refine Tr.skipE ?_
    refine Arr.seq ?_
    refine Tr.seq ?_
    refine Tr.region ?_
    refine TL.val (YF.move rfl) (by decide) ?_
    refine TL.val (YF.move rfl) (by decide) ?_
    refine TL.val (YF.fieldAddr fo_36_8 rfl rfl) (by decide) ?_
    refine TL.val (YF.indexArr arr_31 rfl rfl (by first | decide | omega) rfl) (by decide) ?_
    refine TL.val (YF.indexArr arr_30 rfl rfl (by first | decide | omega) (show _ = 30 + 2 * g + c by omega)) (by decide) ?_
    refine TL.val (YF.load 0 sc_3 rfl rfl (sd_int (by omega))) (by decide) ?_
    refine TL.val (YF.assign rfl) (by decide) ?_
    refine TL.end ?_
    refine Arr.seq ?_
    refine Tr.retE ?_
    first
      | (refine Ends.sub ((List.Sublist.refl _).cons _) (Ends.tmp rfl rfl ⟨?_, rfl⟩)
         rw [btOf_zero h1 (hsb h1)]
         try rfl)
      | (refine Ends.sub ((List.Sublist.refl _).cons _) (Ends.tmp rfl rfl ⟨?_, rfl⟩)
         rw [btOf_mixed (by omega) h2 h3]
         try rfl)
      | (refine Ends.sub ((List.Sublist.refl _).cons _) (Ends.tmp rfl rfl ⟨?_, rfl⟩)
         rw [btOf_else (by omega) hbk.1]
         try rfl)
  ·
    first
      | refine TL.val (YF.eql (b := true) rfl rfl (decide_eq_true (by omega))) (by decide) ?_
      | refine TL.val (YF.eql (b := false) rfl rfl (decide_eq_false (by omega))) (by decide) ?_
    refine TL.val (YF.move rfl) (by decide) ?_
    first
      | refine TL.gno rfl (by decide) ?_
      | refine TL.gval rfl (YF.move rfl) (by decide) ?_
      | refine TL.gnoU rfl (by decide) ?_
    first
      | refine TL.gno rfl (by decide) ?_
      | refine TL.gval rfl (YF.move rfl) (by decide) ?_
      | refine TL.gnoU rfl (by decide) ?_
    first
      | refine TL.gno rfl (by decide) ?_
      | refine TL.gval rfl (YF.fieldAddr fo_36_9 rfl rfl) (by decide) ?_
      | refine TL.gnoU rfl (by decide) ?_
    first
      | refine TL.gno rfl (by decide) ?_
      | refine TL.gval rfl (YF.indexArr arr_31 rfl rfl (by first | decide | omega) rfl) (by decide) ?_
      | refine TL.gnoU rfl (by decide) ?_
    first
      | refine TL.gno rfl (by decide) ?_
      | refine TL.gval rfl (YF.indexArr arr_30 rfl rfl (by first | decide | omega) (show _ = 34 + 2 * g + c by omega)) (by decide) ?_
      | refine TL.gnoU rfl (by decide) ?_
    first
      | refine TL.gno rfl (by decide) ?_
      | refine TL.gval rfl (YF.load 0 sc_3 rfl rfl (sd_int (by omega))) (by decide) ?_
    first
      | refine TL.gval rfl (YF.eql (b := true) rfl rfl (decide_eq_true (by omega))) (by decide) ?_
      | refine TL.gval rfl (YF.eql (b := false) rfl rfl (decide_eq_false (by omega))) (by decide) ?_
      | refine TL.gno rfl (by decide) ?_
      | refine TL.gnoU rfl (by decide) ?_
    first
      | refine TL.gno rfl (by decide) ?_
      | refine TL.gval rfl (YF.move rfl) (by decide) ?_
      | refine TL.gnoU rfl (by decide) ?_
    first
      | refine TL.gno rfl (by decide) ?_
      | refine TL.gval rfl (YF.move rfl) (by decide) ?_
      | refine TL.gnoU rfl (by decide) ?_
    first
      | refine TL.gval rfl (YF.lss (b := true) rfl rfl (decide_eq_true (by omega))) (by decide) ?_
      | refine TL.gval rfl (YF.lss (b := false) rfl rfl (decide_eq_false (by omega))) (by decide) ?_
      | refine TL.gno rfl (by decide) ?_
      | refine TL.gnoU rfl (by decide) ?_
    first
      | refine TL.gno rfl (by decide) ?_
      | refine TL.gval rfl (YF.pickT rfl rfl) (by decide) ?_
      | refine TL.gval rfl (YF.pickF rfl rfl) (by decide) ?_
      | refine TL.gval rfl (YF.pick rfl rfl rfl rfl) (by decide) ?_
      | refine TL.gnoU rfl (by decide) ?_
    first
      | refine TL.val (YF.pickT rfl rfl) (by decide) ?_
      | refine TL.val (YF.pickF rfl rfl) (by decide) ?_
      | refine TL.val (YF.pick rfl rfl rfl rfl) (by decide) ?_
    refine TL.end ?_
    refine Arr.seq ?_
    refine Tr.condF rfl ?_
    refine Tr.skipE ?_
    refine Arr.seq ?_
    refine Tr.seq ?_
    refine Tr.region ?_
    refine TL.val (YF.move rfl) (by decide) ?_
    refine TL.val (YF.move rfl) (by decide) ?_
    refine TL.val (YF.fieldAddr fo_36_8 rfl rfl) (by decide) ?_
    refine TL.val (YF.indexArr arr_31 rfl rfl (by first | decide | omega) rfl) (by decide) ?_
    refine TL.val (YF.indexArr arr_30 rfl rfl (by first | decide | omega) (show _ = 30 + 2 * g + c by omega)) (by decide) ?_
    refine TL.val (YF.load 0 sc_3 rfl rfl (sd_int (by omega))) (by decide) ?_
    refine TL.val (YF.assign rfl) (by decide) ?_
    refine TL.end ?_
    refine Arr.seq ?_
    refine Tr.retE ?_
    first
      | (refine Ends.sub ((List.Sublist.refl _).cons _) (Ends.tmp rfl rfl ⟨?_, rfl⟩)
         rw [btOf_zero h1 (hsb h1)]
         try rfl)
      | (refine Ends.sub ((List.Sublist.refl _).cons _) (Ends.tmp rfl rfl ⟨?_, rfl⟩)
         rw [btOf_mixed (by omega) h2 h3]
         try rfl)
      | (refine Ends.sub ((List.Sublist.refl _).cons _) (Ends.tmp rfl rfl ⟨?_, rfl⟩)
         rw [btOf_else (by omega) hbk.1]
         try rfl)
  ·
    first
      | refine TL.val (YF.eql (b := true) rfl rfl (decide_eq_true (by omega))) (by decide) ?_
      | refine TL.val (YF.eql (b := false) rfl rfl (decide_eq_false (by omega))) (by decide) ?_
    refine TL.val (YF.move rfl) (by decide) ?_
    first
      | refine TL.gno rfl (by decide) ?_
      | refine TL.gval rfl (YF.move rfl) (by decide) ?_
      | refine TL.gnoU rfl (by decide) ?_
    first
      | refine TL.gno rfl (by decide) ?_
      | refine TL.gval rfl (YF.move rfl) (by decide) ?_
      | refine TL.gnoU rfl (by decide) ?_
    first
      | refine TL.gno rfl (by decide) ?_
      | refine TL.gval rfl (YF.fieldAddr fo_36_9 rfl rfl) (by decide) ?_
      | refine TL.gnoU rfl (by decide) ?_
    first
      | refine TL.gno rfl (by decide) ?_
      | refine TL.gval rfl (YF.indexArr arr_31 rfl rfl (by first | decide | omega) rfl) (by decide) ?_
      | refine TL.gnoU rfl (by decide) ?_
    first
      | refine TL.gno rfl (by decide) ?_
      | refine TL.gval rfl (YF.indexArr arr_30 rfl rfl (by first | decide | omega) (show _ = 34 + 2 * g + c by omega)) (by decide) ?_
      | refine TL.gnoU rfl (by decide) ?_
    first
      | refine TL.gno rfl (by decide) ?_
      | refine TL.gval rfl (YF.load 0 sc_3 rfl rfl (sd_int (by omega))) (by decide) ?_
    first
      | refine TL.gval rfl (YF.eql (b := true) rfl rfl (decide_eq_true (by omega))) (by decide) ?_
      | refine TL.gval rfl (YF.eql (b := false) rfl rfl (decide_eq_false (by omega))) (by decide) ?_
      | refine TL.gno rfl (by decide) ?_
      | refine TL.gnoU rfl (by decide) ?_
    first
      | refine TL.gno rfl (by decide) ?_
      | refine TL.gval rfl (YF.move rfl) (by decide) ?_
      | refine TL.gnoU rfl (by decide) ?_
    first
      | refine TL.gno rfl (by decide) ?_
      | refine TL.gval rfl (YF.move rfl) (by decide) ?_
      | refine TL.gnoU rfl (by decide) ?_
    first
      | refine TL.gval rfl (YF.lss (b := true) rfl rfl (decide_eq_true (by omega))) (by decide) ?_
      | refine TL.gval rfl (YF.lss (b := false) rfl rfl (decide_eq_false (by omega))) (by decide) ?_
      | refine TL.gno rfl (by decide) ?_
      | refine TL.gnoU rfl (by decide) ?_
    first
      | refine TL.gno rfl (by decide) ?_
      | refine TL.gval rfl (YF.pickT rfl rfl) (by decide) ?_
      | refine TL.gval rfl (YF.pickF rfl rfl) (by decide) ?_
      | refine TL.gval rfl (YF.pick rfl rfl rfl rfl) (by decide) ?_
      | refine TL.gnoU rfl (by decide) ?_
    first
      | refine TL.val (YF.pickT rfl rfl) (by decide) ?_
      | refine TL.val (YF.pickF rfl rfl) (by decide) ?_
      | refine TL.val (YF.pick rfl rfl rfl rfl) (by decide) ?_
    refine TL.end ?_
    refine Arr.seq ?_
    refine Tr.condF rfl ?_
    refine Tr.skipE ?_
    refine Arr.seq ?_
    refine Tr.seq ?_
    refine Tr.region ?_
    refine TL.val (YF.move rfl) (by decide) ?_
    refine TL.val (YF.move rfl) (by decide) ?_
    refine TL.val (YF.fieldAddr fo_36_8 rfl rfl) (by decide) ?_
    refine TL.val (YF.indexArr arr_31 rfl rfl (by first | decide | omega) rfl) (by decide) ?_
    refine TL.val (YF.indexArr arr_30 rfl rfl (by first | decide | omega) (show _ = 30 + 2 * g + c by omega)) (by decide) ?_
    refine TL.val (YF.load 0 sc_3 rfl rfl (sd_int (by omega))) (by decide) ?_
    refine TL.val (YF.assign rfl) (by decide) ?_
    refine TL.end ?_
    refine Arr.seq ?_
    refine Tr.retE ?_
    first
      | (refine Ends.sub ((List.Sublist.refl _).cons _) (Ends.tmp rfl rfl ⟨?_, rfl⟩)
         rw [btOf_zero h1 (hsb h1)]
         try rfl)
      | (refine Ends.sub ((List.Sublist.refl _).cons _) (Ends.tmp rfl rfl ⟨?_, rfl⟩)
         rw [btOf_mixed (by omega) h2 h3]
         try rfl)
      | (refine Ends.sub ((List.Sublist.refl _).cons _) (Ends.tmp rfl rfl ⟨?_, rfl⟩)
         rw [btOf_else (by omega) hbk.1]
         try rfl)

theorem turned_ct (x : Nat → Nat) (X : Nat → Rat) (G : Rat) (i bi oi cp b : Nat) (cs : Array Value) (t' : TypeId) (f' : Nat × Nat) (w0 : World) (H : Hp) (hi : H[i]? = some (bi, .cells cs t' f')) (hxc : ∀ q, q < 18 → cs[oi + q]? = some (.float .f64 (x q))) (hb : b < 4) (hG0 : 0 ≤ G) (hG : G ≤ 10) (hx : ∀ q, q < 18 → Fin double (x q) ∧ V double (x q) = X q ∧ mg (X q) ≤ G) (hsn : ∀ i, i < 6 → w0.cell? ⟨4, i, none⟩ = some (.float .f64 (snb i))) (hcn : ∀ i, i < 6 → w0.cell? ⟨5, i, none⟩ = some (.float .f64 (cnb i))) : Ct Tryd.prog 33 #[.slice (some ⟨bi, oi, none⟩) 18 cp, .int .i64 b] w0 (H) (fun v H' => ∃ bo o, v = .slice (some ⟨bo, 0, none⟩) 36 36 ∧ (∀ p, p < 36 → Ap double (o p) (Yw b X p) (WE G)) ∧ H' = (bo, .cells (va 36 (fl .f64 o)) 60 (0, 0)) :: H) := by
  refine Ct.of_body (n := 97) (E := [(0, _), (1, _)]) Tryd.func33 rfl rfl rfl rfl ?_
  refine Tr.seq ?_
  refine Tr.region ?_
  refine TL.val (YF.assign rfl) (by decide) ?_
  refine TL.end ?_
  refine Arr.seq ?_
  refine Tr.seq ?_
  refine Tr.region ?_
  refine TL.makeSlice (m := 36) sl_54 bytes_60 zero_60 rfl rfl rfl rfl (by decide) (by decide) rfl (by decide) (fun bo => ?_)
  refine TL.val (YF.assign rfl) (by decide) ?_
  refine TL.end ?_
  refine Arr.seq ?_
  refine Tr.seq ?_
  refine Tr.seq ?_
  refine Tr.drop (G := (bo, .cells (va 36 (fl .f64 fun _ => 0)) 60 (0, 0)) :: H) (by rw [va_replicate]; exact List.Sublist.refl _) ?_
  refine Tr.region ?_
  refine TL.val (YF.move rfl) (by decide) ?_
  by_cases hb2 : b = 2
  ·
    subst hb2
    refine TL.val (YF.neq (b := false) rfl rfl (decide_eq_false (by omega))) (by decide) ?_
    refine TL.end ?_
    refine Arr.seq ?_
    refine Tr.condF rfl ?_
    refine Tr.skipE ?_
    refine Arr.seq ?_
    refine Tr.seq ?_
    refine Tr.seq ?_
    refine Tr.region ?_
    refine TL.val (YF.move rfl) (by decide) ?_
    refine TL.end ?_
    refine Arr.seq ?_
    refine Tr.block ?_
    refine Tr.loop (I := fun mq a w => ∃ (u : Nat) (o : Nat → Nat), mq = 3 - u ∧ (u ≤ 3) ∧ (SI double (AE G) X u 0 o) ∧ Agree 97 [(0, .slice (some ⟨bi, oi, none⟩) 18 cp), (5, .slice (some ⟨bo, 0, none⟩) 36 36), (50, .int .i64 u)] a ∧ HS w0 ((bo, .cells (va 36 (fl .f64 o)) 60 (0, 0)) :: H) w) (3) ?_ ?_
    · intro a w ha hw
      exact ⟨0, fun _ => 0, rfl, by omega, SI.zero (zero_fin two_double), (ha.cons rfl (ha.cons rfl (ha.cons rfl (ha.nil)))), hw⟩
    rintro _ a w ⟨u, o, rfl, hu, hS, ha, hw⟩
    refine Tr.use ha hw ?_
    refine Tr.seq ?_
    refine Tr.region ?_
    refine TL.val (YF.lss rfl rfl rfl) (by decide) ?_
    refine TL.end ?_
    refine Arr.seq ?_
    refine Tr.seq ?_
    refine Tr.cond rfl (fun h51 => ?_) (fun h51 => ?_)
    ·
      replace h51 := of_decide_eq_true h51
      refine Tr.skipE ?_
      refine Arr.seq ?_
      refine Tr.seq ?_
      refine Tr.block ?_
      refine Tr.seq ?_
      refine Tr.region ?_
      refine TL.val (YF.move rfl) (by decide) ?_
      refine TL.val (YF.assign rfl) (by decide) ?_
      refine TL.end ?_
      refine Arr.seq ?_
      refine Tr.seq ?_
      refine Tr.region ?_
      refine TL.val (YF.move rfl) (by decide) ?_
      refine TL.end ?_
      refine Arr.seq ?_
      refine Tr.block ?_
      refine Tr.loop (I := fun mq a w => ∃ (p : Nat) (o : Nat → Nat), mq = 12 - p ∧ (p ≤ 12) ∧ (SI double (AE G) X u p o) ∧ Agree 97 [(0, .slice (some ⟨bi, oi, none⟩) 18 cp), (5, .slice (some ⟨bo, 0, none⟩) 36 36), (9, .int .i64 u), (50, .int .i64 u), (53, .int .i64 p)] a ∧ HS w0 ((bo, .cells (va 36 (fl .f64 o)) 60 (0, 0)) :: H) w) (12) ?_ ?_
      · intro a w ha hw
        exact ⟨0, o, rfl, by omega, hS, (ha.cons rfl (ha.cons rfl (ha.cons rfl (ha.cons rfl (ha.cons rfl (ha.nil)))))), hw⟩
      rintro _ a w ⟨p, o, rfl, hp, hS, ha, hw⟩
      refine Tr.use ha hw ?_
      refine Tr.seq ?_
      refine Tr.region ?_
      refine TL.val (YF.lss rfl rfl rfl) (by decide) ?_
      refine TL.end ?_
      refine Arr.seq ?_
      refine Tr.seq ?_
      refine Tr.cond rfl (fun h54 => ?_) (fun h54 => ?_)
      ·
        replace h54 := of_decide_eq_true h54
        refine Tr.skipE ?_
        refine Arr.seq ?_
        refine Tr.seq ?_
        refine Tr.block ?_
        refine Tr.seq ?_
        refine Tr.region ?_
        refine TL.val (YF.move rfl) (by decide) ?_
        refine TL.val (YF.assign rfl) (by decide) ?_
        refine TL.end ?_
        refine Arr.seq ?_
        refine Tr.seq ?_
        refine Tr.region ?_
        refine TL.val (YF.assign rfl) (by decide) ?_
        refine TL.end ?_
        refine Arr.seq ?_
        refine Tr.seq ?_
        refine Tr.seq ?_
        refine Tr.region ?_
        refine TL.val (YF.move rfl) (by decide) ?_
        refine TL.end ?_
        refine Arr.seq ?_
        refine Tr.block ?_
        refine Tr.loop (I := fun mq a w => ∃ (m : Nat) (s : Nat), mq = 6 - m ∧ (m ≤ 6) ∧ (Ap double s (dot (fun m => X (u + 3 * m)) (C12 p) m) ((m : Nat) * EE G)) ∧ Agree 97 [(0, .slice (some ⟨bi, oi, none⟩) 18 cp), (5, .slice (some ⟨bo, 0, none⟩) 36 36), (9, .int .i64 u), (10, .int .i64 p), (11, .float .f64 s), (50, .int .i64 u), (53, .int .i64 p), (56, .int .i64 m)] a ∧ HS w0 ((bo, .cells (va 36 (fl .f64 o)) 60 (0, 0)) :: H) w) (6) ?_ ?_
        · intro a w ha hw
          exact ⟨0, 0, rfl, by omega, ap_zero two_double, (ha.cons rfl (ha.cons rfl (ha.cons rfl (ha.cons rfl (ha.cons rfl (ha.cons rfl (ha.cons rfl (ha.cons rfl (ha.nil))))))))), hw⟩
        rintro _ a w ⟨m, s, rfl, hm, hs, ha, hw⟩
        refine Tr.use ha hw ?_
        refine Tr.seq ?_
        refine Tr.region ?_
        refine TL.val (YF.lss rfl rfl rfl) (by decide) ?_
        refine TL.end ?_
        refine Arr.seq ?_
        refine Tr.seq ?_
        refine Tr.cond rfl (fun h57 => ?_) (fun h57 => ?_)
        ·
          replace h57 := of_decide_eq_true h57
          refine Tr.skipE ?_
          refine Arr.seq ?_
          refine Tr.seq ?_
          refine Tr.block ?_
          refine Tr.seq ?_
          refine Tr.region ?_
          refine TL.val (YF.move rfl) (by decide) ?_
          refine TL.val (YF.assign rfl) (by decide) ?_
          refine TL.end ?_
          refine Arr.seq ?_
          obtain ⟨xa, e1, e2⟩ := cosS_spec (c12_ok (i := m) (j := p) (by omega) (by omega)).2.1
          obtain ⟨pr, s2, f1, f2, hs2⟩ := dot_step two_double (X := fun m => X (u + 3 * m)) (C := C12 p) (m := m) (x := x (u + 3 * m)) (c := d12 m p) (by omega) hG0 hG (fun q hq => (hx (u + 3 * q) (by omega)).2.2) (fun q hq => (c12_ok (by omega) (by omega)).2.2.le) hs (hx (u + 3 * m) (by omega)).1 (hx (u + 3 * m) (by omega)).2.1 (c12_ok (by omega) (by omega)).2.2.fd (c12_ok (by omega) (by omega)).2.2.near
          refine Tr.drawE (_ :: _) (fun H => H) rfl mixed_ ?_
          refine TD.take 0 rfl (by kernel_rfl) (by kernel_rfl) (by kernel_rfl) (fun _ _ _ h => h) (by repeat first | exact List.Sublist.refl _ | apply List.Sublist.cons_cons | apply List.Sublist.cons) (YF.move rfl) (by decide) ?_
          refine TD.take 1 rfl (by kernel_rfl) (by kernel_rfl) (by kernel_rfl) (fun _ _ _ h => h) (by repeat first | exact List.Sublist.refl _ | apply List.Sublist.cons_cons | apply List.Sublist.cons) (YF.move rfl) (by decide) ?_
          refine TD.take 2 rfl (by kernel_rfl) (by kernel_rfl) (by kernel_rfl) (fun _ _ _ h => h) (by repeat first | exact List.Sublist.refl _ | apply List.Sublist.cons_cons | apply List.Sublist.cons) (YF.move rfl) (by decide) ?_
          refine TD.take 3 rfl (by kernel_rfl) (by kernel_rfl) (by kernel_rfl) (fun _ _ _ h => h) (by repeat first | exact List.Sublist.refl _ | apply List.Sublist.cons_cons | apply List.Sublist.cons) (YF.move rfl) (by decide) ?_
          refine TD.take 4 rfl (by kernel_rfl) (by kernel_rfl) (by kernel_rfl) (fun _ _ _ h => h) (by repeat first | exact List.Sublist.refl _ | apply List.Sublist.cons_cons | apply List.Sublist.cons) (YF.mul rfl rfl (IntWalk.i64_in _ (by omega))) (by decide) ?_
          refine TD.take 5 rfl (by kernel_rfl) (by kernel_rfl) (by kernel_rfl) (fun _ _ _ h => h) (by repeat first | exact List.Sublist.refl _ | apply List.Sublist.cons_cons | apply List.Sublist.cons) (YF.add rfl rfl (IntWalk.i64_in _ (by omega))) (by decide) ?_
          refine TD.take 6 rfl (by kernel_rfl) (by kernel_rfl) (by kernel_rfl) (fun _ _ _ h => h) (by repeat first | exact List.Sublist.refl _ | apply List.Sublist.cons_cons | apply List.Sublist.cons) (YF.indexSl sl_54 rfl rfl (by first | decide | omega) (show _ = oi + (u + 3 * m) by omega)) (by decide) ?_
          refine TD.take 7 rfl (by kernel_rfl) (by kernel_rfl) (by kernel_rfl) (fun _ _ _ h => h) (by repeat first | exact List.Sublist.refl _ | apply List.Sublist.cons_cons | apply List.Sublist.cons) (YF.load (v := .float .f64 (x (u + 3 * m))) (i + 1) sc_60 rfl hi (hxc (u + 3 * m) (by omega))) (by decide) ?_
          refine TD.take 8 rfl (by kernel_rfl) (by kernel_rfl) (by kernel_rfl) (fun _ _ _ h => h) (by repeat first | exact List.Sublist.refl _ | apply List.Sublist.cons_cons | apply List.Sublist.cons) (YF.move rfl) (by decide) ?_
          refine TD.take 9 rfl (by kernel_rfl) (by kernel_rfl) (by kernel_rfl) (fun _ _ _ h => h) (by repeat first | exact List.Sublist.refl _ | apply List.Sublist.cons_cons | apply List.Sublist.cons) (YF.mul rfl rfl (IntWalk.i64_in _ (by omega))) (by decide) ?_
          refine TD.take 10 rfl (by kernel_rfl) (by kernel_rfl) (by kernel_rfl) (fun _ _ _ h => h) (by repeat first | exact List.Sublist.refl _ | apply List.Sublist.cons_cons | apply List.Sublist.cons) (YF.add rfl rfl (IntWalk.i64_in _ (by omega))) (by decide) ?_
          refine TD.take 11 rfl (by kernel_rfl) (by kernel_rfl) (by kernel_rfl) (fun _ _ _ h => h) (by repeat first | exact List.Sublist.refl _ | apply List.Sublist.cons_cons | apply List.Sublist.cons) (YF.move rfl) (by decide) ?_
          refine TD.take 12 rfl (by kernel_rfl) (by kernel_rfl) (by kernel_rfl) (fun _ _ _ h => h) (by repeat first | exact List.Sublist.refl _ | apply List.Sublist.cons_cons | apply List.Sublist.cons) (YF.mul rfl rfl (IntWalk.i64_in _ (by omega))) (by decide) ?_
          refine TD.take 13 rfl (by kernel_rfl) (by kernel_rfl) (by kernel_rfl) (fun _ _ _ h => h) (by repeat first | exact List.Sublist.refl _ | apply List.Sublist.cons_cons | apply List.Sublist.cons) (YF.add rfl rfl (IntWalk.i64_in _ (by omega))) (by decide) ?_
          refine TD.take 14 rfl (by kernel_rfl) (by kernel_rfl) (by kernel_rfl) (fun _ _ _ h => h) (by repeat first | exact List.Sublist.refl _ | apply List.Sublist.cons_cons | apply List.Sublist.cons) (YF.mul rfl rfl (mul_small (n := 2 * p + 7) (m := 2 * m + 1) (by omega) (by omega) (by omega) (by omega))) (by decide) ?_
          refine TD.take 15 rfl (by kernel_rfl) (by kernel_rfl) (by kernel_rfl) (fun _ _ _ h => h) (by repeat first | exact List.Sublist.refl _ | apply List.Sublist.cons_cons | apply List.Sublist.cons) (YF.convIF und_3 und_60 rfl rfl) (by decide) ?_
          refine TD.take 16 rfl (by kernel_rfl) (by kernel_rfl) (by kernel_rfl) (fun _ _ _ h => h) (by repeat first | exact List.Sublist.refl _ | apply List.Sublist.cons_cons | apply List.Sublist.cons) (YF.farith rfl rfl e1) (by decide) ?_
          refine TD.eff 17 rfl (by kernel_rfl) (EF.call (vs := [_]) call_41 rfl (Cos_ct _ (d12 m p) w0 _ hsn hcn e2)) (by decide) (by rintro _ _ ⟨rfl, rfl⟩; exact (by repeat first | exact List.Sublist.refl _ | apply List.Sublist.cons_cons | apply List.Sublist.cons)) ?_
          rintro _ _ ⟨rfl, rfl⟩
          refine TD.take 18 rfl (by kernel_rfl) (by kernel_rfl) (by kernel_rfl) (fun _ _ _ h => h) (by repeat first | exact List.Sublist.refl _ | apply List.Sublist.cons_cons | apply List.Sublist.cons) (YF.farith rfl rfl f1) (by decide) ?_
          refine TD.take 19 rfl (by kernel_rfl) (by kernel_rfl) (by kernel_rfl) (fun _ _ _ h => h) (by repeat first | exact List.Sublist.refl _ | apply List.Sublist.cons_cons | apply List.Sublist.cons) (YF.farith rfl rfl f2) (by decide) ?_
          refine TD.take 20 rfl (by kernel_rfl) (by kernel_rfl) (by kernel_rfl) (fun _ _ _ h => h) (by repeat first | exact List.Sublist.refl _ | apply List.Sublist.cons_cons | apply List.Sublist.cons) (YF.assign rfl) (by decide) ?_
          refine TD.end (by kernel_rfl) ?_
          refine Arr.block ?_
          refine Arr.seq ?_
          refine Tr.region ?_
          refine TL.val (YF.add rfl rfl (IntWalk.i64_in _ (by omega))) (by decide) ?_
          refine TL.val (YF.move rfl) (by decide) ?_
          refine TL.end ?_
          exact fun a w ha hw => ⟨_, by omega, m + 1, s2, rfl, by omega, hs2, (ha.cons rfl (ha.cons rfl (ha.cons rfl (ha.cons rfl (ha.cons rfl (ha.cons rfl (ha.cons rfl (ha.cons rfl (ha.nil))))))))), hw⟩
        ·
          replace h57 := of_decide_eq_false h57
          refine Tr.exitE ?_
          refine Arr.seqX ?_
          refine Arr.seqX ?_
          refine Arr.blockE ?_
          refine Arr.seq ?_
          obtain rfl : m = 6 := by omega
          obtain ⟨tt, r, g1, g2, hS2⟩ := short_step two_double hG0 hG (fun q hq => (hx q hq).2.2) (show u < 3 by omega) (show p < 12 by omega) hS hs (wn2_ok (by omega)).2.2.fd (wn2_ok (by omega)).2.2.near
          refine Tr.drawE (_) (fun H => (H.eraseIdx 0)) rfl mixed_ ?_
          refine TD.take 0 rfl (by kernel_rfl) (by kernel_rfl) (by kernel_rfl) (fun _ _ _ h => h) (by repeat first | exact List.Sublist.refl _ | apply List.Sublist.cons_cons | apply List.Sublist.cons) (YF.move rfl) (by decide) ?_
          refine TD.take 1 rfl (by kernel_rfl) (by kernel_rfl) (by kernel_rfl) (fun _ _ _ h => h) (by repeat first | exact List.Sublist.refl _ | apply List.Sublist.cons_cons | apply List.Sublist.cons) (YF.move rfl) (by decide) ?_
          refine TD.take 2 rfl (by kernel_rfl) (by kernel_rfl) (by kernel_rfl) (fun _ _ _ h => h) (by repeat first | exact List.Sublist.refl _ | apply List.Sublist.cons_cons | apply List.Sublist.cons) (YF.mul rfl rfl (IntWalk.i64_in _ (by omega))) (by decide) ?_
          refine TD.take 3 rfl (by kernel_rfl) (by kernel_rfl) (by kernel_rfl) (fun _ _ _ h => h) (by repeat first | exact List.Sublist.refl _ | apply List.Sublist.cons_cons | apply List.Sublist.cons) (YF.add rfl rfl (IntWalk.i64_in _ (by omega))) (by decide) ?_
          refine TD.take 4 rfl (by kernel_rfl) (by kernel_rfl) (by kernel_rfl) (fun _ _ _ h => h) (by repeat first | exact List.Sublist.refl _ | apply List.Sublist.cons_cons | apply List.Sublist.cons) (YF.move rfl) (by decide) ?_
          refine TD.take 5 rfl (by kernel_rfl) (by kernel_rfl) (by kernel_rfl) (fun _ _ _ h => h) (by repeat first | exact List.Sublist.refl _ | apply List.Sublist.cons_cons | apply List.Sublist.cons) (YF.add rfl rfl (IntWalk.i64_in _ (by omega))) (by decide) ?_
          refine TD.take 6 rfl (by kernel_rfl) (by kernel_rfl) (by kernel_rfl) (fun _ _ _ h => h) (by repeat first | exact List.Sublist.refl _ | apply List.Sublist.cons_cons | apply List.Sublist.cons) (YF.indexSl sl_54 rfl rfl (by first | decide | omega) (show _ = 6 * u + p + 6 by omega)) (by decide) ?_
          refine TD.take 8 rfl (by kernel_rfl) (by kernel_rfl) (by kernel_rfl) (fun _ _ _ h => h) (by repeat first | exact List.Sublist.refl _ | apply List.Sublist.cons_cons | apply List.Sublist.cons) (YF.move rfl) (by decide) ?_
          refine TD.take 9 rfl (by kernel_rfl) (by kernel_rfl) (by kernel_rfl) (fun _ _ _ h => h) (by repeat first | exact List.Sublist.refl _ | apply List.Sublist.cons_cons | apply List.Sublist.cons) (YF.move rfl) (by decide) ?_
          refine TD.two 7 10 (by kernel_rfl) ?_ ?_
          ·
            refine TO.eff 7 rfl (YF.ef (YF.load (v := .float .f64 (o (6 * u + p + 6))) 0 sc_60 rfl rfl (va_get (by omega) rfl))) (by decide) (by rintro _ _ ⟨rfl, rfl⟩; exact (by repeat first | exact List.Sublist.refl _ | apply List.Sublist.cons_cons | apply List.Sublist.cons)) ?_
            rintro _ _ ⟨rfl, rfl⟩
            refine TD.eff 10 rfl (by kernel_rfl) (EF.call (vs := [_, _]) call_43 rfl (sine_ct _ p 12 (s12 p) w0 _ rfl hsn hcn (wn2_ok (by omega)).2.1)) (by decide) (by rintro _ _ ⟨rfl, rfl⟩; exact (by repeat first | exact List.Sublist.refl _ | apply List.Sublist.cons_cons | apply List.Sublist.cons)) ?_
            rintro _ _ ⟨rfl, rfl⟩
            refine TD.take 11 rfl (by kernel_rfl) (by kernel_rfl) (by kernel_rfl) (fun _ _ _ h => h) (by repeat first | exact List.Sublist.refl _ | apply List.Sublist.cons_cons | apply List.Sublist.cons) (YF.farith rfl rfl g1) (by decide) ?_
            refine TD.take 12 rfl (by kernel_rfl) (by kernel_rfl) (by kernel_rfl) (fun _ _ _ h => h) (by repeat first | exact List.Sublist.refl _ | apply List.Sublist.cons_cons | apply List.Sublist.cons) (YF.farith rfl rfl g2) (by decide) ?_
            refine TD.take 13 rfl (by kernel_rfl) (by kernel_rfl) (by kernel_rfl) (fun _ _ _ h => h) (by repeat first | exact List.Sublist.refl _ | apply List.Sublist.cons_cons | apply List.Sublist.cons) (YF.indexSl sl_54 rfl rfl (by first | decide | omega) (show _ = 6 * u + p + 6 by omega)) (by decide) ?_
            refine TD.eff0 14 rfl (by kernel_rfl) (EF.store 0 rfl rfl rfl sz_60 rfl (by rw [va_size]; omega)) (by rintro _ _ ⟨rfl, rfl⟩; exact (by repeat first | exact List.Sublist.refl _ | apply List.Sublist.cons_cons | apply List.Sublist.cons)) ?_
            rintro _ _ ⟨rfl, rfl⟩
            refine TD.heap ((bo, .cells (va 36 (fl .f64 (upd o (6 * u + p + 6) r))) 60 (0, 0)) :: _) (by rw [← fl_set]; rfl) ?_
            refine TD.end (by kernel_rfl) ?_
            refine Arr.block ?_
            refine Arr.seq ?_
            refine Tr.region ?_
            refine TL.val (YF.add rfl rfl (IntWalk.i64_in _ (by omega))) (by decide) ?_
            refine TL.val (YF.move rfl) (by decide) ?_
            refine TL.end ?_
            exact fun a w ha hw => ⟨_, by omega, p + 1, upd o (6 * u + p + 6) r, rfl, by omega, hS2, (ha.cons rfl (ha.cons rfl (ha.cons rfl (ha.cons rfl (ha.cons rfl (ha.nil)))))), hw⟩
          ·
            refine TO.eff 10 rfl (EF.call (vs := [_, _]) call_43 rfl (sine_ct _ p 12 (s12 p) w0 _ rfl hsn hcn (wn2_ok (by omega)).2.1)) (by decide) (by rintro _ _ ⟨rfl, rfl⟩; exact (by repeat first | exact List.Sublist.refl _ | apply List.Sublist.cons_cons | apply List.Sublist.cons)) ?_
            rintro _ _ ⟨rfl, rfl⟩
            refine TD.take 11 rfl (by kernel_rfl) (by kernel_rfl) (by kernel_rfl) (fun _ _ _ h => h) (by repeat first | exact List.Sublist.refl _ | apply List.Sublist.cons_cons | apply List.Sublist.cons) (YF.farith rfl rfl g1) (by decide) ?_
            refine TD.eff 7 rfl (by kernel_rfl) (YF.ef (YF.load (v := .float .f64 (o (6 * u + p + 6))) 0 sc_60 rfl rfl (va_get (by omega) rfl))) (by decide) (by rintro _ _ ⟨rfl, rfl⟩; exact (by repeat first | exact List.Sublist.refl _ | apply List.Sublist.cons_cons | apply List.Sublist.cons)) ?_
            rintro _ _ ⟨rfl, rfl⟩
            refine TD.take 12 rfl (by kernel_rfl) (by kernel_rfl) (by kernel_rfl) (fun _ _ _ h => h) (by repeat first | exact List.Sublist.refl _ | apply List.Sublist.cons_cons | apply List.Sublist.cons) (YF.farith rfl rfl g2) (by decide) ?_
            refine TD.take 13 rfl (by kernel_rfl) (by kernel_rfl) (by kernel_rfl) (fun _ _ _ h => h) (by repeat first | exact List.Sublist.refl _ | apply List.Sublist.cons_cons | apply List.Sublist.cons) (YF.indexSl sl_54 rfl rfl (by first | decide | omega) (show _ = 6 * u + p + 6 by omega)) (by decide) ?_
            refine TD.eff0 14 rfl (by kernel_rfl) (EF.store 0 rfl rfl rfl sz_60 rfl (by rw [va_size]; omega)) (by rintro _ _ ⟨rfl, rfl⟩; exact (by repeat first | exact List.Sublist.refl _ | apply List.Sublist.cons_cons | apply List.Sublist.cons)) ?_
            rintro _ _ ⟨rfl, rfl⟩
            refine TD.heap ((bo, .cells (va 36 (fl .f64 (upd o (6 * u + p + 6) r))) 60 (0, 0)) :: _) (by rw [← fl_set]; rfl) ?_
            refine TD.end (by kernel_rfl) ?_
            refine Arr.block ?_
            refine Arr.seq ?_
            refine Tr.region ?_
            refine TL.val (YF.add rfl rfl (IntWalk.i64_in _ (by omega))) (by decide) ?_
            refine TL.val (YF.move rfl) (by decide) ?_
            refine TL.end ?_
            exact fun a w ha hw => ⟨_, by omega, p + 1, upd o (6 * u + p + 6) r, rfl, by omega, hS2, (ha.cons rfl (ha.cons rfl (ha.cons rfl (ha.cons rfl (ha.cons rfl (ha.nil)))))), hw⟩
      ·
        replace h54 := of_decide_eq_false h54
        refine Tr.exitE ?_
        refine Arr.seqX ?_
        refine Arr.seqX ?_
        refine Arr.blockE ?_
        refine Arr.block ?_
        refine Arr.seq ?_
        refine Tr.region ?_
        refine TL.val (YF.add rfl rfl (IntWalk.i64_in _ (by omega))) (by decide) ?_
        refine TL.val (YF.move rfl) (by decide) ?_
        refine TL.end ?_
        exact fun a w ha hw => ⟨_, by omega, u + 1, o, rfl, by omega, (by have e : p = 12 := (by omega); subst e; exact SI.next hG0 hS), (ha.cons rfl (ha.cons rfl (ha.cons rfl (ha.nil)))), hw⟩
    ·
      replace h51 := of_decide_eq_false h51
      refine Tr.exitE ?_
      refine Arr.seqX ?_
      refine Arr.seqX ?_
      refine Arr.blockE ?_
      refine Arr.seq ?_
      refine Tr.seq ?_
      refine Tr.region ?_
      refine TL.val (YF.move rfl) (by decide) ?_
      refine TL.val (YF.assign rfl) (by decide) ?_
      refine TL.end ?_
      refine Arr.seq ?_
      refine Tr.retE ?_
      first
        | (have e : u = 3 := by omega
           subst e
           exact Ends.tmp rfl rfl ⟨bo, o, rfl, fun q hq => short_out hG0 hS q hq, rfl⟩)
        | (have e : p = 36 := by omega
           subst e
           exact Ends.tmp rfl rfl ⟨bo, o, rfl, hO, rfl⟩)
  ·
    refine TL.val (YF.neq (b := true) rfl rfl (decide_eq_true (by omega))) (by decide) ?_
    refine TL.end ?_
    refine Arr.seq ?_
    refine Tr.condT rfl ?_
    refine Tr.seq ?_
    refine Tr.seq ?_
    refine Tr.region ?_
    refine TL.val (YF.move rfl) (by decide) ?_
    refine TL.end ?_
    refine Arr.seq ?_
    refine Tr.block ?_
    refine Tr.loop (I := fun mq a w => ∃ (p : Nat) (o : Nat → Nat), mq = 36 - p ∧ (p ≤ 36) ∧ (∀ q, q < p → Ap double (o q) (Yw b X q) (WE G)) ∧ Agree 97 [(0, .slice (some ⟨bi, oi, none⟩) 18 cp), (1, .int .i64 b), (5, .slice (some ⟨bo, 0, none⟩) 36 36), (16, .int .i64 p)] a ∧ HS w0 ((bo, .cells (va 36 (fl .f64 o)) 60 (0, 0)) :: H) w) (36) ?_ ?_
    · intro a w ha hw
      exact ⟨0, fun _ => 0, rfl, by omega, fun q hq => absurd hq (by omega), (ha.cons rfl (ha.cons rfl (ha.cons rfl (ha.cons rfl (ha.nil))))), hw⟩
    rintro _ a w ⟨p, o, rfl, hp, hO, ha, hw⟩
    refine Tr.use ha hw ?_
    refine Tr.seq ?_
    refine Tr.region ?_
    refine TL.val (YF.lss rfl rfl rfl) (by decide) ?_
    refine TL.end ?_
    refine Arr.seq ?_
    refine Tr.seq ?_
    refine Tr.cond rfl (fun h17 => ?_) (fun h17 => ?_)
    ·
      replace h17 := of_decide_eq_true h17
      refine Tr.skipE ?_
      refine Arr.seq ?_
      refine Tr.seq ?_
      refine Tr.block ?_
      refine Tr.seq ?_
      refine Tr.region ?_
      refine TL.val (YF.move rfl) (by decide) ?_
      refine TL.val (YF.assign rfl) (by decide) ?_
      refine TL.end ?_
      refine Arr.seq ?_
      refine Tr.seq ?_
      refine Tr.region ?_
      refine TL.val (YF.assign rfl) (by decide) ?_
      refine TL.end ?_
      refine Arr.seq ?_
      refine Tr.seq ?_
      refine Tr.seq ?_
      refine Tr.region ?_
      refine TL.val (YF.move rfl) (by decide) ?_
      refine TL.end ?_
      refine Arr.seq ?_
      refine Tr.block ?_
      refine Tr.loop (I := fun mq a w => ∃ (m : Nat) (s : Nat), mq = 18 - m ∧ (m ≤ 18) ∧ (Ap double s (dot X (C36 p) m) ((m : Nat) * EE G)) ∧ Agree 97 [(0, .slice (some ⟨bi, oi, none⟩) 18 cp), (1, .int .i64 b), (5, .slice (some ⟨bo, 0, none⟩) 36 36), (6, .int .i64 p), (7, .float .f64 s), (16, .int .i64 p), (19, .int .i64 m)] a ∧ HS w0 ((bo, .cells (va 36 (fl .f64 o)) 60 (0, 0)) :: H) w) (18) ?_ ?_
      · intro a w ha hw
        exact ⟨0, 0, rfl, by omega, ap_zero two_double, (ha.cons rfl (ha.cons rfl (ha.cons rfl (ha.cons rfl (ha.cons rfl (ha.cons rfl (ha.cons rfl (ha.nil)))))))), hw⟩
      rintro _ a w ⟨m, s, rfl, hm, hs, ha, hw⟩
      refine Tr.use ha hw ?_
      refine Tr.seq ?_
      refine Tr.region ?_
      refine TL.val (YF.lss rfl rfl rfl) (by decide) ?_
      refine TL.end ?_
      refine Arr.seq ?_
      refine Tr.seq ?_
      refine Tr.cond rfl (fun h20 => ?_) (fun h20 => ?_)
      ·
        replace h20 := of_decide_eq_true h20
        refine Tr.skipE ?_
        refine Arr.seq ?_
        refine Tr.seq ?_
        refine Tr.block ?_
        refine Tr.seq ?_
        refine Tr.region ?_
        refine TL.val (YF.move rfl) (by decide) ?_
        refine TL.val (YF.assign rfl) (by decide) ?_
        refine TL.end ?_
        refine Arr.seq ?_
        obtain ⟨xa, e1, e2⟩ := cosS_spec (c36_ok (i := m) (j := p) (by omega) (by omega)).2.1
        obtain ⟨pr, s2, f1, f2, hs2⟩ := dot_step two_double (X := X) (C := C36 p) (m := m) (x := x m) (c := d36 m p) (by omega) hG0 hG (fun q hq => (hx q (by omega)).2.2) (fun q hq => (c36_ok (by omega) (by omega)).2.2.le) hs (hx m (by omega)).1 (hx m (by omega)).2.1 (c36_ok (by omega) (by omega)).2.2.fd (c36_ok (by omega) (by omega)).2.2.near
        refine Tr.drawE (_ :: _) (fun H => H) rfl mixed_ ?_
        refine TD.take 0 rfl (by kernel_rfl) (by kernel_rfl) (by kernel_rfl) (fun _ _ _ h => h) (by repeat first | exact List.Sublist.refl _ | apply List.Sublist.cons_cons | apply List.Sublist.cons) (YF.move rfl) (by decide) ?_
        refine TD.take 1 rfl (by kernel_rfl) (by kernel_rfl) (by kernel_rfl) (fun _ _ _ h => h) (by repeat first | exact List.Sublist.refl _ | apply List.Sublist.cons_cons | apply List.Sublist.cons) (YF.move rfl) (by decide) ?_
        refine TD.take 2 rfl (by kernel_rfl) (by kernel_rfl) (by kernel_rfl) (fun _ _ _ h => h) (by repeat first | exact List.Sublist.refl _ | apply List.Sublist.cons_cons | apply List.Sublist.cons) (YF.move rfl) (by decide) ?_
        refine TD.take 3 rfl (by kernel_rfl) (by kernel_rfl) (by kernel_rfl) (fun _ _ _ h => h) (by repeat first | exact List.Sublist.refl _ | apply List.Sublist.cons_cons | apply List.Sublist.cons) (YF.indexSl sl_54 rfl rfl (by first | decide | omega) (show _ = oi + m by omega)) (by decide) ?_
        refine TD.take 4 rfl (by kernel_rfl) (by kernel_rfl) (by kernel_rfl) (fun _ _ _ h => h) (by repeat first | exact List.Sublist.refl _ | apply List.Sublist.cons_cons | apply List.Sublist.cons) (YF.load (v := .float .f64 (x m)) (i + 1) sc_60 rfl hi (hxc m (by omega))) (by decide) ?_
        refine TD.take 5 rfl (by kernel_rfl) (by kernel_rfl) (by kernel_rfl) (fun _ _ _ h => h) (by repeat first | exact List.Sublist.refl _ | apply List.Sublist.cons_cons | apply List.Sublist.cons) (YF.move rfl) (by decide) ?_
        refine TD.take 6 rfl (by kernel_rfl) (by kernel_rfl) (by kernel_rfl) (fun _ _ _ h => h) (by repeat first | exact List.Sublist.refl _ | apply List.Sublist.cons_cons | apply List.Sublist.cons) (YF.mul rfl rfl (IntWalk.i64_in _ (by omega))) (by decide) ?_
        refine TD.take 7 rfl (by kernel_rfl) (by kernel_rfl) (by kernel_rfl) (fun _ _ _ h => h) (by repeat first | exact List.Sublist.refl _ | apply List.Sublist.cons_cons | apply List.Sublist.cons) (YF.add rfl rfl (IntWalk.i64_in _ (by omega))) (by decide) ?_
        refine TD.take 8 rfl (by kernel_rfl) (by kernel_rfl) (by kernel_rfl) (fun _ _ _ h => h) (by repeat first | exact List.Sublist.refl _ | apply List.Sublist.cons_cons | apply List.Sublist.cons) (YF.move rfl) (by decide) ?_
        refine TD.take 9 rfl (by kernel_rfl) (by kernel_rfl) (by kernel_rfl) (fun _ _ _ h => h) (by repeat first | exact List.Sublist.refl _ | apply List.Sublist.cons_cons | apply List.Sublist.cons) (YF.mul rfl rfl (IntWalk.i64_in _ (by omega))) (by decide) ?_
        refine TD.take 10 rfl (by kernel_rfl) (by kernel_rfl) (by kernel_rfl) (fun _ _ _ h => h) (by repeat first | exact List.Sublist.refl _ | apply List.Sublist.cons_cons | apply List.Sublist.cons) (YF.add rfl rfl (IntWalk.i64_in _ (by omega))) (by decide) ?_
        refine TD.take 11 rfl (by kernel_rfl) (by kernel_rfl) (by kernel_rfl) (fun _ _ _ h => h) (by repeat first | exact List.Sublist.refl _ | apply List.Sublist.cons_cons | apply List.Sublist.cons) (YF.mul rfl rfl (mul_small (n := 2 * p + 19) (m := 2 * m + 1) (by omega) (by omega) (by omega) (by omega))) (by decide) ?_
        refine TD.take 12 rfl (by kernel_rfl) (by kernel_rfl) (by kernel_rfl) (fun _ _ _ h => h) (by repeat first | exact List.Sublist.refl _ | apply List.Sublist.cons_cons | apply List.Sublist.cons) (YF.convIF und_3 und_60 rfl rfl) (by decide) ?_
        refine TD.take 13 rfl (by kernel_rfl) (by kernel_rfl) (by kernel_rfl) (fun _ _ _ h => h) (by repeat first | exact List.Sublist.refl _ | apply List.Sublist.cons_cons | apply List.Sublist.cons) (YF.farith rfl rfl e1) (by decide) ?_
        refine TD.eff 14 rfl (by kernel_rfl) (EF.call (vs := [_]) call_41 rfl (Cos_ct _ (d36 m p) w0 _ hsn hcn e2)) (by decide) (by rintro _ _ ⟨rfl, rfl⟩; exact (by repeat first | exact List.Sublist.refl _ | apply List.Sublist.cons_cons | apply List.Sublist.cons)) ?_
        rintro _ _ ⟨rfl, rfl⟩
        refine TD.take 15 rfl (by kernel_rfl) (by kernel_rfl) (by kernel_rfl) (fun _ _ _ h => h) (by repeat first | exact List.Sublist.refl _ | apply List.Sublist.cons_cons | apply List.Sublist.cons) (YF.farith rfl rfl f1) (by decide) ?_
        refine TD.take 16 rfl (by kernel_rfl) (by kernel_rfl) (by kernel_rfl) (fun _ _ _ h => h) (by repeat first | exact List.Sublist.refl _ | apply List.Sublist.cons_cons | apply List.Sublist.cons) (YF.farith rfl rfl f2) (by decide) ?_
        refine TD.take 17 rfl (by kernel_rfl) (by kernel_rfl) (by kernel_rfl) (fun _ _ _ h => h) (by repeat first | exact List.Sublist.refl _ | apply List.Sublist.cons_cons | apply List.Sublist.cons) (YF.assign rfl) (by decide) ?_
        refine TD.end (by kernel_rfl) ?_
        refine Arr.block ?_
        refine Arr.seq ?_
        refine Tr.region ?_
        refine TL.val (YF.add rfl rfl (IntWalk.i64_in _ (by omega))) (by decide) ?_
        refine TL.val (YF.move rfl) (by decide) ?_
        refine TL.end ?_
        exact fun a w ha hw => ⟨_, by omega, m + 1, s2, rfl, by omega, hs2, (ha.cons rfl (ha.cons rfl (ha.cons rfl (ha.cons rfl (ha.cons rfl (ha.cons rfl (ha.cons rfl (ha.nil)))))))), hw⟩
      ·
        replace h20 := of_decide_eq_false h20
        refine Tr.exitE ?_
        refine Arr.seqX ?_
        refine Arr.seqX ?_
        refine Arr.blockE ?_
        refine Arr.seq ?_
        obtain rfl : m = 18 := by omega
        obtain ⟨r, g1, hr⟩ := long_out two_double hb2 (show p < 36 by omega) hG0 hG (fun q hq => (hx q hq).2.2) hs (wn_ok (b := b) (k := p) (by omega) (by omega)).2.2.fd (wn_ok (b := b) (k := p) (by omega) (by omega)).2.2.near (wn_ok (b := b) (k := p) (by omega) (by omega)).2.2.le
        refine Tr.region ?_
        refine TL.val (YF.move rfl) (by decide) ?_
        refine TL.val (YF.move rfl) (by decide) ?_
        refine TL.val (YF.move rfl) (by decide) ?_
        refine TL.val (YF.move rfl) (by decide) ?_
        refine TL.val (YF.move rfl) (by decide) ?_
        refine TL.call (vs := [_, _]) call_42 rfl (by decide) (shape_ct p b w0 _ (by omega) (by omega) hsn hcn) ?_
        rintro _ _ ⟨rfl, rfl⟩
        refine TL.val (YF.farith rfl rfl g1) (by decide) ?_
        refine TL.val (YF.indexSl sl_54 rfl rfl (by first | decide | omega) (show _ = p by omega)) (by decide) ?_
        refine TL.storeV 0 (_ :: _) rfl rfl rfl sz_60 rfl (by rw [va_size]; omega) fl_set rfl ?_
        refine TL.end ?_
        refine Arr.block ?_
        refine Arr.seq ?_
        refine Tr.region ?_
        refine TL.val (YF.add rfl rfl (IntWalk.i64_in _ (by omega))) (by decide) ?_
        refine TL.val (YF.move rfl) (by decide) ?_
        refine TL.end ?_
        exact fun a w ha hw => ⟨_, by omega, p + 1, upd o p r, rfl, by omega, (fun q hq => by
            by_cases e : q = p
            · subst e; rw [upd_at]; exact hr
            · rw [upd_ne _ _ e]; exact hO q (by omega)), (ha.cons rfl (ha.cons rfl (ha.cons rfl (ha.cons rfl (ha.nil))))), hw⟩
    ·
      replace h17 := of_decide_eq_false h17
      refine Tr.exitE ?_
      refine Arr.seqX ?_
      refine Arr.seqX ?_
      refine Arr.blockE ?_
      refine Arr.seq ?_
      refine Tr.seq ?_
      refine Tr.region ?_
      refine TL.val (YF.move rfl) (by decide) ?_
      refine TL.val (YF.assign rfl) (by decide) ?_
      refine TL.end ?_
      refine Arr.seq ?_
      refine Tr.retE ?_
      refine Arr.seqR ?_
      first
        | (have e : u = 3 := by omega
           subst e
           exact Ends.tmp rfl rfl ⟨bo, o, rfl, fun q hq => short_out hG0 hS q hq, rfl⟩)
        | (have e : p = 36 := by omega
           subst e
           exact Ends.tmp rfl rfl ⟨bo, o, rfl, hO, rfl⟩)

theorem timed_ct (s : Nat → Int) (m n : Nat → Nat) (X S : Nat → Rat) (g c : Nat) (G K : Rat) (i i' bx by' : Nat) (hg : g < 2) (hc : c < 2) (t1 t2 : TypeId) (f1 f2 : Nat × Nat) (w0 : World) (H : Hp) (hi : H[i]? = some (bx, .cells (va 576 (fl .f64 m)) t1 f1)) (hi' : H[i']? = some (by', .cells (va 576 (fl .f64 n)) t2 f2)) (hG0 : 0 ≤ G) (hG : G ≤ 10) (hK0 : 0 ≤ K) (hK : K ≤ 10) (hm : ∀ q, q < 576 → Fin double (m q) ∧ V double (m q) = X q ∧ mg (X q) ≤ G) (hn : ∀ q, q < 576 → Fin double (n q) ∧ V double (n q) = S q ∧ mg (S q) ≤ K) (hsw : s (26 + 2 * g + c) = 0 ∨ s (26 + 2 * g + c) = 1) (hbk : 0 ≤ s (30 + 2 * g + c) ∧ s (30 + 2 * g + c) ≤ 3) (hsb : s (26 + 2 * g + c) = 0 → s (30 + 2 * g + c) = 0) (hsn : ∀ i, i < 6 → w0.cell? ⟨4, i, none⟩ = some (.float .f64 (snb i))) (hcn : ∀ i, i < 6 → w0.cell? ⟨5, i, none⟩ = some (.float .f64 (cnb i))) : Ct Tryd.prog 21 #[.agg (va 86 (sd s)), .int .i64 g, .int .i64 c, .slice (some ⟨bx, 0, none⟩) 576 576, .slice (some ⟨by', 0, none⟩) 576 576] w0 (H) (fun v H' => ∃ (b0 b1 : Nat) (y k : Nat → Nat), HY double (HE G K) (fun q => Yq s g c X q + S q) (Nq s g c X) (fun _ => 0) (fun _ => 0) (576) y k ∧ v = .tuple #[.slice (some ⟨b0, 0, none⟩) 576 576, .slice (some ⟨b1, 0, none⟩) 576 576] ∧ H' = (b1, .cells (va 576 (fl .f64 k)) 60 (0, 0)) :: (b0, .cells (va 576 (fl .f64 y)) 60 (0, 0)) :: H) := by
  refine Ct.of_body (n := 71) (E := [(0, _), (1, _), (2, _), (3, _), (4, _)]) Tryd.func21 rfl rfl rfl rfl ?_
  refine Tr.seq ?_
  refine Tr.region ?_
  refine TL.box rfl (by decide) (fun b5 => ?_)
  refine TL.val (YF.assign rfl) (by decide) ?_
  refine TL.val (YF.assign rfl) (by decide) ?_
  refine TL.end ?_
  refine Arr.seq ?_
  refine Tr.seq ?_
  refine Tr.cutN (R := fun a w => ∃ b12 b13 : Nat, Agree 71 [(1, .int .i64 g), (2, .int .i64 c), (3, .slice (some ⟨bx, 0, none⟩) 576 576), (4, .slice (some ⟨by', 0, none⟩) 576 576), (5, .pointer (some ⟨b5, 0, none⟩)), (12, .slice (some ⟨b12, 0, none⟩) 576 576), (13, .slice (some ⟨b13, 0, none⟩) 576 576)] a ∧ HS w0 ((b13, .cells (Array.replicate 576 (.float .f64 0)) 60 (0, 0)) :: (b12, .cells (Array.replicate 576 (.float .f64 0)) 60 (0, 0)) :: (b5, .cells (va 86 (sd s)) 36 (0, 0)) :: H) w) ?_ ?_
  ·
    refine Tr.drawE (_ :: _) (fun H => H) rfl mixed_ ?_
    refine TD.two 0 1 (by kernel_rfl) ?_ ?_
    ·
      refine TO.eff 0 rfl (EF.makeSlice (m := 576) sl_54 bytes_60 rfl rfl rfl rfl (by decide) (by decide) zero_60 rfl) (by decide) (by rintro _ _ ⟨_, rfl, rfl⟩; exact (by repeat first | exact List.Sublist.refl _ | apply List.Sublist.cons_cons | apply List.Sublist.cons)) ?_
      rintro _ _ ⟨b12, rfl, rfl⟩
      refine TD.take 2 rfl (by kernel_rfl) (by kernel_rfl) (by kernel_rfl) (fun _ _ _ h => h) (by repeat first | exact List.Sublist.refl _ | apply List.Sublist.cons_cons | apply List.Sublist.cons) (YF.assign rfl) (by decide) ?_
      refine TD.eff 1 rfl (by kernel_rfl) (EF.makeSlice (m := 576) sl_54 bytes_60 rfl rfl rfl rfl (by decide) (by decide) zero_60 rfl) (by decide) (by rintro _ _ ⟨_, rfl, rfl⟩; exact (by repeat first | exact List.Sublist.refl _ | apply List.Sublist.cons_cons | apply List.Sublist.cons)) ?_
      rintro _ _ ⟨b13, rfl, rfl⟩
      refine TD.take 3 rfl (by kernel_rfl) (by kernel_rfl) (by kernel_rfl) (fun _ _ _ h => h) (by repeat first | exact List.Sublist.refl _ | apply List.Sublist.cons_cons | apply List.Sublist.cons) (YF.assign rfl) (by decide) ?_
      refine TD.end (by kernel_rfl) ?_
      refine Arr.meet ?_
      first
        | (intro a w ha hw
           refine ⟨b12, b13, (ha.cons rfl (ha.cons rfl (ha.cons rfl (ha.cons rfl (ha.cons rfl (ha.cons rfl (ha.cons rfl (ha.nil)))))))), hw.mono ?_⟩
           (repeat first | exact List.Sublist.refl _ | apply List.Sublist.cons_cons | apply List.Sublist.cons)
           done)
        | (intro a w ha hw
           refine ⟨b12, b13, (ha.cons rfl (ha.cons rfl (ha.cons rfl (ha.cons rfl (ha.cons rfl (ha.cons rfl (ha.cons rfl (ha.nil)))))))), (hw.mono (G := (b12, .cells (Array.replicate 576 (.float .f64 0)) 60 (0, 0)) :: (b13, .cells (Array.replicate 576 (.float .f64 0)) 60 (0, 0)) :: (b5, .cells (va 86 (sd s)) 36 (0, 0)) :: H) ?_).perm (List.Perm.swap _ _ _)⟩
           (repeat first | exact List.Sublist.refl _ | apply List.Sublist.cons_cons | apply List.Sublist.cons)
           done)
    ·
      refine TO.eff 1 rfl (EF.makeSlice (m := 576) sl_54 bytes_60 rfl rfl rfl rfl (by decide) (by decide) zero_60 rfl) (by decide) (by rintro _ _ ⟨_, rfl, rfl⟩; exact (by repeat first | exact List.Sublist.refl _ | apply List.Sublist.cons_cons | apply List.Sublist.cons)) ?_
      rintro _ _ ⟨b13, rfl, rfl⟩
      refine TD.eff 0 rfl (by kernel_rfl) (EF.makeSlice (m := 576) sl_54 bytes_60 rfl rfl rfl rfl (by decide) (by decide) zero_60 rfl) (by decide) (by rintro _ _ ⟨_, rfl, rfl⟩; exact (by repeat first | exact List.Sublist.refl _ | apply List.Sublist.cons_cons | apply List.Sublist.cons)) ?_
      rintro _ _ ⟨b12, rfl, rfl⟩
      refine TD.take 2 rfl (by kernel_rfl) (by kernel_rfl) (by kernel_rfl) (fun _ _ _ h => h) (by repeat first | exact List.Sublist.refl _ | apply List.Sublist.cons_cons | apply List.Sublist.cons) (YF.assign rfl) (by decide) ?_
      refine TD.take 3 rfl (by kernel_rfl) (by kernel_rfl) (by kernel_rfl) (fun _ _ _ h => h) (by repeat first | exact List.Sublist.refl _ | apply List.Sublist.cons_cons | apply List.Sublist.cons) (YF.assign rfl) (by decide) ?_
      refine TD.end (by kernel_rfl) ?_
      refine Arr.meet ?_
      first
        | (intro a w ha hw
           refine ⟨b12, b13, (ha.cons rfl (ha.cons rfl (ha.cons rfl (ha.cons rfl (ha.cons rfl (ha.cons rfl (ha.cons rfl (ha.nil)))))))), hw.mono ?_⟩
           (repeat first | exact List.Sublist.refl _ | apply List.Sublist.cons_cons | apply List.Sublist.cons)
           done)
        | (intro a w ha hw
           refine ⟨b12, b13, (ha.cons rfl (ha.cons rfl (ha.cons rfl (ha.cons rfl (ha.cons rfl (ha.cons rfl (ha.cons rfl (ha.nil)))))))), (hw.mono (G := (b12, .cells (Array.replicate 576 (.float .f64 0)) 60 (0, 0)) :: (b13, .cells (Array.replicate 576 (.float .f64 0)) 60 (0, 0)) :: (b5, .cells (va 86 (sd s)) 36 (0, 0)) :: H) ?_).perm (List.Perm.swap _ _ _)⟩
           (repeat first | exact List.Sublist.refl _ | apply List.Sublist.cons_cons | apply List.Sublist.cons)
           done)
  rintro a w ⟨b12, b13, ha, hw⟩
  rw [va_replicate] at hw
  refine Arr.use ha (show HS w0 ((b13, .cells (va 576 (fl .f64 fun _ => 0)) 60 (0, 0)) :: (b12, .cells (va 576 (fl .f64 fun _ => 0)) 60 (0, 0)) :: (b5, .cells (va 86 (sd s)) 36 (0, 0)) :: H) w from hw) ?_
  refine Arr.seq ?_
  refine Tr.seq ?_
  refine Tr.seq ?_
  refine Tr.region ?_
  refine TL.val (YF.move rfl) (by decide) ?_
  refine TL.end ?_
  refine Arr.seq ?_
  refine Tr.block ?_
  refine Tr.loop (I := fun mq a w => ∃ (t : Nat) (y : Nat → Nat) (k : Nat → Nat), mq = 32 - t ∧ (t ≤ 32) ∧ (HY double (HE G K) (fun q => Yq s g c X q + S q) (Nq s g c X) (fun _ => 0) (fun _ => 0) (18 * t) y k) ∧ Agree 71 [(1, .int .i64 g), (2, .int .i64 c), (3, .slice (some ⟨bx, 0, none⟩) 576 576), (4, .slice (some ⟨by', 0, none⟩) 576 576), (5, .pointer (some ⟨b5, 0, none⟩)), (12, .slice (some ⟨b12, 0, none⟩) 576 576), (13, .slice (some ⟨b13, 0, none⟩) 576 576), (19, .int .i64 t)] a ∧ HS w0 ((b13, .cells (va 576 (fl .f64 k)) 60 (0, 0)) :: (b12, .cells (va 576 (fl .f64 y)) 60 (0, 0)) :: (b5, .cells (va 86 (sd s)) 36 (0, 0)) :: H) w) (32) ?_ ?_
  · intro a w ha hw
    exact ⟨0, fun _ => 0, fun _ => 0, rfl, by omega, HY.zero, (ha.cons rfl (ha.cons rfl (ha.cons rfl (ha.cons rfl (ha.cons rfl (ha.cons rfl (ha.cons rfl (ha.cons rfl (ha.nil))))))))), hw⟩
  rintro _ a w ⟨t, y, k, rfl, ht, hH, ha, hw⟩
  refine Tr.use ha hw ?_
  refine Tr.seq ?_
  refine Tr.region ?_
  refine TL.val (YF.lss rfl rfl rfl) (by decide) ?_
  refine TL.end ?_
  refine Arr.seq ?_
  refine Tr.seq ?_
  refine Tr.cond rfl (fun h20 => ?_) (fun h20 => ?_)
  ·
    replace h20 := of_decide_eq_true h20
    refine Tr.skipE ?_
    refine Arr.seq ?_
    refine Tr.seq ?_
    refine Tr.block ?_
    refine Tr.seq ?_
    refine Tr.region ?_
    refine TL.val (YF.move rfl) (by decide) ?_
    refine TL.val (YF.assign rfl) (by decide) ?_
    refine TL.end ?_
    refine Arr.seq ?_
    refine Tr.seq ?_
    refine Tr.drawE (_ :: _ :: _ :: _) (fun H => H) rfl mixed_ ?_
    refine TD.take 0 rfl (by kernel_rfl) (by kernel_rfl) (by kernel_rfl) (fun _ _ _ h => h) (by repeat first | exact List.Sublist.refl _ | apply List.Sublist.cons_cons | apply List.Sublist.cons) (YF.move rfl) (by decide) ?_
    refine TD.take 1 rfl (by kernel_rfl) (by kernel_rfl) (by kernel_rfl) (fun _ _ _ h => h) (by repeat first | exact List.Sublist.refl _ | apply List.Sublist.cons_cons | apply List.Sublist.cons) (YF.move rfl) (by decide) ?_
    refine TD.take 2 rfl (by kernel_rfl) (by kernel_rfl) (by kernel_rfl) (fun _ _ _ h => h) (by repeat first | exact List.Sublist.refl _ | apply List.Sublist.cons_cons | apply List.Sublist.cons) (YF.mul rfl rfl (IntWalk.i64_in _ (by omega))) (by decide) ?_
    refine TD.take 3 rfl (by kernel_rfl) (by kernel_rfl) (by kernel_rfl) (fun _ _ _ h => h) (by repeat first | exact List.Sublist.refl _ | apply List.Sublist.cons_cons | apply List.Sublist.cons) (YF.move rfl) (by decide) ?_
    refine TD.take 4 rfl (by kernel_rfl) (by kernel_rfl) (by kernel_rfl) (fun _ _ _ h => h) (by repeat first | exact List.Sublist.refl _ | apply List.Sublist.cons_cons | apply List.Sublist.cons) (YF.mul rfl rfl (IntWalk.i64_in _ (by omega))) (by decide) ?_
    refine TD.take 5 rfl (by kernel_rfl) (by kernel_rfl) (by kernel_rfl) (fun _ _ _ h => h) (by repeat first | exact List.Sublist.refl _ | apply List.Sublist.cons_cons | apply List.Sublist.cons) (YF.add rfl rfl (IntWalk.i64_in _ (by omega))) (by decide) ?_
    refine TD.take 6 rfl (by kernel_rfl) (by kernel_rfl) (by kernel_rfl) (fun _ _ _ h => h) (by repeat first | exact List.Sublist.refl _ | apply List.Sublist.cons_cons | apply List.Sublist.cons) (YF.sliceN (l := 18 * t) (h' := 18 * t + 18) (q := 18 * t) (m := 18) (c := 576 - 18 * t) sl_54 rfl rfl rfl (by omega) (by omega) (by omega) (by omega) (by omega) rfl) (by decide) ?_
    refine TD.take 7 rfl (by kernel_rfl) (by kernel_rfl) (by kernel_rfl) (fun _ _ _ h => h) (by repeat first | exact List.Sublist.refl _ | apply List.Sublist.cons_cons | apply List.Sublist.cons) (YF.loadAll 2 agg_36 rfl rfl (va_size _ _)) (by decide) ?_
    refine TD.take 8 rfl (by kernel_rfl) (by kernel_rfl) (by kernel_rfl) (fun _ _ _ h => h) (by repeat first | exact List.Sublist.refl _ | apply List.Sublist.cons_cons | apply List.Sublist.cons) (YF.move rfl) (by decide) ?_
    refine TD.take 9 rfl (by kernel_rfl) (by kernel_rfl) (by kernel_rfl) (fun _ _ _ h => h) (by repeat first | exact List.Sublist.refl _ | apply List.Sublist.cons_cons | apply List.Sublist.cons) (YF.move rfl) (by decide) ?_
    refine TD.take 10 rfl (by kernel_rfl) (by kernel_rfl) (by kernel_rfl) (fun _ _ _ h => h) (by repeat first | exact List.Sublist.refl _ | apply List.Sublist.cons_cons | apply List.Sublist.cons) (YF.move rfl) (by decide) ?_
    refine TD.eff 11 rfl (by kernel_rfl) (EF.call (vs := [_, _, _, _]) call_34 rfl (blockOf_ct s g c t hg hc w0 _ hsw hbk hsb)) (by decide) (by rintro _ _ ⟨rfl, rfl⟩; exact (by repeat first | exact List.Sublist.refl _ | apply List.Sublist.cons_cons | apply List.Sublist.cons)) ?_
    rintro _ _ ⟨rfl, rfl⟩
    refine TD.eff 12 rfl (by kernel_rfl) (EF.call (vs := [_, _]) call_33 rfl (turned_ct (fun q => m (18 * t + q)) (fun q => X (18 * t + q)) G (i + 3) bx (18 * t) (576 - 18 * t) (btOf s g c t) _ _ _ w0 _ hi (fun q hq => va_get (by omega) rfl) (btOf_lt hbk) hG0 hG (fun q hq => hm (18 * t + q) (by omega)) hsn hcn)) (by decide) (by rintro _ _ ⟨bo, o, rfl, ho, rfl⟩; exact (by repeat first | exact List.Sublist.refl _ | apply List.Sublist.cons_cons | apply List.Sublist.cons)) ?_
    rintro _ _ ⟨bo, o, rfl, ho, rfl⟩
    refine TD.take 13 rfl (by kernel_rfl) (by kernel_rfl) (by kernel_rfl) (fun _ _ _ h => h) (by repeat first | exact List.Sublist.refl _ | apply List.Sublist.cons_cons | apply List.Sublist.cons) (YF.assign rfl) (by decide) ?_
    refine TD.end (by kernel_rfl) ?_
    refine Arr.seq ?_
    refine Tr.seq ?_
    refine Tr.region ?_
    refine TL.val (YF.move rfl) (by decide) ?_
    refine TL.end ?_
    refine Arr.seq ?_
    refine Tr.block ?_
    refine Tr.loop (I := fun mq a w => ∃ (v : Nat) (y : Nat → Nat) (k : Nat → Nat), mq = 18 - v ∧ (v ≤ 18) ∧ (HY double (HE G K) (fun q => Yq s g c X q + S q) (Nq s g c X) (fun _ => 0) (fun _ => 0) (18 * t + v) y k) ∧ Agree 71 [(1, .int .i64 g), (2, .int .i64 c), (3, .slice (some ⟨bx, 0, none⟩) 576 576), (4, .slice (some ⟨by', 0, none⟩) 576 576), (5, .pointer (some ⟨b5, 0, none⟩)), (12, .slice (some ⟨b12, 0, none⟩) 576 576), (13, .slice (some ⟨b13, 0, none⟩) 576 576), (14, .int .i64 t), (15, .slice (some ⟨bo, 0, none⟩) 36 36), (19, .int .i64 t), (35, .int .i64 v)] a ∧ HS w0 ((bo, .cells (va 36 (fl .f64 o)) 60 (0, 0)) :: (b13, .cells (va 576 (fl .f64 k)) 60 (0, 0)) :: (b12, .cells (va 576 (fl .f64 y)) 60 (0, 0)) :: (b5, .cells (va 86 (sd s)) 36 (0, 0)) :: H) w) (18) ?_ ?_
    · intro a w ha hw
      exact ⟨0, y, k, rfl, by omega, hH, (ha.cons rfl (ha.cons rfl (ha.cons rfl (ha.cons rfl (ha.cons rfl (ha.cons rfl (ha.cons rfl (ha.cons rfl (ha.cons rfl (ha.cons rfl (ha.cons rfl (ha.nil)))))))))))), hw⟩
    rintro _ a w ⟨v, y, k, rfl, hv, hH, ha, hw⟩
    refine Tr.use ha hw ?_
    refine Tr.seq ?_
    refine Tr.region ?_
    refine TL.val (YF.lss rfl rfl rfl) (by decide) ?_
    refine TL.end ?_
    refine Arr.seq ?_
    refine Tr.seq ?_
    refine Tr.cond rfl (fun h36 => ?_) (fun h36 => ?_)
    ·
      replace h36 := of_decide_eq_true h36
      refine Tr.skipE ?_
      refine Arr.seq ?_
      refine Tr.seq ?_
      refine Tr.block ?_
      refine Tr.seq ?_
      refine Tr.region ?_
      refine TL.val (YF.move rfl) (by decide) ?_
      refine TL.val (YF.assign rfl) (by decide) ?_
      refine TL.end ?_
      refine Arr.seq ?_
      refine Tr.seq ?_
      obtain ⟨r, g1, hr⟩ := lay_step two_double (st := n (18 * t + v)) (S := S (18 * t + v)) hG0 hG hK0 hK (Yw_le (btOf_lt hbk) (show v < 36 by omega) hG0 fun q hq => (hm (18 * t + q) (by omega)).2.2) (ho v (by omega)) (hn (18 * t + v) (by omega)).1 (hn (18 * t + v) (by omega)).2.1 (hn (18 * t + v) (by omega)).2.2
      refine Tr.drawE (_ :: _ :: _ :: _) (fun H => (H.eraseIdx 2)) rfl mixed_ ?_
      refine TD.take 0 rfl (by kernel_rfl) (by kernel_rfl) (by kernel_rfl) (fun _ _ _ h => h) (by repeat first | exact List.Sublist.refl _ | apply List.Sublist.cons_cons | apply List.Sublist.cons) (YF.move rfl) (by decide) ?_
      refine TD.take 1 rfl (by kernel_rfl) (by kernel_rfl) (by kernel_rfl) (fun _ _ _ h => h) (by repeat first | exact List.Sublist.refl _ | apply List.Sublist.cons_cons | apply List.Sublist.cons) (YF.move rfl) (by decide) ?_
      refine TD.take 2 rfl (by kernel_rfl) (by kernel_rfl) (by kernel_rfl) (fun _ _ _ h => h) (by repeat first | exact List.Sublist.refl _ | apply List.Sublist.cons_cons | apply List.Sublist.cons) (YF.mul rfl rfl (IntWalk.i64_in _ (by omega))) (by decide) ?_
      refine TD.take 3 rfl (by kernel_rfl) (by kernel_rfl) (by kernel_rfl) (fun _ _ _ h => h) (by repeat first | exact List.Sublist.refl _ | apply List.Sublist.cons_cons | apply List.Sublist.cons) (YF.move rfl) (by decide) ?_
      refine TD.take 4 rfl (by kernel_rfl) (by kernel_rfl) (by kernel_rfl) (fun _ _ _ h => h) (by repeat first | exact List.Sublist.refl _ | apply List.Sublist.cons_cons | apply List.Sublist.cons) (YF.add rfl rfl (IntWalk.i64_in _ (by omega))) (by decide) ?_
      refine TD.take 5 rfl (by kernel_rfl) (by kernel_rfl) (by kernel_rfl) (fun _ _ _ h => h) (by repeat first | exact List.Sublist.refl _ | apply List.Sublist.cons_cons | apply List.Sublist.cons) (YF.move rfl) (by decide) ?_
      refine TD.take 6 rfl (by kernel_rfl) (by kernel_rfl) (by kernel_rfl) (fun _ _ _ h => h) (by repeat first | exact List.Sublist.refl _ | apply List.Sublist.cons_cons | apply List.Sublist.cons) (YF.move rfl) (by decide) ?_
      refine TD.take 7 rfl (by kernel_rfl) (by kernel_rfl) (by kernel_rfl) (fun _ _ _ h => h) (by repeat first | exact List.Sublist.refl _ | apply List.Sublist.cons_cons | apply List.Sublist.cons) (YF.indexSl sl_54 rfl rfl (by first | decide | omega) (show _ = v by omega)) (by decide) ?_
      refine TD.take 8 rfl (by kernel_rfl) (by kernel_rfl) (by kernel_rfl) (fun _ _ _ h => h) (by repeat first | exact List.Sublist.refl _ | apply List.Sublist.cons_cons | apply List.Sublist.cons) (YF.load (v := .float .f64 (o v)) 0 sc_60 rfl rfl (va_get (by omega) rfl)) (by decide) ?_
      refine TD.take 9 rfl (by kernel_rfl) (by kernel_rfl) (by kernel_rfl) (fun _ _ _ h => h) (by repeat first | exact List.Sublist.refl _ | apply List.Sublist.cons_cons | apply List.Sublist.cons) (YF.move rfl) (by decide) ?_
      refine TD.take 10 rfl (by kernel_rfl) (by kernel_rfl) (by kernel_rfl) (fun _ _ _ h => h) (by repeat first | exact List.Sublist.refl _ | apply List.Sublist.cons_cons | apply List.Sublist.cons) (YF.move rfl) (by decide) ?_
      refine TD.take 11 rfl (by kernel_rfl) (by kernel_rfl) (by kernel_rfl) (fun _ _ _ h => h) (by repeat first | exact List.Sublist.refl _ | apply List.Sublist.cons_cons | apply List.Sublist.cons) (YF.mul rfl rfl (IntWalk.i64_in _ (by omega))) (by decide) ?_
      refine TD.take 12 rfl (by kernel_rfl) (by kernel_rfl) (by kernel_rfl) (fun _ _ _ h => h) (by repeat first | exact List.Sublist.refl _ | apply List.Sublist.cons_cons | apply List.Sublist.cons) (YF.move rfl) (by decide) ?_
      refine TD.take 13 rfl (by kernel_rfl) (by kernel_rfl) (by kernel_rfl) (fun _ _ _ h => h) (by repeat first | exact List.Sublist.refl _ | apply List.Sublist.cons_cons | apply List.Sublist.cons) (YF.add rfl rfl (IntWalk.i64_in _ (by omega))) (by decide) ?_
      refine TD.take 14 rfl (by kernel_rfl) (by kernel_rfl) (by kernel_rfl) (fun _ _ _ h => h) (by repeat first | exact List.Sublist.refl _ | apply List.Sublist.cons_cons | apply List.Sublist.cons) (YF.indexSl sl_54 rfl rfl (by first | decide | omega) (show _ = 18 * t + v by omega)) (by decide) ?_
      refine TD.take 15 rfl (by kernel_rfl) (by kernel_rfl) (by kernel_rfl) (fun _ _ _ h => h) (by repeat first | exact List.Sublist.refl _ | apply List.Sublist.cons_cons | apply List.Sublist.cons) (YF.load (v := .float .f64 (n (18 * t + v))) (i' + 3) sc_60 rfl hi' (va_get (by omega) rfl)) (by decide) ?_
      refine TD.take 16 rfl (by kernel_rfl) (by kernel_rfl) (by kernel_rfl) (fun _ _ _ h => h) (by repeat first | exact List.Sublist.refl _ | apply List.Sublist.cons_cons | apply List.Sublist.cons) (YF.farith rfl rfl g1) (by decide) ?_
      refine TD.take 17 rfl (by kernel_rfl) (by kernel_rfl) (by kernel_rfl) (fun _ _ _ h => h) (by repeat first | exact List.Sublist.refl _ | apply List.Sublist.cons_cons | apply List.Sublist.cons) (YF.indexSl sl_54 rfl rfl (by first | decide | omega) (show _ = 18 * t + v by omega)) (by decide) ?_
      refine TD.eff0 18 rfl (by kernel_rfl) (EF.store 2 rfl rfl rfl sz_60 rfl (by rw [va_size]; omega)) (by rintro _ _ ⟨rfl, rfl⟩; exact (by repeat first | exact List.Sublist.refl _ | apply List.Sublist.cons_cons | apply List.Sublist.cons)) ?_
      rintro _ _ ⟨rfl, rfl⟩
      refine TD.heap (_ :: _ :: (b12, .cells (va 576 (fl .f64 (upd y (18 * t + v) r))) 60 (0, 0)) :: _) (by rw [← fl_set]; rfl) ?_
      refine TD.end (by kernel_rfl) ?_
      refine Arr.seq ?_
      refine Tr.region ?_
      refine TL.val (YF.move rfl) (by decide) ?_
      refine TL.val (YF.move rfl) (by decide) ?_
      refine TL.val (YF.mul rfl rfl (IntWalk.i64_in _ (by omega))) (by decide) ?_
      refine TL.val (YF.move rfl) (by decide) ?_
      refine TL.val (YF.add rfl rfl (IntWalk.i64_in _ (by omega))) (by decide) ?_
      refine TL.val (YF.move rfl) (by decide) ?_
      refine TL.val (YF.move rfl) (by decide) ?_
      refine TL.val (YF.add rfl rfl (IntWalk.i64_in _ (by omega))) (by decide) ?_
      refine TL.val (YF.indexSl sl_54 rfl rfl (by first | decide | omega) (show _ = 18 + v by omega)) (by decide) ?_
      refine TL.val (YF.load (v := .float .f64 (o (18 + v))) 0 sc_60 rfl rfl (va_get (by omega) rfl)) (by decide) ?_
      refine TL.val (YF.indexSl sl_54 rfl rfl (by first | decide | omega) (show _ = 18 * t + v by omega)) (by decide) ?_
      refine TL.storeV 1 (_ :: _ :: _ :: _ :: _) rfl rfl rfl sz_60 rfl (by rw [va_size]; omega) fl_set rfl ?_
      refine TL.end ?_
      refine Arr.block ?_
      refine Arr.seq ?_
      refine Tr.region ?_
      refine TL.val (YF.add rfl rfl (IntWalk.i64_in _ (by omega))) (by decide) ?_
      refine TL.val (YF.move rfl) (by decide) ?_
      refine TL.end ?_
      exact fun a w ha hw => ⟨_, by omega, v + 1, upd y (18 * t + v) r, upd k (18 * t + v) (o (18 + v)), rfl, by omega, hH.step (by (try dsimp only); rw [Yq_at (by omega)]; exact hr) (by rw [Nq_at (by omega)]; exact keep_step hG0 hK0 (ho (18 + v) (by omega))), (ha.cons rfl (ha.cons rfl (ha.cons rfl (ha.cons rfl (ha.cons rfl (ha.cons rfl (ha.cons rfl (ha.cons rfl (ha.cons rfl (ha.cons rfl (ha.cons rfl (ha.nil)))))))))))), hw⟩
    ·
      replace h36 := of_decide_eq_false h36
      refine Tr.exitE ?_
      refine Arr.seqX ?_
      refine Arr.seqX ?_
      refine Arr.blockE ?_
      refine Arr.block ?_
      refine Arr.seq ?_
      refine Tr.region ?_
      refine TL.val (YF.add rfl rfl (IntWalk.i64_in _ (by omega))) (by decide) ?_
      refine TL.val (YF.move rfl) (by decide) ?_
      refine TL.end ?_
      exact fun a w ha hw => ⟨_, by omega, t + 1, y, k, rfl, by omega, (by have e : v = 18 := (by omega); subst e; exact hH), (ha.cons rfl (ha.cons rfl (ha.cons rfl (ha.cons rfl (ha.cons rfl (ha.cons rfl (ha.cons rfl (ha.cons rfl (ha.nil))))))))), hw.mono (by repeat first | exact List.Sublist.refl _ | apply List.Sublist.cons)⟩
  ·
    replace h20 := of_decide_eq_false h20
    refine Tr.exitE ?_
    refine Arr.seqX ?_
    refine Arr.seqX ?_
    refine Arr.blockE ?_
    refine Arr.seq ?_
    refine Tr.seq ?_
    refine Tr.region ?_
    refine TL.val (YF.move rfl) (by decide) ?_
    refine TL.val (YF.move rfl) (by decide) ?_
    refine TL.val (YF.assign rfl) (by decide) ?_
    refine TL.val (YF.assign rfl) (by decide) ?_
    refine TL.end ?_
    refine Arr.seq ?_
    refine Tr.retE ?_
    have e : t = 32 := by omega
    subst e
    refine Ends.sub (G := (b13, .cells (va 576 (fl .f64 k)) 60 (0, 0)) :: (b12, .cells (va 576 (fl .f64 y)) 60 (0, 0)) :: H) ?_ (Ends.tmp2 rfl rfl rfl ⟨b12, b13, y, k, hH, rfl, rfl⟩)
    exact (by repeat first | exact List.Sublist.refl _ | apply List.Sublist.cons_cons | apply List.Sublist.cons)

end Go.Proofs.YtbcjhkncifckiaaDoor
