/- The walks of small functions. -/
import Derived.Test.YtbcjhkncifckiaaDoorTy
import Derived.Test.YtbcjhkncifckiaaDoorFr
namespace Go.Proofs.YtbcjhkncifckiaaDoor
open Go Go.RowKit Go.Proofs En

theorem few_ct (an av : Option Addr) (ln cn lv cv : Nat) (w0 : World) (H : Hp) : Ct Tryd.prog 7 #[.slice an ln cn, .slice av lv cv] w0 (H) (fun v H' => v = .bool (decide (ln ≤ 100) && decide (lv ≤ 1000)) ∧ H' = H) := by
  refine Ct.of_body (n := 13) (E := [(0, _), (1, _)]) Tryd.func7 rfl rfl rfl rfl ?_
  refine Tr.seq ?_
  refine Tr.region ?_
  refine TL.val (YF.assign rfl) (by decide) ?_
  refine TL.end ?_
  refine Arr.seq ?_
  refine Tr.seq ?_
  refine Tr.region ?_
  refine TL.val (YF.move rfl) (by decide) ?_
  refine TL.val (YF.lenSl sl_23 rfl) (by decide) ?_
  by_cases hc : ln ≤ 100
  ·
    refine TL.val (YF.leq (b := true) rfl rfl (decide_eq_true (by omega))) (by decide) ?_
    refine TL.val (YF.move rfl) (by decide) ?_
    first
      | refine TL.gno rfl (by decide) ?_
      | refine TL.gval rfl (YF.move rfl) (by decide) ?_
    first
      | refine TL.gno rfl (by decide) ?_
      | refine TL.gval rfl (YF.lenSl sl_24 rfl) (by decide) ?_
    first
      | refine TL.gno rfl (by decide) ?_
      | refine TL.gval rfl (YF.leq rfl rfl rfl) (by decide) ?_
    first
      | refine TL.val (YF.pickT rfl rfl) (by decide) ?_
      | refine TL.val (YF.pickF rfl rfl) (by decide) ?_
      | refine TL.val (YF.pick rfl rfl rfl rfl) (by decide) ?_
    refine TL.val (YF.assign rfl) (by decide) ?_
    refine TL.end ?_
    refine Arr.seq ?_
    refine Tr.retE ?_
    exact Ends.tmp rfl rfl ⟨by simp [hc] <;> omega, rfl⟩
  ·
    refine TL.val (YF.leq (b := false) rfl rfl (decide_eq_false (by omega))) (by decide) ?_
    refine TL.val (YF.move rfl) (by decide) ?_
    first
      | refine TL.gno rfl (by decide) ?_
      | refine TL.gval rfl (YF.move rfl) (by decide) ?_
    first
      | refine TL.gno rfl (by decide) ?_
      | refine TL.gval rfl (YF.lenSl sl_24 rfl) (by decide) ?_
    first
      | refine TL.gno rfl (by decide) ?_
      | refine TL.gval rfl (YF.leq rfl rfl rfl) (by decide) ?_
    first
      | refine TL.val (YF.pickT rfl rfl) (by decide) ?_
      | refine TL.val (YF.pickF rfl rfl) (by decide) ?_
      | refine TL.val (YF.pick rfl rfl rfl rfl) (by decide) ?_
    refine TL.val (YF.assign rfl) (by decide) ?_
    refine TL.end ?_
    refine Arr.seq ?_
    refine Tr.retE ?_
    exact Ends.tmp rfl rfl ⟨by simp [hc] <;> omega, rfl⟩

theorem channels_ct (h : Nat → Int) (w0 : World) (H : Hp) : Ct Tryd.prog 10 #[.agg (va 7 (sd h))] w0 (H) (fun v H' => v = .int .i64 (if h 3 = 3 then 1 else 2) ∧ H' = H) := by
  refine Ct.of_body (n := 6) (E := [(0, _)]) Tryd.func10 rfl rfl rfl rfl ?_
  refine Tr.seq ?_
  refine Tr.region ?_
  refine TL.box rfl (by decide) (fun b => ?_)
  refine TL.val (YF.assign rfl) (by decide) ?_
  refine TL.end ?_
  refine Arr.seq ?_
  refine Tr.seq ?_
  refine Tr.seq ?_
  refine Tr.region ?_
  refine TL.val (YF.fieldAddr fo_27_3 rfl rfl) (by decide) ?_
  refine TL.val (YF.load (v := .int .i64 (h 3)) 0 sc_3 rfl rfl (va_get (by decide) rfl)) (by decide) ?_
  refine TL.val (YF.eql rfl rfl rfl) (by decide) ?_
  refine TL.end ?_
  refine Arr.seq ?_
  refine Tr.cond rfl (fun h5 => ?_) (fun h5 => ?_)
  ·
    replace h5 := of_decide_eq_true h5
    refine Tr.seq ?_
    refine Tr.region ?_
    refine TL.val (YF.assign rfl) (by decide) ?_
    refine TL.end ?_
    refine Arr.seq ?_
    refine Tr.retE ?_
    refine Arr.seqR ?_
    exact Ends.sub ((List.Sublist.refl _).cons _) (Ends.tmp rfl rfl ⟨by simp [h5], rfl⟩)
  ·
    replace h5 := of_decide_eq_false h5
    refine Tr.skipE ?_
    refine Arr.seq ?_
    refine Tr.seq ?_
    refine Tr.region ?_
    refine TL.val (YF.assign rfl) (by decide) ?_
    refine TL.end ?_
    refine Arr.seq ?_
    refine Tr.retE ?_
    exact Ends.sub ((List.Sublist.refl _).cons _) (Ends.tmp rfl rfl ⟨by simp [h5], rfl⟩)

/-- What headOf gives. -/
structure HdOK (h : Nat → Int) : Prop where
  b : 9 ≤ h 0 ∧ h 0 ≤ 14
  r : 0 ≤ h 1 ∧ h 1 ≤ 2
  p : 0 ≤ h 2 ∧ h 2 ≤ 1
  m : h 3 = 0 ∨ h 3 = 1 ∨ h 3 = 3
  j : h 4 = 0 ∨ h 4 = 2 ∧ h 3 = 1
  pr : 0 ≤ h 5 ∧ h 5 ≤ 1
  mks : 0 ≤ h 6 ∧ h 6 ≤ 15
theorem idx4 (i : Int) (h : 0 ≤ i ∧ i ≤ 3) (a b c d : Int) : ∃ x, (#[Value.int .i64 a, .int .i64 b, .int .i64 c, .int .i64 d] : Array Value)[i.toNat]? = some (.int .i64 x) ∧ (i = 0 ∧ x = a ∨ i = 1 ∧ x = b ∨ i = 2 ∧ x = c ∨ i = 3 ∧ x = d) := by
  rcases (show i = 0 ∨ i = 1 ∨ i = 2 ∨ i = 3 by omega) with rfl | rfl | rfl | rfl
  · exact ⟨a, rfl, by simp⟩
  · exact ⟨b, rfl, by simp⟩
  · exact ⟨c, rfl, by simp⟩
  · exact ⟨d, rfl, by simp⟩
theorem idx3 (i : Int) (h : 0 ≤ i ∧ i ≤ 2) (a b c : Int) : ∃ x, (#[Value.int .i64 a, .int .i64 b, .int .i64 c] : Array Value)[i.toNat]? = some (.int .i64 x) ∧ (i = 0 ∧ x = a ∨ i = 1 ∧ x = b ∨ i = 2 ∧ x = c) := by
  rcases (show i = 0 ∨ i = 1 ∨ i = 2 by omega) with rfl | rfl | rfl
  · exact ⟨a, rfl, by simp⟩
  · exact ⟨b, rfl, by simp⟩
  · exact ⟨c, rfl, by simp⟩

theorem headOf_ct (n : Int) (w0 : World) (H : Hp) (hn : 0 ≤ n ∧ n ≤ 4294967295) : Ct Tryd.prog 9 #[.int .u32 n] w0 (H) (fun v H' => ∃ h, v = .agg (va 7 (sd h)) ∧ HdOK h ∧ H' = H) := by
  refine Ct.of_body (n := 46) (E := [(0, _)]) Tryd.func9 rfl rfl rfl rfl ?_
  refine Tr.seq ?_
  refine Tr.region ?_
  refine TL.allocA zero_27 (by decide) (fun b => ?_)
  refine TL.end ?_
  refine Arr.seq ?_
  refine Tr.seq ?_
  refine Tr.region ?_
  refine TL.val (YF.move rfl) (by decide) ?_
  refine TL.val (YF.rem rfl rfl (by omega) (IntWalk.rem_in _ _ (by omega))) (by decide) ?_
  refine TL.val (YF.conv und_22 und_3 rfl (IntWalk.i64_in _ (by omega))) (by decide) ?_
  refine TL.val (YF.add rfl rfl (IntWalk.i64_in _ (by omega))) (by decide) ?_
  refine TL.val (YF.move rfl) (by decide) ?_
  refine TL.val (YF.shr rfl rfl (by decide) (shrv (p := 8) 3 rfl (by decide) (by decide))) (by decide) ?_
  refine TL.val (YF.rem rfl rfl (by omega) (IntWalk.rem_in _ _ (by omega))) (by decide) ?_
  refine TL.val (YF.conv und_22 und_3 rfl (IntWalk.i64_in _ (by omega))) (by decide) ?_
  refine TL.val (YF.move rfl) (by decide) ?_
  refine TL.val (YF.shr rfl rfl (by decide) (shrv (p := 32) 5 rfl (by decide) (by decide))) (by decide) ?_
  refine TL.val (YF.band rfl rfl (u32_mask0 (q := 2) 1 1 (by decide) (by decide) (by decide) (by omega) (by omega))) (by decide) ?_
  refine TL.val (YF.conv und_22 und_3 rfl (IntWalk.i64_in _ (by omega))) (by decide) ?_
  refine TL.val (YF.move rfl) (by decide) ?_
  refine TL.val (YF.shr rfl rfl (by decide) (shrv (p := 64) 6 rfl (by decide) (by decide))) (by decide) ?_
  refine TL.val (YF.band rfl rfl (u32_mask0 (q := 2) 1 1 (by decide) (by decide) (by decide) (by omega) (by omega))) (by decide) ?_
  refine TL.val (YF.conv und_22 und_3 rfl (IntWalk.i64_in _ (by omega))) (by decide) ?_
  refine TL.val (YF.move rfl) (by decide) ?_
  refine TL.val (YF.shr rfl rfl (by decide) (shrv (p := 128) 7 rfl (by decide) (by decide))) (by decide) ?_
  refine TL.val (YF.band rfl rfl (u32_mask0 (q := 4) 2 3 (by decide) (by decide) (by decide) (by omega) (by omega))) (by decide) ?_
  refine TL.val (YF.conv und_22 und_3 rfl (IntWalk.i64_in _ (by omega))) (by decide) ?_
  refine TL.val (YF.shl rfl rfl (by decide) (shlv (p := 4) 2 rfl (by decide) (by decide) (IntWalk.i64_in _ (by omega)))) (by decide) ?_
  refine TL.buildSlice (vs := [(0, (.int .i64 0)), (1, (.int .i64 1)), (2, (.int .i64 3))]) (cs := #[.int .i64 0, .int .i64 1, .int .i64 3]) sl_78 zero_3 rfl rfl (by kernel_rfl) rfl (by decide) (fun b => ?_)
  refine TL.val (YF.move rfl) (by decide) ?_
  refine TL.val (YF.shr rfl rfl (by decide) (shrv (p := 512) 9 rfl (by decide) (by decide))) (by decide) ?_
  refine TL.val (YF.rem rfl rfl (by omega) (IntWalk.rem_in _ _ (by omega))) (by decide) ?_
  refine TL.val (YF.indexSl sl_78 rfl rfl (by omega) (by rw [Nat.zero_add, Nat.mul_one])) (by decide) ?_
  obtain ⟨mk, hmk, hmk'⟩ := idx3 (n / 512 % 3) (by omega) 0 1 3
  refine TL.val (YF.load 0 sc_3 rfl rfl hmk) (by decide) ?_
  refine TL.val (YF.bor rfl rfl (i64_joinv (p := 4) 2 (by decide) (by omega))) (by decide) ?_
  refine TL.val (YF.build (vs := [(0, _), (1, _), (2, _), (5, _), (6, _)]) (cs := #[.int .i64 (9 + n % 6), .int .i64 (n / 8 % 3), .int .i64 (n / 32 % 2), .int .i64 0, .int .i64 0, .int .i64 (n / 64 % 2), .int .i64 (n / 128 % 4 * 4 + mk)]) rfl (by kernel_rfl)) (by decide) ?_
  refine TL.allocA zero_27 (by decide) (fun b => ?_)
  first
    | refine TL.storeAll 0 (_ :: _ :: _ :: _) rfl rfl rfl sz_27 (by first | rfl | assumption) (by first | rfl | assumption | exact Zsz_27) (by first | rfl | assumption) rfl ?_
    | refine TL.storeAll 1 (_ :: _ :: _ :: _) rfl rfl rfl sz_27 (by first | rfl | assumption) (by first | rfl | assumption | exact Zsz_27) (by first | rfl | assumption) rfl ?_
    | refine TL.storeAll 2 (_ :: _ :: _ :: _) rfl rfl rfl sz_27 (by first | rfl | assumption) (by first | rfl | assumption | exact Zsz_27) (by first | rfl | assumption) rfl ?_
    | refine TL.storeAgg 0 (_ :: _ :: _ :: _) rfl rfl rfl sz_27 rfl rfl (by first | exact Nat.le_of_ble_eq_true rfl | omega | (simp; omega)) rfl ?_
    | refine TL.storeAgg 1 (_ :: _ :: _ :: _) rfl rfl rfl sz_27 rfl rfl (by first | exact Nat.le_of_ble_eq_true rfl | omega | (simp; omega)) rfl ?_
    | refine TL.storeAgg 2 (_ :: _ :: _ :: _) rfl rfl rfl sz_27 rfl rfl (by first | exact Nat.le_of_ble_eq_true rfl | omega | (simp; omega)) rfl ?_
  refine TL.end ?_
  refine Arr.seq ?_
  refine Tr.seq ?_
  refine Tr.region ?_
  refine TL.buildSlice (vs := [(0, (.int .i64 0)), (1, (.int .i64 1)), (2, (.int .i64 1)), (3, (.int .i64 3))]) (cs := #[.int .i64 0, .int .i64 1, .int .i64 1, .int .i64 3]) sl_78 zero_3 rfl rfl (by kernel_rfl) rfl (by decide) (fun b => ?_)
  refine TL.val (YF.move rfl) (by decide) ?_
  refine TL.val (YF.shr rfl rfl (by decide) (shrv (p := 2048) 11 rfl (by decide) (by decide))) (by decide) ?_
  refine TL.val (YF.band rfl rfl (u32_mask0 (q := 4) 2 3 (by decide) (by decide) (by decide) (by omega) (by omega))) (by decide) ?_
  refine TL.val (YF.indexSl sl_78 rfl rfl (by omega) (by rw [Nat.zero_add, Nat.mul_one])) (by decide) ?_
  obtain ⟨md, hmd, hmd'⟩ := idx4 (n / 2048 % 4) (by omega) 0 1 1 3
  refine TL.val (YF.load 0 sc_3 rfl rfl hmd) (by decide) ?_
  refine TL.val (YF.fieldAddr fo_27_3 rfl rfl) (by decide) ?_
  first
    | refine TL.store 0 (_ :: _ :: _ :: _ :: _) rfl rfl rfl sz_3 rfl (by first | exact Nat.le_of_ble_eq_true rfl | omega | (simp; omega)) rfl ?_
    | refine TL.store 1 (_ :: _ :: _ :: _ :: _) rfl rfl rfl sz_3 rfl (by first | exact Nat.le_of_ble_eq_true rfl | omega | (simp; omega)) rfl ?_
    | refine TL.store 2 (_ :: _ :: _ :: _ :: _) rfl rfl rfl sz_3 rfl (by first | exact Nat.le_of_ble_eq_true rfl | omega | (simp; omega)) rfl ?_
    | refine TL.store 3 (_ :: _ :: _ :: _ :: _) rfl rfl rfl sz_3 rfl (by first | exact Nat.le_of_ble_eq_true rfl | omega | (simp; omega)) rfl ?_
  refine TL.end ?_
  refine Arr.seq ?_
  refine Tr.seq ?_
  refine Tr.seq ?_
  refine Tr.region ?_
  refine TL.val (YF.move rfl) (by decide) ?_
  refine TL.val (YF.shr rfl rfl (by decide) (shrv (p := 2048) 11 rfl (by decide) (by decide))) (by decide) ?_
  refine TL.val (YF.band rfl rfl (u32_mask0 (q := 4) 2 3 (by decide) (by decide) (by decide) (by omega) (by omega))) (by decide) ?_
  refine TL.val (YF.eql rfl rfl rfl) (by decide) ?_
  refine TL.end ?_
  refine Arr.seq ?_
  refine Tr.cond rfl (fun h43 => ?_) (fun h43 => ?_)
  ·
    replace h43 := of_decide_eq_true h43
    refine Tr.region ?_
    refine TL.val (YF.fieldAddr fo_27_4 rfl rfl) (by decide) ?_
    first
      | refine TL.store 0 (_ :: _ :: _ :: _ :: _) rfl rfl rfl sz_3 rfl (by first | exact Nat.le_of_ble_eq_true rfl | omega | (simp; omega)) rfl ?_
      | refine TL.store 1 (_ :: _ :: _ :: _ :: _) rfl rfl rfl sz_3 rfl (by first | exact Nat.le_of_ble_eq_true rfl | omega | (simp; omega)) rfl ?_
      | refine TL.store 2 (_ :: _ :: _ :: _ :: _) rfl rfl rfl sz_3 rfl (by first | exact Nat.le_of_ble_eq_true rfl | omega | (simp; omega)) rfl ?_
      | refine TL.store 3 (_ :: _ :: _ :: _ :: _) rfl rfl rfl sz_3 rfl (by first | exact Nat.le_of_ble_eq_true rfl | omega | (simp; omega)) rfl ?_
    refine TL.end ?_
    refine Arr.seq ?_
    refine Tr.seq ?_
    refine Tr.region ?_
    first
      | refine TL.val (YF.loadAll 0 agg_27 rfl rfl (by first | rfl | assumption)) (by decide) ?_
      | refine TL.val (YF.loadAll 1 agg_27 rfl rfl (by first | rfl | assumption)) (by decide) ?_
      | refine TL.val (YF.loadAll 2 agg_27 rfl rfl (by first | rfl | assumption)) (by decide) ?_
      | refine TL.val (YF.loadAll 3 agg_27 rfl rfl (by first | rfl | assumption)) (by decide) ?_
    first
      | refine TL.storeAll 0 (_ :: _ :: _ :: _ :: _) rfl rfl rfl sz_27 (by first | rfl | assumption) (by first | rfl | assumption | exact Zsz_27) (by first | rfl | assumption) rfl ?_
      | refine TL.storeAll 1 (_ :: _ :: _ :: _ :: _) rfl rfl rfl sz_27 (by first | rfl | assumption) (by first | rfl | assumption | exact Zsz_27) (by first | rfl | assumption) rfl ?_
      | refine TL.storeAll 2 (_ :: _ :: _ :: _ :: _) rfl rfl rfl sz_27 (by first | rfl | assumption) (by first | rfl | assumption | exact Zsz_27) (by first | rfl | assumption) rfl ?_
      | refine TL.storeAll 3 (_ :: _ :: _ :: _ :: _) rfl rfl rfl sz_27 (by first | rfl | assumption) (by first | rfl | assumption | exact Zsz_27) (by first | rfl | assumption) rfl ?_
      | refine TL.storeAgg 0 (_ :: _ :: _ :: _ :: _) rfl rfl rfl sz_27 rfl rfl (by first | exact Nat.le_of_ble_eq_true rfl | omega | (simp; omega)) rfl ?_
      | refine TL.storeAgg 1 (_ :: _ :: _ :: _ :: _) rfl rfl rfl sz_27 rfl rfl (by first | exact Nat.le_of_ble_eq_true rfl | omega | (simp; omega)) rfl ?_
      | refine TL.storeAgg 2 (_ :: _ :: _ :: _ :: _) rfl rfl rfl sz_27 rfl rfl (by first | exact Nat.le_of_ble_eq_true rfl | omega | (simp; omega)) rfl ?_
      | refine TL.storeAgg 3 (_ :: _ :: _ :: _ :: _) rfl rfl rfl sz_27 rfl rfl (by first | exact Nat.le_of_ble_eq_true rfl | omega | (simp; omega)) rfl ?_
    refine TL.end ?_
    refine Arr.seq ?_
    refine Tr.retE ?_
    refine Ends.cellG (G := H) 3 rfl rfl agg_27 rfl rfl (by repeat first | exact List.Sublist.refl _ | apply List.Sublist.cons) ?_
    refine ⟨_, congrArg Value.agg (va_seven _ _ _ _ _ _ _), ?_, rfl⟩
    constructor <;> simp only [seven, true_and, true_or] <;> omega
  ·
    replace h43 := of_decide_eq_false h43
    refine Tr.skipE ?_
    refine Arr.seq ?_
    refine Tr.seq ?_
    refine Tr.region ?_
    first
      | refine TL.val (YF.loadAll 0 agg_27 rfl rfl (by first | rfl | assumption)) (by decide) ?_
      | refine TL.val (YF.loadAll 1 agg_27 rfl rfl (by first | rfl | assumption)) (by decide) ?_
      | refine TL.val (YF.loadAll 2 agg_27 rfl rfl (by first | rfl | assumption)) (by decide) ?_
      | refine TL.val (YF.loadAll 3 agg_27 rfl rfl (by first | rfl | assumption)) (by decide) ?_
    first
      | refine TL.storeAll 0 (_ :: _ :: _ :: _ :: _) rfl rfl rfl sz_27 (by first | rfl | assumption) (by first | rfl | assumption | exact Zsz_27) (by first | rfl | assumption) rfl ?_
      | refine TL.storeAll 1 (_ :: _ :: _ :: _ :: _) rfl rfl rfl sz_27 (by first | rfl | assumption) (by first | rfl | assumption | exact Zsz_27) (by first | rfl | assumption) rfl ?_
      | refine TL.storeAll 2 (_ :: _ :: _ :: _ :: _) rfl rfl rfl sz_27 (by first | rfl | assumption) (by first | rfl | assumption | exact Zsz_27) (by first | rfl | assumption) rfl ?_
      | refine TL.storeAll 3 (_ :: _ :: _ :: _ :: _) rfl rfl rfl sz_27 (by first | rfl | assumption) (by first | rfl | assumption | exact Zsz_27) (by first | rfl | assumption) rfl ?_
      | refine TL.storeAgg 0 (_ :: _ :: _ :: _ :: _) rfl rfl rfl sz_27 rfl rfl (by first | exact Nat.le_of_ble_eq_true rfl | omega | (simp; omega)) rfl ?_
      | refine TL.storeAgg 1 (_ :: _ :: _ :: _ :: _) rfl rfl rfl sz_27 rfl rfl (by first | exact Nat.le_of_ble_eq_true rfl | omega | (simp; omega)) rfl ?_
      | refine TL.storeAgg 2 (_ :: _ :: _ :: _ :: _) rfl rfl rfl sz_27 rfl rfl (by first | exact Nat.le_of_ble_eq_true rfl | omega | (simp; omega)) rfl ?_
      | refine TL.storeAgg 3 (_ :: _ :: _ :: _ :: _) rfl rfl rfl sz_27 rfl rfl (by first | exact Nat.le_of_ble_eq_true rfl | omega | (simp; omega)) rfl ?_
    refine TL.end ?_
    refine Arr.seq ?_
    refine Tr.retE ?_
    refine Ends.cellG (G := H) 3 rfl rfl agg_27 rfl rfl (by repeat first | exact List.Sublist.refl _ | apply List.Sublist.cons) ?_
    refine ⟨_, congrArg Value.agg (va_seven _ _ _ _ _ _ _), ?_, rfl⟩
    constructor <;> simp only [seven, true_and, true_or] <;> omega

end Go.Proofs.YtbcjhkncifckiaaDoor
