/- The walks of cosine and sine. -/
import Derived.Test.YtbcjhkncifckiaaDoorTz
namespace Go.Proofs.YtbcjhkncifckiaaDoor
open Go Go.RowKit Go.Proofs En Fl Ieee
set_option maxRecDepth 100000
set_option maxHeartbeats 0

theorem abs_ct (x : Nat) (w0 : World) (H : Hp) (hx : x < 9223372036854775808) : Ct Tryd.prog 64 #[.float .f64 x] w0 (H) (fun v H' => v = .float .f64 x ∧ H' = H) := by
  refine Ct.of_body (n := 7) (E := [(0, _)]) Tryd.func64 rfl rfl rfl rfl ?_
  refine Tr.seq ?_
  refine Tr.region ?_
  refine TL.val (YF.assign rfl) (by decide) ?_
  refine TL.end ?_
  refine Arr.seq ?_
  refine Tr.seq ?_
  refine Tr.region ?_
  refine TL.val (YF.move rfl) (by decide) ?_
  refine TL.val (YF.toBits ext_70_float64bits rfl) (by decide) ?_
  refine TL.val (YF.bandNot rfl rfl (u64_andNot hx)) (by decide) ?_
  refine TL.val (YF.ofBits ext_69_float64frombits rfl) (by decide) ?_
  refine TL.val (YF.assign rfl) (by decide) ?_
  refine TL.end ?_
  refine Arr.seq ?_
  refine Tr.retE ?_
  exact Ends.tmp rfl rfl ⟨rfl, rfl⟩

theorem isNaN_ct (x : Nat) (w0 : World) (H : Hp) (hx : FloatKind.f64.format.order x x = some .eq) : Ct Tryd.prog 61 #[.float .f64 x] w0 (H) (fun v H' => v = .bool false ∧ H' = H) := by
  refine Ct.of_body (n := 6) (E := [(0, _)]) Tryd.func61 rfl rfl rfl rfl ?_
  refine Tr.seq ?_
  refine Tr.region ?_
  refine TL.val (YF.assign rfl) (by decide) ?_
  refine TL.end ?_
  refine Arr.seq ?_
  refine Tr.seq ?_
  refine Tr.region ?_
  refine TL.val (YF.move rfl) (by decide) ?_
  refine TL.val (YF.move rfl) (by decide) ?_
  refine TL.val (YF.fneq (b := false) rfl rfl (by rw [hx]; rfl)) (by decide) ?_
  refine TL.val (YF.assign rfl) (by decide) ?_
  refine TL.end ?_
  refine Arr.seq ?_
  refine Tr.retE ?_
  exact Ends.tmp rfl rfl ⟨rfl, rfl⟩

theorem isInf_ct (x : Nat) (w0 : World) (H : Hp) (hx : x < 9223372036854775808) (ho : FloatKind.f64.format.order x 9218868437227405311 = some .lt) : Ct Tryd.prog 62 #[.float .f64 x, .int .i64 0] w0 (H) (fun v H' => v = .bool false ∧ H' = H) := by
  refine Ct.of_body (n := 15) (E := [(0, _), (1, _)]) Tryd.func62 rfl rfl rfl rfl ?_
  refine Tr.seq ?_
  refine Tr.region ?_
  refine TL.val (YF.assign rfl) (by decide) ?_
  refine TL.end ?_
  refine Arr.seq ?_
  refine Tr.seq ?_
  refine Tr.seq ?_
  refine Tr.region ?_
  refine TL.val (YF.move rfl) (by decide) ?_
  refine TL.val (YF.eql rfl rfl rfl) (by decide) ?_
  refine TL.end ?_
  refine Arr.seq ?_
  refine Tr.condT rfl ?_
  refine Tr.region ?_
  refine TL.val (YF.move rfl) (by decide) ?_
  refine TL.call (vs := [_]) call_64 rfl (by decide) (abs_ct x w0 _ hx) ?_
  rintro _ _ ⟨rfl, hH⟩
  replace hH := hH.symm
  subst hH
  refine TL.val (YF.assign rfl) (by decide) ?_
  refine TL.end ?_
  refine Arr.seq ?_
  refine Tr.seq ?_
  refine Tr.region ?_
  refine TL.val (YF.move rfl) (by decide) ?_
  refine TL.val (YF.fgtr (b := false) rfl rfl (by rw [ho]; rfl)) (by decide) ?_
  refine TL.val (YF.assign rfl) (by decide) ?_
  refine TL.end ?_
  refine Arr.seq ?_
  refine Tr.retE ?_
  exact Ends.tmp rfl rfl ⟨rfl, rfl⟩

theorem cos_ct (x r : Nat) (w0 : World) (H : Hp) (hsn : ∀ i, i < 6 → w0.cell? ⟨4, i, none⟩ = some (.float .f64 (snb i))) (hcn : ∀ i, i < 6 → w0.cell? ⟨5, i, none⟩ = some (.float .f64 (cnb i))) (h : cosR x = some r) : Ct Tryd.prog 51 #[.float .f64 x] w0 (H) (fun v H' => v = .float .f64 r ∧ H' = H) := by
  refine Ct.of_body (n := 140) (E := [(0, _)]) Tryd.func51 rfl rfl rfl rfl ?_
  refine Tr.seq ?_
  obtain ⟨hok, q, n, y, a, u, b, v, c, z, j, zz, e1, e2, hn, e3, e4, e5, e6, e7, e8, e9, e10, hj, hzz, hout⟩ := cosR_spec h
  obtain ⟨hx, o1, o2, o3, o4⟩ := argOk_spec hok
  refine Tr.region ?_
  refine TL.val (YF.assign rfl) (by decide) ?_
  refine TL.end ?_
  refine Arr.seq ?_
  refine Tr.seq ?_
  refine Tr.block ?_
  refine Tr.seq ?_
  refine Tr.region ?_
  refine TL.val (YF.move rfl) (by decide) ?_
  refine TL.call (vs := [_]) call_61 rfl (by decide) (isNaN_ct x w0 _ o4) ?_
  rintro _ _ ⟨rfl, hH⟩
  replace hH := hH.symm
  subst hH
  refine TL.val (YF.move rfl) (by decide) ?_
  first
    | refine TL.gno rfl (by decide) ?_
    | refine TL.gval rfl (YF.move rfl) (by decide) ?_
  first
    | refine TL.gno rfl (by decide) ?_
    | (refine TL.geff rfl (EF.call (vs := [_, _]) call_62 rfl (isInf_ct x w0 _ hx o1)) (by decide) ?_
       rintro _ _ ⟨rfl, hH⟩
       replace hH := hH.symm
       subst hH)
  first
    | refine TL.val (YF.pickT rfl rfl) (by decide) ?_
    | refine TL.val (YF.pickF rfl rfl) (by decide) ?_
    | refine TL.val (YF.pick rfl rfl rfl rfl) (by decide) ?_
  refine TL.val (YF.assign rfl) (by decide) ?_
  refine TL.end ?_
  refine Arr.seq ?_
  refine Tr.condF rfl ?_
  refine Tr.skipE ?_
  refine Arr.block ?_
  refine Arr.seq ?_
  refine Tr.seq ?_
  refine Tr.region ?_
  refine TL.val (YF.assign rfl) (by decide) ?_
  refine TL.end ?_
  refine Arr.seq ?_
  refine Tr.seq ?_
  refine Tr.region ?_
  refine TL.val (YF.move rfl) (by decide) ?_
  refine TL.call (vs := [_]) call_64 rfl (by decide) (abs_ct x w0 _ hx) ?_
  rintro _ _ ⟨rfl, hH⟩
  replace hH := hH.symm
  subst hH
  refine TL.val (YF.assign rfl) (by decide) ?_
  refine TL.end ?_
  refine Arr.seq ?_
  refine Tr.seq ?_
  refine Tr.region ?_
  refine TL.val (YF.assign rfl) (by decide) ?_
  refine TL.end ?_
  refine Arr.seq ?_
  refine Tr.seq ?_
  refine Tr.region ?_
  refine TL.val (YF.assign rfl) (by decide) ?_
  refine TL.val (YF.assign rfl) (by decide) ?_
  refine TL.end ?_
  refine Arr.seq ?_
  refine Tr.seq ?_
  refine Tr.seq ?_
  refine Tr.region ?_
  refine TL.val (YF.move rfl) (by decide) ?_
  refine TL.val (YF.fgeq (b := false) rfl rfl (by rw [o2]; rfl)) (by decide) ?_
  refine TL.end ?_
  refine Arr.seq ?_
  refine Tr.condF rfl ?_
  refine Tr.seq ?_
  refine Tr.region ?_
  refine TL.val (YF.move rfl) (by decide) ?_
  refine TL.val (YF.farith rfl rfl e1) (by decide) ?_
  refine TL.val (YF.convFI undS_60 und_143 rfl e2 ⟨by show (0 : Int) ≤ n; omega, by show (n : Int) ≤ 18446744073709551615; omega⟩) (by decide) ?_
  refine TL.val (YF.assign rfl) (by decide) ?_
  refine TL.end ?_
  refine Arr.seq ?_
  refine Tr.seq ?_
  refine Tr.region ?_
  refine TL.val (YF.move rfl) (by decide) ?_
  refine TL.val (YF.convIF und_143 und_60 rfl rfl) (by decide) ?_
  refine TL.val (YF.assign rfl) (by decide) ?_
  refine TL.end ?_
  refine Arr.seq ?_
  refine Tr.seq ?_
  refine Tr.seq ?_
  refine Tr.region ?_
  refine TL.val (YF.move rfl) (by decide) ?_
  refine TL.val (YF.band rfl rfl (u64_low 1 1 (q := 2) (by decide) (by decide) (by omega) (by decide))) (by decide) ?_
  refine TL.val (YF.eql rfl rfl rfl) (by decide) ?_
  refine TL.end ?_
  refine Arr.seq ?_
  refine Tr.cutN (R := fun a w => ∃ k : Nat, k % 8 = j ∧ k < 2000000 ∧ Agree 140 [(0, .float .f64 x), (3, .bool false), (4, .int .u64 k), (5, .float .f64 y)] a ∧ HS w0 H w) ?_ ?_
  ·
    refine Tr.cond rfl (fun h32 => ?_) (fun h32 => ?_)
    ·
      replace h32 := of_decide_eq_true h32
      refine Tr.seq ?_
      refine Tr.region ?_
      refine TL.val (YF.move rfl) (by decide) ?_
      refine TL.val (YF.add rfl rfl (IntWalk.u64_in _ (by omega))) (by decide) ?_
      refine TL.val (YF.assign rfl) (by decide) ?_
      refine TL.end ?_
      refine Arr.seq ?_
      refine Tr.region ?_
      refine TL.val (YF.move rfl) (by decide) ?_
      refine TL.val (YF.farith rfl rfl (e3 (by omega))) (by decide) ?_
      refine TL.val (YF.assign rfl) (by decide) ?_
      refine TL.end ?_
      refine Arr.meet ?_
      first
        | (have ho : n % 2 = 1 := by omega
           rw [if_pos ho] at hj
           exact fun a w ha hw => ⟨n + 1, hj, by omega, (ha.cons rfl (ha.cons rfl (ha.cons rfl (ha.cons rfl (ha.nil))))), hw⟩)
        | (have ho : ¬ n % 2 = 1 := by omega
           rw [if_neg ho] at hj
           have hy := e4 ho
           subst hy
           exact fun a w ha hw => ⟨n, hj, by omega, (ha.cons rfl (ha.cons rfl (ha.cons rfl (ha.cons rfl (ha.nil))))), hw⟩)
    ·
      replace h32 := of_decide_eq_false h32
      refine Tr.skipE ?_
      refine Arr.meet ?_
      first
        | (have ho : n % 2 = 1 := by omega
           rw [if_pos ho] at hj
           exact fun a w ha hw => ⟨n + 1, hj, by omega, (ha.cons rfl (ha.cons rfl (ha.cons rfl (ha.cons rfl (ha.nil))))), hw⟩)
        | (have ho : ¬ n % 2 = 1 := by omega
           rw [if_neg ho] at hj
           have hy := e4 ho
           subst hy
           exact fun a w ha hw => ⟨n, hj, by omega, (ha.cons rfl (ha.cons rfl (ha.cons rfl (ha.cons rfl (ha.nil))))), hw⟩)
  rintro a w ⟨k, hk, hk2, ha, hw⟩
  refine Arr.use ha hw ?_
  refine Arr.seq ?_
  refine Tr.seq ?_
  refine Tr.region ?_
  refine TL.val (YF.move rfl) (by decide) ?_
  refine TL.val (YF.band (r := (j : Int)) rfl rfl ((u64_low (a := k) 3 7 (q := 8) (by decide) (by decide) (by omega) (by decide)).trans (by rw [hk]))) (by decide) ?_
  refine TL.val (YF.assign rfl) (by decide) ?_
  refine TL.end ?_
  refine Arr.seq ?_
  refine Tr.region ?_
  refine TL.val (YF.move rfl) (by decide) ?_
  refine TL.val (YF.move rfl) (by decide) ?_
  refine TL.val (YF.farith rfl rfl e5) (by decide) ?_
  refine TL.val (YF.farith rfl rfl e6) (by decide) ?_
  refine TL.val (YF.move rfl) (by decide) ?_
  refine TL.val (YF.farith rfl rfl e7) (by decide) ?_
  refine TL.val (YF.farith rfl rfl e8) (by decide) ?_
  refine TL.val (YF.move rfl) (by decide) ?_
  refine TL.val (YF.farith rfl rfl e9) (by decide) ?_
  refine TL.val (YF.farith rfl rfl e10) (by decide) ?_
  refine TL.val (YF.assign rfl) (by decide) ?_
  refine TL.end ?_
  refine Arr.seq ?_
  refine Tr.seq ?_
  refine Tr.seq ?_
  refine Tr.region ?_
  refine TL.val (YF.move rfl) (by decide) ?_
  rcases hout with ⟨rfl, hout⟩ | ⟨rfl, hout⟩ | ⟨rfl, hout⟩ | ⟨rfl, hout⟩
  ·
    refine TL.val (YF.gtr rfl rfl rfl) (by decide) ?_
    refine TL.end ?_
    refine Arr.seq ?_
    refine Tr.condF rfl ?_
    refine Tr.skipE ?_
    refine Arr.seq ?_
    refine Tr.seq ?_
    refine Tr.seq ?_
    refine Tr.region ?_
    refine TL.val (YF.move rfl) (by decide) ?_
    refine TL.val (YF.gtr rfl rfl rfl) (by decide) ?_
    refine TL.end ?_
    refine Arr.seq ?_
    refine Tr.condF rfl ?_
    refine Tr.skipE ?_
    refine Arr.seq ?_
    refine Tr.seq ?_
    refine Tr.region ?_
    refine TL.val (YF.move rfl) (by decide) ?_
    refine TL.val (YF.move rfl) (by decide) ?_
    refine TL.val (YF.farith rfl rfl hzz) (by decide) ?_
    refine TL.val (YF.assign rfl) (by decide) ?_
    refine TL.end ?_
    refine Arr.seq ?_
    refine Tr.seq ?_
    refine Tr.seq ?_
    refine Tr.region ?_
    refine TL.val (YF.move rfl) (by decide) ?_
    refine TL.val (YF.eql rfl rfl rfl) (by decide) ?_
    refine TL.val (YF.move rfl) (by decide) ?_
    first
      | refine TL.gno rfl (by decide) ?_
      | refine TL.gval rfl (YF.move rfl) (by decide) ?_
    first
      | refine TL.gno rfl (by decide) ?_
      | refine TL.gval rfl (YF.eql rfl rfl rfl) (by decide) ?_
    first
      | refine TL.val (YF.pickT rfl rfl) (by decide) ?_
      | refine TL.val (YF.pickF rfl rfl) (by decide) ?_
      | refine TL.val (YF.pick rfl rfl rfl rfl) (by decide) ?_
    refine TL.end ?_
    refine Arr.seq ?_
    refine Tr.condF rfl ?_
    obtain ⟨yy, hp, rfl⟩ := hout
    obtain ⟨s1, s2, s3, p1, q1, p2, q2, p3, q3, p4, q4, p5, q5, s4, f1, f2, f3, ⟨m1, a1, m2, a2, m3, a3, m4, a4, m5, a5⟩, f4, f5⟩ := cosPoly_spec hp
    refine Tr.region ?_
    refine TL.val (YF.move rfl) (by decide) ?_
    refine TL.val (YF.farith rfl rfl f1) (by decide) ?_
    refine TL.val (YF.farith rfl rfl f2) (by decide) ?_
    refine TL.val (YF.move rfl) (by decide) ?_
    refine TL.val (YF.move rfl) (by decide) ?_
    refine TL.val (YF.farith rfl rfl f3) (by decide) ?_
    refine TL.val (YF.indexArr arr_146 rfl rfl (by first | decide | omega) (show _ = 0 by omega)) (by decide) ?_
    refine TL.val (YF.load_old sc_60 rfl (hcn 0 (by decide))) (by decide) ?_
    refine TL.val (YF.move rfl) (by decide) ?_
    refine TL.val (YF.farith rfl rfl m1) (by decide) ?_
    refine TL.val (YF.indexArr arr_146 rfl rfl (by first | decide | omega) (show _ = 1 by omega)) (by decide) ?_
    refine TL.val (YF.load_old sc_60 rfl (hcn 1 (by decide))) (by decide) ?_
    refine TL.val (YF.farith rfl rfl a1) (by decide) ?_
    refine TL.val (YF.move rfl) (by decide) ?_
    refine TL.val (YF.farith rfl rfl m2) (by decide) ?_
    refine TL.val (YF.indexArr arr_146 rfl rfl (by first | decide | omega) (show _ = 2 by omega)) (by decide) ?_
    refine TL.val (YF.load_old sc_60 rfl (hcn 2 (by decide))) (by decide) ?_
    refine TL.val (YF.farith rfl rfl a2) (by decide) ?_
    refine TL.val (YF.move rfl) (by decide) ?_
    refine TL.val (YF.farith rfl rfl m3) (by decide) ?_
    refine TL.val (YF.indexArr arr_146 rfl rfl (by first | decide | omega) (show _ = 3 by omega)) (by decide) ?_
    refine TL.val (YF.load_old sc_60 rfl (hcn 3 (by decide))) (by decide) ?_
    refine TL.val (YF.farith rfl rfl a3) (by decide) ?_
    refine TL.val (YF.move rfl) (by decide) ?_
    refine TL.val (YF.farith rfl rfl m4) (by decide) ?_
    refine TL.val (YF.indexArr arr_146 rfl rfl (by first | decide | omega) (show _ = 4 by omega)) (by decide) ?_
    refine TL.val (YF.load_old sc_60 rfl (hcn 4 (by decide))) (by decide) ?_
    refine TL.val (YF.farith rfl rfl a4) (by decide) ?_
    refine TL.val (YF.move rfl) (by decide) ?_
    refine TL.val (YF.farith rfl rfl m5) (by decide) ?_
    refine TL.val (YF.indexArr arr_146 rfl rfl (by first | decide | omega) (show _ = 5 by omega)) (by decide) ?_
    refine TL.val (YF.load_old sc_60 rfl (hcn 5 (by decide))) (by decide) ?_
    refine TL.val (YF.farith rfl rfl a5) (by decide) ?_
    refine TL.val (YF.farith rfl rfl f4) (by decide) ?_
    refine TL.val (YF.farith rfl rfl f5) (by decide) ?_
    refine TL.val (YF.assign rfl) (by decide) ?_
    refine TL.end ?_
    refine Arr.seq ?_
    refine Tr.seq ?_
    refine Tr.seq ?_
    refine Tr.region ?_
    refine TL.val (YF.move rfl) (by decide) ?_
    refine TL.end ?_
    refine Arr.seq ?_
    refine Tr.condF rfl ?_
    refine Tr.skipE ?_
    refine Arr.seq ?_
    refine Tr.seq ?_
    refine Tr.region ?_
    refine TL.val (YF.move rfl) (by decide) ?_
    refine TL.val (YF.assign rfl) (by decide) ?_
    refine TL.end ?_
    refine Arr.seq ?_
    refine Tr.retE ?_
    exact Ends.tmp rfl rfl ⟨rfl, rfl⟩
  ·
    refine TL.val (YF.gtr rfl rfl rfl) (by decide) ?_
    refine TL.end ?_
    refine Arr.seq ?_
    refine Tr.condF rfl ?_
    refine Tr.skipE ?_
    refine Arr.seq ?_
    refine Tr.seq ?_
    refine Tr.seq ?_
    refine Tr.region ?_
    refine TL.val (YF.move rfl) (by decide) ?_
    refine TL.val (YF.gtr rfl rfl rfl) (by decide) ?_
    refine TL.end ?_
    refine Arr.seq ?_
    refine Tr.condT rfl ?_
    refine Tr.region ?_
    refine TL.val (YF.move rfl) (by decide) ?_
    refine TL.val (YF.not rfl rfl) (by decide) ?_
    refine TL.val (YF.assign rfl) (by decide) ?_
    refine TL.end ?_
    refine Arr.seq ?_
    refine Tr.seq ?_
    refine Tr.region ?_
    refine TL.val (YF.move rfl) (by decide) ?_
    refine TL.val (YF.move rfl) (by decide) ?_
    refine TL.val (YF.farith rfl rfl hzz) (by decide) ?_
    refine TL.val (YF.assign rfl) (by decide) ?_
    refine TL.end ?_
    refine Arr.seq ?_
    refine Tr.seq ?_
    refine Tr.seq ?_
    refine Tr.region ?_
    refine TL.val (YF.move rfl) (by decide) ?_
    refine TL.val (YF.eql rfl rfl rfl) (by decide) ?_
    refine TL.val (YF.move rfl) (by decide) ?_
    first
      | refine TL.gno rfl (by decide) ?_
      | refine TL.gval rfl (YF.move rfl) (by decide) ?_
    first
      | refine TL.gno rfl (by decide) ?_
      | refine TL.gval rfl (YF.eql rfl rfl rfl) (by decide) ?_
    first
      | refine TL.val (YF.pickT rfl rfl) (by decide) ?_
      | refine TL.val (YF.pickF rfl rfl) (by decide) ?_
      | refine TL.val (YF.pick rfl rfl rfl rfl) (by decide) ?_
    refine TL.end ?_
    refine Arr.seq ?_
    refine Tr.condT rfl ?_
    obtain ⟨yy, hp, rfl⟩ := hout
    obtain ⟨s1, p1, q1, p2, q2, p3, q3, p4, q4, p5, q5, s2, f1, ⟨m1, a1, m2, a2, m3, a3, m4, a4, m5, a5⟩, f2, f3⟩ := sinPoly_spec hp
    refine Tr.region ?_
    refine TL.val (YF.move rfl) (by decide) ?_
    refine TL.val (YF.move rfl) (by decide) ?_
    refine TL.val (YF.move rfl) (by decide) ?_
    refine TL.val (YF.farith rfl rfl f1) (by decide) ?_
    refine TL.val (YF.indexArr arr_146 rfl rfl (by first | decide | omega) (show _ = 0 by omega)) (by decide) ?_
    refine TL.val (YF.load_old sc_60 rfl (hsn 0 (by decide))) (by decide) ?_
    refine TL.val (YF.move rfl) (by decide) ?_
    refine TL.val (YF.farith rfl rfl m1) (by decide) ?_
    refine TL.val (YF.indexArr arr_146 rfl rfl (by first | decide | omega) (show _ = 1 by omega)) (by decide) ?_
    refine TL.val (YF.load_old sc_60 rfl (hsn 1 (by decide))) (by decide) ?_
    refine TL.val (YF.farith rfl rfl a1) (by decide) ?_
    refine TL.val (YF.move rfl) (by decide) ?_
    refine TL.val (YF.farith rfl rfl m2) (by decide) ?_
    refine TL.val (YF.indexArr arr_146 rfl rfl (by first | decide | omega) (show _ = 2 by omega)) (by decide) ?_
    refine TL.val (YF.load_old sc_60 rfl (hsn 2 (by decide))) (by decide) ?_
    refine TL.val (YF.farith rfl rfl a2) (by decide) ?_
    refine TL.val (YF.move rfl) (by decide) ?_
    refine TL.val (YF.farith rfl rfl m3) (by decide) ?_
    refine TL.val (YF.indexArr arr_146 rfl rfl (by first | decide | omega) (show _ = 3 by omega)) (by decide) ?_
    refine TL.val (YF.load_old sc_60 rfl (hsn 3 (by decide))) (by decide) ?_
    refine TL.val (YF.farith rfl rfl a3) (by decide) ?_
    refine TL.val (YF.move rfl) (by decide) ?_
    refine TL.val (YF.farith rfl rfl m4) (by decide) ?_
    refine TL.val (YF.indexArr arr_146 rfl rfl (by first | decide | omega) (show _ = 4 by omega)) (by decide) ?_
    refine TL.val (YF.load_old sc_60 rfl (hsn 4 (by decide))) (by decide) ?_
    refine TL.val (YF.farith rfl rfl a4) (by decide) ?_
    refine TL.val (YF.move rfl) (by decide) ?_
    refine TL.val (YF.farith rfl rfl m5) (by decide) ?_
    refine TL.val (YF.indexArr arr_146 rfl rfl (by first | decide | omega) (show _ = 5 by omega)) (by decide) ?_
    refine TL.val (YF.load_old sc_60 rfl (hsn 5 (by decide))) (by decide) ?_
    refine TL.val (YF.farith rfl rfl a5) (by decide) ?_
    refine TL.val (YF.farith rfl rfl f2) (by decide) ?_
    refine TL.val (YF.farith rfl rfl f3) (by decide) ?_
    refine TL.val (YF.assign rfl) (by decide) ?_
    refine TL.end ?_
    refine Arr.seq ?_
    refine Tr.seq ?_
    refine Tr.seq ?_
    refine Tr.region ?_
    refine TL.val (YF.move rfl) (by decide) ?_
    refine TL.end ?_
    refine Arr.seq ?_
    refine Tr.condT rfl ?_
    refine Tr.region ?_
    refine TL.val (YF.move rfl) (by decide) ?_
    refine TL.val (YF.fneg rfl rfl) (by decide) ?_
    refine TL.val (YF.assign rfl) (by decide) ?_
    refine TL.end ?_
    refine Arr.seq ?_
    refine Tr.seq ?_
    refine Tr.region ?_
    refine TL.val (YF.move rfl) (by decide) ?_
    refine TL.val (YF.assign rfl) (by decide) ?_
    refine TL.end ?_
    refine Arr.seq ?_
    refine Tr.retE ?_
    exact Ends.tmp rfl rfl ⟨rfl, rfl⟩
  ·
    refine TL.val (YF.gtr rfl rfl rfl) (by decide) ?_
    refine TL.end ?_
    refine Arr.seq ?_
    refine Tr.condT rfl ?_
    refine Tr.seq ?_
    refine Tr.region ?_
    refine TL.val (YF.move rfl) (by decide) ?_
    refine TL.val (YF.sub rfl rfl (IntWalk.u64_in _ (by omega))) (by decide) ?_
    refine TL.val (YF.assign rfl) (by decide) ?_
    refine TL.end ?_
    refine Arr.seq ?_
    refine Tr.region ?_
    refine TL.val (YF.move rfl) (by decide) ?_
    refine TL.val (YF.not rfl rfl) (by decide) ?_
    refine TL.val (YF.assign rfl) (by decide) ?_
    refine TL.end ?_
    refine Arr.seq ?_
    refine Tr.seq ?_
    refine Tr.seq ?_
    refine Tr.region ?_
    refine TL.val (YF.move rfl) (by decide) ?_
    refine TL.val (YF.gtr rfl rfl rfl) (by decide) ?_
    refine TL.end ?_
    refine Arr.seq ?_
    refine Tr.condF rfl ?_
    refine Tr.skipE ?_
    refine Arr.seq ?_
    refine Tr.seq ?_
    refine Tr.region ?_
    refine TL.val (YF.move rfl) (by decide) ?_
    refine TL.val (YF.move rfl) (by decide) ?_
    refine TL.val (YF.farith rfl rfl hzz) (by decide) ?_
    refine TL.val (YF.assign rfl) (by decide) ?_
    refine TL.end ?_
    refine Arr.seq ?_
    refine Tr.seq ?_
    refine Tr.seq ?_
    refine Tr.region ?_
    refine TL.val (YF.move rfl) (by decide) ?_
    refine TL.val (YF.eql rfl rfl rfl) (by decide) ?_
    refine TL.val (YF.move rfl) (by decide) ?_
    first
      | refine TL.gno rfl (by decide) ?_
      | refine TL.gval rfl (YF.move rfl) (by decide) ?_
    first
      | refine TL.gno rfl (by decide) ?_
      | refine TL.gval rfl (YF.eql rfl rfl rfl) (by decide) ?_
    first
      | refine TL.val (YF.pickT rfl rfl) (by decide) ?_
      | refine TL.val (YF.pickF rfl rfl) (by decide) ?_
      | refine TL.val (YF.pick rfl rfl rfl rfl) (by decide) ?_
    refine TL.end ?_
    refine Arr.seq ?_
    refine Tr.condF rfl ?_
    obtain ⟨yy, hp, rfl⟩ := hout
    obtain ⟨s1, s2, s3, p1, q1, p2, q2, p3, q3, p4, q4, p5, q5, s4, f1, f2, f3, ⟨m1, a1, m2, a2, m3, a3, m4, a4, m5, a5⟩, f4, f5⟩ := cosPoly_spec hp
    refine Tr.region ?_
    refine TL.val (YF.move rfl) (by decide) ?_
    refine TL.val (YF.farith rfl rfl f1) (by decide) ?_
    refine TL.val (YF.farith rfl rfl f2) (by decide) ?_
    refine TL.val (YF.move rfl) (by decide) ?_
    refine TL.val (YF.move rfl) (by decide) ?_
    refine TL.val (YF.farith rfl rfl f3) (by decide) ?_
    refine TL.val (YF.indexArr arr_146 rfl rfl (by first | decide | omega) (show _ = 0 by omega)) (by decide) ?_
    refine TL.val (YF.load_old sc_60 rfl (hcn 0 (by decide))) (by decide) ?_
    refine TL.val (YF.move rfl) (by decide) ?_
    refine TL.val (YF.farith rfl rfl m1) (by decide) ?_
    refine TL.val (YF.indexArr arr_146 rfl rfl (by first | decide | omega) (show _ = 1 by omega)) (by decide) ?_
    refine TL.val (YF.load_old sc_60 rfl (hcn 1 (by decide))) (by decide) ?_
    refine TL.val (YF.farith rfl rfl a1) (by decide) ?_
    refine TL.val (YF.move rfl) (by decide) ?_
    refine TL.val (YF.farith rfl rfl m2) (by decide) ?_
    refine TL.val (YF.indexArr arr_146 rfl rfl (by first | decide | omega) (show _ = 2 by omega)) (by decide) ?_
    refine TL.val (YF.load_old sc_60 rfl (hcn 2 (by decide))) (by decide) ?_
    refine TL.val (YF.farith rfl rfl a2) (by decide) ?_
    refine TL.val (YF.move rfl) (by decide) ?_
    refine TL.val (YF.farith rfl rfl m3) (by decide) ?_
    refine TL.val (YF.indexArr arr_146 rfl rfl (by first | decide | omega) (show _ = 3 by omega)) (by decide) ?_
    refine TL.val (YF.load_old sc_60 rfl (hcn 3 (by decide))) (by decide) ?_
    refine TL.val (YF.farith rfl rfl a3) (by decide) ?_
    refine TL.val (YF.move rfl) (by decide) ?_
    refine TL.val (YF.farith rfl rfl m4) (by decide) ?_
    refine TL.val (YF.indexArr arr_146 rfl rfl (by first | decide | omega) (show _ = 4 by omega)) (by decide) ?_
    refine TL.val (YF.load_old sc_60 rfl (hcn 4 (by decide))) (by decide) ?_
    refine TL.val (YF.farith rfl rfl a4) (by decide) ?_
    refine TL.val (YF.move rfl) (by decide) ?_
    refine TL.val (YF.farith rfl rfl m5) (by decide) ?_
    refine TL.val (YF.indexArr arr_146 rfl rfl (by first | decide | omega) (show _ = 5 by omega)) (by decide) ?_
    refine TL.val (YF.load_old sc_60 rfl (hcn 5 (by decide))) (by decide) ?_
    refine TL.val (YF.farith rfl rfl a5) (by decide) ?_
    refine TL.val (YF.farith rfl rfl f4) (by decide) ?_
    refine TL.val (YF.farith rfl rfl f5) (by decide) ?_
    refine TL.val (YF.assign rfl) (by decide) ?_
    refine TL.end ?_
    refine Arr.seq ?_
    refine Tr.seq ?_
    refine Tr.seq ?_
    refine Tr.region ?_
    refine TL.val (YF.move rfl) (by decide) ?_
    refine TL.end ?_
    refine Arr.seq ?_
    refine Tr.condT rfl ?_
    refine Tr.region ?_
    refine TL.val (YF.move rfl) (by decide) ?_
    refine TL.val (YF.fneg rfl rfl) (by decide) ?_
    refine TL.val (YF.assign rfl) (by decide) ?_
    refine TL.end ?_
    refine Arr.seq ?_
    refine Tr.seq ?_
    refine Tr.region ?_
    refine TL.val (YF.move rfl) (by decide) ?_
    refine TL.val (YF.assign rfl) (by decide) ?_
    refine TL.end ?_
    refine Arr.seq ?_
    refine Tr.retE ?_
    exact Ends.tmp rfl rfl ⟨rfl, rfl⟩
  ·
    refine TL.val (YF.gtr rfl rfl rfl) (by decide) ?_
    refine TL.end ?_
    refine Arr.seq ?_
    refine Tr.condT rfl ?_
    refine Tr.seq ?_
    refine Tr.region ?_
    refine TL.val (YF.move rfl) (by decide) ?_
    refine TL.val (YF.sub rfl rfl (IntWalk.u64_in _ (by omega))) (by decide) ?_
    refine TL.val (YF.assign rfl) (by decide) ?_
    refine TL.end ?_
    refine Arr.seq ?_
    refine Tr.region ?_
    refine TL.val (YF.move rfl) (by decide) ?_
    refine TL.val (YF.not rfl rfl) (by decide) ?_
    refine TL.val (YF.assign rfl) (by decide) ?_
    refine TL.end ?_
    refine Arr.seq ?_
    refine Tr.seq ?_
    refine Tr.seq ?_
    refine Tr.region ?_
    refine TL.val (YF.move rfl) (by decide) ?_
    refine TL.val (YF.gtr rfl rfl rfl) (by decide) ?_
    refine TL.end ?_
    refine Arr.seq ?_
    refine Tr.condT rfl ?_
    refine Tr.region ?_
    refine TL.val (YF.move rfl) (by decide) ?_
    refine TL.val (YF.not rfl rfl) (by decide) ?_
    refine TL.val (YF.assign rfl) (by decide) ?_
    refine TL.end ?_
    refine Arr.seq ?_
    refine Tr.seq ?_
    refine Tr.region ?_
    refine TL.val (YF.move rfl) (by decide) ?_
    refine TL.val (YF.move rfl) (by decide) ?_
    refine TL.val (YF.farith rfl rfl hzz) (by decide) ?_
    refine TL.val (YF.assign rfl) (by decide) ?_
    refine TL.end ?_
    refine Arr.seq ?_
    refine Tr.seq ?_
    refine Tr.seq ?_
    refine Tr.region ?_
    refine TL.val (YF.move rfl) (by decide) ?_
    refine TL.val (YF.eql rfl rfl rfl) (by decide) ?_
    refine TL.val (YF.move rfl) (by decide) ?_
    first
      | refine TL.gno rfl (by decide) ?_
      | refine TL.gval rfl (YF.move rfl) (by decide) ?_
    first
      | refine TL.gno rfl (by decide) ?_
      | refine TL.gval rfl (YF.eql rfl rfl rfl) (by decide) ?_
    first
      | refine TL.val (YF.pickT rfl rfl) (by decide) ?_
      | refine TL.val (YF.pickF rfl rfl) (by decide) ?_
      | refine TL.val (YF.pick rfl rfl rfl rfl) (by decide) ?_
    refine TL.end ?_
    refine Arr.seq ?_
    refine Tr.condT rfl ?_
    obtain ⟨yy, hp, rfl⟩ := hout
    obtain ⟨s1, p1, q1, p2, q2, p3, q3, p4, q4, p5, q5, s2, f1, ⟨m1, a1, m2, a2, m3, a3, m4, a4, m5, a5⟩, f2, f3⟩ := sinPoly_spec hp
    refine Tr.region ?_
    refine TL.val (YF.move rfl) (by decide) ?_
    refine TL.val (YF.move rfl) (by decide) ?_
    refine TL.val (YF.move rfl) (by decide) ?_
    refine TL.val (YF.farith rfl rfl f1) (by decide) ?_
    refine TL.val (YF.indexArr arr_146 rfl rfl (by first | decide | omega) (show _ = 0 by omega)) (by decide) ?_
    refine TL.val (YF.load_old sc_60 rfl (hsn 0 (by decide))) (by decide) ?_
    refine TL.val (YF.move rfl) (by decide) ?_
    refine TL.val (YF.farith rfl rfl m1) (by decide) ?_
    refine TL.val (YF.indexArr arr_146 rfl rfl (by first | decide | omega) (show _ = 1 by omega)) (by decide) ?_
    refine TL.val (YF.load_old sc_60 rfl (hsn 1 (by decide))) (by decide) ?_
    refine TL.val (YF.farith rfl rfl a1) (by decide) ?_
    refine TL.val (YF.move rfl) (by decide) ?_
    refine TL.val (YF.farith rfl rfl m2) (by decide) ?_
    refine TL.val (YF.indexArr arr_146 rfl rfl (by first | decide | omega) (show _ = 2 by omega)) (by decide) ?_
    refine TL.val (YF.load_old sc_60 rfl (hsn 2 (by decide))) (by decide) ?_
    refine TL.val (YF.farith rfl rfl a2) (by decide) ?_
    refine TL.val (YF.move rfl) (by decide) ?_
    refine TL.val (YF.farith rfl rfl m3) (by decide) ?_
    refine TL.val (YF.indexArr arr_146 rfl rfl (by first | decide | omega) (show _ = 3 by omega)) (by decide) ?_
    refine TL.val (YF.load_old sc_60 rfl (hsn 3 (by decide))) (by decide) ?_
    refine TL.val (YF.farith rfl rfl a3) (by decide) ?_
    refine TL.val (YF.move rfl) (by decide) ?_
    refine TL.val (YF.farith rfl rfl m4) (by decide) ?_
    refine TL.val (YF.indexArr arr_146 rfl rfl (by first | decide | omega) (show _ = 4 by omega)) (by decide) ?_
    refine TL.val (YF.load_old sc_60 rfl (hsn 4 (by decide))) (by decide) ?_
    refine TL.val (YF.farith rfl rfl a4) (by decide) ?_
    refine TL.val (YF.move rfl) (by decide) ?_
    refine TL.val (YF.farith rfl rfl m5) (by decide) ?_
    refine TL.val (YF.indexArr arr_146 rfl rfl (by first | decide | omega) (show _ = 5 by omega)) (by decide) ?_
    refine TL.val (YF.load_old sc_60 rfl (hsn 5 (by decide))) (by decide) ?_
    refine TL.val (YF.farith rfl rfl a5) (by decide) ?_
    refine TL.val (YF.farith rfl rfl f2) (by decide) ?_
    refine TL.val (YF.farith rfl rfl f3) (by decide) ?_
    refine TL.val (YF.assign rfl) (by decide) ?_
    refine TL.end ?_
    refine Arr.seq ?_
    refine Tr.seq ?_
    refine Tr.seq ?_
    refine Tr.region ?_
    refine TL.val (YF.move rfl) (by decide) ?_
    refine TL.end ?_
    refine Arr.seq ?_
    refine Tr.condF rfl ?_
    refine Tr.skipE ?_
    refine Arr.seq ?_
    refine Tr.seq ?_
    refine Tr.region ?_
    refine TL.val (YF.move rfl) (by decide) ?_
    refine TL.val (YF.assign rfl) (by decide) ?_
    refine TL.end ?_
    refine Arr.seq ?_
    refine Tr.retE ?_
    exact Ends.tmp rfl rfl ⟨rfl, rfl⟩

theorem sin_ct (x r : Nat) (w0 : World) (H : Hp) (hsn : ∀ i, i < 6 → w0.cell? ⟨4, i, none⟩ = some (.float .f64 (snb i))) (hcn : ∀ i, i < 6 → w0.cell? ⟨5, i, none⟩ = some (.float .f64 (cnb i))) (h : sinR x = some r) : Ct Tryd.prog 67 #[.float .f64 x] w0 (H) (fun v H' => v = .float .f64 r ∧ H' = H) := by
  refine Ct.of_body (n := 142) (E := [(0, _)]) Tryd.func67 rfl rfl rfl rfl ?_
  refine Tr.seq ?_
  obtain ⟨hok, q, n, y, a, u, b, v, c, z, j, zz, e1, e2, hn, e3, e4, e5, e6, e7, e8, e9, e10, hj, hzz, hout⟩ := sinR_spec h
  obtain ⟨hx, o1, o2, o3, o4⟩ := argOk_spec hok
  refine Tr.region ?_
  refine TL.val (YF.assign rfl) (by decide) ?_
  refine TL.end ?_
  refine Arr.seq ?_
  refine Tr.seq ?_
  refine Tr.block ?_
  refine Tr.seq ?_
  refine Tr.region ?_
  refine TL.val (YF.move rfl) (by decide) ?_
  refine TL.val (YF.feql (b := false) rfl rfl (by rw [o3]; rfl)) (by decide) ?_
  refine TL.val (YF.move rfl) (by decide) ?_
  first
    | refine TL.gno rfl (by decide) ?_
    | refine TL.gval rfl (YF.move rfl) (by decide) ?_
  first
    | refine TL.gno rfl (by decide) ?_
    | (refine TL.geff rfl (EF.call (vs := [_]) call_61 rfl (isNaN_ct x w0 _ o4)) (by decide) ?_
       rintro _ _ ⟨rfl, hH⟩
       replace hH := hH.symm
       subst hH)
  first
    | refine TL.val (YF.pickT rfl rfl) (by decide) ?_
    | refine TL.val (YF.pickF rfl rfl) (by decide) ?_
    | refine TL.val (YF.pick rfl rfl rfl rfl) (by decide) ?_
  refine TL.val (YF.assign rfl) (by decide) ?_
  refine TL.end ?_
  refine Arr.seq ?_
  refine Tr.condF rfl ?_
  refine Tr.seq ?_
  refine Tr.region ?_
  refine TL.val (YF.move rfl) (by decide) ?_
  refine TL.call (vs := [_, _]) call_62 rfl (by decide) (isInf_ct x w0 _ hx o1) ?_
  rintro _ _ ⟨rfl, hH⟩
  replace hH := hH.symm
  subst hH
  refine TL.val (YF.assign rfl) (by decide) ?_
  refine TL.end ?_
  refine Arr.seq ?_
  refine Tr.condF rfl ?_
  refine Tr.skipE ?_
  refine Arr.block ?_
  refine Arr.seq ?_
  refine Tr.seq ?_
  refine Tr.region ?_
  refine TL.val (YF.assign rfl) (by decide) ?_
  refine TL.end ?_
  refine Arr.seq ?_
  refine Tr.seq ?_
  refine Tr.seq ?_
  refine Tr.region ?_
  refine TL.val (YF.move rfl) (by decide) ?_
  refine TL.val (YF.flss (b := false) rfl rfl (by rw [o3]; rfl)) (by decide) ?_
  refine TL.end ?_
  refine Arr.seq ?_
  refine Tr.condF rfl ?_
  refine Tr.skipE ?_
  refine Arr.seq ?_
  refine Tr.seq ?_
  refine Tr.region ?_
  refine TL.val (YF.assign rfl) (by decide) ?_
  refine TL.end ?_
  refine Arr.seq ?_
  refine Tr.seq ?_
  refine Tr.region ?_
  refine TL.val (YF.assign rfl) (by decide) ?_
  refine TL.val (YF.assign rfl) (by decide) ?_
  refine TL.end ?_
  refine Arr.seq ?_
  refine Tr.seq ?_
  refine Tr.seq ?_
  refine Tr.region ?_
  refine TL.val (YF.move rfl) (by decide) ?_
  refine TL.val (YF.fgeq (b := false) rfl rfl (by rw [o2]; rfl)) (by decide) ?_
  refine TL.end ?_
  refine Arr.seq ?_
  refine Tr.condF rfl ?_
  refine Tr.seq ?_
  refine Tr.region ?_
  refine TL.val (YF.move rfl) (by decide) ?_
  refine TL.val (YF.farith rfl rfl e1) (by decide) ?_
  refine TL.val (YF.convFI undS_60 und_143 rfl e2 ⟨by show (0 : Int) ≤ n; omega, by show (n : Int) ≤ 18446744073709551615; omega⟩) (by decide) ?_
  refine TL.val (YF.assign rfl) (by decide) ?_
  refine TL.end ?_
  refine Arr.seq ?_
  refine Tr.seq ?_
  refine Tr.region ?_
  refine TL.val (YF.move rfl) (by decide) ?_
  refine TL.val (YF.convIF und_143 und_60 rfl rfl) (by decide) ?_
  refine TL.val (YF.assign rfl) (by decide) ?_
  refine TL.end ?_
  refine Arr.seq ?_
  refine Tr.seq ?_
  refine Tr.seq ?_
  refine Tr.region ?_
  refine TL.val (YF.move rfl) (by decide) ?_
  refine TL.val (YF.band rfl rfl (u64_low 1 1 (q := 2) (by decide) (by decide) (by omega) (by decide))) (by decide) ?_
  refine TL.val (YF.eql rfl rfl rfl) (by decide) ?_
  refine TL.end ?_
  refine Arr.seq ?_
  refine Tr.cutN (R := fun a w => ∃ k : Nat, k % 8 = j ∧ k < 2000000 ∧ Agree 142 [(0, .float .f64 x), (3, .bool false), (4, .int .u64 k), (5, .float .f64 y)] a ∧ HS w0 H w) ?_ ?_
  ·
    refine Tr.cond rfl (fun h38 => ?_) (fun h38 => ?_)
    ·
      replace h38 := of_decide_eq_true h38
      refine Tr.seq ?_
      refine Tr.region ?_
      refine TL.val (YF.move rfl) (by decide) ?_
      refine TL.val (YF.add rfl rfl (IntWalk.u64_in _ (by omega))) (by decide) ?_
      refine TL.val (YF.assign rfl) (by decide) ?_
      refine TL.end ?_
      refine Arr.seq ?_
      refine Tr.region ?_
      refine TL.val (YF.move rfl) (by decide) ?_
      refine TL.val (YF.farith rfl rfl (e3 (by omega))) (by decide) ?_
      refine TL.val (YF.assign rfl) (by decide) ?_
      refine TL.end ?_
      refine Arr.meet ?_
      first
        | (have ho : n % 2 = 1 := by omega
           rw [if_pos ho] at hj
           exact fun a w ha hw => ⟨n + 1, hj, by omega, (ha.cons rfl (ha.cons rfl (ha.cons rfl (ha.cons rfl (ha.nil))))), hw⟩)
        | (have ho : ¬ n % 2 = 1 := by omega
           rw [if_neg ho] at hj
           have hy := e4 ho
           subst hy
           exact fun a w ha hw => ⟨n, hj, by omega, (ha.cons rfl (ha.cons rfl (ha.cons rfl (ha.cons rfl (ha.nil))))), hw⟩)
    ·
      replace h38 := of_decide_eq_false h38
      refine Tr.skipE ?_
      refine Arr.meet ?_
      first
        | (have ho : n % 2 = 1 := by omega
           rw [if_pos ho] at hj
           exact fun a w ha hw => ⟨n + 1, hj, by omega, (ha.cons rfl (ha.cons rfl (ha.cons rfl (ha.cons rfl (ha.nil))))), hw⟩)
        | (have ho : ¬ n % 2 = 1 := by omega
           rw [if_neg ho] at hj
           have hy := e4 ho
           subst hy
           exact fun a w ha hw => ⟨n, hj, by omega, (ha.cons rfl (ha.cons rfl (ha.cons rfl (ha.cons rfl (ha.nil))))), hw⟩)
  rintro a w ⟨k, hk, hk2, ha, hw⟩
  refine Arr.use ha hw ?_
  refine Arr.seq ?_
  refine Tr.seq ?_
  refine Tr.region ?_
  refine TL.val (YF.move rfl) (by decide) ?_
  refine TL.val (YF.band (r := (j : Int)) rfl rfl ((u64_low (a := k) 3 7 (q := 8) (by decide) (by decide) (by omega) (by decide)).trans (by rw [hk]))) (by decide) ?_
  refine TL.val (YF.assign rfl) (by decide) ?_
  refine TL.end ?_
  refine Arr.seq ?_
  refine Tr.region ?_
  refine TL.val (YF.move rfl) (by decide) ?_
  refine TL.val (YF.move rfl) (by decide) ?_
  refine TL.val (YF.farith rfl rfl e5) (by decide) ?_
  refine TL.val (YF.farith rfl rfl e6) (by decide) ?_
  refine TL.val (YF.move rfl) (by decide) ?_
  refine TL.val (YF.farith rfl rfl e7) (by decide) ?_
  refine TL.val (YF.farith rfl rfl e8) (by decide) ?_
  refine TL.val (YF.move rfl) (by decide) ?_
  refine TL.val (YF.farith rfl rfl e9) (by decide) ?_
  refine TL.val (YF.farith rfl rfl e10) (by decide) ?_
  refine TL.val (YF.assign rfl) (by decide) ?_
  refine TL.end ?_
  refine Arr.seq ?_
  refine Tr.seq ?_
  refine Tr.seq ?_
  refine Tr.region ?_
  refine TL.val (YF.move rfl) (by decide) ?_
  rcases hout with ⟨rfl, hout⟩ | ⟨rfl, hout⟩ | ⟨rfl, hout⟩ | ⟨rfl, hout⟩
  ·
    refine TL.val (YF.gtr rfl rfl rfl) (by decide) ?_
    refine TL.end ?_
    refine Arr.seq ?_
    refine Tr.condF rfl ?_
    refine Tr.skipE ?_
    refine Arr.seq ?_
    refine Tr.seq ?_
    refine Tr.region ?_
    refine TL.val (YF.move rfl) (by decide) ?_
    refine TL.val (YF.move rfl) (by decide) ?_
    refine TL.val (YF.farith rfl rfl hzz) (by decide) ?_
    refine TL.val (YF.assign rfl) (by decide) ?_
    refine TL.end ?_
    refine Arr.seq ?_
    refine Tr.seq ?_
    refine Tr.seq ?_
    refine Tr.region ?_
    refine TL.val (YF.move rfl) (by decide) ?_
    refine TL.val (YF.eql rfl rfl rfl) (by decide) ?_
    refine TL.val (YF.move rfl) (by decide) ?_
    first
      | refine TL.gno rfl (by decide) ?_
      | refine TL.gval rfl (YF.move rfl) (by decide) ?_
    first
      | refine TL.gno rfl (by decide) ?_
      | refine TL.gval rfl (YF.eql rfl rfl rfl) (by decide) ?_
    first
      | refine TL.val (YF.pickT rfl rfl) (by decide) ?_
      | refine TL.val (YF.pickF rfl rfl) (by decide) ?_
      | refine TL.val (YF.pick rfl rfl rfl rfl) (by decide) ?_
    refine TL.end ?_
    refine Arr.seq ?_
    refine Tr.condF rfl ?_
    obtain ⟨yy, hp, rfl⟩ := hout
    obtain ⟨s1, p1, q1, p2, q2, p3, q3, p4, q4, p5, q5, s2, f1, ⟨m1, a1, m2, a2, m3, a3, m4, a4, m5, a5⟩, f2, f3⟩ := sinPoly_spec hp
    refine Tr.region ?_
    refine TL.val (YF.move rfl) (by decide) ?_
    refine TL.val (YF.move rfl) (by decide) ?_
    refine TL.val (YF.move rfl) (by decide) ?_
    refine TL.val (YF.farith rfl rfl f1) (by decide) ?_
    refine TL.val (YF.indexArr arr_146 rfl rfl (by first | decide | omega) (show _ = 0 by omega)) (by decide) ?_
    refine TL.val (YF.load_old sc_60 rfl (hsn 0 (by decide))) (by decide) ?_
    refine TL.val (YF.move rfl) (by decide) ?_
    refine TL.val (YF.farith rfl rfl m1) (by decide) ?_
    refine TL.val (YF.indexArr arr_146 rfl rfl (by first | decide | omega) (show _ = 1 by omega)) (by decide) ?_
    refine TL.val (YF.load_old sc_60 rfl (hsn 1 (by decide))) (by decide) ?_
    refine TL.val (YF.farith rfl rfl a1) (by decide) ?_
    refine TL.val (YF.move rfl) (by decide) ?_
    refine TL.val (YF.farith rfl rfl m2) (by decide) ?_
    refine TL.val (YF.indexArr arr_146 rfl rfl (by first | decide | omega) (show _ = 2 by omega)) (by decide) ?_
    refine TL.val (YF.load_old sc_60 rfl (hsn 2 (by decide))) (by decide) ?_
    refine TL.val (YF.farith rfl rfl a2) (by decide) ?_
    refine TL.val (YF.move rfl) (by decide) ?_
    refine TL.val (YF.farith rfl rfl m3) (by decide) ?_
    refine TL.val (YF.indexArr arr_146 rfl rfl (by first | decide | omega) (show _ = 3 by omega)) (by decide) ?_
    refine TL.val (YF.load_old sc_60 rfl (hsn 3 (by decide))) (by decide) ?_
    refine TL.val (YF.farith rfl rfl a3) (by decide) ?_
    refine TL.val (YF.move rfl) (by decide) ?_
    refine TL.val (YF.farith rfl rfl m4) (by decide) ?_
    refine TL.val (YF.indexArr arr_146 rfl rfl (by first | decide | omega) (show _ = 4 by omega)) (by decide) ?_
    refine TL.val (YF.load_old sc_60 rfl (hsn 4 (by decide))) (by decide) ?_
    refine TL.val (YF.farith rfl rfl a4) (by decide) ?_
    refine TL.val (YF.move rfl) (by decide) ?_
    refine TL.val (YF.farith rfl rfl m5) (by decide) ?_
    refine TL.val (YF.indexArr arr_146 rfl rfl (by first | decide | omega) (show _ = 5 by omega)) (by decide) ?_
    refine TL.val (YF.load_old sc_60 rfl (hsn 5 (by decide))) (by decide) ?_
    refine TL.val (YF.farith rfl rfl a5) (by decide) ?_
    refine TL.val (YF.farith rfl rfl f2) (by decide) ?_
    refine TL.val (YF.farith rfl rfl f3) (by decide) ?_
    refine TL.val (YF.assign rfl) (by decide) ?_
    refine TL.end ?_
    refine Arr.seq ?_
    refine Tr.seq ?_
    refine Tr.seq ?_
    refine Tr.region ?_
    refine TL.val (YF.move rfl) (by decide) ?_
    refine TL.end ?_
    refine Arr.seq ?_
    refine Tr.condF rfl ?_
    refine Tr.skipE ?_
    refine Arr.seq ?_
    refine Tr.seq ?_
    refine Tr.region ?_
    refine TL.val (YF.move rfl) (by decide) ?_
    refine TL.val (YF.assign rfl) (by decide) ?_
    refine TL.end ?_
    refine Arr.seq ?_
    refine Tr.retE ?_
    exact Ends.tmp rfl rfl ⟨rfl, rfl⟩
  ·
    refine TL.val (YF.gtr rfl rfl rfl) (by decide) ?_
    refine TL.end ?_
    refine Arr.seq ?_
    refine Tr.condF rfl ?_
    refine Tr.skipE ?_
    refine Arr.seq ?_
    refine Tr.seq ?_
    refine Tr.region ?_
    refine TL.val (YF.move rfl) (by decide) ?_
    refine TL.val (YF.move rfl) (by decide) ?_
    refine TL.val (YF.farith rfl rfl hzz) (by decide) ?_
    refine TL.val (YF.assign rfl) (by decide) ?_
    refine TL.end ?_
    refine Arr.seq ?_
    refine Tr.seq ?_
    refine Tr.seq ?_
    refine Tr.region ?_
    refine TL.val (YF.move rfl) (by decide) ?_
    refine TL.val (YF.eql rfl rfl rfl) (by decide) ?_
    refine TL.val (YF.move rfl) (by decide) ?_
    first
      | refine TL.gno rfl (by decide) ?_
      | refine TL.gval rfl (YF.move rfl) (by decide) ?_
    first
      | refine TL.gno rfl (by decide) ?_
      | refine TL.gval rfl (YF.eql rfl rfl rfl) (by decide) ?_
    first
      | refine TL.val (YF.pickT rfl rfl) (by decide) ?_
      | refine TL.val (YF.pickF rfl rfl) (by decide) ?_
      | refine TL.val (YF.pick rfl rfl rfl rfl) (by decide) ?_
    refine TL.end ?_
    refine Arr.seq ?_
    refine Tr.condT rfl ?_
    obtain ⟨yy, hp, rfl⟩ := hout
    obtain ⟨s1, s2, s3, p1, q1, p2, q2, p3, q3, p4, q4, p5, q5, s4, f1, f2, f3, ⟨m1, a1, m2, a2, m3, a3, m4, a4, m5, a5⟩, f4, f5⟩ := cosPoly_spec hp
    refine Tr.region ?_
    refine TL.val (YF.move rfl) (by decide) ?_
    refine TL.val (YF.farith rfl rfl f1) (by decide) ?_
    refine TL.val (YF.farith rfl rfl f2) (by decide) ?_
    refine TL.val (YF.move rfl) (by decide) ?_
    refine TL.val (YF.move rfl) (by decide) ?_
    refine TL.val (YF.farith rfl rfl f3) (by decide) ?_
    refine TL.val (YF.indexArr arr_146 rfl rfl (by first | decide | omega) (show _ = 0 by omega)) (by decide) ?_
    refine TL.val (YF.load_old sc_60 rfl (hcn 0 (by decide))) (by decide) ?_
    refine TL.val (YF.move rfl) (by decide) ?_
    refine TL.val (YF.farith rfl rfl m1) (by decide) ?_
    refine TL.val (YF.indexArr arr_146 rfl rfl (by first | decide | omega) (show _ = 1 by omega)) (by decide) ?_
    refine TL.val (YF.load_old sc_60 rfl (hcn 1 (by decide))) (by decide) ?_
    refine TL.val (YF.farith rfl rfl a1) (by decide) ?_
    refine TL.val (YF.move rfl) (by decide) ?_
    refine TL.val (YF.farith rfl rfl m2) (by decide) ?_
    refine TL.val (YF.indexArr arr_146 rfl rfl (by first | decide | omega) (show _ = 2 by omega)) (by decide) ?_
    refine TL.val (YF.load_old sc_60 rfl (hcn 2 (by decide))) (by decide) ?_
    refine TL.val (YF.farith rfl rfl a2) (by decide) ?_
    refine TL.val (YF.move rfl) (by decide) ?_
    refine TL.val (YF.farith rfl rfl m3) (by decide) ?_
    refine TL.val (YF.indexArr arr_146 rfl rfl (by first | decide | omega) (show _ = 3 by omega)) (by decide) ?_
    refine TL.val (YF.load_old sc_60 rfl (hcn 3 (by decide))) (by decide) ?_
    refine TL.val (YF.farith rfl rfl a3) (by decide) ?_
    refine TL.val (YF.move rfl) (by decide) ?_
    refine TL.val (YF.farith rfl rfl m4) (by decide) ?_
    refine TL.val (YF.indexArr arr_146 rfl rfl (by first | decide | omega) (show _ = 4 by omega)) (by decide) ?_
    refine TL.val (YF.load_old sc_60 rfl (hcn 4 (by decide))) (by decide) ?_
    refine TL.val (YF.farith rfl rfl a4) (by decide) ?_
    refine TL.val (YF.move rfl) (by decide) ?_
    refine TL.val (YF.farith rfl rfl m5) (by decide) ?_
    refine TL.val (YF.indexArr arr_146 rfl rfl (by first | decide | omega) (show _ = 5 by omega)) (by decide) ?_
    refine TL.val (YF.load_old sc_60 rfl (hcn 5 (by decide))) (by decide) ?_
    refine TL.val (YF.farith rfl rfl a5) (by decide) ?_
    refine TL.val (YF.farith rfl rfl f4) (by decide) ?_
    refine TL.val (YF.farith rfl rfl f5) (by decide) ?_
    refine TL.val (YF.assign rfl) (by decide) ?_
    refine TL.end ?_
    refine Arr.seq ?_
    refine Tr.seq ?_
    refine Tr.seq ?_
    refine Tr.region ?_
    refine TL.val (YF.move rfl) (by decide) ?_
    refine TL.end ?_
    refine Arr.seq ?_
    refine Tr.condF rfl ?_
    refine Tr.skipE ?_
    refine Arr.seq ?_
    refine Tr.seq ?_
    refine Tr.region ?_
    refine TL.val (YF.move rfl) (by decide) ?_
    refine TL.val (YF.assign rfl) (by decide) ?_
    refine TL.end ?_
    refine Arr.seq ?_
    refine Tr.retE ?_
    exact Ends.tmp rfl rfl ⟨rfl, rfl⟩
  ·
    refine TL.val (YF.gtr rfl rfl rfl) (by decide) ?_
    refine TL.end ?_
    refine Arr.seq ?_
    refine Tr.condT rfl ?_
    refine Tr.seq ?_
    refine Tr.region ?_
    refine TL.val (YF.move rfl) (by decide) ?_
    refine TL.val (YF.not rfl rfl) (by decide) ?_
    refine TL.val (YF.assign rfl) (by decide) ?_
    refine TL.end ?_
    refine Arr.seq ?_
    refine Tr.region ?_
    refine TL.val (YF.move rfl) (by decide) ?_
    refine TL.val (YF.sub rfl rfl (IntWalk.u64_in _ (by omega))) (by decide) ?_
    refine TL.val (YF.assign rfl) (by decide) ?_
    refine TL.end ?_
    refine Arr.seq ?_
    refine Tr.seq ?_
    refine Tr.region ?_
    refine TL.val (YF.move rfl) (by decide) ?_
    refine TL.val (YF.move rfl) (by decide) ?_
    refine TL.val (YF.farith rfl rfl hzz) (by decide) ?_
    refine TL.val (YF.assign rfl) (by decide) ?_
    refine TL.end ?_
    refine Arr.seq ?_
    refine Tr.seq ?_
    refine Tr.seq ?_
    refine Tr.region ?_
    refine TL.val (YF.move rfl) (by decide) ?_
    refine TL.val (YF.eql rfl rfl rfl) (by decide) ?_
    refine TL.val (YF.move rfl) (by decide) ?_
    first
      | refine TL.gno rfl (by decide) ?_
      | refine TL.gval rfl (YF.move rfl) (by decide) ?_
    first
      | refine TL.gno rfl (by decide) ?_
      | refine TL.gval rfl (YF.eql rfl rfl rfl) (by decide) ?_
    first
      | refine TL.val (YF.pickT rfl rfl) (by decide) ?_
      | refine TL.val (YF.pickF rfl rfl) (by decide) ?_
      | refine TL.val (YF.pick rfl rfl rfl rfl) (by decide) ?_
    refine TL.end ?_
    refine Arr.seq ?_
    refine Tr.condF rfl ?_
    obtain ⟨yy, hp, rfl⟩ := hout
    obtain ⟨s1, p1, q1, p2, q2, p3, q3, p4, q4, p5, q5, s2, f1, ⟨m1, a1, m2, a2, m3, a3, m4, a4, m5, a5⟩, f2, f3⟩ := sinPoly_spec hp
    refine Tr.region ?_
    refine TL.val (YF.move rfl) (by decide) ?_
    refine TL.val (YF.move rfl) (by decide) ?_
    refine TL.val (YF.move rfl) (by decide) ?_
    refine TL.val (YF.farith rfl rfl f1) (by decide) ?_
    refine TL.val (YF.indexArr arr_146 rfl rfl (by first | decide | omega) (show _ = 0 by omega)) (by decide) ?_
    refine TL.val (YF.load_old sc_60 rfl (hsn 0 (by decide))) (by decide) ?_
    refine TL.val (YF.move rfl) (by decide) ?_
    refine TL.val (YF.farith rfl rfl m1) (by decide) ?_
    refine TL.val (YF.indexArr arr_146 rfl rfl (by first | decide | omega) (show _ = 1 by omega)) (by decide) ?_
    refine TL.val (YF.load_old sc_60 rfl (hsn 1 (by decide))) (by decide) ?_
    refine TL.val (YF.farith rfl rfl a1) (by decide) ?_
    refine TL.val (YF.move rfl) (by decide) ?_
    refine TL.val (YF.farith rfl rfl m2) (by decide) ?_
    refine TL.val (YF.indexArr arr_146 rfl rfl (by first | decide | omega) (show _ = 2 by omega)) (by decide) ?_
    refine TL.val (YF.load_old sc_60 rfl (hsn 2 (by decide))) (by decide) ?_
    refine TL.val (YF.farith rfl rfl a2) (by decide) ?_
    refine TL.val (YF.move rfl) (by decide) ?_
    refine TL.val (YF.farith rfl rfl m3) (by decide) ?_
    refine TL.val (YF.indexArr arr_146 rfl rfl (by first | decide | omega) (show _ = 3 by omega)) (by decide) ?_
    refine TL.val (YF.load_old sc_60 rfl (hsn 3 (by decide))) (by decide) ?_
    refine TL.val (YF.farith rfl rfl a3) (by decide) ?_
    refine TL.val (YF.move rfl) (by decide) ?_
    refine TL.val (YF.farith rfl rfl m4) (by decide) ?_
    refine TL.val (YF.indexArr arr_146 rfl rfl (by first | decide | omega) (show _ = 4 by omega)) (by decide) ?_
    refine TL.val (YF.load_old sc_60 rfl (hsn 4 (by decide))) (by decide) ?_
    refine TL.val (YF.farith rfl rfl a4) (by decide) ?_
    refine TL.val (YF.move rfl) (by decide) ?_
    refine TL.val (YF.farith rfl rfl m5) (by decide) ?_
    refine TL.val (YF.indexArr arr_146 rfl rfl (by first | decide | omega) (show _ = 5 by omega)) (by decide) ?_
    refine TL.val (YF.load_old sc_60 rfl (hsn 5 (by decide))) (by decide) ?_
    refine TL.val (YF.farith rfl rfl a5) (by decide) ?_
    refine TL.val (YF.farith rfl rfl f2) (by decide) ?_
    refine TL.val (YF.farith rfl rfl f3) (by decide) ?_
    refine TL.val (YF.assign rfl) (by decide) ?_
    refine TL.end ?_
    refine Arr.seq ?_
    refine Tr.seq ?_
    refine Tr.seq ?_
    refine Tr.region ?_
    refine TL.val (YF.move rfl) (by decide) ?_
    refine TL.end ?_
    refine Arr.seq ?_
    refine Tr.condT rfl ?_
    refine Tr.region ?_
    refine TL.val (YF.move rfl) (by decide) ?_
    refine TL.val (YF.fneg rfl rfl) (by decide) ?_
    refine TL.val (YF.assign rfl) (by decide) ?_
    refine TL.end ?_
    refine Arr.seq ?_
    refine Tr.seq ?_
    refine Tr.region ?_
    refine TL.val (YF.move rfl) (by decide) ?_
    refine TL.val (YF.assign rfl) (by decide) ?_
    refine TL.end ?_
    refine Arr.seq ?_
    refine Tr.retE ?_
    exact Ends.tmp rfl rfl ⟨rfl, rfl⟩
  ·
    refine TL.val (YF.gtr rfl rfl rfl) (by decide) ?_
    refine TL.end ?_
    refine Arr.seq ?_
    refine Tr.condT rfl ?_
    refine Tr.seq ?_
    refine Tr.region ?_
    refine TL.val (YF.move rfl) (by decide) ?_
    refine TL.val (YF.not rfl rfl) (by decide) ?_
    refine TL.val (YF.assign rfl) (by decide) ?_
    refine TL.end ?_
    refine Arr.seq ?_
    refine Tr.region ?_
    refine TL.val (YF.move rfl) (by decide) ?_
    refine TL.val (YF.sub rfl rfl (IntWalk.u64_in _ (by omega))) (by decide) ?_
    refine TL.val (YF.assign rfl) (by decide) ?_
    refine TL.end ?_
    refine Arr.seq ?_
    refine Tr.seq ?_
    refine Tr.region ?_
    refine TL.val (YF.move rfl) (by decide) ?_
    refine TL.val (YF.move rfl) (by decide) ?_
    refine TL.val (YF.farith rfl rfl hzz) (by decide) ?_
    refine TL.val (YF.assign rfl) (by decide) ?_
    refine TL.end ?_
    refine Arr.seq ?_
    refine Tr.seq ?_
    refine Tr.seq ?_
    refine Tr.region ?_
    refine TL.val (YF.move rfl) (by decide) ?_
    refine TL.val (YF.eql rfl rfl rfl) (by decide) ?_
    refine TL.val (YF.move rfl) (by decide) ?_
    first
      | refine TL.gno rfl (by decide) ?_
      | refine TL.gval rfl (YF.move rfl) (by decide) ?_
    first
      | refine TL.gno rfl (by decide) ?_
      | refine TL.gval rfl (YF.eql rfl rfl rfl) (by decide) ?_
    first
      | refine TL.val (YF.pickT rfl rfl) (by decide) ?_
      | refine TL.val (YF.pickF rfl rfl) (by decide) ?_
      | refine TL.val (YF.pick rfl rfl rfl rfl) (by decide) ?_
    refine TL.end ?_
    refine Arr.seq ?_
    refine Tr.condT rfl ?_
    obtain ⟨yy, hp, rfl⟩ := hout
    obtain ⟨s1, s2, s3, p1, q1, p2, q2, p3, q3, p4, q4, p5, q5, s4, f1, f2, f3, ⟨m1, a1, m2, a2, m3, a3, m4, a4, m5, a5⟩, f4, f5⟩ := cosPoly_spec hp
    refine Tr.region ?_
    refine TL.val (YF.move rfl) (by decide) ?_
    refine TL.val (YF.farith rfl rfl f1) (by decide) ?_
    refine TL.val (YF.farith rfl rfl f2) (by decide) ?_
    refine TL.val (YF.move rfl) (by decide) ?_
    refine TL.val (YF.move rfl) (by decide) ?_
    refine TL.val (YF.farith rfl rfl f3) (by decide) ?_
    refine TL.val (YF.indexArr arr_146 rfl rfl (by first | decide | omega) (show _ = 0 by omega)) (by decide) ?_
    refine TL.val (YF.load_old sc_60 rfl (hcn 0 (by decide))) (by decide) ?_
    refine TL.val (YF.move rfl) (by decide) ?_
    refine TL.val (YF.farith rfl rfl m1) (by decide) ?_
    refine TL.val (YF.indexArr arr_146 rfl rfl (by first | decide | omega) (show _ = 1 by omega)) (by decide) ?_
    refine TL.val (YF.load_old sc_60 rfl (hcn 1 (by decide))) (by decide) ?_
    refine TL.val (YF.farith rfl rfl a1) (by decide) ?_
    refine TL.val (YF.move rfl) (by decide) ?_
    refine TL.val (YF.farith rfl rfl m2) (by decide) ?_
    refine TL.val (YF.indexArr arr_146 rfl rfl (by first | decide | omega) (show _ = 2 by omega)) (by decide) ?_
    refine TL.val (YF.load_old sc_60 rfl (hcn 2 (by decide))) (by decide) ?_
    refine TL.val (YF.farith rfl rfl a2) (by decide) ?_
    refine TL.val (YF.move rfl) (by decide) ?_
    refine TL.val (YF.farith rfl rfl m3) (by decide) ?_
    refine TL.val (YF.indexArr arr_146 rfl rfl (by first | decide | omega) (show _ = 3 by omega)) (by decide) ?_
    refine TL.val (YF.load_old sc_60 rfl (hcn 3 (by decide))) (by decide) ?_
    refine TL.val (YF.farith rfl rfl a3) (by decide) ?_
    refine TL.val (YF.move rfl) (by decide) ?_
    refine TL.val (YF.farith rfl rfl m4) (by decide) ?_
    refine TL.val (YF.indexArr arr_146 rfl rfl (by first | decide | omega) (show _ = 4 by omega)) (by decide) ?_
    refine TL.val (YF.load_old sc_60 rfl (hcn 4 (by decide))) (by decide) ?_
    refine TL.val (YF.farith rfl rfl a4) (by decide) ?_
    refine TL.val (YF.move rfl) (by decide) ?_
    refine TL.val (YF.farith rfl rfl m5) (by decide) ?_
    refine TL.val (YF.indexArr arr_146 rfl rfl (by first | decide | omega) (show _ = 5 by omega)) (by decide) ?_
    refine TL.val (YF.load_old sc_60 rfl (hcn 5 (by decide))) (by decide) ?_
    refine TL.val (YF.farith rfl rfl a5) (by decide) ?_
    refine TL.val (YF.farith rfl rfl f4) (by decide) ?_
    refine TL.val (YF.farith rfl rfl f5) (by decide) ?_
    refine TL.val (YF.assign rfl) (by decide) ?_
    refine TL.end ?_
    refine Arr.seq ?_
    refine Tr.seq ?_
    refine Tr.seq ?_
    refine Tr.region ?_
    refine TL.val (YF.move rfl) (by decide) ?_
    refine TL.end ?_
    refine Arr.seq ?_
    refine Tr.condT rfl ?_
    refine Tr.region ?_
    refine TL.val (YF.move rfl) (by decide) ?_
    refine TL.val (YF.fneg rfl rfl) (by decide) ?_
    refine TL.val (YF.assign rfl) (by decide) ?_
    refine TL.end ?_
    refine Arr.seq ?_
    refine Tr.seq ?_
    refine Tr.region ?_
    refine TL.val (YF.move rfl) (by decide) ?_
    refine TL.val (YF.assign rfl) (by decide) ?_
    refine TL.end ?_
    refine Arr.seq ?_
    refine Tr.retE ?_
    exact Ends.tmp rfl rfl ⟨rfl, rfl⟩

theorem Cos_ct (x r : Nat) (w0 : World) (H : Hp) (hsn : ∀ i, i < 6 → w0.cell? ⟨4, i, none⟩ = some (.float .f64 (snb i))) (hcn : ∀ i, i < 6 → w0.cell? ⟨5, i, none⟩ = some (.float .f64 (cnb i))) (h : cosR x = some r) : Ct Tryd.prog 41 #[.float .f64 x] w0 (H) (fun v H' => v = .float .f64 r ∧ H' = H) := by
  refine Ct.of_body (n := 7) (E := [(0, _)]) Tryd.func41 rfl rfl rfl rfl ?_
  refine Tr.seq ?_
  refine Tr.region ?_
  refine TL.val (YF.assign rfl) (by decide) ?_
  refine TL.end ?_
  refine Arr.seq ?_
  refine Tr.seq ?_
  refine Tr.condF rfl ?_
  refine Tr.skipE ?_
  refine Arr.seq ?_
  refine Tr.seq ?_
  refine Tr.region ?_
  refine TL.val (YF.move rfl) (by decide) ?_
  refine TL.call (vs := [_]) call_51 rfl (by decide) (cos_ct x r w0 _ hsn hcn h) ?_
  rintro _ _ ⟨rfl, hH⟩
  replace hH := hH.symm
  subst hH
  refine TL.val (YF.assign rfl) (by decide) ?_
  refine TL.end ?_
  refine Arr.seq ?_
  refine Tr.retE ?_
  exact Ends.tmp rfl rfl ⟨rfl, rfl⟩

theorem Sin_ct (x r : Nat) (w0 : World) (H : Hp) (hsn : ∀ i, i < 6 → w0.cell? ⟨4, i, none⟩ = some (.float .f64 (snb i))) (hcn : ∀ i, i < 6 → w0.cell? ⟨5, i, none⟩ = some (.float .f64 (cnb i))) (h : sinR x = some r) : Ct Tryd.prog 52 #[.float .f64 x] w0 (H) (fun v H' => v = .float .f64 r ∧ H' = H) := by
  refine Ct.of_body (n := 7) (E := [(0, _)]) Tryd.func52 rfl rfl rfl rfl ?_
  refine Tr.seq ?_
  refine Tr.region ?_
  refine TL.val (YF.assign rfl) (by decide) ?_
  refine TL.end ?_
  refine Arr.seq ?_
  refine Tr.seq ?_
  refine Tr.condF rfl ?_
  refine Tr.skipE ?_
  refine Arr.seq ?_
  refine Tr.seq ?_
  refine Tr.region ?_
  refine TL.val (YF.move rfl) (by decide) ?_
  refine TL.call (vs := [_]) call_67 rfl (by decide) (sin_ct x r w0 _ hsn hcn h) ?_
  rintro _ _ ⟨rfl, hH⟩
  replace hH := hH.symm
  subst hH
  refine TL.val (YF.assign rfl) (by decide) ?_
  refine TL.end ?_
  refine Arr.seq ?_
  refine Tr.retE ?_
  exact Ends.tmp rfl rfl ⟨rfl, rfl⟩

end Go.Proofs.YtbcjhkncifckiaaDoor
