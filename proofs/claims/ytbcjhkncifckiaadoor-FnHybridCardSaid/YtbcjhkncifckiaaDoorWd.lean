/- The walk of the function that makes a frame. -/
import Derived.Test.YtbcjhkncifckiaaDoorWc
namespace Go.Proofs.YtbcjhkncifckiaaDoor
open Go Go.RowKit Go.Proofs En
set_option maxRecDepth 100000
set_option maxHeartbeats 0

/-- Noughts are a frame. -/
theorem Zfr : Zv_49 = va 341 (fr (fun _ => 0) (fun _ => .slice none 0 0)) := by kernel_rfl
theorem built_frame (h : Nat → Int) : Tryd.prog.built 49 [(0, .agg (va 7 (sd h)))] = some (va 341 (fr (fun q => if q < 7 then h q else 0) (fun _ => .slice none 0 0))) := by
  rw [built_struct zero_49 places_49, fill_cons _ _ 0 0 7 (.agg (va 7 (sd h))) [] rfl (show (va 7 (sd h)).size = 7 from va_size _ _) (by rw [Zsz_49]; decide), Instr.fill, Zfr]
  show some (splice _ 0 (va 7 (sd h))) = _
  rw [va_splice (by decide)]
  refine congrArg some (va_ext rfl fun q hq => ?_)
  unfold fr sd
  by_cases h7 : q < 7
  · rw [if_pos (by omega), if_pos (by omega)]; show Value.int .i64 (h (q - 0)) = Value.int .i64 (if q < 7 then h q else 0); rw [if_pos h7]; rfl
  · rw [if_neg (by omega)]
    by_cases h8 : q < 337
    · rw [if_pos h8, if_pos h8]; show Value.int .i64 0 = Value.int .i64 (if q < 7 then h q else 0); rw [if_neg h7]
    · rw [if_neg h8, if_neg h8]

theorem frameOf_ct (h : Nat → Int) (nd ad : Option Addr) (nl nc vl vc : Nat) (w0 : World) (H : Hp) (hd : HdOK h) (hnum : U32s w0 nd nl) (hnl : nl ≤ 1000) (hv : I8s w0 ad vl) (hvl : vl ≤ 1000) : Ct Tryd.prog 8 #[.agg (va 7 (sd h)), .slice nd nl nc, .slice ad vl vc] w0 (H) (fun v H' => ∃ x y L, v = .agg (va 341 (fr x y)) ∧ FI h x ∧ (∀ i, i < 4 → LO L (y i)) ∧ H' = L ++ H) := by
  refine Ct.of_body (n := 631) (E := [(0, _), (1, _), (2, _)]) Tryd.func8 rfl rfl rfl rfl ?_
  refine Tr.seq ?_
  refine Tr.region ?_
  refine TL.box rfl (by decide) (fun b3 => ?_)
  refine TL.box rfl (by decide) (fun b5 => ?_)
  refine TL.allocA zero_49 (by decide) (fun b6 => ?_)
  refine TL.end ?_
  refine Arr.seq ?_
  refine Tr.seq ?_
  refine Tr.region ?_
  refine TL.val (YF.loadAll 2 agg_27 rfl rfl (va_size _ _)) (by decide) ?_
  refine TL.val (YF.build (vs := [(0, _)]) rfl (built_frame h)) (by decide) ?_
  refine TL.allocA zero_49 (by decide) (fun b7 => ?_)
  refine TL.storeAll 0 (_ :: _ :: _ :: _ :: _) rfl rfl rfl sz_49 (va_size _ _) Zsz_49 (va_one fun q hq => by unfold fr; split <;> rfl) rfl ?_
  refine TL.end ?_
  refine Arr.seq ?_
  refine Tr.seq ?_
  refine Tr.region ?_
  refine TL.alloc zero_3 (by decide) (fun b8 => ?_)
  refine TL.heap ((_, .cells #[.int .i64 0] _ _) :: _) rfl ?_
  first
    | refine TL.store 0 (_ :: _ :: _ :: _ :: _ :: _) rfl rfl rfl sz_3 rfl (by first | exact Nat.le_of_ble_eq_true rfl | omega | (simp; omega)) rfl ?_
    | refine TL.store 1 (_ :: _ :: _ :: _ :: _ :: _) rfl rfl rfl sz_3 rfl (by first | exact Nat.le_of_ble_eq_true rfl | omega | (simp; omega)) rfl ?_
    | refine TL.store 2 (_ :: _ :: _ :: _ :: _ :: _) rfl rfl rfl sz_3 rfl (by first | exact Nat.le_of_ble_eq_true rfl | omega | (simp; omega)) rfl ?_
    | refine TL.store 3 (_ :: _ :: _ :: _ :: _ :: _) rfl rfl rfl sz_3 rfl (by first | exact Nat.le_of_ble_eq_true rfl | omega | (simp; omega)) rfl ?_
    | refine TL.store 4 (_ :: _ :: _ :: _ :: _ :: _) rfl rfl rfl sz_3 rfl (by first | exact Nat.le_of_ble_eq_true rfl | omega | (simp; omega)) rfl ?_
  refine TL.end ?_
  refine Arr.seq ?_
  refine Tr.seq ?_
  refine Tr.region ?_
  refine TL.val (YF.makeFunc0 (vs := [_, _]) rfl) (by decide) ?_
  refine TL.val (YF.assign rfl) (by decide) ?_
  refine TL.end ?_
  refine Arr.seq ?_
  refine Tr.seq ?_
  refine Tr.region ?_
  refine TL.val (YF.fieldAddr fo_49_1 rfl rfl) (by decide) ?_
  refine TL.val (YF.fieldAddr fo_49_2 rfl rfl) (by decide) ?_
  refine TL.val (YF.assign rfl) (by decide) ?_
  refine TL.val (YF.assign rfl) (by decide) ?_
  refine TL.end ?_
  refine Arr.seq ?_
  refine Tr.seq ?_
  refine Tr.seq ?_
  refine Tr.region ?_
  have hx : FI h (fun q => if q < 7 then h q else 0) := ⟨fun q hq => if_pos hq, fun q h1 h2 => by show 0 ≤ (if q < 7 then h q else 0) ∧ (if q < 7 then h q else 0) ≤ lim q; rw [if_neg (by omega)]; exact lim_of (by omega) (by omega) (by omega), fun q h1 h2 _ => by show (if q + 4 < 7 then _ else _) = _; rw [if_neg (by omega)]⟩
  refine TL.val (YF.move rfl) (by decide) ?_
  refine TL.end ?_
  refine Arr.seq ?_
  refine Tr.block ?_
  refine Tr.loop (I := fun q a w => ∃ (g : Nat) (k : Int) (x : Nat → Int) (y : Nat → Value) (L : Hp), (q = (2 - g : Nat)) ∧ (g ≤ 2) ∧ (0 ≤ k ∧ k ≤ 1000 * g) ∧ (FI h x) ∧ (∀ i, i < 4 → LO L (y i)) ∧ Agree 631 [(1, .slice nd nl nc), (3, .pointer (some ⟨b3, 0, none⟩)), (6, .pointer (some ⟨b6, 0, none⟩)), (7, .pointer (some ⟨b7, 0, none⟩)), (9, .func (.func 22) #[] #[.pointer (some ⟨b8, 0, none⟩), .pointer (some ⟨b5, 0, none⟩)]), (10, .pointer (some ⟨b7, 7, none⟩)), (11, .pointer (some ⟨b7, 93, none⟩)), (40, .int .i64 g)] a ∧ HS w0 ((b8, .cells #[.int .i64 k] 3 (0, 0)) :: (b7, .cells (va 341 (fr x y)) 49 (0, 0)) :: (b6, .cells Zv_49 49 (0, 0)) :: (b5, .cells #[.slice ad vl vc] 24 (0, 0)) :: (b3, .cells (va 7 (sd h)) 27 (0, 0)) :: (L ++ H)) w) ((2 - (0) : Nat)) ?_ ?_
  · intro a w ha hw
    exact ⟨0, 0, _, _, [], rfl, by omega, by omega, hx, fun i hi => .inl rfl, (ha.cons rfl (ha.cons rfl (ha.cons rfl (ha.cons rfl (ha.cons rfl (ha.cons rfl (ha.cons rfl (ha.cons rfl (ha.nil))))))))), hw⟩
  try clear hk
  try clear hx
  try clear hy
  try clear hx1
  try clear hx2
  try clear hk'
  try clear hr
  try clear hnn
  try clear htb
  try clear hla
  try clear hlb
  try clear hcn
  try clear htp
  try clear htt
  try clear htv0
  try clear hbig
  try clear hmm1
  try clear hmm2
  rintro _ a w ⟨g, k, x, y, L, rfl, hg, hk, hx, hy, ha, hw⟩
  refine Tr.use ha hw ?_
  refine Tr.seq ?_
  refine Tr.region ?_
  refine TL.val (YF.lss rfl rfl rfl) (by decide) ?_
  refine TL.end ?_
  refine Arr.seq ?_
  refine Tr.seq ?_
  refine Tr.cond rfl (fun h41 => ?_) (fun h41 => ?_)
  ·
    replace h41 := of_decide_eq_true h41
    refine Tr.skipE ?_
    refine Arr.seq ?_
    refine Tr.seq ?_
    refine Tr.block ?_
    refine Tr.seq ?_
    refine Tr.region ?_
    refine TL.val (YF.move rfl) (by decide) ?_
    refine TL.val (YF.assign rfl) (by decide) ?_
    refine TL.end ?_
    refine Arr.seq ?_
    refine Tr.seq ?_
    refine Tr.region ?_
    refine TL.val (YF.loadAll 4 agg_27 rfl rfl (va_size _ _)) (by decide) ?_
    refine TL.call (vs := [_]) call_10 rfl (by decide) (channels_ct _ w0 _) ?_
    rintro _ _ ⟨rfl, rfl⟩
    refine TL.val (YF.move rfl) (by decide) ?_
    refine TL.end ?_
    refine Arr.seq ?_
    refine Tr.block ?_
    refine Tr.loop (I := fun q a w => ∃ (c : Nat) (k : Int) (x : Nat → Int) (y : Nat → Value) (L : Hp) (ch : Int), (q = (2 - c : Nat)) ∧ (c ≤ 2) ∧ (0 ≤ k ∧ k ≤ 1000 * g + 400 * c) ∧ (FI h x) ∧ (∀ i, i < 4 → LO L (y i)) ∧ (1 ≤ ch ∧ ch ≤ 2) ∧ ((c : Int) ≤ ch) ∧ Agree 631 [(1, .slice nd nl nc), (3, .pointer (some ⟨b3, 0, none⟩)), (6, .pointer (some ⟨b6, 0, none⟩)), (7, .pointer (some ⟨b7, 0, none⟩)), (9, .func (.func 22) #[] #[.pointer (some ⟨b8, 0, none⟩), .pointer (some ⟨b5, 0, none⟩)]), (10, .pointer (some ⟨b7, 7, none⟩)), (11, .pointer (some ⟨b7, 93, none⟩)), (12, .int .i64 g), (40, .int .i64 g), (44, .int .i64 ch), (45, .int .i64 c)] a ∧ HS w0 ((b8, .cells #[.int .i64 k] 3 (0, 0)) :: (b7, .cells (va 341 (fr x y)) 49 (0, 0)) :: (b6, .cells Zv_49 49 (0, 0)) :: (b5, .cells #[.slice ad vl vc] 24 (0, 0)) :: (b3, .cells (va 7 (sd h)) 27 (0, 0)) :: (L ++ H)) w) ((2 - (0) : Nat)) ?_ ?_
    · intro a w ha hw
      exact ⟨0, k, x, y, L, (if h 3 = 3 then 1 else 2), rfl, by omega, by omega, hx, hy, by split <;> omega, by split <;> omega, (ha.cons rfl (ha.cons rfl (ha.cons rfl (ha.cons rfl (ha.cons rfl (ha.cons rfl (ha.cons rfl (ha.cons rfl (ha.cons rfl (ha.cons rfl (ha.cons rfl (ha.nil)))))))))))), hw⟩
    try clear hk
    try clear hx
    try clear hy
    try clear hx1
    try clear hx2
    try clear hk'
    try clear hr
    try clear hnn
    try clear htb
    try clear hla
    try clear hlb
    try clear hcn
    try clear htp
    try clear htt
    try clear htv0
    try clear hbig
    try clear hmm1
    try clear hmm2
    rintro _ a w ⟨c, k, x, y, L, ch, rfl, hc, hk, hx, hy, hch, hcc, ha, hw⟩
    refine Tr.use ha hw ?_
    refine Tr.seq ?_
    refine Tr.region ?_
    refine TL.val (YF.lss rfl rfl rfl) (by decide) ?_
    refine TL.end ?_
    refine Arr.seq ?_
    refine Tr.seq ?_
    refine Tr.cond rfl (fun h46 => ?_) (fun h46 => ?_)
    ·
      replace h46 := of_decide_eq_true h46
      refine Tr.skipE ?_
      refine Arr.seq ?_
      refine Tr.seq ?_
      refine Tr.block ?_
      refine Tr.seq ?_
      refine Tr.region ?_
      refine TL.val (YF.move rfl) (by decide) ?_
      refine TL.val (YF.assign rfl) (by decide) ?_
      refine TL.end ?_
      refine Arr.seq ?_
      refine Tr.seq ?_
      refine Tr.region ?_
      refine TL.val (YF.assign rfl) (by decide) ?_
      refine TL.end ?_
      refine Arr.seq ?_
      refine Tr.seq ?_
      refine Tr.seq ?_
      refine Tr.region ?_
      refine TL.val (YF.move rfl) (by decide) ?_
      refine TL.val (YF.lenSl sl_23 rfl) (by decide) ?_
      refine TL.val (YF.gtr rfl rfl rfl) (by decide) ?_
      refine TL.end ?_
      refine Arr.seq ?_
      refine Tr.cutN (R := fun a w => ∃ (k : Int) (x : Nat → Int) (y : Nat → Value) (L : Hp) (nn : Int), (0 ≤ k ∧ k ≤ 1000 * g + 400 * c) ∧ (FI h x) ∧ (∀ i, i < 4 → LO L (y i)) ∧ (0 ≤ nn ∧ nn ≤ 4294967295) ∧ Agree 631 [(1, .slice nd nl nc), (3, .pointer (some ⟨b3, 0, none⟩)), (6, .pointer (some ⟨b6, 0, none⟩)), (7, .pointer (some ⟨b7, 0, none⟩)), (9, .func (.func 22) #[] #[.pointer (some ⟨b8, 0, none⟩), .pointer (some ⟨b5, 0, none⟩)]), (10, .pointer (some ⟨b7, 7, none⟩)), (11, .pointer (some ⟨b7, 93, none⟩)), (12, .int .i64 g), (13, .int .i64 c), (14, .int .u32 nn), (40, .int .i64 g), (44, .int .i64 ch), (45, .int .i64 c)] a ∧ HS w0 ((b8, .cells #[.int .i64 k] 3 (0, 0)) :: (b7, .cells (va 341 (fr x y)) 49 (0, 0)) :: (b6, .cells Zv_49 49 (0, 0)) :: (b5, .cells #[.slice ad vl vc] 24 (0, 0)) :: (b3, .cells (va 7 (sd h)) 27 (0, 0)) :: (L ++ H)) w) ?_ ?_
      ·
        refine Tr.cond rfl (fun h50 => ?_) (fun h50 => ?_)
        ·
          replace h50 := of_decide_eq_true h50
          refine Tr.region ?_
          rcases hnum with hn0 | ⟨bn, on, rfl, hn⟩
          · omega
          have hq0 := Int.emod_nonneg (2 * (g : Int) + (c : Int)) (b := (nl : Int)) (by omega)
          have hq1 := Int.emod_lt_of_pos (2 * (g : Int) + (c : Int)) (b := (nl : Int)) (by omega)
          obtain ⟨z, hz, hz0, hz1⟩ := hn ((2 * (g : Int) + (c : Int)) % (nl : Int)).toNat (by omega)
          refine TL.val (YF.move rfl) (by decide) ?_
          refine TL.val (YF.move rfl) (by decide) ?_
          refine TL.val (YF.mul rfl rfl (IntWalk.i64_in _ (by omega))) (by decide) ?_
          refine TL.val (YF.move rfl) (by decide) ?_
          refine TL.val (YF.add rfl rfl (IntWalk.i64_in _ (by omega))) (by decide) ?_
          refine TL.val (YF.move rfl) (by decide) ?_
          refine TL.val (YF.lenSl sl_23 rfl) (by decide) ?_
          refine TL.val (YF.rem rfl rfl (by omega) (IntWalk.rem_in _ _ (by omega))) (by decide) ?_
          refine TL.val (YF.indexSl sl_23 rfl rfl ⟨hq0, hq1⟩ (by rw [Nat.mul_one])) (by decide) ?_
          refine TL.val (YF.load_old sc_22 rfl hz) (by decide) ?_
          refine TL.val (YF.assign rfl) (by decide) ?_
          refine TL.end ?_
          refine Arr.meet ?_
          exact fun a w ha hw => ⟨k, x, y, L, _, by omega, hx, hy, ⟨by omega, by omega⟩, (ha.cons rfl (ha.cons rfl (ha.cons rfl (ha.cons rfl (ha.cons rfl (ha.cons rfl (ha.cons rfl (ha.cons rfl (ha.cons rfl (ha.cons rfl (ha.cons rfl (ha.cons rfl (ha.cons rfl (ha.nil)))))))))))))), hw⟩
        ·
          replace h50 := of_decide_eq_false h50
          refine Tr.skipE ?_
          refine Arr.meet ?_
          exact fun a w ha hw => ⟨k, x, y, L, _, by omega, hx, hy, ⟨by omega, by omega⟩, (ha.cons rfl (ha.cons rfl (ha.cons rfl (ha.cons rfl (ha.cons rfl (ha.cons rfl (ha.cons rfl (ha.cons rfl (ha.cons rfl (ha.cons rfl (ha.cons rfl (ha.cons rfl (ha.cons rfl (ha.nil)))))))))))))), hw⟩
      try clear hk
      try clear hx
      try clear hy
      try clear hx1
      try clear hx2
      try clear hk'
      try clear hr
      try clear hnn
      try clear htb
      try clear hla
      try clear hlb
      try clear hcn
      try clear htp
      try clear htt
      try clear htv0
      try clear hbig
      try clear hmm1
      try clear hmm2
      rintro a w ⟨k, x, y, L, nn, hk, hx, hy, hnn, ha, hw⟩
      refine Arr.use ha hw ?_
      refine Arr.seq ?_
      refine Tr.seq ?_
      refine Tr.seq ?_
      refine Tr.region ?_
      refine TL.val (YF.move rfl) (by decide) ?_
      refine TL.val (YF.rem rfl rfl (by omega) (IntWalk.rem_in _ _ (by omega))) (by decide) ?_
      refine TL.end ?_
      refine Arr.seq ?_
      refine Tr.cutN (R := fun a w => ∃ (k : Int) (x : Nat → Int) (y : Nat → Value) (L : Hp) (nn : Int), (0 ≤ k ∧ k ≤ 1000 * g + 400 * c) ∧ (FI h x) ∧ (∀ i, i < 4 → LO L (y i)) ∧ (0 ≤ nn ∧ nn ≤ 4294967295) ∧ Agree 631 [(1, .slice nd nl nc), (3, .pointer (some ⟨b3, 0, none⟩)), (6, .pointer (some ⟨b6, 0, none⟩)), (7, .pointer (some ⟨b7, 0, none⟩)), (9, .func (.func 22) #[] #[.pointer (some ⟨b8, 0, none⟩), .pointer (some ⟨b5, 0, none⟩)]), (10, .pointer (some ⟨b7, 7, none⟩)), (11, .pointer (some ⟨b7, 93, none⟩)), (12, .int .i64 g), (13, .int .i64 c), (14, .int .u32 nn), (40, .int .i64 g), (44, .int .i64 ch), (45, .int .i64 c)] a ∧ HS w0 ((b8, .cells #[.int .i64 k] 3 (0, 0)) :: (b7, .cells (va 341 (fr x y)) 49 (0, 0)) :: (b6, .cells Zv_49 49 (0, 0)) :: (b5, .cells #[.slice ad vl vc] 24 (0, 0)) :: (b3, .cells (va 7 (sd h)) 27 (0, 0)) :: (L ++ H)) w) ?_ ?_
      ·
        refine Tr.block ?_
        refine Tr.seq ?_
        refine Tr.region ?_
        refine TL.val (YF.eql rfl rfl rfl) (by decide) ?_
        refine TL.val (YF.assign rfl) (by decide) ?_
        refine TL.end ?_
        refine Arr.seq ?_
        refine Tr.cond rfl (fun h63 => ?_) (fun h63 => ?_)
        ·
          replace h63 := of_decide_eq_true h63
          refine Tr.drawE (_ :: _ :: _ :: _ :: _) (fun H => (H.eraseIdx 1)) rfl mixed_ ?_
          refine TD.take 0 rfl (by kernel_rfl) (by kernel_rfl) (by kernel_rfl) (fun _ _ _ h => h) (by repeat first | exact List.Sublist.refl _ | apply List.Sublist.cons_cons | apply List.Sublist.cons) (YF.move rfl) (by decide) ?_
          refine TD.take 1 rfl (by kernel_rfl) (by kernel_rfl) (by kernel_rfl) (fun _ _ _ h => h) (by repeat first | exact List.Sublist.refl _ | apply List.Sublist.cons_cons | apply List.Sublist.cons) (YF.move rfl) (by decide) ?_
          refine TD.take 2 rfl (by kernel_rfl) (by kernel_rfl) (by kernel_rfl) (fun _ _ _ h => h) (by repeat first | exact List.Sublist.refl _ | apply List.Sublist.cons_cons | apply List.Sublist.cons) (YF.move rfl) (by decide) ?_
          refine TD.take 3 rfl (by kernel_rfl) (by kernel_rfl) (by kernel_rfl) (fun _ _ _ h => h) (by repeat first | exact List.Sublist.refl _ | apply List.Sublist.cons_cons | apply List.Sublist.cons) (YF.move rfl) (by decide) ?_
          refine TD.take 4 rfl (by kernel_rfl) (by kernel_rfl) (by kernel_rfl) (fun _ _ _ h => h) (by repeat first | exact List.Sublist.refl _ | apply List.Sublist.cons_cons | apply List.Sublist.cons) (YF.move rfl) (by decide) ?_
          refine TD.take 5 rfl (by kernel_rfl) (by kernel_rfl) (by kernel_rfl) (fun _ _ _ h => h) (by repeat first | exact List.Sublist.refl _ | apply List.Sublist.cons_cons | apply List.Sublist.cons) (YF.move rfl) (by decide) ?_
          refine TD.take 6 rfl (by kernel_rfl) (by kernel_rfl) (by kernel_rfl) (fun _ _ _ h => h) (by repeat first | exact List.Sublist.refl _ | apply List.Sublist.cons_cons | apply List.Sublist.cons) (YF.nilCheck rfl) (by decide) ?_
          refine TD.take 7 rfl (by kernel_rfl) (by kernel_rfl) (by kernel_rfl) (fun _ _ _ h => h) (by repeat first | exact List.Sublist.refl _ | apply List.Sublist.cons_cons | apply List.Sublist.cons) (YF.fieldAddr fo_36_7 rfl rfl) (by decide) ?_
          refine TD.take 8 rfl (by kernel_rfl) (by kernel_rfl) (by kernel_rfl) (fun _ _ _ h => h) (by repeat first | exact List.Sublist.refl _ | apply List.Sublist.cons_cons | apply List.Sublist.cons) (YF.indexArr arr_31 rfl rfl (by first | decide | omega) rfl) (by decide) ?_
          refine TD.take 9 rfl (by kernel_rfl) (by kernel_rfl) (by kernel_rfl) (fun _ _ _ h => h) (by repeat first | exact List.Sublist.refl _ | apply List.Sublist.cons_cons | apply List.Sublist.cons) (YF.indexArr arr_30 rfl rfl (by first | decide | omega) rfl) (by decide) ?_
          refine TD.take 11 rfl (by kernel_rfl) (by kernel_rfl) (by kernel_rfl) (fun _ _ _ h => h) (by repeat first | exact List.Sublist.refl _ | apply List.Sublist.cons_cons | apply List.Sublist.cons) (YF.nilCheck rfl) (by decide) ?_
          refine TD.take 12 rfl (by kernel_rfl) (by kernel_rfl) (by kernel_rfl) (fun _ _ _ h => h) (by repeat first | exact List.Sublist.refl _ | apply List.Sublist.cons_cons | apply List.Sublist.cons) (YF.fieldAddr fo_36_8 rfl rfl) (by decide) ?_
          refine TD.take 13 rfl (by kernel_rfl) (by kernel_rfl) (by kernel_rfl) (fun _ _ _ h => h) (by repeat first | exact List.Sublist.refl _ | apply List.Sublist.cons_cons | apply List.Sublist.cons) (YF.indexArr arr_31 rfl rfl (by first | decide | omega) rfl) (by decide) ?_
          refine TD.eff0 10 rfl (by kernel_rfl) (EF.storeF 1 rfl rfl rfl sz_3 hx (by omega) (by intro hq93; first | omega | exact lim_of (by omega) (by omega) (by omega)) (by omega) (by omega)) (by rintro _ _ ⟨x', _, _, _, rfl⟩; exact (by repeat first | exact List.Sublist.refl _ | apply List.Sublist.cons_cons | apply List.Sublist.cons)) ?_
          rintro _ _ ⟨x, hx, hx1, hx2, rfl⟩
          refine TD.heap (_ :: _ :: _ :: _ :: _ :: _) rfl ?_
          refine TD.take 14 rfl (by kernel_rfl) (by kernel_rfl) (by kernel_rfl) (fun _ _ _ h => h) (by repeat first | exact List.Sublist.refl _ | apply List.Sublist.cons_cons | apply List.Sublist.cons) (YF.indexArr arr_30 rfl rfl (by first | decide | omega) rfl) (by decide) ?_
          refine TD.eff0 15 rfl (by kernel_rfl) (EF.storeF 1 rfl rfl rfl sz_3 hx (by omega) (by intro hq93; first | omega | exact lim_of (by omega) (by omega) (by omega)) (by omega) (fun _ => (congrArg x (by omega)).trans hx1)) (by rintro _ _ ⟨x', _, _, _, rfl⟩; exact (by repeat first | exact List.Sublist.refl _ | apply List.Sublist.cons_cons | apply List.Sublist.cons)) ?_
          rintro _ _ ⟨x, hx, hx1, hx2, rfl⟩
          refine TD.heap (_ :: _ :: _ :: _ :: _ :: _) rfl ?_
          refine TD.end (by kernel_rfl) ?_
          refine Arr.block ?_
          refine Arr.meet ?_
          exact fun a w ha hw => ⟨k, x, y, L, nn, by omega, hx, hy, hnn, (ha.cons rfl (ha.cons rfl (ha.cons rfl (ha.cons rfl (ha.cons rfl (ha.cons rfl (ha.cons rfl (ha.cons rfl (ha.cons rfl (ha.cons rfl (ha.cons rfl (ha.cons rfl (ha.cons rfl (ha.nil)))))))))))))), hw⟩
        ·
          replace h63 := of_decide_eq_false h63
          refine Tr.seq ?_
          refine Tr.region ?_
          refine TL.val (YF.eql rfl rfl rfl) (by decide) ?_
          refine TL.val (YF.assign rfl) (by decide) ?_
          refine TL.end ?_
          refine Arr.seq ?_
          refine Tr.cond rfl (fun h79 => ?_) (fun h79 => ?_)
          ·
            replace h79 := of_decide_eq_true h79
            refine Tr.drawE (_ :: _ :: _ :: _ :: _) (fun H => (H.eraseIdx 1)) rfl mixed_ ?_
            refine TD.take 0 rfl (by kernel_rfl) (by kernel_rfl) (by kernel_rfl) (fun _ _ _ h => h) (by repeat first | exact List.Sublist.refl _ | apply List.Sublist.cons_cons | apply List.Sublist.cons) (YF.move rfl) (by decide) ?_
            refine TD.take 1 rfl (by kernel_rfl) (by kernel_rfl) (by kernel_rfl) (fun _ _ _ h => h) (by repeat first | exact List.Sublist.refl _ | apply List.Sublist.cons_cons | apply List.Sublist.cons) (YF.move rfl) (by decide) ?_
            refine TD.take 2 rfl (by kernel_rfl) (by kernel_rfl) (by kernel_rfl) (fun _ _ _ h => h) (by repeat first | exact List.Sublist.refl _ | apply List.Sublist.cons_cons | apply List.Sublist.cons) (YF.move rfl) (by decide) ?_
            refine TD.take 3 rfl (by kernel_rfl) (by kernel_rfl) (by kernel_rfl) (fun _ _ _ h => h) (by repeat first | exact List.Sublist.refl _ | apply List.Sublist.cons_cons | apply List.Sublist.cons) (YF.move rfl) (by decide) ?_
            refine TD.take 4 rfl (by kernel_rfl) (by kernel_rfl) (by kernel_rfl) (fun _ _ _ h => h) (by repeat first | exact List.Sublist.refl _ | apply List.Sublist.cons_cons | apply List.Sublist.cons) (YF.move rfl) (by decide) ?_
            refine TD.take 5 rfl (by kernel_rfl) (by kernel_rfl) (by kernel_rfl) (fun _ _ _ h => h) (by repeat first | exact List.Sublist.refl _ | apply List.Sublist.cons_cons | apply List.Sublist.cons) (YF.move rfl) (by decide) ?_
            refine TD.take 6 rfl (by kernel_rfl) (by kernel_rfl) (by kernel_rfl) (fun _ _ _ h => h) (by repeat first | exact List.Sublist.refl _ | apply List.Sublist.cons_cons | apply List.Sublist.cons) (YF.nilCheck rfl) (by decide) ?_
            refine TD.take 7 rfl (by kernel_rfl) (by kernel_rfl) (by kernel_rfl) (fun _ _ _ h => h) (by repeat first | exact List.Sublist.refl _ | apply List.Sublist.cons_cons | apply List.Sublist.cons) (YF.fieldAddr fo_36_7 rfl rfl) (by decide) ?_
            refine TD.take 8 rfl (by kernel_rfl) (by kernel_rfl) (by kernel_rfl) (fun _ _ _ h => h) (by repeat first | exact List.Sublist.refl _ | apply List.Sublist.cons_cons | apply List.Sublist.cons) (YF.indexArr arr_31 rfl rfl (by first | decide | omega) rfl) (by decide) ?_
            refine TD.take 9 rfl (by kernel_rfl) (by kernel_rfl) (by kernel_rfl) (fun _ _ _ h => h) (by repeat first | exact List.Sublist.refl _ | apply List.Sublist.cons_cons | apply List.Sublist.cons) (YF.indexArr arr_30 rfl rfl (by first | decide | omega) rfl) (by decide) ?_
            refine TD.take 11 rfl (by kernel_rfl) (by kernel_rfl) (by kernel_rfl) (fun _ _ _ h => h) (by repeat first | exact List.Sublist.refl _ | apply List.Sublist.cons_cons | apply List.Sublist.cons) (YF.nilCheck rfl) (by decide) ?_
            refine TD.take 12 rfl (by kernel_rfl) (by kernel_rfl) (by kernel_rfl) (fun _ _ _ h => h) (by repeat first | exact List.Sublist.refl _ | apply List.Sublist.cons_cons | apply List.Sublist.cons) (YF.fieldAddr fo_36_8 rfl rfl) (by decide) ?_
            refine TD.take 13 rfl (by kernel_rfl) (by kernel_rfl) (by kernel_rfl) (fun _ _ _ h => h) (by repeat first | exact List.Sublist.refl _ | apply List.Sublist.cons_cons | apply List.Sublist.cons) (YF.indexArr arr_31 rfl rfl (by first | decide | omega) rfl) (by decide) ?_
            refine TD.eff0 10 rfl (by kernel_rfl) (EF.storeF 1 rfl rfl rfl sz_3 hx (by omega) (by intro hq93; first | omega | exact lim_of (by omega) (by omega) (by omega)) (by omega) (by omega)) (by rintro _ _ ⟨x', _, _, _, rfl⟩; exact (by repeat first | exact List.Sublist.refl _ | apply List.Sublist.cons_cons | apply List.Sublist.cons)) ?_
            rintro _ _ ⟨x, hx, hx1, hx2, rfl⟩
            refine TD.heap (_ :: _ :: _ :: _ :: _ :: _) rfl ?_
            refine TD.take 14 rfl (by kernel_rfl) (by kernel_rfl) (by kernel_rfl) (fun _ _ _ h => h) (by repeat first | exact List.Sublist.refl _ | apply List.Sublist.cons_cons | apply List.Sublist.cons) (YF.indexArr arr_30 rfl rfl (by first | decide | omega) rfl) (by decide) ?_
            refine TD.eff0 15 rfl (by kernel_rfl) (EF.storeF 1 rfl rfl rfl sz_3 hx (by omega) (by intro hq93; first | omega | exact lim_of (by omega) (by omega) (by omega)) (by omega) (fun _ => (congrArg x (by omega)).trans hx1)) (by rintro _ _ ⟨x', _, _, _, rfl⟩; exact (by repeat first | exact List.Sublist.refl _ | apply List.Sublist.cons_cons | apply List.Sublist.cons)) ?_
            rintro _ _ ⟨x, hx, hx1, hx2, rfl⟩
            refine TD.heap (_ :: _ :: _ :: _ :: _ :: _) rfl ?_
            refine TD.end (by kernel_rfl) ?_
            refine Arr.block ?_
            refine Arr.meet ?_
            exact fun a w ha hw => ⟨k, x, y, L, nn, by omega, hx, hy, hnn, (ha.cons rfl (ha.cons rfl (ha.cons rfl (ha.cons rfl (ha.cons rfl (ha.cons rfl (ha.cons rfl (ha.cons rfl (ha.cons rfl (ha.cons rfl (ha.cons rfl (ha.cons rfl (ha.cons rfl (ha.nil)))))))))))))), hw⟩
          ·
            replace h79 := of_decide_eq_false h79
            refine Tr.seq ?_
            refine Tr.region ?_
            refine TL.val (YF.eql rfl rfl rfl) (by decide) ?_
            refine TL.val (YF.assign rfl) (by decide) ?_
            refine TL.end ?_
            refine Arr.seq ?_
            refine Tr.cond rfl (fun h95 => ?_) (fun h95 => ?_)
            ·
              replace h95 := of_decide_eq_true h95
              refine Tr.drawE (_ :: _ :: _ :: _ :: _) (fun H => (H.eraseIdx 1)) rfl mixed_ ?_
              refine TD.take 0 rfl (by kernel_rfl) (by kernel_rfl) (by kernel_rfl) (fun _ _ _ h => h) (by repeat first | exact List.Sublist.refl _ | apply List.Sublist.cons_cons | apply List.Sublist.cons) (YF.move rfl) (by decide) ?_
              refine TD.take 1 rfl (by kernel_rfl) (by kernel_rfl) (by kernel_rfl) (fun _ _ _ h => h) (by repeat first | exact List.Sublist.refl _ | apply List.Sublist.cons_cons | apply List.Sublist.cons) (YF.move rfl) (by decide) ?_
              refine TD.take 2 rfl (by kernel_rfl) (by kernel_rfl) (by kernel_rfl) (fun _ _ _ h => h) (by repeat first | exact List.Sublist.refl _ | apply List.Sublist.cons_cons | apply List.Sublist.cons) (YF.move rfl) (by decide) ?_
              refine TD.take 3 rfl (by kernel_rfl) (by kernel_rfl) (by kernel_rfl) (fun _ _ _ h => h) (by repeat first | exact List.Sublist.refl _ | apply List.Sublist.cons_cons | apply List.Sublist.cons) (YF.move rfl) (by decide) ?_
              refine TD.take 4 rfl (by kernel_rfl) (by kernel_rfl) (by kernel_rfl) (fun _ _ _ h => h) (by repeat first | exact List.Sublist.refl _ | apply List.Sublist.cons_cons | apply List.Sublist.cons) (YF.move rfl) (by decide) ?_
              refine TD.take 5 rfl (by kernel_rfl) (by kernel_rfl) (by kernel_rfl) (fun _ _ _ h => h) (by repeat first | exact List.Sublist.refl _ | apply List.Sublist.cons_cons | apply List.Sublist.cons) (YF.move rfl) (by decide) ?_
              refine TD.take 6 rfl (by kernel_rfl) (by kernel_rfl) (by kernel_rfl) (fun _ _ _ h => h) (by repeat first | exact List.Sublist.refl _ | apply List.Sublist.cons_cons | apply List.Sublist.cons) (YF.move rfl) (by decide) ?_
              refine TD.take 7 rfl (by kernel_rfl) (by kernel_rfl) (by kernel_rfl) (fun _ _ _ h => h) (by repeat first | exact List.Sublist.refl _ | apply List.Sublist.cons_cons | apply List.Sublist.cons) (YF.move rfl) (by decide) ?_
              refine TD.take 8 rfl (by kernel_rfl) (by kernel_rfl) (by kernel_rfl) (fun _ _ _ h => h) (by repeat first | exact List.Sublist.refl _ | apply List.Sublist.cons_cons | apply List.Sublist.cons) (YF.move rfl) (by decide) ?_
              refine TD.take 9 rfl (by kernel_rfl) (by kernel_rfl) (by kernel_rfl) (fun _ _ _ h => h) (by repeat first | exact List.Sublist.refl _ | apply List.Sublist.cons_cons | apply List.Sublist.cons) (YF.nilCheck rfl) (by decide) ?_
              refine TD.take 10 rfl (by kernel_rfl) (by kernel_rfl) (by kernel_rfl) (fun _ _ _ h => h) (by repeat first | exact List.Sublist.refl _ | apply List.Sublist.cons_cons | apply List.Sublist.cons) (YF.fieldAddr fo_36_7 rfl rfl) (by decide) ?_
              refine TD.take 11 rfl (by kernel_rfl) (by kernel_rfl) (by kernel_rfl) (fun _ _ _ h => h) (by repeat first | exact List.Sublist.refl _ | apply List.Sublist.cons_cons | apply List.Sublist.cons) (YF.indexArr arr_31 rfl rfl (by first | decide | omega) rfl) (by decide) ?_
              refine TD.take 12 rfl (by kernel_rfl) (by kernel_rfl) (by kernel_rfl) (fun _ _ _ h => h) (by repeat first | exact List.Sublist.refl _ | apply List.Sublist.cons_cons | apply List.Sublist.cons) (YF.indexArr arr_30 rfl rfl (by first | decide | omega) rfl) (by decide) ?_
              refine TD.take 14 rfl (by kernel_rfl) (by kernel_rfl) (by kernel_rfl) (fun _ _ _ h => h) (by repeat first | exact List.Sublist.refl _ | apply List.Sublist.cons_cons | apply List.Sublist.cons) (YF.nilCheck rfl) (by decide) ?_
              refine TD.take 15 rfl (by kernel_rfl) (by kernel_rfl) (by kernel_rfl) (fun _ _ _ h => h) (by repeat first | exact List.Sublist.refl _ | apply List.Sublist.cons_cons | apply List.Sublist.cons) (YF.fieldAddr fo_36_8 rfl rfl) (by decide) ?_
              refine TD.take 16 rfl (by kernel_rfl) (by kernel_rfl) (by kernel_rfl) (fun _ _ _ h => h) (by repeat first | exact List.Sublist.refl _ | apply List.Sublist.cons_cons | apply List.Sublist.cons) (YF.indexArr arr_31 rfl rfl (by first | decide | omega) rfl) (by decide) ?_
              refine TD.take 19 rfl (by kernel_rfl) (by kernel_rfl) (by kernel_rfl) (fun _ _ _ h => h) (by repeat first | exact List.Sublist.refl _ | apply List.Sublist.cons_cons | apply List.Sublist.cons) (YF.nilCheck rfl) (by decide) ?_
              refine TD.take 20 rfl (by kernel_rfl) (by kernel_rfl) (by kernel_rfl) (fun _ _ _ h => h) (by repeat first | exact List.Sublist.refl _ | apply List.Sublist.cons_cons | apply List.Sublist.cons) (YF.fieldAddr fo_36_9 rfl rfl) (by decide) ?_
              refine TD.take 21 rfl (by kernel_rfl) (by kernel_rfl) (by kernel_rfl) (fun _ _ _ h => h) (by repeat first | exact List.Sublist.refl _ | apply List.Sublist.cons_cons | apply List.Sublist.cons) (YF.indexArr arr_31 rfl rfl (by first | decide | omega) rfl) (by decide) ?_
              refine TD.eff0 13 rfl (by kernel_rfl) (EF.storeF 1 rfl rfl rfl sz_3 hx (by omega) (by intro hq93; first | omega | exact lim_of (by omega) (by omega) (by omega)) (by omega) (by omega)) (by rintro _ _ ⟨x', _, _, _, rfl⟩; exact (by repeat first | exact List.Sublist.refl _ | apply List.Sublist.cons_cons | apply List.Sublist.cons)) ?_
              rintro _ _ ⟨x, hx, hx1, hx2, rfl⟩
              refine TD.heap (_ :: _ :: _ :: _ :: _ :: _) rfl ?_
              refine TD.take 17 rfl (by kernel_rfl) (by kernel_rfl) (by kernel_rfl) (fun _ _ _ h => h) (by repeat first | exact List.Sublist.refl _ | apply List.Sublist.cons_cons | apply List.Sublist.cons) (YF.indexArr arr_30 rfl rfl (by first | decide | omega) rfl) (by decide) ?_
              refine TD.eff0 18 rfl (by kernel_rfl) (EF.storeF 1 rfl rfl rfl sz_3 hx (by omega) (by intro hq93; first | omega | exact lim_of (by omega) (by omega) (by omega)) (by omega) (fun _ => (congrArg x (by omega)).trans hx1)) (by rintro _ _ ⟨x', _, _, _, rfl⟩; exact (by repeat first | exact List.Sublist.refl _ | apply List.Sublist.cons_cons | apply List.Sublist.cons)) ?_
              rintro _ _ ⟨x, hx, hx1, hx2, rfl⟩
              refine TD.heap (_ :: _ :: _ :: _ :: _ :: _) rfl ?_
              refine TD.take 22 rfl (by kernel_rfl) (by kernel_rfl) (by kernel_rfl) (fun _ _ _ h => h) (by repeat first | exact List.Sublist.refl _ | apply List.Sublist.cons_cons | apply List.Sublist.cons) (YF.indexArr arr_30 rfl rfl (by first | decide | omega) rfl) (by decide) ?_
              refine TD.eff0 23 rfl (by kernel_rfl) (EF.storeF 1 rfl rfl rfl sz_3 hx (by omega) (by intro hq93; first | omega | exact lim_of (by omega) (by omega) (by omega)) (by omega) (by omega)) (by rintro _ _ ⟨x', _, _, _, rfl⟩; exact (by repeat first | exact List.Sublist.refl _ | apply List.Sublist.cons_cons | apply List.Sublist.cons)) ?_
              rintro _ _ ⟨x, hx, hx1, hx2, rfl⟩
              refine TD.heap (_ :: _ :: _ :: _ :: _ :: _) rfl ?_
              refine TD.end (by kernel_rfl) ?_
              refine Arr.block ?_
              refine Arr.meet ?_
              exact fun a w ha hw => ⟨k, x, y, L, nn, by omega, hx, hy, hnn, (ha.cons rfl (ha.cons rfl (ha.cons rfl (ha.cons rfl (ha.cons rfl (ha.cons rfl (ha.cons rfl (ha.cons rfl (ha.cons rfl (ha.cons rfl (ha.cons rfl (ha.cons rfl (ha.cons rfl (ha.nil)))))))))))))), hw⟩
            ·
              replace h95 := of_decide_eq_false h95
              refine Tr.seq ?_
              refine Tr.region ?_
              refine TL.val (YF.eql rfl rfl rfl) (by decide) ?_
              refine TL.val (YF.assign rfl) (by decide) ?_
              refine TL.end ?_
              refine Arr.seq ?_
              refine Tr.cond rfl (fun h118 => ?_) (fun h118 => ?_)
              ·
                replace h118 := of_decide_eq_true h118
                refine Tr.drawE (_ :: _ :: _ :: _ :: _) (fun H => (H.eraseIdx 1)) rfl mixed_ ?_
                refine TD.take 0 rfl (by kernel_rfl) (by kernel_rfl) (by kernel_rfl) (fun _ _ _ h => h) (by repeat first | exact List.Sublist.refl _ | apply List.Sublist.cons_cons | apply List.Sublist.cons) (YF.move rfl) (by decide) ?_
                refine TD.take 1 rfl (by kernel_rfl) (by kernel_rfl) (by kernel_rfl) (fun _ _ _ h => h) (by repeat first | exact List.Sublist.refl _ | apply List.Sublist.cons_cons | apply List.Sublist.cons) (YF.move rfl) (by decide) ?_
                refine TD.take 2 rfl (by kernel_rfl) (by kernel_rfl) (by kernel_rfl) (fun _ _ _ h => h) (by repeat first | exact List.Sublist.refl _ | apply List.Sublist.cons_cons | apply List.Sublist.cons) (YF.move rfl) (by decide) ?_
                refine TD.take 3 rfl (by kernel_rfl) (by kernel_rfl) (by kernel_rfl) (fun _ _ _ h => h) (by repeat first | exact List.Sublist.refl _ | apply List.Sublist.cons_cons | apply List.Sublist.cons) (YF.move rfl) (by decide) ?_
                refine TD.take 4 rfl (by kernel_rfl) (by kernel_rfl) (by kernel_rfl) (fun _ _ _ h => h) (by repeat first | exact List.Sublist.refl _ | apply List.Sublist.cons_cons | apply List.Sublist.cons) (YF.move rfl) (by decide) ?_
                refine TD.take 5 rfl (by kernel_rfl) (by kernel_rfl) (by kernel_rfl) (fun _ _ _ h => h) (by repeat first | exact List.Sublist.refl _ | apply List.Sublist.cons_cons | apply List.Sublist.cons) (YF.move rfl) (by decide) ?_
                refine TD.take 6 rfl (by kernel_rfl) (by kernel_rfl) (by kernel_rfl) (fun _ _ _ h => h) (by repeat first | exact List.Sublist.refl _ | apply List.Sublist.cons_cons | apply List.Sublist.cons) (YF.nilCheck rfl) (by decide) ?_
                refine TD.take 7 rfl (by kernel_rfl) (by kernel_rfl) (by kernel_rfl) (fun _ _ _ h => h) (by repeat first | exact List.Sublist.refl _ | apply List.Sublist.cons_cons | apply List.Sublist.cons) (YF.fieldAddr fo_36_7 rfl rfl) (by decide) ?_
                refine TD.take 8 rfl (by kernel_rfl) (by kernel_rfl) (by kernel_rfl) (fun _ _ _ h => h) (by repeat first | exact List.Sublist.refl _ | apply List.Sublist.cons_cons | apply List.Sublist.cons) (YF.indexArr arr_31 rfl rfl (by first | decide | omega) rfl) (by decide) ?_
                refine TD.take 9 rfl (by kernel_rfl) (by kernel_rfl) (by kernel_rfl) (fun _ _ _ h => h) (by repeat first | exact List.Sublist.refl _ | apply List.Sublist.cons_cons | apply List.Sublist.cons) (YF.indexArr arr_30 rfl rfl (by first | decide | omega) rfl) (by decide) ?_
                refine TD.take 11 rfl (by kernel_rfl) (by kernel_rfl) (by kernel_rfl) (fun _ _ _ h => h) (by repeat first | exact List.Sublist.refl _ | apply List.Sublist.cons_cons | apply List.Sublist.cons) (YF.nilCheck rfl) (by decide) ?_
                refine TD.take 12 rfl (by kernel_rfl) (by kernel_rfl) (by kernel_rfl) (fun _ _ _ h => h) (by repeat first | exact List.Sublist.refl _ | apply List.Sublist.cons_cons | apply List.Sublist.cons) (YF.fieldAddr fo_36_8 rfl rfl) (by decide) ?_
                refine TD.take 13 rfl (by kernel_rfl) (by kernel_rfl) (by kernel_rfl) (fun _ _ _ h => h) (by repeat first | exact List.Sublist.refl _ | apply List.Sublist.cons_cons | apply List.Sublist.cons) (YF.indexArr arr_31 rfl rfl (by first | decide | omega) rfl) (by decide) ?_
                refine TD.eff0 10 rfl (by kernel_rfl) (EF.storeF 1 rfl rfl rfl sz_3 hx (by omega) (by intro hq93; first | omega | exact lim_of (by omega) (by omega) (by omega)) (by omega) (by omega)) (by rintro _ _ ⟨x', _, _, _, rfl⟩; exact (by repeat first | exact List.Sublist.refl _ | apply List.Sublist.cons_cons | apply List.Sublist.cons)) ?_
                rintro _ _ ⟨x, hx, hx1, hx2, rfl⟩
                refine TD.heap (_ :: _ :: _ :: _ :: _ :: _) rfl ?_
                refine TD.take 14 rfl (by kernel_rfl) (by kernel_rfl) (by kernel_rfl) (fun _ _ _ h => h) (by repeat first | exact List.Sublist.refl _ | apply List.Sublist.cons_cons | apply List.Sublist.cons) (YF.indexArr arr_30 rfl rfl (by first | decide | omega) rfl) (by decide) ?_
                refine TD.eff0 15 rfl (by kernel_rfl) (EF.storeF 1 rfl rfl rfl sz_3 hx (by omega) (by intro hq93; first | omega | exact lim_of (by omega) (by omega) (by omega)) (by omega) (fun _ => (congrArg x (by omega)).trans hx1)) (by rintro _ _ ⟨x', _, _, _, rfl⟩; exact (by repeat first | exact List.Sublist.refl _ | apply List.Sublist.cons_cons | apply List.Sublist.cons)) ?_
                rintro _ _ ⟨x, hx, hx1, hx2, rfl⟩
                refine TD.heap (_ :: _ :: _ :: _ :: _ :: _) rfl ?_
                refine TD.end (by kernel_rfl) ?_
                refine Arr.block ?_
                refine Arr.meet ?_
                exact fun a w ha hw => ⟨k, x, y, L, nn, by omega, hx, hy, hnn, (ha.cons rfl (ha.cons rfl (ha.cons rfl (ha.cons rfl (ha.cons rfl (ha.cons rfl (ha.cons rfl (ha.cons rfl (ha.cons rfl (ha.cons rfl (ha.cons rfl (ha.cons rfl (ha.cons rfl (ha.nil)))))))))))))), hw⟩
              ·
                replace h118 := of_decide_eq_false h118
                refine Tr.skipE ?_
                refine Arr.block ?_
                refine Arr.meet ?_
                exact fun a w ha hw => ⟨k, x, y, L, nn, by omega, hx, hy, hnn, (ha.cons rfl (ha.cons rfl (ha.cons rfl (ha.cons rfl (ha.cons rfl (ha.cons rfl (ha.cons rfl (ha.cons rfl (ha.cons rfl (ha.cons rfl (ha.cons rfl (ha.cons rfl (ha.cons rfl (ha.nil)))))))))))))), hw⟩
      try clear hk
      try clear hx
      try clear hy
      try clear hx1
      try clear hx2
      try clear hk'
      try clear hr
      try clear hnn
      try clear htb
      try clear hla
      try clear hlb
      try clear hcn
      try clear htp
      try clear htt
      try clear htv0
      try clear hbig
      try clear hmm1
      try clear hmm2
      rintro a w ⟨k, x, y, L, nn, hk, hx, hy, hnn, ha, hw⟩
      refine Arr.use ha hw ?_
      refine Arr.seq ?_
      refine Tr.seq ?_
      refine Tr.region ?_
      refine TL.val (YF.move rfl) (by decide) ?_
      refine TL.val (YF.move rfl) (by decide) ?_
      refine TL.val (YF.move rfl) (by decide) ?_
      refine TL.val (YF.move rfl) (by decide) ?_
      refine TL.val (YF.shr rfl rfl (by decide) (shrv (p := 8) 3 rfl (by decide) (by decide))) (by decide) ?_
      refine TL.val (YF.rem rfl rfl (by omega) (IntWalk.rem_in _ _ (by omega))) (by decide) ?_
      refine TL.val (YF.conv und_22 und_3 rfl (IntWalk.i64_in _ (by omega))) (by decide) ?_
      refine TL.val (YF.nilCheck rfl) (by decide) ?_
      refine TL.val (YF.fieldAddr fo_36_4 rfl rfl) (by decide) ?_
      refine TL.val (YF.indexArr arr_31 rfl rfl (by first | decide | omega) rfl) (by decide) ?_
      refine TL.val (YF.indexArr arr_30 rfl rfl (by first | decide | omega) rfl) (by decide) ?_
      refine TL.eff0 (EF.storeF 1 rfl rfl rfl sz_3 hx (by omega) (by intro hq93; first | omega | exact lim_of (by omega) (by omega) (by omega)) (by omega) (by omega)) ?_
      rintro _ _ ⟨x, hx, hx1, hx2, rfl⟩
      refine TL.heap (_ :: _ :: _ :: _ :: _ :: _) rfl ?_
      refine TL.end ?_
      refine Arr.seq ?_
      refine Tr.seq ?_
      refine Tr.drawE (_ :: _ :: _ :: _ :: _) (fun H => (H.eraseIdx 1)) rfl mixed_ ?_
      refine TD.take 0 rfl (by kernel_rfl) (by kernel_rfl) (by kernel_rfl) (fun _ _ _ h => h) (by repeat first | exact List.Sublist.refl _ | apply List.Sublist.cons_cons | apply List.Sublist.cons) (YF.move rfl) (by decide) ?_
      refine TD.take 1 rfl (by kernel_rfl) (by kernel_rfl) (by kernel_rfl) (fun _ _ _ h => h) (by repeat first | exact List.Sublist.refl _ | apply List.Sublist.cons_cons | apply List.Sublist.cons) (YF.move rfl) (by decide) ?_
      refine TD.take 2 rfl (by kernel_rfl) (by kernel_rfl) (by kernel_rfl) (fun _ _ _ h => h) (by repeat first | exact List.Sublist.refl _ | apply List.Sublist.cons_cons | apply List.Sublist.cons) (YF.move rfl) (by decide) ?_
      refine TD.take 3 rfl (by kernel_rfl) (by kernel_rfl) (by kernel_rfl) (fun _ _ _ h => h) (by repeat first | exact List.Sublist.refl _ | apply List.Sublist.cons_cons | apply List.Sublist.cons) (YF.move rfl) (by decide) ?_
      refine TD.take 4 rfl (by kernel_rfl) (by kernel_rfl) (by kernel_rfl) (fun _ _ _ h => h) (by repeat first | exact List.Sublist.refl _ | apply List.Sublist.cons_cons | apply List.Sublist.cons) (YF.move rfl) (by decide) ?_
      refine TD.take 5 rfl (by kernel_rfl) (by kernel_rfl) (by kernel_rfl) (fun _ _ _ h => h) (by repeat first | exact List.Sublist.refl _ | apply List.Sublist.cons_cons | apply List.Sublist.cons) (YF.move rfl) (by decide) ?_
      refine TD.take 6 rfl (by kernel_rfl) (by kernel_rfl) (by kernel_rfl) (fun _ _ _ h => h) (by repeat first | exact List.Sublist.refl _ | apply List.Sublist.cons_cons | apply List.Sublist.cons) (YF.nilCheck rfl) (by decide) ?_
      refine TD.take 7 rfl (by kernel_rfl) (by kernel_rfl) (by kernel_rfl) (fun _ _ _ h => h) (by repeat first | exact List.Sublist.refl _ | apply List.Sublist.cons_cons | apply List.Sublist.cons) (YF.fieldAddr fo_36_4 rfl rfl) (by decide) ?_
      refine TD.take 8 rfl (by kernel_rfl) (by kernel_rfl) (by kernel_rfl) (fun _ _ _ h => h) (by repeat first | exact List.Sublist.refl _ | apply List.Sublist.cons_cons | apply List.Sublist.cons) (YF.indexArr arr_31 rfl rfl (by first | decide | omega) rfl) (by decide) ?_
      refine TD.take 9 rfl (by kernel_rfl) (by kernel_rfl) (by kernel_rfl) (fun _ _ _ h => h) (by repeat first | exact List.Sublist.refl _ | apply List.Sublist.cons_cons | apply List.Sublist.cons) (YF.indexArr arr_30 rfl rfl (by first | decide | omega) rfl) (by decide) ?_
      refine TD.take 12 rfl (by kernel_rfl) (by kernel_rfl) (by kernel_rfl) (fun _ _ _ h => h) (by repeat first | exact List.Sublist.refl _ | apply List.Sublist.cons_cons | apply List.Sublist.cons) (YF.move rfl) (by decide) ?_
      refine TD.take 13 rfl (by kernel_rfl) (by kernel_rfl) (by kernel_rfl) (fun _ _ _ h => h) (by repeat first | exact List.Sublist.refl _ | apply List.Sublist.cons_cons | apply List.Sublist.cons) (YF.shr rfl rfl (by decide) (shrv (p := 256) 8 rfl (by decide) (by decide))) (by decide) ?_
      refine TD.take 14 rfl (by kernel_rfl) (by kernel_rfl) (by kernel_rfl) (fun _ _ _ h => h) (by repeat first | exact List.Sublist.refl _ | apply List.Sublist.cons_cons | apply List.Sublist.cons) (YF.rem rfl rfl (by omega) (IntWalk.rem_in _ _ (by omega))) (by decide) ?_
      refine TD.take 15 rfl (by kernel_rfl) (by kernel_rfl) (by kernel_rfl) (fun _ _ _ h => h) (by repeat first | exact List.Sublist.refl _ | apply List.Sublist.cons_cons | apply List.Sublist.cons) (YF.conv und_22 und_3 rfl (IntWalk.i64_in _ (by omega))) (by decide) ?_
      refine TD.take 16 rfl (by kernel_rfl) (by kernel_rfl) (by kernel_rfl) (fun _ _ _ h => h) (by repeat first | exact List.Sublist.refl _ | apply List.Sublist.cons_cons | apply List.Sublist.cons) (YF.mul rfl rfl (IntWalk.i64_in _ (by omega))) (by decide) ?_
      refine TD.take 18 rfl (by kernel_rfl) (by kernel_rfl) (by kernel_rfl) (fun _ _ _ h => h) (by repeat first | exact List.Sublist.refl _ | apply List.Sublist.cons_cons | apply List.Sublist.cons) (YF.nilCheck rfl) (by decide) ?_
      refine TD.take 19 rfl (by kernel_rfl) (by kernel_rfl) (by kernel_rfl) (fun _ _ _ h => h) (by repeat first | exact List.Sublist.refl _ | apply List.Sublist.cons_cons | apply List.Sublist.cons) (YF.fieldAddr fo_36_17 rfl rfl) (by decide) ?_
      refine TD.take 20 rfl (by kernel_rfl) (by kernel_rfl) (by kernel_rfl) (fun _ _ _ h => h) (by repeat first | exact List.Sublist.refl _ | apply List.Sublist.cons_cons | apply List.Sublist.cons) (YF.indexArr arr_31 rfl rfl (by first | decide | omega) rfl) (by decide) ?_
      refine TD.eff 10 rfl (by kernel_rfl) (YF.ef (YF.load 1 sc_3 rfl rfl (fr_int (by omega)))) (by decide) (by rintro _ _ ⟨rfl, rfl⟩; exact (by repeat first | exact List.Sublist.refl _ | apply List.Sublist.cons_cons | apply List.Sublist.cons)) ?_
      rintro _ _ ⟨rfl, rfl⟩
      refine TD.take 11 rfl (by kernel_rfl) (by kernel_rfl) (by kernel_rfl) (fun _ _ _ h => h) (by repeat first | exact List.Sublist.refl _ | apply List.Sublist.cons_cons | apply List.Sublist.cons) (YF.mul rfl rfl (IntWalk.i64_in _ (by omega))) (by decide) ?_
      refine TD.take 17 rfl (by kernel_rfl) (by kernel_rfl) (by kernel_rfl) (fun _ _ _ h => h) (by repeat first | exact List.Sublist.refl _ | apply List.Sublist.cons_cons | apply List.Sublist.cons) (YF.add rfl rfl (IntWalk.i64_in _ (by omega))) (by decide) ?_
      refine TD.take 21 rfl (by kernel_rfl) (by kernel_rfl) (by kernel_rfl) (fun _ _ _ h => h) (by repeat first | exact List.Sublist.refl _ | apply List.Sublist.cons_cons | apply List.Sublist.cons) (YF.indexArr arr_30 rfl rfl (by first | decide | omega) rfl) (by decide) ?_
      refine TD.eff0 22 rfl (by kernel_rfl) (EF.storeF 1 rfl rfl rfl sz_3 hx (by omega) (by intro hq93; first | omega | exact lim_of (by omega) (by omega) (by omega)) (by omega) (by omega)) (by rintro _ _ ⟨x', _, _, _, rfl⟩; exact (by repeat first | exact List.Sublist.refl _ | apply List.Sublist.cons_cons | apply List.Sublist.cons)) ?_
      rintro _ _ ⟨x, hx, hx1, hx2, rfl⟩
      refine TD.heap (_ :: _ :: _ :: _ :: _ :: _) rfl ?_
      refine TD.end (by kernel_rfl) ?_
      refine Arr.seq ?_
      refine Tr.seq ?_
      refine Tr.region ?_
      
      refine TL.val (YF.move rfl) (by decide) ?_
      refine TL.val (YF.move rfl) (by decide) ?_
      refine TL.val (YF.move rfl) (by decide) ?_
      refine TL.val (YF.move rfl) (by decide) ?_
      refine TL.val (YF.shr rfl rfl (by decide) (shrv (p := 2048) 11 rfl (by decide) (by decide))) (by decide) ?_
      refine TL.val (YF.rem rfl rfl (by omega) (IntWalk.rem_in _ _ (by omega))) (by decide) ?_
      refine TL.val (YF.conv und_22 und_3 rfl (IntWalk.i64_in _ (by omega))) (by decide) ?_
      refine TL.val (YF.add rfl rfl (IntWalk.i64_in _ (by omega))) (by decide) ?_
      refine TL.val (YF.nilCheck rfl) (by decide) ?_
      refine TL.val (YF.fieldAddr fo_36_5 rfl rfl) (by decide) ?_
      refine TL.val (YF.indexArr arr_31 rfl rfl (by first | decide | omega) rfl) (by decide) ?_
      refine TL.val (YF.indexArr arr_30 rfl rfl (by first | decide | omega) rfl) (by decide) ?_
      refine TL.eff0 (EF.storeF 1 rfl rfl rfl sz_3 hx (by omega) (by intro hq93; first | omega | exact lim_of (by omega) (by omega) (by omega)) (by omega) (by omega)) ?_
      rintro _ _ ⟨x, hx, hx1, hx2, rfl⟩
      refine TL.heap (_ :: _ :: _ :: _ :: _ :: _) rfl ?_
      refine TL.end ?_
      refine Arr.seq ?_
      refine Tr.seq ?_
      refine Tr.region ?_
      refine TL.val (YF.move rfl) (by decide) ?_
      refine TL.val (YF.move rfl) (by decide) ?_
      refine TL.val (YF.move rfl) (by decide) ?_
      refine TL.val (YF.move rfl) (by decide) ?_
      refine TL.val (YF.shr rfl rfl (by decide) (shrv (p := 65536) 16 rfl (by decide) (by decide))) (by decide) ?_
      refine TL.val (YF.rem rfl rfl (by omega) (IntWalk.rem_in _ _ (by omega))) (by decide) ?_
      refine TL.val (YF.conv und_22 und_3 rfl (IntWalk.i64_in _ (by omega))) (by decide) ?_
      refine TL.val (YF.nilCheck rfl) (by decide) ?_
      refine TL.val (YF.fieldAddr fo_36_6 rfl rfl) (by decide) ?_
      refine TL.val (YF.indexArr arr_31 rfl rfl (by first | decide | omega) rfl) (by decide) ?_
      refine TL.val (YF.indexArr arr_30 rfl rfl (by first | decide | omega) rfl) (by decide) ?_
      refine TL.eff0 (EF.storeF 1 rfl rfl rfl sz_3 hx (by omega) (by intro hq93; first | omega | exact lim_of (by omega) (by omega) (by omega)) (by omega) (by omega)) ?_
      rintro _ _ ⟨x, hx, hx1, hx2, rfl⟩
      refine TL.heap (_ :: _ :: _ :: _ :: _ :: _) rfl ?_
      refine TL.end ?_
      refine Arr.seq ?_
      refine Tr.seq ?_
      refine Tr.drawE (_ :: _ :: _ :: _ :: _) (fun H => (H.eraseIdx 1)) rfl mixed_ ?_
      refine TD.take 0 rfl (by kernel_rfl) (by kernel_rfl) (by kernel_rfl) (fun _ _ _ h => h) (by repeat first | exact List.Sublist.refl _ | apply List.Sublist.cons_cons | apply List.Sublist.cons) (YF.move rfl) (by decide) ?_
      refine TD.take 1 rfl (by kernel_rfl) (by kernel_rfl) (by kernel_rfl) (fun _ _ _ h => h) (by repeat first | exact List.Sublist.refl _ | apply List.Sublist.cons_cons | apply List.Sublist.cons) (YF.move rfl) (by decide) ?_
      refine TD.take 2 rfl (by kernel_rfl) (by kernel_rfl) (by kernel_rfl) (fun _ _ _ h => h) (by repeat first | exact List.Sublist.refl _ | apply List.Sublist.cons_cons | apply List.Sublist.cons) (YF.move rfl) (by decide) ?_
      refine TD.take 3 rfl (by kernel_rfl) (by kernel_rfl) (by kernel_rfl) (fun _ _ _ h => h) (by repeat first | exact List.Sublist.refl _ | apply List.Sublist.cons_cons | apply List.Sublist.cons) (YF.move rfl) (by decide) ?_
      refine TD.take 4 rfl (by kernel_rfl) (by kernel_rfl) (by kernel_rfl) (fun _ _ _ h => h) (by repeat first | exact List.Sublist.refl _ | apply List.Sublist.cons_cons | apply List.Sublist.cons) (YF.move rfl) (by decide) ?_
      refine TD.take 5 rfl (by kernel_rfl) (by kernel_rfl) (by kernel_rfl) (fun _ _ _ h => h) (by repeat first | exact List.Sublist.refl _ | apply List.Sublist.cons_cons | apply List.Sublist.cons) (YF.move rfl) (by decide) ?_
      refine TD.take 6 rfl (by kernel_rfl) (by kernel_rfl) (by kernel_rfl) (fun _ _ _ h => h) (by repeat first | exact List.Sublist.refl _ | apply List.Sublist.cons_cons | apply List.Sublist.cons) (YF.move rfl) (by decide) ?_
      refine TD.take 7 rfl (by kernel_rfl) (by kernel_rfl) (by kernel_rfl) (fun _ _ _ h => h) (by repeat first | exact List.Sublist.refl _ | apply List.Sublist.cons_cons | apply List.Sublist.cons) (YF.move rfl) (by decide) ?_
      refine TD.take 8 rfl (by kernel_rfl) (by kernel_rfl) (by kernel_rfl) (fun _ _ _ h => h) (by repeat first | exact List.Sublist.refl _ | apply List.Sublist.cons_cons | apply List.Sublist.cons) (YF.move rfl) (by decide) ?_
      refine TD.take 9 rfl (by kernel_rfl) (by kernel_rfl) (by kernel_rfl) (fun _ _ _ h => h) (by repeat first | exact List.Sublist.refl _ | apply List.Sublist.cons_cons | apply List.Sublist.cons) (YF.move rfl) (by decide) ?_
      refine TD.take 10 rfl (by kernel_rfl) (by kernel_rfl) (by kernel_rfl) (fun _ _ _ h => h) (by repeat first | exact List.Sublist.refl _ | apply List.Sublist.cons_cons | apply List.Sublist.cons) (YF.shr rfl rfl (by decide) (shrv (p := 1048576) 20 rfl (by decide) (by decide))) (by decide) ?_
      refine TD.take 11 rfl (by kernel_rfl) (by kernel_rfl) (by kernel_rfl) (fun _ _ _ h => h) (by repeat first | exact List.Sublist.refl _ | apply List.Sublist.cons_cons | apply List.Sublist.cons) (YF.band rfl rfl (u32_mask0 (q := 2) 1 1 (by decide) (by decide) (by decide) (by omega) (by omega))) (by decide) ?_
      refine TD.take 12 rfl (by kernel_rfl) (by kernel_rfl) (by kernel_rfl) (fun _ _ _ h => h) (by repeat first | exact List.Sublist.refl _ | apply List.Sublist.cons_cons | apply List.Sublist.cons) (YF.conv und_22 und_3 rfl (IntWalk.i64_in _ (by omega))) (by decide) ?_
      refine TD.take 13 rfl (by kernel_rfl) (by kernel_rfl) (by kernel_rfl) (fun _ _ _ h => h) (by repeat first | exact List.Sublist.refl _ | apply List.Sublist.cons_cons | apply List.Sublist.cons) (YF.move rfl) (by decide) ?_
      refine TD.take 14 rfl (by kernel_rfl) (by kernel_rfl) (by kernel_rfl) (fun _ _ _ h => h) (by repeat first | exact List.Sublist.refl _ | apply List.Sublist.cons_cons | apply List.Sublist.cons) (YF.shr rfl rfl (by decide) (shrv (p := 2097152) 21 rfl (by decide) (by decide))) (by decide) ?_
      refine TD.take 15 rfl (by kernel_rfl) (by kernel_rfl) (by kernel_rfl) (fun _ _ _ h => h) (by repeat first | exact List.Sublist.refl _ | apply List.Sublist.cons_cons | apply List.Sublist.cons) (YF.band rfl rfl (u32_mask0 (q := 2) 1 1 (by decide) (by decide) (by decide) (by omega) (by omega))) (by decide) ?_
      refine TD.take 16 rfl (by kernel_rfl) (by kernel_rfl) (by kernel_rfl) (fun _ _ _ h => h) (by repeat first | exact List.Sublist.refl _ | apply List.Sublist.cons_cons | apply List.Sublist.cons) (YF.conv und_22 und_3 rfl (IntWalk.i64_in _ (by omega))) (by decide) ?_
      refine TD.take 17 rfl (by kernel_rfl) (by kernel_rfl) (by kernel_rfl) (fun _ _ _ h => h) (by repeat first | exact List.Sublist.refl _ | apply List.Sublist.cons_cons | apply List.Sublist.cons) (YF.move rfl) (by decide) ?_
      refine TD.take 18 rfl (by kernel_rfl) (by kernel_rfl) (by kernel_rfl) (fun _ _ _ h => h) (by repeat first | exact List.Sublist.refl _ | apply List.Sublist.cons_cons | apply List.Sublist.cons) (YF.shr rfl rfl (by decide) (shrv (p := 4194304) 22 rfl (by decide) (by decide))) (by decide) ?_
      refine TD.take 19 rfl (by kernel_rfl) (by kernel_rfl) (by kernel_rfl) (fun _ _ _ h => h) (by repeat first | exact List.Sublist.refl _ | apply List.Sublist.cons_cons | apply List.Sublist.cons) (YF.band rfl rfl (u32_mask0 (q := 2) 1 1 (by decide) (by decide) (by decide) (by omega) (by omega))) (by decide) ?_
      refine TD.take 20 rfl (by kernel_rfl) (by kernel_rfl) (by kernel_rfl) (fun _ _ _ h => h) (by repeat first | exact List.Sublist.refl _ | apply List.Sublist.cons_cons | apply List.Sublist.cons) (YF.conv und_22 und_3 rfl (IntWalk.i64_in _ (by omega))) (by decide) ?_
      refine TD.take 21 rfl (by kernel_rfl) (by kernel_rfl) (by kernel_rfl) (fun _ _ _ h => h) (by repeat first | exact List.Sublist.refl _ | apply List.Sublist.cons_cons | apply List.Sublist.cons) (YF.nilCheck rfl) (by decide) ?_
      refine TD.take 22 rfl (by kernel_rfl) (by kernel_rfl) (by kernel_rfl) (fun _ _ _ h => h) (by repeat first | exact List.Sublist.refl _ | apply List.Sublist.cons_cons | apply List.Sublist.cons) (YF.fieldAddr fo_36_15 rfl rfl) (by decide) ?_
      refine TD.take 23 rfl (by kernel_rfl) (by kernel_rfl) (by kernel_rfl) (fun _ _ _ h => h) (by repeat first | exact List.Sublist.refl _ | apply List.Sublist.cons_cons | apply List.Sublist.cons) (YF.indexArr arr_31 rfl rfl (by first | decide | omega) rfl) (by decide) ?_
      refine TD.take 24 rfl (by kernel_rfl) (by kernel_rfl) (by kernel_rfl) (fun _ _ _ h => h) (by repeat first | exact List.Sublist.refl _ | apply List.Sublist.cons_cons | apply List.Sublist.cons) (YF.indexArr arr_30 rfl rfl (by first | decide | omega) rfl) (by decide) ?_
      refine TD.take 26 rfl (by kernel_rfl) (by kernel_rfl) (by kernel_rfl) (fun _ _ _ h => h) (by repeat first | exact List.Sublist.refl _ | apply List.Sublist.cons_cons | apply List.Sublist.cons) (YF.nilCheck rfl) (by decide) ?_
      refine TD.take 27 rfl (by kernel_rfl) (by kernel_rfl) (by kernel_rfl) (fun _ _ _ h => h) (by repeat first | exact List.Sublist.refl _ | apply List.Sublist.cons_cons | apply List.Sublist.cons) (YF.fieldAddr fo_36_14 rfl rfl) (by decide) ?_
      refine TD.take 28 rfl (by kernel_rfl) (by kernel_rfl) (by kernel_rfl) (fun _ _ _ h => h) (by repeat first | exact List.Sublist.refl _ | apply List.Sublist.cons_cons | apply List.Sublist.cons) (YF.indexArr arr_31 rfl rfl (by first | decide | omega) rfl) (by decide) ?_
      refine TD.take 31 rfl (by kernel_rfl) (by kernel_rfl) (by kernel_rfl) (fun _ _ _ h => h) (by repeat first | exact List.Sublist.refl _ | apply List.Sublist.cons_cons | apply List.Sublist.cons) (YF.nilCheck rfl) (by decide) ?_
      refine TD.take 32 rfl (by kernel_rfl) (by kernel_rfl) (by kernel_rfl) (fun _ _ _ h => h) (by repeat first | exact List.Sublist.refl _ | apply List.Sublist.cons_cons | apply List.Sublist.cons) (YF.fieldAddr fo_36_16 rfl rfl) (by decide) ?_
      refine TD.take 33 rfl (by kernel_rfl) (by kernel_rfl) (by kernel_rfl) (fun _ _ _ h => h) (by repeat first | exact List.Sublist.refl _ | apply List.Sublist.cons_cons | apply List.Sublist.cons) (YF.indexArr arr_31 rfl rfl (by first | decide | omega) rfl) (by decide) ?_
      refine TD.eff0 25 rfl (by kernel_rfl) (EF.storeF 1 rfl rfl rfl sz_3 hx (by omega) (by intro hq93; first | omega | exact lim_of (by omega) (by omega) (by omega)) (by omega) (by omega)) (by rintro _ _ ⟨x', _, _, _, rfl⟩; exact (by repeat first | exact List.Sublist.refl _ | apply List.Sublist.cons_cons | apply List.Sublist.cons)) ?_
      rintro _ _ ⟨x, hx, hx1, hx2, rfl⟩
      refine TD.heap (_ :: _ :: _ :: _ :: _ :: _) rfl ?_
      refine TD.take 29 rfl (by kernel_rfl) (by kernel_rfl) (by kernel_rfl) (fun _ _ _ h => h) (by repeat first | exact List.Sublist.refl _ | apply List.Sublist.cons_cons | apply List.Sublist.cons) (YF.indexArr arr_30 rfl rfl (by first | decide | omega) rfl) (by decide) ?_
      refine TD.eff0 30 rfl (by kernel_rfl) (EF.storeF 1 rfl rfl rfl sz_3 hx (by omega) (by intro hq93; first | omega | exact lim_of (by omega) (by omega) (by omega)) (by omega) (by omega)) (by rintro _ _ ⟨x', _, _, _, rfl⟩; exact (by repeat first | exact List.Sublist.refl _ | apply List.Sublist.cons_cons | apply List.Sublist.cons)) ?_
      rintro _ _ ⟨x, hx, hx1, hx2, rfl⟩
      refine TD.heap (_ :: _ :: _ :: _ :: _ :: _) rfl ?_
      refine TD.take 34 rfl (by kernel_rfl) (by kernel_rfl) (by kernel_rfl) (fun _ _ _ h => h) (by repeat first | exact List.Sublist.refl _ | apply List.Sublist.cons_cons | apply List.Sublist.cons) (YF.indexArr arr_30 rfl rfl (by first | decide | omega) rfl) (by decide) ?_
      refine TD.eff0 35 rfl (by kernel_rfl) (EF.storeF 1 rfl rfl rfl sz_3 hx (by omega) (by intro hq93; first | omega | exact lim_of (by omega) (by omega) (by omega)) (by omega) (by omega)) (by rintro _ _ ⟨x', _, _, _, rfl⟩; exact (by repeat first | exact List.Sublist.refl _ | apply List.Sublist.cons_cons | apply List.Sublist.cons)) ?_
      rintro _ _ ⟨x, hx, hx1, hx2, rfl⟩
      refine TD.heap (_ :: _ :: _ :: _ :: _ :: _) rfl ?_
      refine TD.end (by kernel_rfl) ?_
      refine Arr.seq ?_
      refine Tr.seq ?_
      refine Tr.region ?_
      refine TL.val (YF.assign rfl) (by decide) ?_
      refine TL.end ?_
      refine Arr.seq ?_
      refine Tr.seq ?_
      refine Tr.seq ?_
      refine Tr.region ?_
      refine TL.val (YF.move rfl) (by decide) ?_
      refine TL.val (YF.move rfl) (by decide) ?_
      refine TL.val (YF.move rfl) (by decide) ?_
      refine TL.val (YF.nilCheck rfl) (by decide) ?_
      refine TL.val (YF.fieldAddr fo_36_7 rfl rfl) (by decide) ?_
      refine TL.val (YF.indexArr arr_31 rfl rfl (by first | decide | omega) rfl) (by decide) ?_
      refine TL.val (YF.indexArr arr_30 rfl rfl (by first | decide | omega) rfl) (by decide) ?_
      refine TL.val (YF.load 1 sc_3 rfl rfl (fr_int (by omega))) (by decide) ?_
      refine TL.val (YF.eql rfl rfl rfl) (by decide) ?_
      refine TL.end ?_
      refine Arr.seq ?_
      refine Tr.cutN (R := fun a w => ∃ (k : Int) (x : Nat → Int) (y : Nat → Value) (L : Hp) (nn : Int) (tb : Int), (0 ≤ k ∧ k ≤ 1000 * g + 400 * c) ∧ (FI h x) ∧ (∀ i, i < 4 → LO L (y i)) ∧ (0 ≤ nn ∧ nn ≤ 4294967295) ∧ (2 ≤ tb ∧ tb ≤ 3) ∧ Agree 631 [(1, .slice nd nl nc), (3, .pointer (some ⟨b3, 0, none⟩)), (6, .pointer (some ⟨b6, 0, none⟩)), (7, .pointer (some ⟨b7, 0, none⟩)), (9, .func (.func 22) #[] #[.pointer (some ⟨b8, 0, none⟩), .pointer (some ⟨b5, 0, none⟩)]), (10, .pointer (some ⟨b7, 7, none⟩)), (11, .pointer (some ⟨b7, 93, none⟩)), (12, .int .i64 g), (13, .int .i64 c), (14, .int .u32 nn), (15, .int .i64 tb), (40, .int .i64 g), (44, .int .i64 ch), (45, .int .i64 c)] a ∧ HS w0 ((b8, .cells #[.int .i64 k] 3 (0, 0)) :: (b7, .cells (va 341 (fr x y)) 49 (0, 0)) :: (b6, .cells Zv_49 49 (0, 0)) :: (b5, .cells #[.slice ad vl vc] 24 (0, 0)) :: (b3, .cells (va 7 (sd h)) 27 (0, 0)) :: (L ++ H)) w) ?_ ?_
      ·
        refine Tr.cond rfl (fun h231 => ?_) (fun h231 => ?_)
        ·
          replace h231 := of_decide_eq_true h231
          refine Tr.seq ?_
          refine Tr.region ?_
          refine TL.val (YF.assign rfl) (by decide) ?_
          refine TL.end ?_
          refine Arr.seq ?_
          refine Tr.seq ?_
          refine Tr.seq ?_
          refine Tr.region ?_
          refine TL.val (YF.move rfl) (by decide) ?_
          refine TL.end ?_
          refine Arr.seq ?_
          refine Tr.block ?_
          refine Tr.loop (I := fun q a w => ∃ (j : Nat) (k : Int) (x : Nat → Int) (y : Nat → Value) (L : Hp) (nn : Int), (q = (3 - j : Nat)) ∧ (j ≤ 3) ∧ (0 ≤ k ∧ k ≤ 1000 * g + 400 * c) ∧ (FI h x) ∧ (∀ i, i < 4 → LO L (y i)) ∧ (0 ≤ nn ∧ nn ≤ 4294967295) ∧ Agree 631 [(1, .slice nd nl nc), (3, .pointer (some ⟨b3, 0, none⟩)), (6, .pointer (some ⟨b6, 0, none⟩)), (7, .pointer (some ⟨b7, 0, none⟩)), (9, .func (.func 22) #[] #[.pointer (some ⟨b8, 0, none⟩), .pointer (some ⟨b5, 0, none⟩)]), (10, .pointer (some ⟨b7, 7, none⟩)), (11, .pointer (some ⟨b7, 93, none⟩)), (12, .int .i64 g), (13, .int .i64 c), (14, .int .u32 nn), (15, .int .i64 2), (40, .int .i64 g), (44, .int .i64 ch), (45, .int .i64 c), (232, .int .i64 j)] a ∧ HS w0 ((b8, .cells #[.int .i64 k] 3 (0, 0)) :: (b7, .cells (va 341 (fr x y)) 49 (0, 0)) :: (b6, .cells Zv_49 49 (0, 0)) :: (b5, .cells #[.slice ad vl vc] 24 (0, 0)) :: (b3, .cells (va 7 (sd h)) 27 (0, 0)) :: (L ++ H)) w) ((3 - (0) : Nat)) ?_ ?_
          · intro a w ha hw
            exact ⟨0, k, x, y, L, nn, rfl, by omega, by omega, hx, hy, hnn, (ha.cons rfl (ha.cons rfl (ha.cons rfl (ha.cons rfl (ha.cons rfl (ha.cons rfl (ha.cons rfl (ha.cons rfl (ha.cons rfl (ha.cons rfl (ha.cons rfl (ha.cons rfl (ha.cons rfl (ha.cons rfl (ha.cons rfl (ha.nil)))))))))))))))), hw⟩
          try clear hk
          try clear hx
          try clear hy
          try clear hx1
          try clear hx2
          try clear hk'
          try clear hr
          try clear hnn
          try clear htb
          try clear hla
          try clear hlb
          try clear hcn
          try clear htp
          try clear htt
          try clear htv0
          try clear hbig
          try clear hmm1
          try clear hmm2
          rintro _ a w ⟨j, k, x, y, L, nn, rfl, hj, hk, hx, hy, hnn, ha, hw⟩
          refine Tr.use ha hw ?_
          refine Tr.seq ?_
          refine Tr.region ?_
          refine TL.val (YF.lss rfl rfl rfl) (by decide) ?_
          refine TL.end ?_
          refine Arr.seq ?_
          refine Tr.seq ?_
          refine Tr.cond rfl (fun h233 => ?_) (fun h233 => ?_)
          ·
            replace h233 := of_decide_eq_true h233
            refine Tr.skipE ?_
            refine Arr.seq ?_
            refine Tr.seq ?_
            refine Tr.block ?_
            refine Tr.seq ?_
            refine Tr.region ?_
            refine TL.val (YF.move rfl) (by decide) ?_
            refine TL.val (YF.assign rfl) (by decide) ?_
            refine TL.end ?_
            refine Arr.seq ?_
            obtain ⟨sr, hsr, hsr0, hsr1⟩ := shr_some nn (min (23 + (j : Int)).toNat IntKind.u32.bits) hnn.1
            refine Tr.drawE (_ :: _ :: _ :: _ :: _) (fun H => (H.eraseIdx 1)) rfl mixed_ ?_
            refine TD.take 0 rfl (by kernel_rfl) (by kernel_rfl) (by kernel_rfl) (fun _ _ _ h => h) (by repeat first | exact List.Sublist.refl _ | apply List.Sublist.cons_cons | apply List.Sublist.cons) (YF.move rfl) (by decide) ?_
            refine TD.take 1 rfl (by kernel_rfl) (by kernel_rfl) (by kernel_rfl) (fun _ _ _ h => h) (by repeat first | exact List.Sublist.refl _ | apply List.Sublist.cons_cons | apply List.Sublist.cons) (YF.move rfl) (by decide) ?_
            refine TD.take 2 rfl (by kernel_rfl) (by kernel_rfl) (by kernel_rfl) (fun _ _ _ h => h) (by repeat first | exact List.Sublist.refl _ | apply List.Sublist.cons_cons | apply List.Sublist.cons) (YF.move rfl) (by decide) ?_
            refine TD.take 3 rfl (by kernel_rfl) (by kernel_rfl) (by kernel_rfl) (fun _ _ _ h => h) (by repeat first | exact List.Sublist.refl _ | apply List.Sublist.cons_cons | apply List.Sublist.cons) (YF.move rfl) (by decide) ?_
            refine TD.take 4 rfl (by kernel_rfl) (by kernel_rfl) (by kernel_rfl) (fun _ _ _ h => h) (by repeat first | exact List.Sublist.refl _ | apply List.Sublist.cons_cons | apply List.Sublist.cons) (YF.move rfl) (by decide) ?_
            refine TD.take 5 rfl (by kernel_rfl) (by kernel_rfl) (by kernel_rfl) (fun _ _ _ h => h) (by repeat first | exact List.Sublist.refl _ | apply List.Sublist.cons_cons | apply List.Sublist.cons) (YF.move rfl) (by decide) ?_
            refine TD.take 6 rfl (by kernel_rfl) (by kernel_rfl) (by kernel_rfl) (fun _ _ _ h => h) (by repeat first | exact List.Sublist.refl _ | apply List.Sublist.cons_cons | apply List.Sublist.cons) (YF.add rfl rfl (IntWalk.i64_in _ (by omega))) (by decide) ?_
            refine TD.take 7 rfl (by kernel_rfl) (by kernel_rfl) (by kernel_rfl) (fun _ _ _ h => h) (by repeat first | exact List.Sublist.refl _ | apply List.Sublist.cons_cons | apply List.Sublist.cons) (YF.shr rfl rfl (by omega) hsr) (by decide) ?_
            refine TD.take 8 rfl (by kernel_rfl) (by kernel_rfl) (by kernel_rfl) (fun _ _ _ h => h) (by repeat first | exact List.Sublist.refl _ | apply List.Sublist.cons_cons | apply List.Sublist.cons) (YF.conv und_22 und_3 rfl (IntWalk.i64_in _ (by omega))) (by decide) ?_
            refine TD.take 9 rfl (by kernel_rfl) (by kernel_rfl) (by kernel_rfl) (fun _ _ _ h => h) (by repeat first | exact List.Sublist.refl _ | apply List.Sublist.cons_cons | apply List.Sublist.cons) (YF.rem rfl rfl (by omega) (IntWalk.rem_in _ _ (by omega))) (by decide) ?_
            refine TD.take 10 rfl (by kernel_rfl) (by kernel_rfl) (by kernel_rfl) (fun _ _ _ h => h) (by repeat first | exact List.Sublist.refl _ | apply List.Sublist.cons_cons | apply List.Sublist.cons) (YF.nilCheck rfl) (by decide) ?_
            refine TD.take 11 rfl (by kernel_rfl) (by kernel_rfl) (by kernel_rfl) (fun _ _ _ h => h) (by repeat first | exact List.Sublist.refl _ | apply List.Sublist.cons_cons | apply List.Sublist.cons) (YF.fieldAddr fo_36_11 rfl rfl) (by decide) ?_
            refine TD.take 12 rfl (by kernel_rfl) (by kernel_rfl) (by kernel_rfl) (fun _ _ _ h => h) (by repeat first | exact List.Sublist.refl _ | apply List.Sublist.cons_cons | apply List.Sublist.cons) (YF.indexArr arr_34 rfl rfl (by first | decide | omega) rfl) (by decide) ?_
            refine TD.take 13 rfl (by kernel_rfl) (by kernel_rfl) (by kernel_rfl) (fun _ _ _ h => h) (by repeat first | exact List.Sublist.refl _ | apply List.Sublist.cons_cons | apply List.Sublist.cons) (YF.indexArr arr_33 rfl rfl (by first | decide | omega) rfl) (by decide) ?_
            refine TD.take 14 rfl (by kernel_rfl) (by kernel_rfl) (by kernel_rfl) (fun _ _ _ h => h) (by repeat first | exact List.Sublist.refl _ | apply List.Sublist.cons_cons | apply List.Sublist.cons) (YF.indexArr arr_32 rfl rfl (by first | decide | omega) rfl) (by decide) ?_
            refine TD.eff0 15 rfl (by kernel_rfl) (EF.storeF 1 rfl rfl rfl sz_3 hx (by omega) (by intro hq93; first | omega | exact lim_of (by omega) (by omega) (by omega)) (by omega) (by omega)) (by rintro _ _ ⟨x', _, _, _, rfl⟩; exact (by repeat first | exact List.Sublist.refl _ | apply List.Sublist.cons_cons | apply List.Sublist.cons)) ?_
            rintro _ _ ⟨x, hx, hx1, hx2, rfl⟩
            refine TD.heap (_ :: _ :: _ :: _ :: _ :: _) rfl ?_
            refine TD.end (by kernel_rfl) ?_
            refine Arr.block ?_
            refine Arr.seq ?_
            refine Tr.region ?_
            refine TL.val (YF.add rfl rfl (IntWalk.i64_in _ (by omega))) (by decide) ?_
            refine TL.val (YF.move rfl) (by decide) ?_
            refine TL.end ?_
            exact fun a w ha hw => ⟨_, by omega, j + 1, k, x, y, L, nn, rfl, by omega, by omega, hx, hy, hnn, (ha.cons rfl (ha.cons rfl (ha.cons rfl (ha.cons rfl (ha.cons rfl (ha.cons rfl (ha.cons rfl (ha.cons rfl (ha.cons rfl (ha.cons rfl (ha.cons rfl (ha.cons rfl (ha.cons rfl (ha.cons rfl (ha.cons rfl (ha.nil)))))))))))))))), hw⟩
          ·
            replace h233 := of_decide_eq_false h233
            refine Tr.exitE ?_
            refine Arr.seqX ?_
            refine Arr.seqX ?_
            refine Arr.blockE ?_
            refine Arr.seq ?_
            refine Tr.seq ?_
            refine Tr.region ?_
            refine TL.val (YF.move rfl) (by decide) ?_
            refine TL.val (YF.move rfl) (by decide) ?_
            refine TL.val (YF.move rfl) (by decide) ?_
            refine TL.val (YF.nilCheck rfl) (by decide) ?_
            refine TL.val (YF.fieldAddr fo_36_12 rfl rfl) (by decide) ?_
            refine TL.val (YF.indexArr arr_31 rfl rfl (by first | decide | omega) rfl) (by decide) ?_
            refine TL.val (YF.indexArr arr_30 rfl rfl (by first | decide | omega) rfl) (by decide) ?_
            refine TL.eff0 (EF.storeF 1 rfl rfl rfl sz_3 hx (by omega) (by intro hq93; first | omega | exact lim_of (by omega) (by omega) (by omega)) (by omega) (by omega)) ?_
            rintro _ _ ⟨x, hx, hx1, hx2, rfl⟩
            refine TL.heap (_ :: _ :: _ :: _ :: _ :: _) rfl ?_
            refine TL.end ?_
            refine Arr.seq ?_
            refine Tr.seq ?_
            refine Tr.seq ?_
            refine Tr.region ?_
            refine TL.val (YF.move rfl) (by decide) ?_
            refine TL.val (YF.nilCheck rfl) (by decide) ?_
            refine TL.val (YF.loadAgg 1 agg_36 rfl rfl (by rw [va_size]; decide) fr_side) (by decide) ?_
            refine TL.val (YF.move rfl) (by decide) ?_
            refine TL.val (YF.move rfl) (by decide) ?_
            refine TL.call (vs := [_, _, _]) call_23 rfl (by decide) (short_ct _ g c (by omega) (by omega) w0 _) ?_
            rintro _ _ ⟨sb, rfl, hsb, rfl⟩
            cases sb
            ·
              refine TL.val (YF.move rfl) (by decide) ?_
              first
                | refine TL.gno rfl (by decide) ?_
                | refine TL.gval rfl (YF.move rfl) (by decide) ?_
              first
                | refine TL.gno rfl (by decide) ?_
                | refine TL.gval rfl (YF.move rfl) (by decide) ?_
              first
                | refine TL.gno rfl (by decide) ?_
                | refine TL.gval rfl (YF.move rfl) (by decide) ?_
              first
                | refine TL.gno rfl (by decide) ?_
                | refine TL.gval rfl (YF.nilCheck rfl) (by decide) ?_
              first
                | refine TL.gno rfl (by decide) ?_
                | refine TL.gval rfl (YF.fieldAddr fo_36_9 rfl rfl) (by decide) ?_
              first
                | refine TL.gno rfl (by decide) ?_
                | refine TL.gval rfl (YF.indexArr arr_31 rfl rfl (by first | decide | omega) rfl) (by decide) ?_
              first
                | refine TL.gno rfl (by decide) ?_
                | refine TL.gval rfl (YF.indexArr arr_30 rfl rfl (by first | decide | omega) rfl) (by decide) ?_
              first
                | refine TL.gno rfl (by decide) ?_
                | refine TL.gval rfl (YF.load 1 sc_3 rfl rfl (fr_int (by omega))) (by decide) ?_
              first
                | refine TL.gno rfl (by decide) ?_
                | refine TL.gval rfl (YF.eql rfl rfl rfl) (by decide) ?_
              first
                | refine TL.val (YF.pickT rfl rfl) (by decide) ?_
                | refine TL.val (YF.pickF rfl rfl) (by decide) ?_
                | refine TL.val (YF.pick rfl rfl rfl rfl) (by decide) ?_
              refine TL.end ?_
              refine Arr.seq ?_
              refine Tr.cutN (R := fun a w => ∃ (k : Int) (x : Nat → Int) (y : Nat → Value) (L : Hp) (nn : Int), (0 ≤ k ∧ k ≤ 1000 * g + 400 * c) ∧ (FI h x) ∧ (∀ i, i < 4 → LO L (y i)) ∧ (0 ≤ nn ∧ nn ≤ 4294967295) ∧ Agree 631 [(1, .slice nd nl nc), (3, .pointer (some ⟨b3, 0, none⟩)), (6, .pointer (some ⟨b6, 0, none⟩)), (7, .pointer (some ⟨b7, 0, none⟩)), (9, .func (.func 22) #[] #[.pointer (some ⟨b8, 0, none⟩), .pointer (some ⟨b5, 0, none⟩)]), (10, .pointer (some ⟨b7, 7, none⟩)), (11, .pointer (some ⟨b7, 93, none⟩)), (12, .int .i64 g), (13, .int .i64 c), (14, .int .u32 nn), (15, .int .i64 2), (40, .int .i64 g), (44, .int .i64 ch), (45, .int .i64 c)] a ∧ HS w0 ((b8, .cells #[.int .i64 k] 3 (0, 0)) :: (b7, .cells (va 341 (fr x y)) 49 (0, 0)) :: (b6, .cells Zv_49 49 (0, 0)) :: (b5, .cells #[.slice ad vl vc] 24 (0, 0)) :: (b3, .cells (va 7 (sd h)) 27 (0, 0)) :: (L ++ H)) w) ?_ ?_
              ·
                refine Tr.cond rfl (fun h274 => ?_) (fun h274 => ?_)
                ·
                  refine Tr.region ?_
                  refine TL.val (YF.move rfl) (by decide) ?_
                  refine TL.val (YF.move rfl) (by decide) ?_
                  refine TL.val (YF.move rfl) (by decide) ?_
                  refine TL.val (YF.nilCheck rfl) (by decide) ?_
                  refine TL.val (YF.fieldAddr fo_36_12 rfl rfl) (by decide) ?_
                  refine TL.val (YF.indexArr arr_31 rfl rfl (by first | decide | omega) rfl) (by decide) ?_
                  refine TL.val (YF.indexArr arr_30 rfl rfl (by first | decide | omega) rfl) (by decide) ?_
                  refine TL.eff0 (EF.storeF 1 rfl rfl rfl sz_3 hx (by omega) (by intro hq93; first | omega | exact lim_of (by omega) (by omega) (by omega)) (by omega) (by omega)) ?_
                  rintro _ _ ⟨x, hx, hx1, hx2, rfl⟩
                  refine TL.heap (_ :: _ :: _ :: _ :: _ :: _) rfl ?_
                  refine TL.end ?_
                  refine Arr.meet ?_
                  exact fun a w ha hw => ⟨k, x, y, L, nn, by omega, hx, hy, hnn, (ha.cons rfl (ha.cons rfl (ha.cons rfl (ha.cons rfl (ha.cons rfl (ha.cons rfl (ha.cons rfl (ha.cons rfl (ha.cons rfl (ha.cons rfl (ha.cons rfl (ha.cons rfl (ha.cons rfl (ha.cons rfl (ha.nil))))))))))))))), hw⟩
                ·
                  refine Tr.skipE ?_
                  refine Arr.meet ?_
                  exact fun a w ha hw => ⟨k, x, y, L, nn, by omega, hx, hy, hnn, (ha.cons rfl (ha.cons rfl (ha.cons rfl (ha.cons rfl (ha.cons rfl (ha.cons rfl (ha.cons rfl (ha.cons rfl (ha.cons rfl (ha.cons rfl (ha.cons rfl (ha.cons rfl (ha.cons rfl (ha.cons rfl (ha.nil))))))))))))))), hw⟩
              try clear hk
              try clear hx
              try clear hy
              try clear hx1
              try clear hx2
              try clear hk'
              try clear hr
              try clear hnn
              try clear htb
              try clear hla
              try clear hlb
              try clear hcn
              try clear htp
              try clear htt
              try clear htv0
              try clear hbig
              try clear hmm1
              try clear hmm2
              rintro a w ⟨k, x, y, L, nn, hk, hx, hy, hnn, ha, hw⟩
              refine Arr.use ha hw ?_
              refine Arr.seq ?_
              have hr0 := FI.region0 hx (69 + 2 * g + c) (by omega)
              refine Tr.drawE (_ :: _ :: _ :: _ :: _) (fun H => (H.eraseIdx 1)) rfl mixed_ ?_
              refine TD.take 0 rfl (by kernel_rfl) (by kernel_rfl) (by kernel_rfl) (fun _ _ _ h => h) (by repeat first | exact List.Sublist.refl _ | apply List.Sublist.cons_cons | apply List.Sublist.cons) (YF.move rfl) (by decide) ?_
              refine TD.take 1 rfl (by kernel_rfl) (by kernel_rfl) (by kernel_rfl) (fun _ _ _ h => h) (by repeat first | exact List.Sublist.refl _ | apply List.Sublist.cons_cons | apply List.Sublist.cons) (YF.move rfl) (by decide) ?_
              refine TD.take 2 rfl (by kernel_rfl) (by kernel_rfl) (by kernel_rfl) (fun _ _ _ h => h) (by repeat first | exact List.Sublist.refl _ | apply List.Sublist.cons_cons | apply List.Sublist.cons) (YF.move rfl) (by decide) ?_
              refine TD.take 3 rfl (by kernel_rfl) (by kernel_rfl) (by kernel_rfl) (fun _ _ _ h => h) (by repeat first | exact List.Sublist.refl _ | apply List.Sublist.cons_cons | apply List.Sublist.cons) (YF.move rfl) (by decide) ?_
              refine TD.take 4 rfl (by kernel_rfl) (by kernel_rfl) (by kernel_rfl) (fun _ _ _ h => h) (by repeat first | exact List.Sublist.refl _ | apply List.Sublist.cons_cons | apply List.Sublist.cons) (YF.move rfl) (by decide) ?_
              refine TD.take 5 rfl (by kernel_rfl) (by kernel_rfl) (by kernel_rfl) (fun _ _ _ h => h) (by repeat first | exact List.Sublist.refl _ | apply List.Sublist.cons_cons | apply List.Sublist.cons) (YF.move rfl) (by decide) ?_
              refine TD.take 6 rfl (by kernel_rfl) (by kernel_rfl) (by kernel_rfl) (fun _ _ _ h => h) (by repeat first | exact List.Sublist.refl _ | apply List.Sublist.cons_cons | apply List.Sublist.cons) (YF.nilCheck rfl) (by decide) ?_
              refine TD.take 7 rfl (by kernel_rfl) (by kernel_rfl) (by kernel_rfl) (fun _ _ _ h => h) (by repeat first | exact List.Sublist.refl _ | apply List.Sublist.cons_cons | apply List.Sublist.cons) (YF.fieldAddr fo_36_12 rfl rfl) (by decide) ?_
              refine TD.take 8 rfl (by kernel_rfl) (by kernel_rfl) (by kernel_rfl) (fun _ _ _ h => h) (by repeat first | exact List.Sublist.refl _ | apply List.Sublist.cons_cons | apply List.Sublist.cons) (YF.indexArr arr_31 rfl rfl (by first | decide | omega) rfl) (by decide) ?_
              refine TD.take 9 rfl (by kernel_rfl) (by kernel_rfl) (by kernel_rfl) (fun _ _ _ h => h) (by repeat first | exact List.Sublist.refl _ | apply List.Sublist.cons_cons | apply List.Sublist.cons) (YF.indexArr arr_30 rfl rfl (by first | decide | omega) (show _ = 69 + 2 * g + c by omega)) (by decide) ?_
              refine TD.take 12 rfl (by kernel_rfl) (by kernel_rfl) (by kernel_rfl) (fun _ _ _ h => h) (by repeat first | exact List.Sublist.refl _ | apply List.Sublist.cons_cons | apply List.Sublist.cons) (YF.nilCheck rfl) (by decide) ?_
              refine TD.take 13 rfl (by kernel_rfl) (by kernel_rfl) (by kernel_rfl) (fun _ _ _ h => h) (by repeat first | exact List.Sublist.refl _ | apply List.Sublist.cons_cons | apply List.Sublist.cons) (YF.fieldAddr fo_36_13 rfl rfl) (by decide) ?_
              refine TD.take 14 rfl (by kernel_rfl) (by kernel_rfl) (by kernel_rfl) (fun _ _ _ h => h) (by repeat first | exact List.Sublist.refl _ | apply List.Sublist.cons_cons | apply List.Sublist.cons) (YF.indexArr arr_31 rfl rfl (by first | decide | omega) rfl) (by decide) ?_
              refine TD.eff 10 rfl (by kernel_rfl) (YF.ef (YF.load 1 sc_3 rfl rfl (fr_int (by omega)))) (by decide) (by rintro _ _ ⟨rfl, rfl⟩; exact (by repeat first | exact List.Sublist.refl _ | apply List.Sublist.cons_cons | apply List.Sublist.cons)) ?_
              rintro _ _ ⟨rfl, rfl⟩
              refine TD.take 11 rfl (by kernel_rfl) (by kernel_rfl) (by kernel_rfl) (fun _ _ _ h => h) (by repeat first | exact List.Sublist.refl _ | apply List.Sublist.cons_cons | apply List.Sublist.cons) (YF.sub rfl rfl (IntWalk.i64_in _ (by omega))) (by decide) ?_
              refine TD.take 15 rfl (by kernel_rfl) (by kernel_rfl) (by kernel_rfl) (fun _ _ _ h => h) (by repeat first | exact List.Sublist.refl _ | apply List.Sublist.cons_cons | apply List.Sublist.cons) (YF.indexArr arr_30 rfl rfl (by first | decide | omega) rfl) (by decide) ?_
              refine TD.eff0 16 rfl (by kernel_rfl) (EF.storeF 1 rfl rfl rfl sz_3 hx (by omega) (by intro hq93; first | omega | exact lim_of (by omega) (by omega) (by omega)) (by omega) (by omega)) (by rintro _ _ ⟨x', _, _, _, rfl⟩; exact (by repeat first | exact List.Sublist.refl _ | apply List.Sublist.cons_cons | apply List.Sublist.cons)) ?_
              rintro _ _ ⟨x, hx, hx1, hx2, rfl⟩
              refine TD.heap (_ :: _ :: _ :: _ :: _ :: _) rfl ?_
              refine TD.end (by kernel_rfl) ?_
              refine Arr.meet ?_
              exact fun a w ha hw => ⟨k, x, y, L, nn, _, by omega, hx, hy, hnn, by omega, (ha.cons rfl (ha.cons rfl (ha.cons rfl (ha.cons rfl (ha.cons rfl (ha.cons rfl (ha.cons rfl (ha.cons rfl (ha.cons rfl (ha.cons rfl (ha.cons rfl (ha.cons rfl (ha.cons rfl (ha.cons rfl (ha.nil))))))))))))))), hw⟩
            ·
              refine TL.val (YF.move rfl) (by decide) ?_
              first
                | refine TL.gno rfl (by decide) ?_
                | refine TL.gval rfl (YF.move rfl) (by decide) ?_
              first
                | refine TL.gno rfl (by decide) ?_
                | refine TL.gval rfl (YF.move rfl) (by decide) ?_
              first
                | refine TL.gno rfl (by decide) ?_
                | refine TL.gval rfl (YF.move rfl) (by decide) ?_
              first
                | refine TL.gno rfl (by decide) ?_
                | refine TL.gval rfl (YF.nilCheck rfl) (by decide) ?_
              first
                | refine TL.gno rfl (by decide) ?_
                | refine TL.gval rfl (YF.fieldAddr fo_36_9 rfl rfl) (by decide) ?_
              first
                | refine TL.gno rfl (by decide) ?_
                | refine TL.gval rfl (YF.indexArr arr_31 rfl rfl (by first | decide | omega) rfl) (by decide) ?_
              first
                | refine TL.gno rfl (by decide) ?_
                | refine TL.gval rfl (YF.indexArr arr_30 rfl rfl (by first | decide | omega) rfl) (by decide) ?_
              first
                | refine TL.gno rfl (by decide) ?_
                | refine TL.gval rfl (YF.load 1 sc_3 rfl rfl (fr_int (by omega))) (by decide) ?_
              first
                | refine TL.gno rfl (by decide) ?_
                | refine TL.gval rfl (YF.eql rfl rfl rfl) (by decide) ?_
              first
                | refine TL.val (YF.pickT rfl rfl) (by decide) ?_
                | refine TL.val (YF.pickF rfl rfl) (by decide) ?_
                | refine TL.val (YF.pick rfl rfl rfl rfl) (by decide) ?_
              refine TL.end ?_
              refine Arr.seq ?_
              refine Tr.cutN (R := fun a w => ∃ (k : Int) (x : Nat → Int) (y : Nat → Value) (L : Hp) (nn : Int), (0 ≤ k ∧ k ≤ 1000 * g + 400 * c) ∧ (FI h x) ∧ (∀ i, i < 4 → LO L (y i)) ∧ (0 ≤ nn ∧ nn ≤ 4294967295) ∧ Agree 631 [(1, .slice nd nl nc), (3, .pointer (some ⟨b3, 0, none⟩)), (6, .pointer (some ⟨b6, 0, none⟩)), (7, .pointer (some ⟨b7, 0, none⟩)), (9, .func (.func 22) #[] #[.pointer (some ⟨b8, 0, none⟩), .pointer (some ⟨b5, 0, none⟩)]), (10, .pointer (some ⟨b7, 7, none⟩)), (11, .pointer (some ⟨b7, 93, none⟩)), (12, .int .i64 g), (13, .int .i64 c), (14, .int .u32 nn), (15, .int .i64 2), (40, .int .i64 g), (44, .int .i64 ch), (45, .int .i64 c)] a ∧ HS w0 ((b8, .cells #[.int .i64 k] 3 (0, 0)) :: (b7, .cells (va 341 (fr x y)) 49 (0, 0)) :: (b6, .cells Zv_49 49 (0, 0)) :: (b5, .cells #[.slice ad vl vc] 24 (0, 0)) :: (b3, .cells (va 7 (sd h)) 27 (0, 0)) :: (L ++ H)) w) ?_ ?_
              ·
                refine Tr.cond rfl (fun h274 => ?_) (fun h274 => ?_)
                ·
                  refine Tr.region ?_
                  refine TL.val (YF.move rfl) (by decide) ?_
                  refine TL.val (YF.move rfl) (by decide) ?_
                  refine TL.val (YF.move rfl) (by decide) ?_
                  refine TL.val (YF.nilCheck rfl) (by decide) ?_
                  refine TL.val (YF.fieldAddr fo_36_12 rfl rfl) (by decide) ?_
                  refine TL.val (YF.indexArr arr_31 rfl rfl (by first | decide | omega) rfl) (by decide) ?_
                  refine TL.val (YF.indexArr arr_30 rfl rfl (by first | decide | omega) rfl) (by decide) ?_
                  refine TL.eff0 (EF.storeF 1 rfl rfl rfl sz_3 hx (by omega) (by intro hq93; first | omega | exact lim_of (by omega) (by omega) (by omega)) (by omega) (by omega)) ?_
                  rintro _ _ ⟨x, hx, hx1, hx2, rfl⟩
                  refine TL.heap (_ :: _ :: _ :: _ :: _ :: _) rfl ?_
                  refine TL.end ?_
                  refine Arr.meet ?_
                  exact fun a w ha hw => ⟨k, x, y, L, nn, by omega, hx, hy, hnn, (ha.cons rfl (ha.cons rfl (ha.cons rfl (ha.cons rfl (ha.cons rfl (ha.cons rfl (ha.cons rfl (ha.cons rfl (ha.cons rfl (ha.cons rfl (ha.cons rfl (ha.cons rfl (ha.cons rfl (ha.cons rfl (ha.nil))))))))))))))), hw⟩
                ·
                  refine Tr.skipE ?_
                  refine Arr.meet ?_
                  exact fun a w ha hw => ⟨k, x, y, L, nn, by omega, hx, hy, hnn, (ha.cons rfl (ha.cons rfl (ha.cons rfl (ha.cons rfl (ha.cons rfl (ha.cons rfl (ha.cons rfl (ha.cons rfl (ha.cons rfl (ha.cons rfl (ha.cons rfl (ha.cons rfl (ha.cons rfl (ha.cons rfl (ha.nil))))))))))))))), hw⟩
              try clear hk
              try clear hx
              try clear hy
              try clear hx1
              try clear hx2
              try clear hk'
              try clear hr
              try clear hnn
              try clear htb
              try clear hla
              try clear hlb
              try clear hcn
              try clear htp
              try clear htt
              try clear htv0
              try clear hbig
              try clear hmm1
              try clear hmm2
              rintro a w ⟨k, x, y, L, nn, hk, hx, hy, hnn, ha, hw⟩
              refine Arr.use ha hw ?_
              refine Arr.seq ?_
              have hr0 := FI.region0 hx (69 + 2 * g + c) (by omega)
              refine Tr.drawE (_ :: _ :: _ :: _ :: _) (fun H => (H.eraseIdx 1)) rfl mixed_ ?_
              refine TD.take 0 rfl (by kernel_rfl) (by kernel_rfl) (by kernel_rfl) (fun _ _ _ h => h) (by repeat first | exact List.Sublist.refl _ | apply List.Sublist.cons_cons | apply List.Sublist.cons) (YF.move rfl) (by decide) ?_
              refine TD.take 1 rfl (by kernel_rfl) (by kernel_rfl) (by kernel_rfl) (fun _ _ _ h => h) (by repeat first | exact List.Sublist.refl _ | apply List.Sublist.cons_cons | apply List.Sublist.cons) (YF.move rfl) (by decide) ?_
              refine TD.take 2 rfl (by kernel_rfl) (by kernel_rfl) (by kernel_rfl) (fun _ _ _ h => h) (by repeat first | exact List.Sublist.refl _ | apply List.Sublist.cons_cons | apply List.Sublist.cons) (YF.move rfl) (by decide) ?_
              refine TD.take 3 rfl (by kernel_rfl) (by kernel_rfl) (by kernel_rfl) (fun _ _ _ h => h) (by repeat first | exact List.Sublist.refl _ | apply List.Sublist.cons_cons | apply List.Sublist.cons) (YF.move rfl) (by decide) ?_
              refine TD.take 4 rfl (by kernel_rfl) (by kernel_rfl) (by kernel_rfl) (fun _ _ _ h => h) (by repeat first | exact List.Sublist.refl _ | apply List.Sublist.cons_cons | apply List.Sublist.cons) (YF.move rfl) (by decide) ?_
              refine TD.take 5 rfl (by kernel_rfl) (by kernel_rfl) (by kernel_rfl) (fun _ _ _ h => h) (by repeat first | exact List.Sublist.refl _ | apply List.Sublist.cons_cons | apply List.Sublist.cons) (YF.move rfl) (by decide) ?_
              refine TD.take 6 rfl (by kernel_rfl) (by kernel_rfl) (by kernel_rfl) (fun _ _ _ h => h) (by repeat first | exact List.Sublist.refl _ | apply List.Sublist.cons_cons | apply List.Sublist.cons) (YF.nilCheck rfl) (by decide) ?_
              refine TD.take 7 rfl (by kernel_rfl) (by kernel_rfl) (by kernel_rfl) (fun _ _ _ h => h) (by repeat first | exact List.Sublist.refl _ | apply List.Sublist.cons_cons | apply List.Sublist.cons) (YF.fieldAddr fo_36_12 rfl rfl) (by decide) ?_
              refine TD.take 8 rfl (by kernel_rfl) (by kernel_rfl) (by kernel_rfl) (fun _ _ _ h => h) (by repeat first | exact List.Sublist.refl _ | apply List.Sublist.cons_cons | apply List.Sublist.cons) (YF.indexArr arr_31 rfl rfl (by first | decide | omega) rfl) (by decide) ?_
              refine TD.take 9 rfl (by kernel_rfl) (by kernel_rfl) (by kernel_rfl) (fun _ _ _ h => h) (by repeat first | exact List.Sublist.refl _ | apply List.Sublist.cons_cons | apply List.Sublist.cons) (YF.indexArr arr_30 rfl rfl (by first | decide | omega) (show _ = 69 + 2 * g + c by omega)) (by decide) ?_
              refine TD.take 12 rfl (by kernel_rfl) (by kernel_rfl) (by kernel_rfl) (fun _ _ _ h => h) (by repeat first | exact List.Sublist.refl _ | apply List.Sublist.cons_cons | apply List.Sublist.cons) (YF.nilCheck rfl) (by decide) ?_
              refine TD.take 13 rfl (by kernel_rfl) (by kernel_rfl) (by kernel_rfl) (fun _ _ _ h => h) (by repeat first | exact List.Sublist.refl _ | apply List.Sublist.cons_cons | apply List.Sublist.cons) (YF.fieldAddr fo_36_13 rfl rfl) (by decide) ?_
              refine TD.take 14 rfl (by kernel_rfl) (by kernel_rfl) (by kernel_rfl) (fun _ _ _ h => h) (by repeat first | exact List.Sublist.refl _ | apply List.Sublist.cons_cons | apply List.Sublist.cons) (YF.indexArr arr_31 rfl rfl (by first | decide | omega) rfl) (by decide) ?_
              refine TD.eff 10 rfl (by kernel_rfl) (YF.ef (YF.load 1 sc_3 rfl rfl (fr_int (by omega)))) (by decide) (by rintro _ _ ⟨rfl, rfl⟩; exact (by repeat first | exact List.Sublist.refl _ | apply List.Sublist.cons_cons | apply List.Sublist.cons)) ?_
              rintro _ _ ⟨rfl, rfl⟩
              refine TD.take 11 rfl (by kernel_rfl) (by kernel_rfl) (by kernel_rfl) (fun _ _ _ h => h) (by repeat first | exact List.Sublist.refl _ | apply List.Sublist.cons_cons | apply List.Sublist.cons) (YF.sub rfl rfl (IntWalk.i64_in _ (by omega))) (by decide) ?_
              refine TD.take 15 rfl (by kernel_rfl) (by kernel_rfl) (by kernel_rfl) (fun _ _ _ h => h) (by repeat first | exact List.Sublist.refl _ | apply List.Sublist.cons_cons | apply List.Sublist.cons) (YF.indexArr arr_30 rfl rfl (by first | decide | omega) rfl) (by decide) ?_
              refine TD.eff0 16 rfl (by kernel_rfl) (EF.storeF 1 rfl rfl rfl sz_3 hx (by omega) (by intro hq93; first | omega | exact lim_of (by omega) (by omega) (by omega)) (by omega) (by omega)) (by rintro _ _ ⟨x', _, _, _, rfl⟩; exact (by repeat first | exact List.Sublist.refl _ | apply List.Sublist.cons_cons | apply List.Sublist.cons)) ?_
              rintro _ _ ⟨x, hx, hx1, hx2, rfl⟩
              refine TD.heap (_ :: _ :: _ :: _ :: _ :: _) rfl ?_
              refine TD.end (by kernel_rfl) ?_
              refine Arr.meet ?_
              exact fun a w ha hw => ⟨k, x, y, L, nn, _, by omega, hx, hy, hnn, by omega, (ha.cons rfl (ha.cons rfl (ha.cons rfl (ha.cons rfl (ha.cons rfl (ha.cons rfl (ha.cons rfl (ha.cons rfl (ha.cons rfl (ha.cons rfl (ha.cons rfl (ha.cons rfl (ha.cons rfl (ha.cons rfl (ha.nil))))))))))))))), hw⟩
        ·
          replace h231 := of_decide_eq_false h231
          refine Tr.drawE (_ :: _ :: _ :: _ :: _) (fun H => (H.eraseIdx 1)) rfl mixed_ ?_
          refine TD.take 0 rfl (by kernel_rfl) (by kernel_rfl) (by kernel_rfl) (fun _ _ _ h => h) (by repeat first | exact List.Sublist.refl _ | apply List.Sublist.cons_cons | apply List.Sublist.cons) (YF.move rfl) (by decide) ?_
          refine TD.take 1 rfl (by kernel_rfl) (by kernel_rfl) (by kernel_rfl) (fun _ _ _ h => h) (by repeat first | exact List.Sublist.refl _ | apply List.Sublist.cons_cons | apply List.Sublist.cons) (YF.move rfl) (by decide) ?_
          refine TD.take 2 rfl (by kernel_rfl) (by kernel_rfl) (by kernel_rfl) (fun _ _ _ h => h) (by repeat first | exact List.Sublist.refl _ | apply List.Sublist.cons_cons | apply List.Sublist.cons) (YF.move rfl) (by decide) ?_
          refine TD.take 3 rfl (by kernel_rfl) (by kernel_rfl) (by kernel_rfl) (fun _ _ _ h => h) (by repeat first | exact List.Sublist.refl _ | apply List.Sublist.cons_cons | apply List.Sublist.cons) (YF.move rfl) (by decide) ?_
          refine TD.take 4 rfl (by kernel_rfl) (by kernel_rfl) (by kernel_rfl) (fun _ _ _ h => h) (by repeat first | exact List.Sublist.refl _ | apply List.Sublist.cons_cons | apply List.Sublist.cons) (YF.move rfl) (by decide) ?_
          refine TD.take 5 rfl (by kernel_rfl) (by kernel_rfl) (by kernel_rfl) (fun _ _ _ h => h) (by repeat first | exact List.Sublist.refl _ | apply List.Sublist.cons_cons | apply List.Sublist.cons) (YF.move rfl) (by decide) ?_
          refine TD.take 6 rfl (by kernel_rfl) (by kernel_rfl) (by kernel_rfl) (fun _ _ _ h => h) (by repeat first | exact List.Sublist.refl _ | apply List.Sublist.cons_cons | apply List.Sublist.cons) (YF.move rfl) (by decide) ?_
          refine TD.take 7 rfl (by kernel_rfl) (by kernel_rfl) (by kernel_rfl) (fun _ _ _ h => h) (by repeat first | exact List.Sublist.refl _ | apply List.Sublist.cons_cons | apply List.Sublist.cons) (YF.shr rfl rfl (by decide) (shrv (p := 33554432) 25 rfl (by decide) (by decide))) (by decide) ?_
          refine TD.take 8 rfl (by kernel_rfl) (by kernel_rfl) (by kernel_rfl) (fun _ _ _ h => h) (by repeat first | exact List.Sublist.refl _ | apply List.Sublist.cons_cons | apply List.Sublist.cons) (YF.rem rfl rfl (by omega) (IntWalk.rem_in _ _ (by omega))) (by decide) ?_
          refine TD.take 9 rfl (by kernel_rfl) (by kernel_rfl) (by kernel_rfl) (fun _ _ _ h => h) (by repeat first | exact List.Sublist.refl _ | apply List.Sublist.cons_cons | apply List.Sublist.cons) (YF.conv und_22 und_3 rfl (IntWalk.i64_in _ (by omega))) (by decide) ?_
          refine TD.take 10 rfl (by kernel_rfl) (by kernel_rfl) (by kernel_rfl) (fun _ _ _ h => h) (by repeat first | exact List.Sublist.refl _ | apply List.Sublist.cons_cons | apply List.Sublist.cons) (YF.move rfl) (by decide) ?_
          refine TD.take 11 rfl (by kernel_rfl) (by kernel_rfl) (by kernel_rfl) (fun _ _ _ h => h) (by repeat first | exact List.Sublist.refl _ | apply List.Sublist.cons_cons | apply List.Sublist.cons) (YF.shr rfl rfl (by decide) (shrv (p := 8192) 13 rfl (by decide) (by decide))) (by decide) ?_
          refine TD.take 12 rfl (by kernel_rfl) (by kernel_rfl) (by kernel_rfl) (fun _ _ _ h => h) (by repeat first | exact List.Sublist.refl _ | apply List.Sublist.cons_cons | apply List.Sublist.cons) (YF.rem rfl rfl (by omega) (IntWalk.rem_in _ _ (by omega))) (by decide) ?_
          refine TD.take 13 rfl (by kernel_rfl) (by kernel_rfl) (by kernel_rfl) (fun _ _ _ h => h) (by repeat first | exact List.Sublist.refl _ | apply List.Sublist.cons_cons | apply List.Sublist.cons) (YF.conv und_22 und_3 rfl (IntWalk.i64_in _ (by omega))) (by decide) ?_
          refine TD.take 14 rfl (by kernel_rfl) (by kernel_rfl) (by kernel_rfl) (fun _ _ _ h => h) (by repeat first | exact List.Sublist.refl _ | apply List.Sublist.cons_cons | apply List.Sublist.cons) (YF.nilCheck rfl) (by decide) ?_
          refine TD.take 15 rfl (by kernel_rfl) (by kernel_rfl) (by kernel_rfl) (fun _ _ _ h => h) (by repeat first | exact List.Sublist.refl _ | apply List.Sublist.cons_cons | apply List.Sublist.cons) (YF.fieldAddr fo_36_12 rfl rfl) (by decide) ?_
          refine TD.take 16 rfl (by kernel_rfl) (by kernel_rfl) (by kernel_rfl) (fun _ _ _ h => h) (by repeat first | exact List.Sublist.refl _ | apply List.Sublist.cons_cons | apply List.Sublist.cons) (YF.indexArr arr_31 rfl rfl (by first | decide | omega) rfl) (by decide) ?_
          refine TD.take 17 rfl (by kernel_rfl) (by kernel_rfl) (by kernel_rfl) (fun _ _ _ h => h) (by repeat first | exact List.Sublist.refl _ | apply List.Sublist.cons_cons | apply List.Sublist.cons) (YF.indexArr arr_30 rfl rfl (by first | decide | omega) rfl) (by decide) ?_
          refine TD.take 19 rfl (by kernel_rfl) (by kernel_rfl) (by kernel_rfl) (fun _ _ _ h => h) (by repeat first | exact List.Sublist.refl _ | apply List.Sublist.cons_cons | apply List.Sublist.cons) (YF.nilCheck rfl) (by decide) ?_
          refine TD.take 20 rfl (by kernel_rfl) (by kernel_rfl) (by kernel_rfl) (fun _ _ _ h => h) (by repeat first | exact List.Sublist.refl _ | apply List.Sublist.cons_cons | apply List.Sublist.cons) (YF.fieldAddr fo_36_13 rfl rfl) (by decide) ?_
          refine TD.take 21 rfl (by kernel_rfl) (by kernel_rfl) (by kernel_rfl) (fun _ _ _ h => h) (by repeat first | exact List.Sublist.refl _ | apply List.Sublist.cons_cons | apply List.Sublist.cons) (YF.indexArr arr_31 rfl rfl (by first | decide | omega) rfl) (by decide) ?_
          refine TD.eff0 18 rfl (by kernel_rfl) (EF.storeF 1 rfl rfl rfl sz_3 hx (by omega) (by intro hq93; first | omega | exact lim_of (by omega) (by omega) (by omega)) (by omega) (by omega)) (by rintro _ _ ⟨x', _, _, _, rfl⟩; exact (by repeat first | exact List.Sublist.refl _ | apply List.Sublist.cons_cons | apply List.Sublist.cons)) ?_
          rintro _ _ ⟨x, hx, hx1, hx2, rfl⟩
          refine TD.heap (_ :: _ :: _ :: _ :: _ :: _) rfl ?_
          refine TD.take 22 rfl (by kernel_rfl) (by kernel_rfl) (by kernel_rfl) (fun _ _ _ h => h) (by repeat first | exact List.Sublist.refl _ | apply List.Sublist.cons_cons | apply List.Sublist.cons) (YF.indexArr arr_30 rfl rfl (by first | decide | omega) rfl) (by decide) ?_
          refine TD.eff0 23 rfl (by kernel_rfl) (EF.storeF 1 rfl rfl rfl sz_3 hx (by omega) (by intro hq93; first | omega | exact lim_of (by omega) (by omega) (by omega)) (by omega) (by omega)) (by rintro _ _ ⟨x', _, _, _, rfl⟩; exact (by repeat first | exact List.Sublist.refl _ | apply List.Sublist.cons_cons | apply List.Sublist.cons)) ?_
          rintro _ _ ⟨x, hx, hx1, hx2, rfl⟩
          refine TD.heap (_ :: _ :: _ :: _ :: _ :: _) rfl ?_
          refine TD.end (by kernel_rfl) ?_
          refine Arr.meet ?_
          exact fun a w ha hw => ⟨k, x, y, L, nn, _, by omega, hx, hy, hnn, by omega, (ha.cons rfl (ha.cons rfl (ha.cons rfl (ha.cons rfl (ha.cons rfl (ha.cons rfl (ha.cons rfl (ha.cons rfl (ha.cons rfl (ha.cons rfl (ha.cons rfl (ha.cons rfl (ha.cons rfl (ha.cons rfl (ha.nil))))))))))))))), hw⟩
      try clear hk
      try clear hx
      try clear hy
      try clear hx1
      try clear hx2
      try clear hk'
      try clear hr
      try clear hnn
      try clear htb
      try clear hla
      try clear hlb
      try clear hcn
      try clear htp
      try clear htt
      try clear htv0
      try clear hbig
      try clear hmm1
      try clear hmm2
      rintro a w ⟨k, x, y, L, nn, tb, hk, hx, hy, hnn, htb, ha, hw⟩
      refine Arr.use ha hw ?_
      refine Arr.seq ?_
      refine Tr.seq ?_
      refine Tr.seq ?_
      refine Tr.region ?_
      refine TL.val (YF.move rfl) (by decide) ?_
      refine TL.val (YF.nilCheck rfl) (by decide) ?_
      refine TL.val (YF.loadAgg 1 agg_36 rfl rfl (by rw [va_size]; decide) fr_side) (by decide) ?_
      refine TL.val (YF.move rfl) (by decide) ?_
      refine TL.val (YF.move rfl) (by decide) ?_
      refine TL.call (vs := [_, _, _]) call_23 rfl (by decide) (short_ct _ g c (by omega) (by omega) w0 _) ?_
      rintro _ _ ⟨sb, rfl, hsb, rfl⟩
      refine TL.end ?_
      refine Arr.seq ?_
      refine Tr.cutN (R := fun a w => ∃ (k : Int) (x : Nat → Int) (y : Nat → Value) (L : Hp) (nn : Int) (tb : Int), (0 ≤ k ∧ k ≤ 1000 * g + 400 * c) ∧ (FI h x) ∧ (∀ i, i < 4 → LO L (y i)) ∧ (0 ≤ nn ∧ nn ≤ 4294967295) ∧ (2 ≤ tb ∧ tb ≤ 3) ∧ Agree 631 [(1, .slice nd nl nc), (3, .pointer (some ⟨b3, 0, none⟩)), (6, .pointer (some ⟨b6, 0, none⟩)), (7, .pointer (some ⟨b7, 0, none⟩)), (9, .func (.func 22) #[] #[.pointer (some ⟨b8, 0, none⟩), .pointer (some ⟨b5, 0, none⟩)]), (10, .pointer (some ⟨b7, 7, none⟩)), (11, .pointer (some ⟨b7, 93, none⟩)), (12, .int .i64 g), (13, .int .i64 c), (14, .int .u32 nn), (15, .int .i64 tb), (40, .int .i64 g), (44, .int .i64 ch), (45, .int .i64 c)] a ∧ HS w0 ((b8, .cells #[.int .i64 k] 3 (0, 0)) :: (b7, .cells (va 341 (fr x y)) 49 (0, 0)) :: (b6, .cells Zv_49 49 (0, 0)) :: (b5, .cells #[.slice ad vl vc] 24 (0, 0)) :: (b3, .cells (va 7 (sd h)) 27 (0, 0)) :: (L ++ H)) w) ?_ ?_
      ·
        refine Tr.cond rfl (fun h325 => ?_) (fun h325 => ?_)
        ·
          refine Tr.region ?_
          refine TL.val (YF.move rfl) (by decide) ?_
          refine TL.val (YF.move rfl) (by decide) ?_
          refine TL.val (YF.move rfl) (by decide) ?_
          refine TL.val (YF.nilCheck rfl) (by decide) ?_
          refine TL.val (YF.fieldAddr fo_36_14 rfl rfl) (by decide) ?_
          refine TL.val (YF.indexArr arr_31 rfl rfl (by first | decide | omega) rfl) (by decide) ?_
          refine TL.val (YF.indexArr arr_30 rfl rfl (by first | decide | omega) rfl) (by decide) ?_
          refine TL.eff0 (EF.storeF 1 rfl rfl rfl sz_3 hx (by omega) (by intro hq93; first | omega | exact lim_of (by omega) (by omega) (by omega)) (by omega) (by omega)) ?_
          rintro _ _ ⟨x, hx, hx1, hx2, rfl⟩
          refine TL.heap (_ :: _ :: _ :: _ :: _ :: _) rfl ?_
          refine TL.end ?_
          refine Arr.meet ?_
          exact fun a w ha hw => ⟨k, x, y, L, nn, tb, by omega, hx, hy, hnn, htb, (ha.cons rfl (ha.cons rfl (ha.cons rfl (ha.cons rfl (ha.cons rfl (ha.cons rfl (ha.cons rfl (ha.cons rfl (ha.cons rfl (ha.cons rfl (ha.cons rfl (ha.cons rfl (ha.cons rfl (ha.cons rfl (ha.nil))))))))))))))), hw⟩
        ·
          refine Tr.skipE ?_
          refine Arr.meet ?_
          exact fun a w ha hw => ⟨k, x, y, L, nn, tb, by omega, hx, hy, hnn, htb, (ha.cons rfl (ha.cons rfl (ha.cons rfl (ha.cons rfl (ha.cons rfl (ha.cons rfl (ha.cons rfl (ha.cons rfl (ha.cons rfl (ha.cons rfl (ha.cons rfl (ha.cons rfl (ha.cons rfl (ha.cons rfl (ha.nil))))))))))))))), hw⟩
      try clear hk
      try clear hx
      try clear hy
      try clear hx1
      try clear hx2
      try clear hk'
      try clear hr
      try clear hnn
      try clear htb
      try clear hla
      try clear hlb
      try clear hcn
      try clear htp
      try clear htt
      try clear htv0
      try clear hbig
      try clear hmm1
      try clear hmm2
      rintro a w ⟨k, x, y, L, nn, tb, hk, hx, hy, hnn, htb, ha, hw⟩
      refine Arr.use ha hw ?_
      refine Arr.seq ?_
      refine Tr.seq ?_
      refine Tr.seq ?_
      refine Tr.region ?_
      refine TL.val (YF.move rfl) (by decide) ?_
      refine TL.val (YF.move rfl) (by decide) ?_
      refine TL.end ?_
      refine Arr.seq ?_
      refine Tr.block ?_
      refine Tr.loop (I := fun q a w => ∃ (j : Nat) (k : Int) (x : Nat → Int) (y : Nat → Value) (L : Hp) (nn : Int) (tb : Int), (q = (3 - j : Nat)) ∧ (j ≤ 3) ∧ (0 ≤ k ∧ k ≤ 1000 * g + 400 * c) ∧ (FI h x) ∧ (∀ i, i < 4 → LO L (y i)) ∧ (0 ≤ nn ∧ nn ≤ 4294967295) ∧ (2 ≤ tb ∧ tb ≤ 3) ∧ ((j : Int) ≤ tb) ∧ Agree 631 [(1, .slice nd nl nc), (3, .pointer (some ⟨b3, 0, none⟩)), (6, .pointer (some ⟨b6, 0, none⟩)), (7, .pointer (some ⟨b7, 0, none⟩)), (9, .func (.func 22) #[] #[.pointer (some ⟨b8, 0, none⟩), .pointer (some ⟨b5, 0, none⟩)]), (10, .pointer (some ⟨b7, 7, none⟩)), (11, .pointer (some ⟨b7, 93, none⟩)), (12, .int .i64 g), (13, .int .i64 c), (14, .int .u32 nn), (40, .int .i64 g), (44, .int .i64 ch), (45, .int .i64 c), (333, .int .i64 tb), (334, .int .i64 j)] a ∧ HS w0 ((b8, .cells #[.int .i64 k] 3 (0, 0)) :: (b7, .cells (va 341 (fr x y)) 49 (0, 0)) :: (b6, .cells Zv_49 49 (0, 0)) :: (b5, .cells #[.slice ad vl vc] 24 (0, 0)) :: (b3, .cells (va 7 (sd h)) 27 (0, 0)) :: (L ++ H)) w) ((3 - (0) : Nat)) ?_ ?_
      · intro a w ha hw
        exact ⟨0, k, x, y, L, nn, tb, rfl, by omega, by omega, hx, hy, hnn, htb, by omega, (ha.cons rfl (ha.cons rfl (ha.cons rfl (ha.cons rfl (ha.cons rfl (ha.cons rfl (ha.cons rfl (ha.cons rfl (ha.cons rfl (ha.cons rfl (ha.cons rfl (ha.cons rfl (ha.cons rfl (ha.cons rfl (ha.cons rfl (ha.nil)))))))))))))))), hw⟩
      try clear hk
      try clear hx
      try clear hy
      try clear hx1
      try clear hx2
      try clear hk'
      try clear hr
      try clear hnn
      try clear htb
      try clear hla
      try clear hlb
      try clear hcn
      try clear htp
      try clear htt
      try clear htv0
      try clear hbig
      try clear hmm1
      try clear hmm2
      rintro _ a w ⟨j, k, x, y, L, nn, tb, rfl, hj, hk, hx, hy, hnn, htb, hjt, ha, hw⟩
      refine Tr.use ha hw ?_
      refine Tr.seq ?_
      refine Tr.region ?_
      refine TL.val (YF.lss rfl rfl rfl) (by decide) ?_
      refine TL.end ?_
      refine Arr.seq ?_
      refine Tr.seq ?_
      refine Tr.cond rfl (fun h335 => ?_) (fun h335 => ?_)
      ·
        replace h335 := of_decide_eq_true h335
        refine Tr.skipE ?_
        refine Arr.seq ?_
        refine Tr.seq ?_
        refine Tr.block ?_
        refine Tr.seq ?_
        refine Tr.region ?_
        refine TL.val (YF.move rfl) (by decide) ?_
        refine TL.val (YF.assign rfl) (by decide) ?_
        refine TL.end ?_
        refine Arr.seq ?_
        obtain ⟨tv, htv, htv0⟩ := ints_get (cs := #[.int .i64 1, .int .i64 2, .int .i64 3, .int .i64 5, .int .i64 6, .int .i64 7, .int .i64 0]) 0 7 (by decide) (((nn / 16777216 + 3 * (j : Int)) % 7).toNat) (by show _ < 7; omega)
        refine Tr.drawE (_ :: _ :: _ :: _ :: _) (fun H => (H.eraseIdx 1)) rfl mixed_ ?_
        refine TD.take 0 rfl (by kernel_rfl) (by kernel_rfl) (by kernel_rfl) (fun _ _ _ h => h) (by repeat first | exact List.Sublist.refl _ | apply List.Sublist.cons_cons | apply List.Sublist.cons) (YF.move rfl) (by decide) ?_
        refine TD.take 1 rfl (by kernel_rfl) (by kernel_rfl) (by kernel_rfl) (fun _ _ _ h => h) (by repeat first | exact List.Sublist.refl _ | apply List.Sublist.cons_cons | apply List.Sublist.cons) (YF.move rfl) (by decide) ?_
        refine TD.take 2 rfl (by kernel_rfl) (by kernel_rfl) (by kernel_rfl) (fun _ _ _ h => h) (by repeat first | exact List.Sublist.refl _ | apply List.Sublist.cons_cons | apply List.Sublist.cons) (YF.move rfl) (by decide) ?_
        refine TD.take 3 rfl (by kernel_rfl) (by kernel_rfl) (by kernel_rfl) (fun _ _ _ h => h) (by repeat first | exact List.Sublist.refl _ | apply List.Sublist.cons_cons | apply List.Sublist.cons) (YF.move rfl) (by decide) ?_
        refine TD.take 5 rfl (by kernel_rfl) (by kernel_rfl) (by kernel_rfl) (fun _ _ _ h => h) (by repeat first | exact List.Sublist.refl _ | apply List.Sublist.cons_cons | apply List.Sublist.cons) (YF.move rfl) (by decide) ?_
        refine TD.take 6 rfl (by kernel_rfl) (by kernel_rfl) (by kernel_rfl) (fun _ _ _ h => h) (by repeat first | exact List.Sublist.refl _ | apply List.Sublist.cons_cons | apply List.Sublist.cons) (YF.shr rfl rfl (by decide) (shrv (p := 16777216) 24 rfl (by decide) (by decide))) (by decide) ?_
        refine TD.take 7 rfl (by kernel_rfl) (by kernel_rfl) (by kernel_rfl) (fun _ _ _ h => h) (by repeat first | exact List.Sublist.refl _ | apply List.Sublist.cons_cons | apply List.Sublist.cons) (YF.conv und_22 und_3 rfl (IntWalk.i64_in _ (by omega))) (by decide) ?_
        refine TD.take 8 rfl (by kernel_rfl) (by kernel_rfl) (by kernel_rfl) (fun _ _ _ h => h) (by repeat first | exact List.Sublist.refl _ | apply List.Sublist.cons_cons | apply List.Sublist.cons) (YF.move rfl) (by decide) ?_
        refine TD.take 9 rfl (by kernel_rfl) (by kernel_rfl) (by kernel_rfl) (fun _ _ _ h => h) (by repeat first | exact List.Sublist.refl _ | apply List.Sublist.cons_cons | apply List.Sublist.cons) (YF.mul rfl rfl (IntWalk.i64_in _ (by omega))) (by decide) ?_
        refine TD.take 10 rfl (by kernel_rfl) (by kernel_rfl) (by kernel_rfl) (fun _ _ _ h => h) (by repeat first | exact List.Sublist.refl _ | apply List.Sublist.cons_cons | apply List.Sublist.cons) (YF.add rfl rfl (IntWalk.i64_in _ (by omega))) (by decide) ?_
        refine TD.take 11 rfl (by kernel_rfl) (by kernel_rfl) (by kernel_rfl) (fun _ _ _ h => h) (by repeat first | exact List.Sublist.refl _ | apply List.Sublist.cons_cons | apply List.Sublist.cons) (YF.rem rfl rfl (by omega) (IntWalk.rem_in _ _ (by omega))) (by decide) ?_
        refine TD.take 14 rfl (by kernel_rfl) (by kernel_rfl) (by kernel_rfl) (fun _ _ _ h => h) (by repeat first | exact List.Sublist.refl _ | apply List.Sublist.cons_cons | apply List.Sublist.cons) (YF.nilCheck rfl) (by decide) ?_
        refine TD.take 15 rfl (by kernel_rfl) (by kernel_rfl) (by kernel_rfl) (fun _ _ _ h => h) (by repeat first | exact List.Sublist.refl _ | apply List.Sublist.cons_cons | apply List.Sublist.cons) (YF.fieldAddr fo_36_10 rfl rfl) (by decide) ?_
        refine TD.take 16 rfl (by kernel_rfl) (by kernel_rfl) (by kernel_rfl) (fun _ _ _ h => h) (by repeat first | exact List.Sublist.refl _ | apply List.Sublist.cons_cons | apply List.Sublist.cons) (YF.indexArr arr_34 rfl rfl (by first | decide | omega) rfl) (by decide) ?_
        refine TD.take 17 rfl (by kernel_rfl) (by kernel_rfl) (by kernel_rfl) (fun _ _ _ h => h) (by repeat first | exact List.Sublist.refl _ | apply List.Sublist.cons_cons | apply List.Sublist.cons) (YF.indexArr arr_33 rfl rfl (by first | decide | omega) rfl) (by decide) ?_
        refine TD.eff 4 rfl (by kernel_rfl) (EF.buildSlice (bytes := 0) (vs := [(0, (.int .i64 1)), (1, (.int .i64 2)), (2, (.int .i64 3)), (3, (.int .i64 5)), (4, (.int .i64 6)), (5, (.int .i64 7)), (6, (.int .i64 0))]) (cs := #[.int .i64 1, .int .i64 2, .int .i64 3, .int .i64 5, .int .i64 6, .int .i64 7, .int .i64 0]) sl_78 zero_3 rfl rfl (by kernel_rfl) rfl rfl) (by decide) (by rintro _ _ ⟨_, rfl, rfl⟩; exact (by repeat first | exact List.Sublist.refl _ | apply List.Sublist.cons_cons | apply List.Sublist.cons)) ?_
        rintro _ _ ⟨b, rfl, rfl⟩
        refine TD.take 12 rfl (by kernel_rfl) (by kernel_rfl) (by kernel_rfl) (fun _ _ _ h => h) (by repeat first | exact List.Sublist.refl _ | apply List.Sublist.cons_cons | apply List.Sublist.cons) (YF.indexSl sl_78 rfl rfl (by first | decide | omega) (show _ = ((nn / 16777216 + 3 * (j : Int)) % 7).toNat by omega)) (by decide) ?_
        refine TD.eff 13 rfl (by kernel_rfl) (YF.ef (YF.load 0 sc_3 rfl rfl htv)) (by decide) (by rintro _ _ ⟨rfl, rfl⟩; exact (by repeat first | exact List.Sublist.refl _ | apply List.Sublist.cons_cons | apply List.Sublist.cons)) ?_
        rintro _ _ ⟨rfl, rfl⟩
        refine TD.take 18 rfl (by kernel_rfl) (by kernel_rfl) (by kernel_rfl) (fun _ _ _ h => h) (by repeat first | exact List.Sublist.refl _ | apply List.Sublist.cons_cons | apply List.Sublist.cons) (YF.indexArr arr_32 rfl rfl (by first | decide | omega) rfl) (by decide) ?_
        refine TD.eff0 19 rfl (by kernel_rfl) (EF.storeF 2 rfl rfl rfl sz_3 hx (by omega) (by intro hq93; first | omega | exact lim_of (by omega) (by omega) (by omega)) (by omega) (by omega)) (by rintro _ _ ⟨x', _, _, _, rfl⟩; exact (by repeat first | exact List.Sublist.refl _ | apply List.Sublist.cons_cons | apply List.Sublist.cons)) ?_
        rintro _ _ ⟨x, hx, hx1, hx2, rfl⟩
        refine TD.heap (_ :: _ :: _ :: _ :: _ :: _ :: _) rfl ?_
        refine TD.end (by kernel_rfl) ?_
        refine Arr.block ?_
        refine Arr.seq ?_
        refine Tr.region ?_
        refine TL.val (YF.add rfl rfl (IntWalk.i64_in _ (by omega))) (by decide) ?_
        refine TL.val (YF.move rfl) (by decide) ?_
        refine TL.end ?_
        exact fun a w ha hw => ⟨_, by omega, j + 1, k, x, y, L, nn, tb, rfl, by omega, by omega, hx, hy, hnn, htb, by omega, (ha.cons rfl (ha.cons rfl (ha.cons rfl (ha.cons rfl (ha.cons rfl (ha.cons rfl (ha.cons rfl (ha.cons rfl (ha.cons rfl (ha.cons rfl (ha.cons rfl (ha.cons rfl (ha.cons rfl (ha.cons rfl (ha.cons rfl (ha.nil)))))))))))))))), hw.mono (by repeat first | exact List.Sublist.refl _ | apply List.Sublist.cons)⟩
      ·
        replace h335 := of_decide_eq_false h335
        refine Tr.exitE ?_
        refine Arr.seqX ?_
        refine Arr.seqX ?_
        refine Arr.blockE ?_
        refine Arr.seq ?_
        refine Tr.seq ?_
        refine Tr.region ?_
        refine TL.val (YF.move rfl) (by decide) ?_
        refine TL.val (YF.move rfl) (by decide) ?_
        refine TL.val (YF.move rfl) (by decide) ?_
        refine TL.val (YF.nilCheck rfl) (by decide) ?_
        refine TL.val (YF.fieldAddr fo_36_6 rfl rfl) (by decide) ?_
        refine TL.val (YF.indexArr arr_31 rfl rfl (by first | decide | omega) rfl) (by decide) ?_
        refine TL.val (YF.indexArr arr_30 rfl rfl (by first | decide | omega) rfl) (by decide) ?_
        refine TL.val (YF.load 1 sc_3 rfl rfl (fr_int (by omega))) (by decide) ?_
        refine TL.call (vs := [_]) call_24 rfl (by decide) (lens_ct _ w0 _ (FI.compress hx _ (by omega))) ?_
        rintro _ _ ⟨la, lb, rfl, hla, hlb, rfl⟩
        refine TL.val (YF.move rfl) (by decide) ?_
        refine TL.val (YF.extract rfl rfl) (by decide) ?_
        refine TL.val (YF.extract rfl rfl) (by decide) ?_
        refine TL.val (YF.assign rfl) (by decide) ?_
        refine TL.val (YF.assign rfl) (by decide) ?_
        refine TL.end ?_
        refine Arr.seq ?_
        refine Tr.seq ?_
        refine Tr.seq ?_
        refine Tr.region ?_
        refine TL.val (YF.move rfl) (by decide) ?_
        refine TL.val (YF.nilCheck rfl) (by decide) ?_
        refine TL.val (YF.loadAgg 1 agg_36 rfl rfl (by rw [va_size]; decide) fr_side) (by decide) ?_
        refine TL.val (YF.move rfl) (by decide) ?_
        refine TL.val (YF.move rfl) (by decide) ?_
        refine TL.call (vs := [_, _, _]) call_23 rfl (by decide) (short_ct _ g c (by omega) (by omega) w0 _) ?_
        rintro _ _ ⟨sb, rfl, hsb, rfl⟩
        refine TL.end ?_
        refine Arr.seq ?_
        refine Tr.cutN (R := fun a w => ∃ (k : Int) (x : Nat → Int) (y : Nat → Value) (L : Hp), (0 ≤ k ∧ k ≤ 1000 * g + 400 * c + 50) ∧ (FI h x) ∧ (∀ i, i < 4 → LO L (y i)) ∧ Agree 631 [(1, .slice nd nl nc), (3, .pointer (some ⟨b3, 0, none⟩)), (6, .pointer (some ⟨b6, 0, none⟩)), (7, .pointer (some ⟨b7, 0, none⟩)), (9, .func (.func 22) #[] #[.pointer (some ⟨b8, 0, none⟩), .pointer (some ⟨b5, 0, none⟩)]), (10, .pointer (some ⟨b7, 7, none⟩)), (11, .pointer (some ⟨b7, 93, none⟩)), (12, .int .i64 g), (13, .int .i64 c), (40, .int .i64 g), (44, .int .i64 ch), (45, .int .i64 c)] a ∧ HS w0 ((b8, .cells #[.int .i64 k] 3 (0, 0)) :: (b7, .cells (va 341 (fr x y)) 49 (0, 0)) :: (b6, .cells Zv_49 49 (0, 0)) :: (b5, .cells #[.slice ad vl vc] 24 (0, 0)) :: (b3, .cells (va 7 (sd h)) 27 (0, 0)) :: (L ++ H)) w) ?_ ?_
        ·
          refine Tr.cond rfl (fun h374 => ?_) (fun h374 => ?_)
          ·
            refine Tr.seq ?_
            refine Tr.region ?_
            refine TL.val (YF.assign rfl) (by decide) ?_
            refine TL.end ?_
            refine Arr.seq ?_
            refine Tr.seq ?_
            refine Tr.seq ?_
            refine Tr.region ?_
            refine TL.val (YF.move rfl) (by decide) ?_
            refine TL.val (YF.move rfl) (by decide) ?_
            refine TL.val (YF.move rfl) (by decide) ?_
            refine TL.val (YF.nilCheck rfl) (by decide) ?_
            refine TL.val (YF.fieldAddr fo_36_9 rfl rfl) (by decide) ?_
            refine TL.val (YF.indexArr arr_31 rfl rfl (by first | decide | omega) rfl) (by decide) ?_
            refine TL.val (YF.indexArr arr_30 rfl rfl (by first | decide | omega) rfl) (by decide) ?_
            refine TL.val (YF.load 1 sc_3 rfl rfl (fr_int (by omega))) (by decide) ?_
            refine TL.val (YF.eql rfl rfl rfl) (by decide) ?_
            refine TL.end ?_
            refine Arr.seq ?_
            refine Tr.cutN (R := fun a w => ∃ (k : Int) (x : Nat → Int) (y : Nat → Value) (L : Hp) (la : Int) (lb : Int) (from_ : Nat), (0 ≤ k ∧ k ≤ 1000 * g + 400 * c + 8) ∧ (FI h x) ∧ (∀ i, i < 4 → LO L (y i)) ∧ (0 ≤ la ∧ la ≤ 4) ∧ (0 ≤ lb ∧ lb ≤ 3) ∧ (from_ ≤ 3) ∧ Agree 631 [(1, .slice nd nl nc), (3, .pointer (some ⟨b3, 0, none⟩)), (6, .pointer (some ⟨b6, 0, none⟩)), (7, .pointer (some ⟨b7, 0, none⟩)), (9, .func (.func 22) #[] #[.pointer (some ⟨b8, 0, none⟩), .pointer (some ⟨b5, 0, none⟩)]), (10, .pointer (some ⟨b7, 7, none⟩)), (11, .pointer (some ⟨b7, 93, none⟩)), (12, .int .i64 g), (13, .int .i64 c), (18, .int .i64 la), (19, .int .i64 lb), (20, .int .i64 from_), (40, .int .i64 g), (44, .int .i64 ch), (45, .int .i64 c)] a ∧ HS w0 ((b8, .cells #[.int .i64 k] 3 (0, 0)) :: (b7, .cells (va 341 (fr x y)) 49 (0, 0)) :: (b6, .cells Zv_49 49 (0, 0)) :: (b5, .cells #[.slice ad vl vc] 24 (0, 0)) :: (b3, .cells (va 7 (sd h)) 27 (0, 0)) :: (L ++ H)) w) ?_ ?_
            ·
              refine Tr.cond rfl (fun h383 => ?_) (fun h383 => ?_)
              ·
                replace h383 := of_decide_eq_true h383
                refine Tr.seq ?_
                refine Tr.region ?_
                refine TL.val (YF.assign rfl) (by decide) ?_
                refine TL.end ?_
                refine Arr.seq ?_
                refine Tr.seq ?_
                refine Tr.region ?_
                refine TL.val (YF.move rfl) (by decide) ?_
                refine TL.end ?_
                refine Arr.seq ?_
                refine Tr.block ?_
                refine Tr.loop (I := fun q a w => ∃ (j : Nat) (k : Int) (x : Nat → Int) (y : Nat → Value) (L : Hp) (la : Int) (lb : Int), (q = (8 - j : Nat)) ∧ (j ≤ 8) ∧ (0 ≤ k ∧ k ≤ 1000 * g + 400 * c + j) ∧ (FI h x) ∧ (∀ i, i < 4 → LO L (y i)) ∧ (0 ≤ la ∧ la ≤ 4) ∧ (0 ≤ lb ∧ lb ≤ 3) ∧ Agree 631 [(1, .slice nd nl nc), (3, .pointer (some ⟨b3, 0, none⟩)), (6, .pointer (some ⟨b6, 0, none⟩)), (7, .pointer (some ⟨b7, 0, none⟩)), (9, .func (.func 22) #[] #[.pointer (some ⟨b8, 0, none⟩), .pointer (some ⟨b5, 0, none⟩)]), (10, .pointer (some ⟨b7, 7, none⟩)), (11, .pointer (some ⟨b7, 93, none⟩)), (12, .int .i64 g), (13, .int .i64 c), (18, .int .i64 la), (19, .int .i64 lb), (20, .int .i64 3), (40, .int .i64 g), (44, .int .i64 ch), (45, .int .i64 c), (384, .int .i64 j)] a ∧ HS w0 ((b8, .cells #[.int .i64 k] 3 (0, 0)) :: (b7, .cells (va 341 (fr x y)) 49 (0, 0)) :: (b6, .cells Zv_49 49 (0, 0)) :: (b5, .cells #[.slice ad vl vc] 24 (0, 0)) :: (b3, .cells (va 7 (sd h)) 27 (0, 0)) :: (L ++ H)) w) ((8 - (0) : Nat)) ?_ ?_
                · intro a w ha hw
                  exact ⟨0, k, x, y, L, la, lb, rfl, by omega, by omega, hx, hy, hla, hlb, (ha.cons rfl (ha.cons rfl (ha.cons rfl (ha.cons rfl (ha.cons rfl (ha.cons rfl (ha.cons rfl (ha.cons rfl (ha.cons rfl (ha.cons rfl (ha.cons rfl (ha.cons rfl (ha.cons rfl (ha.cons rfl (ha.cons rfl (ha.cons rfl (ha.nil))))))))))))))))), hw⟩
                try clear hk
                try clear hx
                try clear hy
                try clear hx1
                try clear hx2
                try clear hk'
                try clear hr
                try clear hnn
                try clear htb
                try clear hla
                try clear hlb
                try clear hcn
                try clear htp
                try clear htt
                try clear htv0
                try clear hbig
                try clear hmm1
                try clear hmm2
                rintro _ a w ⟨j, k, x, y, L, la, lb, rfl, hj, hk, hx, hy, hla, hlb, ha, hw⟩
                refine Tr.use ha hw ?_
                refine Tr.seq ?_
                refine Tr.region ?_
                refine TL.val (YF.lss rfl rfl rfl) (by decide) ?_
                refine TL.end ?_
                refine Arr.seq ?_
                refine Tr.seq ?_
                refine Tr.cond rfl (fun h385 => ?_) (fun h385 => ?_)
                ·
                  replace h385 := of_decide_eq_true h385
                  refine Tr.skipE ?_
                  refine Arr.seq ?_
                  refine Tr.seq ?_
                  refine Tr.block ?_
                  refine Tr.seq ?_
                  refine Tr.region ?_
                  refine TL.val (YF.move rfl) (by decide) ?_
                  refine TL.val (YF.assign rfl) (by decide) ?_
                  refine TL.end ?_
                  refine Arr.seq ?_
                  obtain ⟨mm, hmm, hmm1, hmm2⟩ := pow_small la (by omega)
                  refine Tr.drawE (_ :: _ :: _ :: _) (fun H => ((H.eraseIdx 1).eraseIdx 0)) rfl mixed_ ?_
                  refine TD.take 0 rfl (by kernel_rfl) (by kernel_rfl) (by kernel_rfl) (fun _ _ _ h => h) (by repeat first | exact List.Sublist.refl _ | apply List.Sublist.cons_cons | apply List.Sublist.cons) (YF.move rfl) (by decide) ?_
                  refine TD.take 1 rfl (by kernel_rfl) (by kernel_rfl) (by kernel_rfl) (fun _ _ _ h => h) (by repeat first | exact List.Sublist.refl _ | apply List.Sublist.cons_cons | apply List.Sublist.cons) (YF.move rfl) (by decide) ?_
                  refine TD.take 2 rfl (by kernel_rfl) (by kernel_rfl) (by kernel_rfl) (fun _ _ _ h => h) (by repeat first | exact List.Sublist.refl _ | apply List.Sublist.cons_cons | apply List.Sublist.cons) (YF.move rfl) (by decide) ?_
                  refine TD.take 3 rfl (by kernel_rfl) (by kernel_rfl) (by kernel_rfl) (fun _ _ _ h => h) (by repeat first | exact List.Sublist.refl _ | apply List.Sublist.cons_cons | apply List.Sublist.cons) (YF.move rfl) (by decide) ?_
                  refine TD.take 4 rfl (by kernel_rfl) (by kernel_rfl) (by kernel_rfl) (fun _ _ _ h => h) (by repeat first | exact List.Sublist.refl _ | apply List.Sublist.cons_cons | apply List.Sublist.cons) (YF.move rfl) (by decide) ?_
                  refine TD.take 5 rfl (by kernel_rfl) (by kernel_rfl) (by kernel_rfl) (fun _ _ _ h => h) (by repeat first | exact List.Sublist.refl _ | apply List.Sublist.cons_cons | apply List.Sublist.cons) (YF.move rfl) (by decide) ?_
                  refine TD.take 6 rfl (by kernel_rfl) (by kernel_rfl) (by kernel_rfl) (fun _ _ _ h => h) (by repeat first | exact List.Sublist.refl _ | apply List.Sublist.cons_cons | apply List.Sublist.cons) (YF.shl rfl rfl (by omega) hmm) (by decide) ?_
                  refine TD.take 8 rfl (by kernel_rfl) (by kernel_rfl) (by kernel_rfl) (fun _ _ _ h => h) (by repeat first | exact List.Sublist.refl _ | apply List.Sublist.cons_cons | apply List.Sublist.cons) (YF.nilCheck rfl) (by decide) ?_
                  refine TD.take 9 rfl (by kernel_rfl) (by kernel_rfl) (by kernel_rfl) (fun _ _ _ h => h) (by repeat first | exact List.Sublist.refl _ | apply List.Sublist.cons_cons | apply List.Sublist.cons) (YF.fieldAddr fo_47_0 rfl rfl) (by decide) ?_
                  refine TD.take 10 rfl (by kernel_rfl) (by kernel_rfl) (by kernel_rfl) (fun _ _ _ h => h) (by repeat first | exact List.Sublist.refl _ | apply List.Sublist.cons_cons | apply List.Sublist.cons) (YF.indexArr arr_39 rfl rfl (by first | decide | omega) rfl) (by decide) ?_
                  refine TD.take 11 rfl (by kernel_rfl) (by kernel_rfl) (by kernel_rfl) (fun _ _ _ h => h) (by repeat first | exact List.Sublist.refl _ | apply List.Sublist.cons_cons | apply List.Sublist.cons) (YF.indexArr arr_38 rfl rfl (by first | decide | omega) rfl) (by decide) ?_
                  refine TD.eff 7 rfl (by kernel_rfl) (EF.callv (vs := [_]) call_22 rfl rfl (next_ct 0 3 _ k b8 b5 ad vl vc _ _ w0 _ rfl rfl (by decide) (by omega) (by omega) hv hvl)) (by decide) (by rintro _ _ ⟨r, k', hk', rfl, hr, rfl⟩; exact (by repeat first | exact List.Sublist.refl _ | apply List.Sublist.cons_cons | apply List.Sublist.cons)) ?_
                  rintro _ _ ⟨r, k, hk', rfl, hr, rfl⟩
                  refine TD.heap (_ :: _ :: _ :: _ :: _ :: _) rfl ?_
                  refine TD.take 12 rfl (by kernel_rfl) (by kernel_rfl) (by kernel_rfl) (fun _ _ _ h => h) (by repeat first | exact List.Sublist.refl _ | apply List.Sublist.cons_cons | apply List.Sublist.cons) (YF.indexArr arr_37 rfl rfl (by first | decide | omega) rfl) (by decide) ?_
                  refine TD.eff0 13 rfl (by kernel_rfl) (EF.storeF 1 rfl rfl rfl sz_3 hx (by omega) (by intro hq93; first | omega | exact lim_of (by omega) (by omega) (by omega)) (by omega) (by omega)) (by rintro _ _ ⟨x', _, _, _, rfl⟩; exact (by repeat first | exact List.Sublist.refl _ | apply List.Sublist.cons_cons | apply List.Sublist.cons)) ?_
                  rintro _ _ ⟨x, hx, hx1, hx2, rfl⟩
                  refine TD.heap (_ :: _ :: _ :: _ :: _ :: _) rfl ?_
                  refine TD.end (by kernel_rfl) ?_
                  refine Arr.block ?_
                  refine Arr.seq ?_
                  refine Tr.region ?_
                  refine TL.val (YF.add rfl rfl (IntWalk.i64_in _ (by omega))) (by decide) ?_
                  refine TL.val (YF.move rfl) (by decide) ?_
                  refine TL.end ?_
                  exact fun a w ha hw => ⟨_, by omega, j + 1, k, x, y, L, la, lb, rfl, by omega, by omega, hx, hy, hla, hlb, (ha.cons rfl (ha.cons rfl (ha.cons rfl (ha.cons rfl (ha.cons rfl (ha.cons rfl (ha.cons rfl (ha.cons rfl (ha.cons rfl (ha.cons rfl (ha.cons rfl (ha.cons rfl (ha.cons rfl (ha.cons rfl (ha.cons rfl (ha.cons rfl (ha.nil))))))))))))))))), hw⟩
                ·
                  replace h385 := of_decide_eq_false h385
                  refine Tr.exitE ?_
                  refine Arr.seqX ?_
                  refine Arr.seqX ?_
                  refine Arr.blockE ?_
                  refine Arr.meet ?_
                  first
                    | exact fun a w ha hw => ⟨k, x, y, L, la, lb, 3, by omega, hx, hy, hla, hlb, by omega, (ha.cons rfl (ha.cons rfl (ha.cons rfl (ha.cons rfl (ha.cons rfl (ha.cons rfl (ha.cons rfl (ha.cons rfl (ha.cons rfl (ha.cons rfl (ha.cons rfl (ha.cons rfl (ha.cons rfl (ha.cons rfl (ha.cons rfl (ha.nil)))))))))))))))), hw⟩
                    | exact fun a w ha hw => ⟨k, x, y, L, la, lb, 0, by omega, hx, hy, hla, hlb, by omega, (ha.cons rfl (ha.cons rfl (ha.cons rfl (ha.cons rfl (ha.cons rfl (ha.cons rfl (ha.cons rfl (ha.cons rfl (ha.cons rfl (ha.cons rfl (ha.cons rfl (ha.cons rfl (ha.cons rfl (ha.cons rfl (ha.cons rfl (ha.nil)))))))))))))))), hw⟩
              ·
                replace h383 := of_decide_eq_false h383
                refine Tr.skipE ?_
                refine Arr.meet ?_
                first
                  | exact fun a w ha hw => ⟨k, x, y, L, la, lb, 3, by omega, hx, hy, hla, hlb, by omega, (ha.cons rfl (ha.cons rfl (ha.cons rfl (ha.cons rfl (ha.cons rfl (ha.cons rfl (ha.cons rfl (ha.cons rfl (ha.cons rfl (ha.cons rfl (ha.cons rfl (ha.cons rfl (ha.cons rfl (ha.cons rfl (ha.cons rfl (ha.nil)))))))))))))))), hw⟩
                  | exact fun a w ha hw => ⟨k, x, y, L, la, lb, 0, by omega, hx, hy, hla, hlb, by omega, (ha.cons rfl (ha.cons rfl (ha.cons rfl (ha.cons rfl (ha.cons rfl (ha.cons rfl (ha.cons rfl (ha.cons rfl (ha.cons rfl (ha.cons rfl (ha.cons rfl (ha.cons rfl (ha.cons rfl (ha.cons rfl (ha.cons rfl (ha.nil)))))))))))))))), hw⟩
            try clear hk
            try clear hx
            try clear hy
            try clear hx1
            try clear hx2
            try clear hk'
            try clear hr
            try clear hnn
            try clear htb
            try clear hla
            try clear hlb
            try clear hcn
            try clear htp
            try clear htt
            try clear htv0
            try clear hbig
            try clear hmm1
            try clear hmm2
            rintro a w ⟨k, x, y, L, la, lb, from_, hk, hx, hy, hla, hlb, hfr, ha, hw⟩
            refine Arr.use ha hw ?_
            refine Arr.seq ?_
            refine Tr.seq ?_
            refine Tr.region ?_
            refine TL.val (YF.move rfl) (by decide) ?_
            refine TL.val (YF.assign rfl) (by decide) ?_
            refine TL.end ?_
            refine Arr.seq ?_
            refine Tr.block ?_
            refine Tr.loop (I := fun q a w => ∃ (j : Nat) (k : Int) (x : Nat → Int) (y : Nat → Value) (L : Hp) (la : Int) (lb : Int), (q = (12 - j : Nat)) ∧ (j ≤ 12) ∧ (0 ≤ k ∧ k ≤ 1000 * g + 400 * c + 8 + 3 * j) ∧ (FI h x) ∧ (∀ i, i < 4 → LO L (y i)) ∧ (0 ≤ la ∧ la ≤ 4) ∧ (0 ≤ lb ∧ lb ≤ 3) ∧ Agree 631 [(1, .slice nd nl nc), (3, .pointer (some ⟨b3, 0, none⟩)), (6, .pointer (some ⟨b6, 0, none⟩)), (7, .pointer (some ⟨b7, 0, none⟩)), (9, .func (.func 22) #[] #[.pointer (some ⟨b8, 0, none⟩), .pointer (some ⟨b5, 0, none⟩)]), (10, .pointer (some ⟨b7, 7, none⟩)), (11, .pointer (some ⟨b7, 93, none⟩)), (12, .int .i64 g), (13, .int .i64 c), (18, .int .i64 la), (19, .int .i64 lb), (22, .int .i64 j), (40, .int .i64 g), (44, .int .i64 ch), (45, .int .i64 c)] a ∧ HS w0 ((b8, .cells #[.int .i64 k] 3 (0, 0)) :: (b7, .cells (va 341 (fr x y)) 49 (0, 0)) :: (b6, .cells Zv_49 49 (0, 0)) :: (b5, .cells #[.slice ad vl vc] 24 (0, 0)) :: (b3, .cells (va 7 (sd h)) 27 (0, 0)) :: (L ++ H)) w) ((12 - from_ : Nat)) ?_ ?_
            · intro a w ha hw
              exact ⟨from_, k, x, y, L, la, lb, rfl, by omega, by omega, hx, hy, hla, hlb, (ha.cons rfl (ha.cons rfl (ha.cons rfl (ha.cons rfl (ha.cons rfl (ha.cons rfl (ha.cons rfl (ha.cons rfl (ha.cons rfl (ha.cons rfl (ha.cons rfl (ha.cons rfl (ha.cons rfl (ha.cons rfl (ha.cons rfl (ha.nil)))))))))))))))), hw⟩
            try clear hk
            try clear hx
            try clear hy
            try clear hx1
            try clear hx2
            try clear hk'
            try clear hr
            try clear hnn
            try clear htb
            try clear hla
            try clear hlb
            try clear hcn
            try clear htp
            try clear htt
            try clear htv0
            try clear hbig
            try clear hmm1
            try clear hmm2
            rintro _ a w ⟨j, k, x, y, L, la, lb, rfl, hj, hk, hx, hy, hla, hlb, ha, hw⟩
            refine Tr.use ha hw ?_
            refine Tr.seq ?_
            refine Tr.seq ?_
            refine Tr.region ?_
            refine TL.val (YF.move rfl) (by decide) ?_
            refine TL.val (YF.lss rfl rfl rfl) (by decide) ?_
            refine TL.end ?_
            refine Arr.seq ?_
            refine Tr.cond rfl (fun h403 => ?_) (fun h403 => ?_)
            ·
              replace h403 := of_decide_eq_true h403
              refine Tr.skipE ?_
              refine Arr.seq ?_
              refine Tr.seq ?_
              refine Tr.block ?_
              refine Tr.seq ?_
              refine Tr.region ?_
              refine TL.val (YF.move rfl) (by decide) ?_
              refine TL.end ?_
              refine Arr.seq ?_
              refine Tr.block ?_
              refine Tr.loop (I := fun q a w => ∃ (u : Nat) (k : Int) (x : Nat → Int) (y : Nat → Value) (L : Hp) (la : Int) (lb : Int), (q = (3 - u : Nat)) ∧ (u ≤ 3) ∧ (0 ≤ k ∧ k ≤ 1000 * g + 400 * c + 8 + 3 * j + u) ∧ (FI h x) ∧ (∀ i, i < 4 → LO L (y i)) ∧ (0 ≤ la ∧ la ≤ 4) ∧ (0 ≤ lb ∧ lb ≤ 3) ∧ Agree 631 [(1, .slice nd nl nc), (3, .pointer (some ⟨b3, 0, none⟩)), (6, .pointer (some ⟨b6, 0, none⟩)), (7, .pointer (some ⟨b7, 0, none⟩)), (9, .func (.func 22) #[] #[.pointer (some ⟨b8, 0, none⟩), .pointer (some ⟨b5, 0, none⟩)]), (10, .pointer (some ⟨b7, 7, none⟩)), (11, .pointer (some ⟨b7, 93, none⟩)), (12, .int .i64 g), (13, .int .i64 c), (18, .int .i64 la), (19, .int .i64 lb), (22, .int .i64 j), (40, .int .i64 g), (44, .int .i64 ch), (45, .int .i64 c), (406, .int .i64 u)] a ∧ HS w0 ((b8, .cells #[.int .i64 k] 3 (0, 0)) :: (b7, .cells (va 341 (fr x y)) 49 (0, 0)) :: (b6, .cells Zv_49 49 (0, 0)) :: (b5, .cells #[.slice ad vl vc] 24 (0, 0)) :: (b3, .cells (va 7 (sd h)) 27 (0, 0)) :: (L ++ H)) w) ((3 - (0) : Nat)) ?_ ?_
              · intro a w ha hw
                exact ⟨0, k, x, y, L, la, lb, rfl, by omega, by omega, hx, hy, hla, hlb, (ha.cons rfl (ha.cons rfl (ha.cons rfl (ha.cons rfl (ha.cons rfl (ha.cons rfl (ha.cons rfl (ha.cons rfl (ha.cons rfl (ha.cons rfl (ha.cons rfl (ha.cons rfl (ha.cons rfl (ha.cons rfl (ha.cons rfl (ha.cons rfl (ha.nil))))))))))))))))), hw⟩
              try clear hk
              try clear hx
              try clear hy
              try clear hx1
              try clear hx2
              try clear hk'
              try clear hr
              try clear hnn
              try clear htb
              try clear hla
              try clear hlb
              try clear hcn
              try clear htp
              try clear htt
              try clear htv0
              try clear hbig
              try clear hmm1
              try clear hmm2
              rintro _ a w ⟨u, k, x, y, L, la, lb, rfl, hu, hk, hx, hy, hla, hlb, ha, hw⟩
              refine Tr.use ha hw ?_
              refine Tr.seq ?_
              refine Tr.region ?_
              refine TL.val (YF.lss rfl rfl rfl) (by decide) ?_
              refine TL.end ?_
              refine Arr.seq ?_
              refine Tr.seq ?_
              refine Tr.cond rfl (fun h407 => ?_) (fun h407 => ?_)
              ·
                replace h407 := of_decide_eq_true h407
                refine Tr.skipE ?_
                refine Arr.seq ?_
                refine Tr.seq ?_
                refine Tr.block ?_
                refine Tr.seq ?_
                refine Tr.region ?_
                refine TL.val (YF.move rfl) (by decide) ?_
                refine TL.val (YF.assign rfl) (by decide) ?_
                refine TL.end ?_
                refine Arr.seq ?_
                refine Tr.seq ?_
                refine Tr.region ?_
                refine TL.val (YF.move rfl) (by decide) ?_
                refine TL.val (YF.lss rfl rfl rfl) (by decide) ?_
                refine TL.end ?_
                refine Arr.seq ?_
                refine Tr.cond rfl (fun h410 => ?_) (fun h410 => ?_)
                ·
                  replace h410 := of_decide_eq_true h410
                  obtain ⟨mm, hmm, hmm1, hmm2⟩ := pow_small la (by omega)
                  refine Tr.drawE (_ :: _ :: _ :: _) (fun H => ((H.eraseIdx 1).eraseIdx 0)) rfl mixed_ ?_
                  refine TD.take 0 rfl (by kernel_rfl) (by kernel_rfl) (by kernel_rfl) (fun _ _ _ h => h) (by repeat first | exact List.Sublist.refl _ | apply List.Sublist.cons_cons | apply List.Sublist.cons) (YF.move rfl) (by decide) ?_
                  refine TD.take 1 rfl (by kernel_rfl) (by kernel_rfl) (by kernel_rfl) (fun _ _ _ h => h) (by repeat first | exact List.Sublist.refl _ | apply List.Sublist.cons_cons | apply List.Sublist.cons) (YF.move rfl) (by decide) ?_
                  refine TD.take 2 rfl (by kernel_rfl) (by kernel_rfl) (by kernel_rfl) (fun _ _ _ h => h) (by repeat first | exact List.Sublist.refl _ | apply List.Sublist.cons_cons | apply List.Sublist.cons) (YF.move rfl) (by decide) ?_
                  refine TD.take 3 rfl (by kernel_rfl) (by kernel_rfl) (by kernel_rfl) (fun _ _ _ h => h) (by repeat first | exact List.Sublist.refl _ | apply List.Sublist.cons_cons | apply List.Sublist.cons) (YF.move rfl) (by decide) ?_
                  refine TD.take 4 rfl (by kernel_rfl) (by kernel_rfl) (by kernel_rfl) (fun _ _ _ h => h) (by repeat first | exact List.Sublist.refl _ | apply List.Sublist.cons_cons | apply List.Sublist.cons) (YF.move rfl) (by decide) ?_
                  refine TD.take 5 rfl (by kernel_rfl) (by kernel_rfl) (by kernel_rfl) (fun _ _ _ h => h) (by repeat first | exact List.Sublist.refl _ | apply List.Sublist.cons_cons | apply List.Sublist.cons) (YF.move rfl) (by decide) ?_
                  refine TD.take 6 rfl (by kernel_rfl) (by kernel_rfl) (by kernel_rfl) (fun _ _ _ h => h) (by repeat first | exact List.Sublist.refl _ | apply List.Sublist.cons_cons | apply List.Sublist.cons) (YF.move rfl) (by decide) ?_
                  refine TD.take 7 rfl (by kernel_rfl) (by kernel_rfl) (by kernel_rfl) (fun _ _ _ h => h) (by repeat first | exact List.Sublist.refl _ | apply List.Sublist.cons_cons | apply List.Sublist.cons) (YF.shl rfl rfl (by omega) hmm) (by decide) ?_
                  refine TD.take 9 rfl (by kernel_rfl) (by kernel_rfl) (by kernel_rfl) (fun _ _ _ h => h) (by repeat first | exact List.Sublist.refl _ | apply List.Sublist.cons_cons | apply List.Sublist.cons) (YF.nilCheck rfl) (by decide) ?_
                  refine TD.take 10 rfl (by kernel_rfl) (by kernel_rfl) (by kernel_rfl) (fun _ _ _ h => h) (by repeat first | exact List.Sublist.refl _ | apply List.Sublist.cons_cons | apply List.Sublist.cons) (YF.fieldAddr fo_47_1 rfl rfl) (by decide) ?_
                  refine TD.take 11 rfl (by kernel_rfl) (by kernel_rfl) (by kernel_rfl) (fun _ _ _ h => h) (by repeat first | exact List.Sublist.refl _ | apply List.Sublist.cons_cons | apply List.Sublist.cons) (YF.indexArr arr_42 rfl rfl (by first | decide | omega) rfl) (by decide) ?_
                  refine TD.take 12 rfl (by kernel_rfl) (by kernel_rfl) (by kernel_rfl) (fun _ _ _ h => h) (by repeat first | exact List.Sublist.refl _ | apply List.Sublist.cons_cons | apply List.Sublist.cons) (YF.indexArr arr_41 rfl rfl (by first | decide | omega) rfl) (by decide) ?_
                  refine TD.take 13 rfl (by kernel_rfl) (by kernel_rfl) (by kernel_rfl) (fun _ _ _ h => h) (by repeat first | exact List.Sublist.refl _ | apply List.Sublist.cons_cons | apply List.Sublist.cons) (YF.indexArr arr_40 rfl rfl (by first | decide | omega) rfl) (by decide) ?_
                  refine TD.eff 8 rfl (by kernel_rfl) (EF.callv (vs := [_]) call_22 rfl rfl (next_ct 0 3 _ k b8 b5 ad vl vc _ _ w0 _ rfl rfl (by decide) (by omega) (by omega) hv hvl)) (by decide) (by rintro _ _ ⟨r, k', hk', rfl, hr, rfl⟩; exact (by repeat first | exact List.Sublist.refl _ | apply List.Sublist.cons_cons | apply List.Sublist.cons)) ?_
                  rintro _ _ ⟨r, k, hk', rfl, hr, rfl⟩
                  refine TD.heap (_ :: _ :: _ :: _ :: _ :: _) rfl ?_
                  refine TD.take 14 rfl (by kernel_rfl) (by kernel_rfl) (by kernel_rfl) (fun _ _ _ h => h) (by repeat first | exact List.Sublist.refl _ | apply List.Sublist.cons_cons | apply List.Sublist.cons) (YF.indexArr arr_32 rfl rfl (by first | decide | omega) rfl) (by decide) ?_
                  refine TD.eff0 15 rfl (by kernel_rfl) (EF.storeF 1 rfl rfl rfl sz_3 hx (by omega) (by intro hq93; first | omega | exact lim_of (by omega) (by omega) (by omega)) (by omega) (by omega)) (by rintro _ _ ⟨x', _, _, _, rfl⟩; exact (by repeat first | exact List.Sublist.refl _ | apply List.Sublist.cons_cons | apply List.Sublist.cons)) ?_
                  rintro _ _ ⟨x, hx, hx1, hx2, rfl⟩
                  refine TD.heap (_ :: _ :: _ :: _ :: _ :: _) rfl ?_
                  refine TD.end (by kernel_rfl) ?_
                  refine Arr.block ?_
                  refine Arr.seq ?_
                  refine Tr.region ?_
                  refine TL.val (YF.add rfl rfl (IntWalk.i64_in _ (by omega))) (by decide) ?_
                  refine TL.val (YF.move rfl) (by decide) ?_
                  refine TL.end ?_
                  exact fun a w ha hw => ⟨_, by omega, u + 1, k, x, y, L, la, lb, rfl, by omega, by omega, hx, hy, hla, hlb, (ha.cons rfl (ha.cons rfl (ha.cons rfl (ha.cons rfl (ha.cons rfl (ha.cons rfl (ha.cons rfl (ha.cons rfl (ha.cons rfl (ha.cons rfl (ha.cons rfl (ha.cons rfl (ha.cons rfl (ha.cons rfl (ha.cons rfl (ha.cons rfl (ha.nil))))))))))))))))), hw⟩
                ·
                  replace h410 := of_decide_eq_false h410
                  obtain ⟨mm, hmm, hmm1, hmm2⟩ := pow_small lb (by omega)
                  refine Tr.drawE (_ :: _ :: _ :: _) (fun H => ((H.eraseIdx 1).eraseIdx 0)) rfl mixed_ ?_
                  refine TD.take 0 rfl (by kernel_rfl) (by kernel_rfl) (by kernel_rfl) (fun _ _ _ h => h) (by repeat first | exact List.Sublist.refl _ | apply List.Sublist.cons_cons | apply List.Sublist.cons) (YF.move rfl) (by decide) ?_
                  refine TD.take 1 rfl (by kernel_rfl) (by kernel_rfl) (by kernel_rfl) (fun _ _ _ h => h) (by repeat first | exact List.Sublist.refl _ | apply List.Sublist.cons_cons | apply List.Sublist.cons) (YF.move rfl) (by decide) ?_
                  refine TD.take 2 rfl (by kernel_rfl) (by kernel_rfl) (by kernel_rfl) (fun _ _ _ h => h) (by repeat first | exact List.Sublist.refl _ | apply List.Sublist.cons_cons | apply List.Sublist.cons) (YF.move rfl) (by decide) ?_
                  refine TD.take 3 rfl (by kernel_rfl) (by kernel_rfl) (by kernel_rfl) (fun _ _ _ h => h) (by repeat first | exact List.Sublist.refl _ | apply List.Sublist.cons_cons | apply List.Sublist.cons) (YF.move rfl) (by decide) ?_
                  refine TD.take 4 rfl (by kernel_rfl) (by kernel_rfl) (by kernel_rfl) (fun _ _ _ h => h) (by repeat first | exact List.Sublist.refl _ | apply List.Sublist.cons_cons | apply List.Sublist.cons) (YF.move rfl) (by decide) ?_
                  refine TD.take 5 rfl (by kernel_rfl) (by kernel_rfl) (by kernel_rfl) (fun _ _ _ h => h) (by repeat first | exact List.Sublist.refl _ | apply List.Sublist.cons_cons | apply List.Sublist.cons) (YF.move rfl) (by decide) ?_
                  refine TD.take 6 rfl (by kernel_rfl) (by kernel_rfl) (by kernel_rfl) (fun _ _ _ h => h) (by repeat first | exact List.Sublist.refl _ | apply List.Sublist.cons_cons | apply List.Sublist.cons) (YF.move rfl) (by decide) ?_
                  refine TD.take 7 rfl (by kernel_rfl) (by kernel_rfl) (by kernel_rfl) (fun _ _ _ h => h) (by repeat first | exact List.Sublist.refl _ | apply List.Sublist.cons_cons | apply List.Sublist.cons) (YF.shl rfl rfl (by omega) hmm) (by decide) ?_
                  refine TD.take 9 rfl (by kernel_rfl) (by kernel_rfl) (by kernel_rfl) (fun _ _ _ h => h) (by repeat first | exact List.Sublist.refl _ | apply List.Sublist.cons_cons | apply List.Sublist.cons) (YF.nilCheck rfl) (by decide) ?_
                  refine TD.take 10 rfl (by kernel_rfl) (by kernel_rfl) (by kernel_rfl) (fun _ _ _ h => h) (by repeat first | exact List.Sublist.refl _ | apply List.Sublist.cons_cons | apply List.Sublist.cons) (YF.fieldAddr fo_47_1 rfl rfl) (by decide) ?_
                  refine TD.take 11 rfl (by kernel_rfl) (by kernel_rfl) (by kernel_rfl) (fun _ _ _ h => h) (by repeat first | exact List.Sublist.refl _ | apply List.Sublist.cons_cons | apply List.Sublist.cons) (YF.indexArr arr_42 rfl rfl (by first | decide | omega) rfl) (by decide) ?_
                  refine TD.take 12 rfl (by kernel_rfl) (by kernel_rfl) (by kernel_rfl) (fun _ _ _ h => h) (by repeat first | exact List.Sublist.refl _ | apply List.Sublist.cons_cons | apply List.Sublist.cons) (YF.indexArr arr_41 rfl rfl (by first | decide | omega) rfl) (by decide) ?_
                  refine TD.take 13 rfl (by kernel_rfl) (by kernel_rfl) (by kernel_rfl) (fun _ _ _ h => h) (by repeat first | exact List.Sublist.refl _ | apply List.Sublist.cons_cons | apply List.Sublist.cons) (YF.indexArr arr_40 rfl rfl (by first | decide | omega) rfl) (by decide) ?_
                  refine TD.eff 8 rfl (by kernel_rfl) (EF.callv (vs := [_]) call_22 rfl rfl (next_ct 0 3 _ k b8 b5 ad vl vc _ _ w0 _ rfl rfl (by decide) (by omega) (by omega) hv hvl)) (by decide) (by rintro _ _ ⟨r, k', hk', rfl, hr, rfl⟩; exact (by repeat first | exact List.Sublist.refl _ | apply List.Sublist.cons_cons | apply List.Sublist.cons)) ?_
                  rintro _ _ ⟨r, k, hk', rfl, hr, rfl⟩
                  refine TD.heap (_ :: _ :: _ :: _ :: _ :: _) rfl ?_
                  refine TD.take 14 rfl (by kernel_rfl) (by kernel_rfl) (by kernel_rfl) (fun _ _ _ h => h) (by repeat first | exact List.Sublist.refl _ | apply List.Sublist.cons_cons | apply List.Sublist.cons) (YF.indexArr arr_32 rfl rfl (by first | decide | omega) rfl) (by decide) ?_
                  refine TD.eff0 15 rfl (by kernel_rfl) (EF.storeF 1 rfl rfl rfl sz_3 hx (by omega) (by intro hq93; first | omega | exact lim_of (by omega) (by omega) (by omega)) (by omega) (by omega)) (by rintro _ _ ⟨x', _, _, _, rfl⟩; exact (by repeat first | exact List.Sublist.refl _ | apply List.Sublist.cons_cons | apply List.Sublist.cons)) ?_
                  rintro _ _ ⟨x, hx, hx1, hx2, rfl⟩
                  refine TD.heap (_ :: _ :: _ :: _ :: _ :: _) rfl ?_
                  refine TD.end (by kernel_rfl) ?_
                  refine Arr.block ?_
                  refine Arr.seq ?_
                  refine Tr.region ?_
                  refine TL.val (YF.add rfl rfl (IntWalk.i64_in _ (by omega))) (by decide) ?_
                  refine TL.val (YF.move rfl) (by decide) ?_
                  refine TL.end ?_
                  exact fun a w ha hw => ⟨_, by omega, u + 1, k, x, y, L, la, lb, rfl, by omega, by omega, hx, hy, hla, hlb, (ha.cons rfl (ha.cons rfl (ha.cons rfl (ha.cons rfl (ha.cons rfl (ha.cons rfl (ha.cons rfl (ha.cons rfl (ha.cons rfl (ha.cons rfl (ha.cons rfl (ha.cons rfl (ha.cons rfl (ha.cons rfl (ha.cons rfl (ha.cons rfl (ha.nil))))))))))))))))), hw⟩
              ·
                replace h407 := of_decide_eq_false h407
                refine Tr.exitE ?_
                refine Arr.seqX ?_
                refine Arr.seqX ?_
                refine Arr.blockE ?_
                refine Arr.block ?_
                refine Arr.seq ?_
                refine Tr.region ?_
                refine TL.val (YF.move rfl) (by decide) ?_
                refine TL.val (YF.add rfl rfl (IntWalk.i64_in _ (by omega))) (by decide) ?_
                refine TL.val (YF.assign rfl) (by decide) ?_
                refine TL.end ?_
                exact fun a w ha hw => ⟨_, by omega, j + 1, k, x, y, L, la, lb, rfl, by omega, by omega, hx, hy, hla, hlb, (ha.cons rfl (ha.cons rfl (ha.cons rfl (ha.cons rfl (ha.cons rfl (ha.cons rfl (ha.cons rfl (ha.cons rfl (ha.cons rfl (ha.cons rfl (ha.cons rfl (ha.cons rfl (ha.cons rfl (ha.cons rfl (ha.cons rfl (ha.nil)))))))))))))))), hw⟩
            ·
              replace h403 := of_decide_eq_false h403
              refine Tr.exitE ?_
              refine Arr.seqX ?_
              refine Arr.seqX ?_
              refine Arr.blockE ?_
              refine Arr.meet ?_
              exact fun a w ha hw => ⟨k, x, y, L, by omega, hx, hy, (ha.cons rfl (ha.cons rfl (ha.cons rfl (ha.cons rfl (ha.cons rfl (ha.cons rfl (ha.cons rfl (ha.cons rfl (ha.cons rfl (ha.cons rfl (ha.cons rfl (ha.cons rfl (ha.nil))))))))))))), hw⟩
          ·
            refine Tr.seq ?_
            refine Tr.region ?_
            refine TL.val (YF.move rfl) (by decide) ?_
            refine TL.end ?_
            refine Arr.seq ?_
            refine Tr.block ?_
            refine Tr.loop (I := fun q a w => ∃ (j : Nat) (k : Int) (x : Nat → Int) (y : Nat → Value) (L : Hp) (la : Int) (lb : Int), (q = (21 - j : Nat)) ∧ (j ≤ 21) ∧ (0 ≤ k ∧ k ≤ 1000 * g + 400 * c + j) ∧ (FI h x) ∧ (∀ i, i < 4 → LO L (y i)) ∧ (0 ≤ la ∧ la ≤ 4) ∧ (0 ≤ lb ∧ lb ≤ 3) ∧ Agree 631 [(1, .slice nd nl nc), (3, .pointer (some ⟨b3, 0, none⟩)), (6, .pointer (some ⟨b6, 0, none⟩)), (7, .pointer (some ⟨b7, 0, none⟩)), (9, .func (.func 22) #[] #[.pointer (some ⟨b8, 0, none⟩), .pointer (some ⟨b5, 0, none⟩)]), (10, .pointer (some ⟨b7, 7, none⟩)), (11, .pointer (some ⟨b7, 93, none⟩)), (12, .int .i64 g), (13, .int .i64 c), (18, .int .i64 la), (19, .int .i64 lb), (40, .int .i64 g), (44, .int .i64 ch), (45, .int .i64 c), (442, .int .i64 j)] a ∧ HS w0 ((b8, .cells #[.int .i64 k] 3 (0, 0)) :: (b7, .cells (va 341 (fr x y)) 49 (0, 0)) :: (b6, .cells Zv_49 49 (0, 0)) :: (b5, .cells #[.slice ad vl vc] 24 (0, 0)) :: (b3, .cells (va 7 (sd h)) 27 (0, 0)) :: (L ++ H)) w) ((21 - (0) : Nat)) ?_ ?_
            · intro a w ha hw
              exact ⟨0, k, x, y, L, la, lb, rfl, by omega, by omega, hx, hy, hla, hlb, (ha.cons rfl (ha.cons rfl (ha.cons rfl (ha.cons rfl (ha.cons rfl (ha.cons rfl (ha.cons rfl (ha.cons rfl (ha.cons rfl (ha.cons rfl (ha.cons rfl (ha.cons rfl (ha.cons rfl (ha.cons rfl (ha.cons rfl (ha.nil)))))))))))))))), hw⟩
            try clear hk
            try clear hx
            try clear hy
            try clear hx1
            try clear hx2
            try clear hk'
            try clear hr
            try clear hnn
            try clear htb
            try clear hla
            try clear hlb
            try clear hcn
            try clear htp
            try clear htt
            try clear htv0
            try clear hbig
            try clear hmm1
            try clear hmm2
            rintro _ a w ⟨j, k, x, y, L, la, lb, rfl, hj, hk, hx, hy, hla, hlb, ha, hw⟩
            refine Tr.use ha hw ?_
            refine Tr.seq ?_
            refine Tr.region ?_
            refine TL.val (YF.lss rfl rfl rfl) (by decide) ?_
            refine TL.end ?_
            refine Arr.seq ?_
            refine Tr.seq ?_
            refine Tr.cond rfl (fun h443 => ?_) (fun h443 => ?_)
            ·
              replace h443 := of_decide_eq_true h443
              refine Tr.skipE ?_
              refine Arr.seq ?_
              refine Tr.seq ?_
              refine Tr.block ?_
              refine Tr.seq ?_
              refine Tr.region ?_
              refine TL.val (YF.move rfl) (by decide) ?_
              refine TL.val (YF.assign rfl) (by decide) ?_
              refine TL.end ?_
              refine Arr.seq ?_
              refine Tr.seq ?_
              refine Tr.region ?_
              refine TL.val (YF.move rfl) (by decide) ?_
              refine TL.val (YF.lss rfl rfl rfl) (by decide) ?_
              refine TL.end ?_
              refine Arr.seq ?_
              refine Tr.cond rfl (fun h446 => ?_) (fun h446 => ?_)
              ·
                replace h446 := of_decide_eq_true h446
                obtain ⟨mm, hmm, hmm1, hmm2⟩ := pow_small la (by omega)
                refine Tr.drawE (_ :: _ :: _ :: _) (fun H => ((H.eraseIdx 1).eraseIdx 0)) rfl mixed_ ?_
                refine TD.take 0 rfl (by kernel_rfl) (by kernel_rfl) (by kernel_rfl) (fun _ _ _ h => h) (by repeat first | exact List.Sublist.refl _ | apply List.Sublist.cons_cons | apply List.Sublist.cons) (YF.move rfl) (by decide) ?_
                refine TD.take 1 rfl (by kernel_rfl) (by kernel_rfl) (by kernel_rfl) (fun _ _ _ h => h) (by repeat first | exact List.Sublist.refl _ | apply List.Sublist.cons_cons | apply List.Sublist.cons) (YF.move rfl) (by decide) ?_
                refine TD.take 2 rfl (by kernel_rfl) (by kernel_rfl) (by kernel_rfl) (fun _ _ _ h => h) (by repeat first | exact List.Sublist.refl _ | apply List.Sublist.cons_cons | apply List.Sublist.cons) (YF.move rfl) (by decide) ?_
                refine TD.take 3 rfl (by kernel_rfl) (by kernel_rfl) (by kernel_rfl) (fun _ _ _ h => h) (by repeat first | exact List.Sublist.refl _ | apply List.Sublist.cons_cons | apply List.Sublist.cons) (YF.move rfl) (by decide) ?_
                refine TD.take 4 rfl (by kernel_rfl) (by kernel_rfl) (by kernel_rfl) (fun _ _ _ h => h) (by repeat first | exact List.Sublist.refl _ | apply List.Sublist.cons_cons | apply List.Sublist.cons) (YF.move rfl) (by decide) ?_
                refine TD.take 5 rfl (by kernel_rfl) (by kernel_rfl) (by kernel_rfl) (fun _ _ _ h => h) (by repeat first | exact List.Sublist.refl _ | apply List.Sublist.cons_cons | apply List.Sublist.cons) (YF.move rfl) (by decide) ?_
                refine TD.take 6 rfl (by kernel_rfl) (by kernel_rfl) (by kernel_rfl) (fun _ _ _ h => h) (by repeat first | exact List.Sublist.refl _ | apply List.Sublist.cons_cons | apply List.Sublist.cons) (YF.shl rfl rfl (by omega) hmm) (by decide) ?_
                refine TD.take 8 rfl (by kernel_rfl) (by kernel_rfl) (by kernel_rfl) (fun _ _ _ h => h) (by repeat first | exact List.Sublist.refl _ | apply List.Sublist.cons_cons | apply List.Sublist.cons) (YF.nilCheck rfl) (by decide) ?_
                refine TD.take 9 rfl (by kernel_rfl) (by kernel_rfl) (by kernel_rfl) (fun _ _ _ h => h) (by repeat first | exact List.Sublist.refl _ | apply List.Sublist.cons_cons | apply List.Sublist.cons) (YF.fieldAddr fo_47_0 rfl rfl) (by decide) ?_
                refine TD.take 10 rfl (by kernel_rfl) (by kernel_rfl) (by kernel_rfl) (fun _ _ _ h => h) (by repeat first | exact List.Sublist.refl _ | apply List.Sublist.cons_cons | apply List.Sublist.cons) (YF.indexArr arr_39 rfl rfl (by first | decide | omega) rfl) (by decide) ?_
                refine TD.take 11 rfl (by kernel_rfl) (by kernel_rfl) (by kernel_rfl) (fun _ _ _ h => h) (by repeat first | exact List.Sublist.refl _ | apply List.Sublist.cons_cons | apply List.Sublist.cons) (YF.indexArr arr_38 rfl rfl (by first | decide | omega) rfl) (by decide) ?_
                refine TD.eff 7 rfl (by kernel_rfl) (EF.callv (vs := [_]) call_22 rfl rfl (next_ct 0 3 _ k b8 b5 ad vl vc _ _ w0 _ rfl rfl (by decide) (by omega) (by omega) hv hvl)) (by decide) (by rintro _ _ ⟨r, k', hk', rfl, hr, rfl⟩; exact (by repeat first | exact List.Sublist.refl _ | apply List.Sublist.cons_cons | apply List.Sublist.cons)) ?_
                rintro _ _ ⟨r, k, hk', rfl, hr, rfl⟩
                refine TD.heap (_ :: _ :: _ :: _ :: _ :: _) rfl ?_
                refine TD.take 12 rfl (by kernel_rfl) (by kernel_rfl) (by kernel_rfl) (fun _ _ _ h => h) (by repeat first | exact List.Sublist.refl _ | apply List.Sublist.cons_cons | apply List.Sublist.cons) (YF.indexArr arr_37 rfl rfl (by first | decide | omega) rfl) (by decide) ?_
                refine TD.eff0 13 rfl (by kernel_rfl) (EF.storeF 1 rfl rfl rfl sz_3 hx (by omega) (by intro hq93; first | omega | exact lim_of (by omega) (by omega) (by omega)) (by omega) (by omega)) (by rintro _ _ ⟨x', _, _, _, rfl⟩; exact (by repeat first | exact List.Sublist.refl _ | apply List.Sublist.cons_cons | apply List.Sublist.cons)) ?_
                rintro _ _ ⟨x, hx, hx1, hx2, rfl⟩
                refine TD.heap (_ :: _ :: _ :: _ :: _ :: _) rfl ?_
                refine TD.end (by kernel_rfl) ?_
                refine Arr.block ?_
                refine Arr.seq ?_
                refine Tr.region ?_
                refine TL.val (YF.add rfl rfl (IntWalk.i64_in _ (by omega))) (by decide) ?_
                refine TL.val (YF.move rfl) (by decide) ?_
                refine TL.end ?_
                exact fun a w ha hw => ⟨_, by omega, j + 1, k, x, y, L, la, lb, rfl, by omega, by omega, hx, hy, hla, hlb, (ha.cons rfl (ha.cons rfl (ha.cons rfl (ha.cons rfl (ha.cons rfl (ha.cons rfl (ha.cons rfl (ha.cons rfl (ha.cons rfl (ha.cons rfl (ha.cons rfl (ha.cons rfl (ha.cons rfl (ha.cons rfl (ha.cons rfl (ha.nil)))))))))))))))), hw⟩
              ·
                replace h446 := of_decide_eq_false h446
                obtain ⟨mm, hmm, hmm1, hmm2⟩ := pow_small lb (by omega)
                refine Tr.drawE (_ :: _ :: _ :: _) (fun H => ((H.eraseIdx 1).eraseIdx 0)) rfl mixed_ ?_
                refine TD.take 0 rfl (by kernel_rfl) (by kernel_rfl) (by kernel_rfl) (fun _ _ _ h => h) (by repeat first | exact List.Sublist.refl _ | apply List.Sublist.cons_cons | apply List.Sublist.cons) (YF.move rfl) (by decide) ?_
                refine TD.take 1 rfl (by kernel_rfl) (by kernel_rfl) (by kernel_rfl) (fun _ _ _ h => h) (by repeat first | exact List.Sublist.refl _ | apply List.Sublist.cons_cons | apply List.Sublist.cons) (YF.move rfl) (by decide) ?_
                refine TD.take 2 rfl (by kernel_rfl) (by kernel_rfl) (by kernel_rfl) (fun _ _ _ h => h) (by repeat first | exact List.Sublist.refl _ | apply List.Sublist.cons_cons | apply List.Sublist.cons) (YF.move rfl) (by decide) ?_
                refine TD.take 3 rfl (by kernel_rfl) (by kernel_rfl) (by kernel_rfl) (fun _ _ _ h => h) (by repeat first | exact List.Sublist.refl _ | apply List.Sublist.cons_cons | apply List.Sublist.cons) (YF.move rfl) (by decide) ?_
                refine TD.take 4 rfl (by kernel_rfl) (by kernel_rfl) (by kernel_rfl) (fun _ _ _ h => h) (by repeat first | exact List.Sublist.refl _ | apply List.Sublist.cons_cons | apply List.Sublist.cons) (YF.move rfl) (by decide) ?_
                refine TD.take 5 rfl (by kernel_rfl) (by kernel_rfl) (by kernel_rfl) (fun _ _ _ h => h) (by repeat first | exact List.Sublist.refl _ | apply List.Sublist.cons_cons | apply List.Sublist.cons) (YF.move rfl) (by decide) ?_
                refine TD.take 6 rfl (by kernel_rfl) (by kernel_rfl) (by kernel_rfl) (fun _ _ _ h => h) (by repeat first | exact List.Sublist.refl _ | apply List.Sublist.cons_cons | apply List.Sublist.cons) (YF.shl rfl rfl (by omega) hmm) (by decide) ?_
                refine TD.take 8 rfl (by kernel_rfl) (by kernel_rfl) (by kernel_rfl) (fun _ _ _ h => h) (by repeat first | exact List.Sublist.refl _ | apply List.Sublist.cons_cons | apply List.Sublist.cons) (YF.nilCheck rfl) (by decide) ?_
                refine TD.take 9 rfl (by kernel_rfl) (by kernel_rfl) (by kernel_rfl) (fun _ _ _ h => h) (by repeat first | exact List.Sublist.refl _ | apply List.Sublist.cons_cons | apply List.Sublist.cons) (YF.fieldAddr fo_47_0 rfl rfl) (by decide) ?_
                refine TD.take 10 rfl (by kernel_rfl) (by kernel_rfl) (by kernel_rfl) (fun _ _ _ h => h) (by repeat first | exact List.Sublist.refl _ | apply List.Sublist.cons_cons | apply List.Sublist.cons) (YF.indexArr arr_39 rfl rfl (by first | decide | omega) rfl) (by decide) ?_
                refine TD.take 11 rfl (by kernel_rfl) (by kernel_rfl) (by kernel_rfl) (fun _ _ _ h => h) (by repeat first | exact List.Sublist.refl _ | apply List.Sublist.cons_cons | apply List.Sublist.cons) (YF.indexArr arr_38 rfl rfl (by first | decide | omega) rfl) (by decide) ?_
                refine TD.eff 7 rfl (by kernel_rfl) (EF.callv (vs := [_]) call_22 rfl rfl (next_ct 0 3 _ k b8 b5 ad vl vc _ _ w0 _ rfl rfl (by decide) (by omega) (by omega) hv hvl)) (by decide) (by rintro _ _ ⟨r, k', hk', rfl, hr, rfl⟩; exact (by repeat first | exact List.Sublist.refl _ | apply List.Sublist.cons_cons | apply List.Sublist.cons)) ?_
                rintro _ _ ⟨r, k, hk', rfl, hr, rfl⟩
                refine TD.heap (_ :: _ :: _ :: _ :: _ :: _) rfl ?_
                refine TD.take 12 rfl (by kernel_rfl) (by kernel_rfl) (by kernel_rfl) (fun _ _ _ h => h) (by repeat first | exact List.Sublist.refl _ | apply List.Sublist.cons_cons | apply List.Sublist.cons) (YF.indexArr arr_37 rfl rfl (by first | decide | omega) rfl) (by decide) ?_
                refine TD.eff0 13 rfl (by kernel_rfl) (EF.storeF 1 rfl rfl rfl sz_3 hx (by omega) (by intro hq93; first | omega | exact lim_of (by omega) (by omega) (by omega)) (by omega) (by omega)) (by rintro _ _ ⟨x', _, _, _, rfl⟩; exact (by repeat first | exact List.Sublist.refl _ | apply List.Sublist.cons_cons | apply List.Sublist.cons)) ?_
                rintro _ _ ⟨x, hx, hx1, hx2, rfl⟩
                refine TD.heap (_ :: _ :: _ :: _ :: _ :: _) rfl ?_
                refine TD.end (by kernel_rfl) ?_
                refine Arr.block ?_
                refine Arr.seq ?_
                refine Tr.region ?_
                refine TL.val (YF.add rfl rfl (IntWalk.i64_in _ (by omega))) (by decide) ?_
                refine TL.val (YF.move rfl) (by decide) ?_
                refine TL.end ?_
                exact fun a w ha hw => ⟨_, by omega, j + 1, k, x, y, L, la, lb, rfl, by omega, by omega, hx, hy, hla, hlb, (ha.cons rfl (ha.cons rfl (ha.cons rfl (ha.cons rfl (ha.cons rfl (ha.cons rfl (ha.cons rfl (ha.cons rfl (ha.cons rfl (ha.cons rfl (ha.cons rfl (ha.cons rfl (ha.cons rfl (ha.cons rfl (ha.cons rfl (ha.nil)))))))))))))))), hw⟩
            ·
              replace h443 := of_decide_eq_false h443
              refine Tr.exitE ?_
              refine Arr.seqX ?_
              refine Arr.seqX ?_
              refine Arr.blockE ?_
              refine Arr.meet ?_
              exact fun a w ha hw => ⟨k, x, y, L, by omega, hx, hy, (ha.cons rfl (ha.cons rfl (ha.cons rfl (ha.cons rfl (ha.cons rfl (ha.cons rfl (ha.cons rfl (ha.cons rfl (ha.cons rfl (ha.cons rfl (ha.cons rfl (ha.cons rfl (ha.nil))))))))))))), hw⟩
        try clear hk
        try clear hx
        try clear hy
        try clear hx1
        try clear hx2
        try clear hk'
        try clear hr
        try clear hnn
        try clear htb
        try clear hla
        try clear hlb
        try clear hcn
        try clear htp
        try clear htt
        try clear htv0
        try clear hbig
        try clear hmm1
        try clear hmm2
        rintro a w ⟨k, x, y, L, hk, hx, hy, ha, hw⟩
        refine Arr.use ha hw ?_
        refine Arr.seq ?_
        refine Tr.seq ?_
        refine Tr.drawE (_ :: _ :: _ :: _ :: _ :: _) (fun H => H) rfl mixed_ ?_
        refine TD.take 0 rfl (by kernel_rfl) (by kernel_rfl) (by kernel_rfl) (fun _ _ _ h => h) (by repeat first | exact List.Sublist.refl _ | apply List.Sublist.cons_cons | apply List.Sublist.cons) (YF.loadAll 4 agg_27 rfl rfl (va_size _ _)) (by decide) ?_
        refine TD.take 1 rfl (by kernel_rfl) (by kernel_rfl) (by kernel_rfl) (fun _ _ _ h => h) (by repeat first | exact List.Sublist.refl _ | apply List.Sublist.cons_cons | apply List.Sublist.cons) (YF.move rfl) (by decide) ?_
        refine TD.take 2 rfl (by kernel_rfl) (by kernel_rfl) (by kernel_rfl) (fun _ _ _ h => h) (by repeat first | exact List.Sublist.refl _ | apply List.Sublist.cons_cons | apply List.Sublist.cons) (YF.nilCheck rfl) (by decide) ?_
        refine TD.take 3 rfl (by kernel_rfl) (by kernel_rfl) (by kernel_rfl) (fun _ _ _ h => h) (by repeat first | exact List.Sublist.refl _ | apply List.Sublist.cons_cons | apply List.Sublist.cons) (YF.loadAgg 1 agg_36 rfl rfl (by rw [va_size]; decide) fr_side) (by decide) ?_
        refine TD.take 4 rfl (by kernel_rfl) (by kernel_rfl) (by kernel_rfl) (fun _ _ _ h => h) (by repeat first | exact List.Sublist.refl _ | apply List.Sublist.cons_cons | apply List.Sublist.cons) (YF.move rfl) (by decide) ?_
        refine TD.take 5 rfl (by kernel_rfl) (by kernel_rfl) (by kernel_rfl) (fun _ _ _ h => h) (by repeat first | exact List.Sublist.refl _ | apply List.Sublist.cons_cons | apply List.Sublist.cons) (YF.move rfl) (by decide) ?_
        refine TD.eff 6 rfl (by kernel_rfl) (EF.call (vs := [_, _, _, _]) call_25 rfl (regions_ct h _ g c (by omega) (by omega) w0 _ (FI.region0 hx (7 + (62 + 2 * g + c)) (by omega)) (FI.region1 hx (7 + (66 + 2 * g + c)) (by omega)))) (by decide) (by rintro _ _ ⟨_, _, rfl, rfl⟩; exact (by repeat first | exact List.Sublist.refl _ | apply List.Sublist.cons_cons | apply List.Sublist.cons)) ?_
        rintro _ _ ⟨one, two, rfl, rfl⟩
        refine TD.take 7 rfl (by kernel_rfl) (by kernel_rfl) (by kernel_rfl) (fun _ _ _ h => h) (by repeat first | exact List.Sublist.refl _ | apply List.Sublist.cons_cons | apply List.Sublist.cons) (YF.move rfl) (by decide) ?_
        refine TD.take 8 rfl (by kernel_rfl) (by kernel_rfl) (by kernel_rfl) (fun _ _ _ h => h) (by repeat first | exact List.Sublist.refl _ | apply List.Sublist.cons_cons | apply List.Sublist.cons) (YF.extract rfl rfl) (by decide) ?_
        refine TD.take 9 rfl (by kernel_rfl) (by kernel_rfl) (by kernel_rfl) (fun _ _ _ h => h) (by repeat first | exact List.Sublist.refl _ | apply List.Sublist.cons_cons | apply List.Sublist.cons) (YF.extract rfl rfl) (by decide) ?_
        refine TD.take 10 rfl (by kernel_rfl) (by kernel_rfl) (by kernel_rfl) (fun _ _ _ h => h) (by repeat first | exact List.Sublist.refl _ | apply List.Sublist.cons_cons | apply List.Sublist.cons) (YF.assign rfl) (by decide) ?_
        refine TD.take 11 rfl (by kernel_rfl) (by kernel_rfl) (by kernel_rfl) (fun _ _ _ h => h) (by repeat first | exact List.Sublist.refl _ | apply List.Sublist.cons_cons | apply List.Sublist.cons) (YF.assign rfl) (by decide) ?_
        refine TD.end (by kernel_rfl) ?_
        refine Arr.seq ?_
        refine Tr.seq ?_
        refine Tr.region ?_
        refine TL.makeSlice (m := 576) sl_43 bytes_82 zero_82 rfl rfl rfl rfl (by decide) (by decide) rfl (by decide) (fun bl => ?_)
        refine TL.heap ((bl, .cells (va 576 (fl .f32 fun _ => 0)) 82 (0, 0)) :: (b8, .cells #[.int .i64 k] 3 (0, 0)) :: (b7, .cells (va 341 (fr x y)) 49 (0, 0)) :: (b6, .cells Zv_49 49 (0, 0)) :: (b5, .cells #[.slice ad vl vc] 24 (0, 0)) :: (b3, .cells (va 7 (sd h)) 27 (0, 0)) :: (L ++ H)) (by rw [va_replicate]; rfl) ?_
        refine TL.val (YF.assign rfl) (by decide) ?_
        refine TL.end ?_
        refine Arr.seq ?_
        refine Tr.seq ?_
        refine Tr.seq ?_
        refine Tr.region ?_
        refine TL.val (YF.move rfl) (by decide) ?_
        refine TL.val (YF.move rfl) (by decide) ?_
        refine TL.val (YF.move rfl) (by decide) ?_
        refine TL.val (YF.nilCheck rfl) (by decide) ?_
        refine TL.val (YF.fieldAddr fo_36_17 rfl rfl) (by decide) ?_
        refine TL.val (YF.indexArr arr_31 rfl rfl (by first | decide | omega) rfl) (by decide) ?_
        refine TL.val (YF.indexArr arr_30 rfl rfl (by first | decide | omega) rfl) (by decide) ?_
        refine TL.val (YF.load 2 sc_3 rfl rfl (fr_int (by omega))) (by decide) ?_
        refine TL.val (YF.move rfl) (by decide) ?_
        refine TL.end ?_
        refine Arr.seq ?_
        refine Tr.block ?_
        refine Tr.loop (I := fun q a w => ∃ (j : Nat) (k : Int) (x : Nat → Int) (y : Nat → Value) (L : Hp) (one : Int) (two : Int) (cn : Int) (l : Nat → Nat), (q = (78 - j : Nat)) ∧ (j ≤ 78) ∧ (0 ≤ k ∧ k ≤ 1000 * g + 400 * c + 50 + j) ∧ (FI h x) ∧ (∀ i, i < 4 → LO L (y i)) ∧ (0 ≤ cn ∧ cn ≤ 78) ∧ ((j : Int) ≤ cn) ∧ Agree 631 [(1, .slice nd nl nc), (3, .pointer (some ⟨b3, 0, none⟩)), (6, .pointer (some ⟨b6, 0, none⟩)), (7, .pointer (some ⟨b7, 0, none⟩)), (9, .func (.func 22) #[] #[.pointer (some ⟨b8, 0, none⟩), .pointer (some ⟨b5, 0, none⟩)]), (10, .pointer (some ⟨b7, 7, none⟩)), (11, .pointer (some ⟨b7, 93, none⟩)), (12, .int .i64 g), (13, .int .i64 c), (25, .int .i64 one), (26, .int .i64 two), (27, .slice (some ⟨bl, 0, none⟩) 576 576), (40, .int .i64 g), (44, .int .i64 ch), (45, .int .i64 c), (492, .int .i64 cn), (493, .int .i64 j)] a ∧ HS w0 ((bl, .cells (va 576 (fl .f32 l)) 82 (0, 0)) :: (b8, .cells #[.int .i64 k] 3 (0, 0)) :: (b7, .cells (va 341 (fr x y)) 49 (0, 0)) :: (b6, .cells Zv_49 49 (0, 0)) :: (b5, .cells #[.slice ad vl vc] 24 (0, 0)) :: (b3, .cells (va 7 (sd h)) 27 (0, 0)) :: (L ++ H)) w) ((78 - (0) : Nat)) ?_ ?_
        · intro a w ha hw
          exact ⟨0, k, x, y, L, one, two, _, _, rfl, by omega, by omega, hx, hy, FI.count hx _ (by omega), (FI.count hx _ (by omega)).1, (ha.cons rfl (ha.cons rfl (ha.cons rfl (ha.cons rfl (ha.cons rfl (ha.cons rfl (ha.cons rfl (ha.cons rfl (ha.cons rfl (ha.cons rfl (ha.cons rfl (ha.cons rfl (ha.cons rfl (ha.cons rfl (ha.cons rfl (ha.cons rfl (ha.cons rfl (ha.nil)))))))))))))))))), hw⟩
        try clear hk
        try clear hx
        try clear hy
        try clear hx1
        try clear hx2
        try clear hk'
        try clear hr
        try clear hnn
        try clear htb
        try clear hla
        try clear hlb
        try clear hcn
        try clear htp
        try clear htt
        try clear htv0
        try clear hbig
        try clear hmm1
        try clear hmm2
        rintro _ a w ⟨j, k, x, y, L, one, two, cn, l, rfl, hj, hk, hx, hy, hcn, hjc, ha, hw⟩
        refine Tr.use ha hw ?_
        refine Tr.seq ?_
        refine Tr.region ?_
        refine TL.val (YF.lss rfl rfl rfl) (by decide) ?_
        refine TL.end ?_
        refine Arr.seq ?_
        refine Tr.seq ?_
        refine Tr.cond rfl (fun h494 => ?_) (fun h494 => ?_)
        ·
          replace h494 := of_decide_eq_true h494
          refine Tr.skipE ?_
          refine Arr.seq ?_
          refine Tr.seq ?_
          refine Tr.block ?_
          refine Tr.seq ?_
          refine Tr.region ?_
          refine TL.val (YF.move rfl) (by decide) ?_
          refine TL.val (YF.assign rfl) (by decide) ?_
          refine TL.end ?_
          refine Arr.seq ?_
          refine Tr.seq ?_
          refine Tr.region ?_
          refine TL.val (YF.assign rfl) (by decide) ?_
          refine TL.end ?_
          refine Arr.seq ?_
          refine Tr.seq ?_
          refine Tr.seq ?_
          have hbig := FI.big hx (21 + 2 * g + c) (by omega)
          refine Tr.region ?_
          refine TL.val (YF.move rfl) (by decide) ?_
          refine TL.val (YF.move rfl) (by decide) ?_
          refine TL.val (YF.move rfl) (by decide) ?_
          refine TL.val (YF.move rfl) (by decide) ?_
          refine TL.val (YF.nilCheck rfl) (by decide) ?_
          refine TL.val (YF.fieldAddr fo_36_4 rfl rfl) (by decide) ?_
          refine TL.val (YF.indexArr arr_31 rfl rfl (by first | decide | omega) rfl) (by decide) ?_
          refine TL.val (YF.indexArr arr_30 rfl rfl (by first | decide | omega) (show _ = 21 + 2 * g + c by omega)) (by decide) ?_
          refine TL.val (YF.load 2 sc_3 rfl rfl (fr_int (by omega))) (by decide) ?_
          refine TL.val (YF.mul rfl rfl (IntWalk.i64_in _ (by omega))) (by decide) ?_
          refine TL.val (YF.lss rfl rfl rfl) (by decide) ?_
          refine TL.end ?_
          refine Arr.seq ?_
          refine Tr.cutN (R := fun a w => ∃ (k : Int) (x : Nat → Int) (y : Nat → Value) (L : Hp) (one : Int) (two : Int) (cn : Int) (tp : Int) (l : Nat → Nat), (0 ≤ k ∧ k ≤ 1000 * g + 400 * c + 50 + j) ∧ (FI h x) ∧ (∀ i, i < 4 → LO L (y i)) ∧ (0 ≤ cn ∧ cn ≤ 78) ∧ ((j : Int) < cn) ∧ (0 ≤ tp ∧ tp ≤ 5) ∧ Agree 631 [(1, .slice nd nl nc), (3, .pointer (some ⟨b3, 0, none⟩)), (6, .pointer (some ⟨b6, 0, none⟩)), (7, .pointer (some ⟨b7, 0, none⟩)), (9, .func (.func 22) #[] #[.pointer (some ⟨b8, 0, none⟩), .pointer (some ⟨b5, 0, none⟩)]), (10, .pointer (some ⟨b7, 7, none⟩)), (11, .pointer (some ⟨b7, 93, none⟩)), (12, .int .i64 g), (13, .int .i64 c), (25, .int .i64 one), (26, .int .i64 two), (27, .slice (some ⟨bl, 0, none⟩) 576 576), (28, .int .i64 j), (29, .int .i64 tp), (40, .int .i64 g), (44, .int .i64 ch), (45, .int .i64 c), (492, .int .i64 cn), (493, .int .i64 j)] a ∧ HS w0 ((bl, .cells (va 576 (fl .f32 l)) 82 (0, 0)) :: (b8, .cells #[.int .i64 k] 3 (0, 0)) :: (b7, .cells (va 341 (fr x y)) 49 (0, 0)) :: (b6, .cells Zv_49 49 (0, 0)) :: (b5, .cells #[.slice ad vl vc] 24 (0, 0)) :: (b3, .cells (va 7 (sd h)) 27 (0, 0)) :: (L ++ H)) w) ?_ ?_
          ·
            refine Tr.cond rfl (fun h506 => ?_) (fun h506 => ?_)
            ·
              replace h506 := of_decide_eq_true h506
              refine Tr.seq ?_
              refine Tr.region ?_
              refine TL.val (YF.move rfl) (by decide) ?_
              refine TL.val (YF.move rfl) (by decide) ?_
              refine TL.val (YF.move rfl) (by decide) ?_
              refine TL.val (YF.nilCheck rfl) (by decide) ?_
              refine TL.val (YF.fieldAddr fo_36_10 rfl rfl) (by decide) ?_
              refine TL.val (YF.indexArr arr_34 rfl rfl (by first | decide | omega) rfl) (by decide) ?_
              refine TL.val (YF.indexArr arr_33 rfl rfl (by first | decide | omega) rfl) (by decide) ?_
              refine TL.val (YF.indexArr arr_32 rfl rfl (by first | decide | omega) rfl) (by decide) ?_
              refine TL.val (YF.load 2 sc_3 rfl rfl (fr_int (by omega))) (by decide) ?_
              refine TL.val (YF.assign rfl) (by decide) ?_
              refine TL.end ?_
              refine Arr.seq ?_
              refine Tr.seq ?_
              refine Tr.region ?_
              refine TL.val (YF.move rfl) (by decide) ?_
              refine TL.val (YF.quo rfl rfl (by omega) (IntWalk.i64_quo _ _ (by omega))) (by decide) ?_
              refine TL.val (YF.mul rfl rfl (IntWalk.i64_in _ (by omega))) (by decide) ?_
              refine TL.val (YF.assign rfl) (by decide) ?_
              refine TL.end ?_
              refine Arr.seq ?_
              refine Tr.seq ?_
              refine Tr.cutN (R := fun a w => ∃ (k : Int) (x : Nat → Int) (y : Nat → Value) (L : Hp) (one : Int) (two : Int) (cn : Int) (tt : Int) (l : Nat → Nat), (0 ≤ k ∧ k ≤ 1000 * g + 400 * c + 50 + j) ∧ (FI h x) ∧ (∀ i, i < 4 → LO L (y i)) ∧ (0 ≤ cn ∧ cn ≤ 78) ∧ ((j : Int) < cn) ∧ (0 ≤ tt ∧ tt ≤ 7) ∧ Agree 631 [(1, .slice nd nl nc), (3, .pointer (some ⟨b3, 0, none⟩)), (6, .pointer (some ⟨b6, 0, none⟩)), (7, .pointer (some ⟨b7, 0, none⟩)), (9, .func (.func 22) #[] #[.pointer (some ⟨b8, 0, none⟩), .pointer (some ⟨b5, 0, none⟩)]), (10, .pointer (some ⟨b7, 7, none⟩)), (11, .pointer (some ⟨b7, 93, none⟩)), (12, .int .i64 g), (13, .int .i64 c), (25, .int .i64 one), (26, .int .i64 two), (27, .slice (some ⟨bl, 0, none⟩) 576 576), (28, .int .i64 j), (29, .int .i64 1), (30, .int .i64 tt), (40, .int .i64 g), (44, .int .i64 ch), (45, .int .i64 c), (492, .int .i64 cn), (493, .int .i64 j)] a ∧ HS w0 ((bl, .cells (va 576 (fl .f32 l)) 82 (0, 0)) :: (b8, .cells #[.int .i64 k] 3 (0, 0)) :: (b7, .cells (va 341 (fr x y)) 49 (0, 0)) :: (b6, .cells Zv_49 49 (0, 0)) :: (b5, .cells #[.slice ad vl vc] 24 (0, 0)) :: (b3, .cells (va 7 (sd h)) 27 (0, 0)) :: (L ++ H)) w) ?_ ?_
              ·
                refine Tr.block ?_
                refine Tr.seq ?_
                refine Tr.region ?_
                refine TL.val (YF.move rfl) (by decide) ?_
                refine TL.val (YF.move rfl) (by decide) ?_
                refine TL.val (YF.geq rfl rfl rfl) (by decide) ?_
                refine TL.val (YF.assign rfl) (by decide) ?_
                refine TL.end ?_
                refine Arr.seq ?_
                refine Tr.cond rfl (fun h519 => ?_) (fun h519 => ?_)
                ·
                  replace h519 := of_decide_eq_true h519
                  refine Tr.region ?_
                  refine TL.val (YF.move rfl) (by decide) ?_
                  refine TL.val (YF.move rfl) (by decide) ?_
                  refine TL.val (YF.move rfl) (by decide) ?_
                  refine TL.val (YF.nilCheck rfl) (by decide) ?_
                  refine TL.val (YF.fieldAddr fo_36_10 rfl rfl) (by decide) ?_
                  refine TL.val (YF.indexArr arr_34 rfl rfl (by first | decide | omega) rfl) (by decide) ?_
                  refine TL.val (YF.indexArr arr_33 rfl rfl (by first | decide | omega) rfl) (by decide) ?_
                  refine TL.val (YF.indexArr arr_32 rfl rfl (by first | decide | omega) rfl) (by decide) ?_
                  refine TL.val (YF.load 2 sc_3 rfl rfl (fr_int (by omega))) (by decide) ?_
                  refine TL.val (YF.assign rfl) (by decide) ?_
                  refine TL.end ?_
                  refine Arr.block ?_
                  refine Arr.meet ?_
                  exact fun a w ha hw => ⟨k, x, y, L, one, two, cn, _, l, by omega, hx, hy, hcn, by omega, FI.table hx _ (by omega), (ha.cons rfl (ha.cons rfl (ha.cons rfl (ha.cons rfl (ha.cons rfl (ha.cons rfl (ha.cons rfl (ha.cons rfl (ha.cons rfl (ha.cons rfl (ha.cons rfl (ha.cons rfl (ha.cons rfl (ha.cons rfl (ha.cons rfl (ha.cons rfl (ha.cons rfl (ha.cons rfl (ha.cons rfl (ha.cons rfl (ha.nil))))))))))))))))))))), hw⟩
                ·
                  replace h519 := of_decide_eq_false h519
                  refine Tr.seq ?_
                  refine Tr.region ?_
                  refine TL.val (YF.move rfl) (by decide) ?_
                  refine TL.val (YF.move rfl) (by decide) ?_
                  refine TL.val (YF.geq rfl rfl rfl) (by decide) ?_
                  refine TL.val (YF.assign rfl) (by decide) ?_
                  refine TL.end ?_
                  refine Arr.seq ?_
                  refine Tr.cond rfl (fun h532 => ?_) (fun h532 => ?_)
                  ·
                    replace h532 := of_decide_eq_true h532
                    refine Tr.region ?_
                    refine TL.val (YF.move rfl) (by decide) ?_
                    refine TL.val (YF.move rfl) (by decide) ?_
                    refine TL.val (YF.move rfl) (by decide) ?_
                    refine TL.val (YF.nilCheck rfl) (by decide) ?_
                    refine TL.val (YF.fieldAddr fo_36_10 rfl rfl) (by decide) ?_
                    refine TL.val (YF.indexArr arr_34 rfl rfl (by first | decide | omega) rfl) (by decide) ?_
                    refine TL.val (YF.indexArr arr_33 rfl rfl (by first | decide | omega) rfl) (by decide) ?_
                    refine TL.val (YF.indexArr arr_32 rfl rfl (by first | decide | omega) rfl) (by decide) ?_
                    refine TL.val (YF.load 2 sc_3 rfl rfl (fr_int (by omega))) (by decide) ?_
                    refine TL.val (YF.assign rfl) (by decide) ?_
                    refine TL.end ?_
                    refine Arr.block ?_
                    refine Arr.meet ?_
                    exact fun a w ha hw => ⟨k, x, y, L, one, two, cn, _, l, by omega, hx, hy, hcn, by omega, FI.table hx _ (by omega), (ha.cons rfl (ha.cons rfl (ha.cons rfl (ha.cons rfl (ha.cons rfl (ha.cons rfl (ha.cons rfl (ha.cons rfl (ha.cons rfl (ha.cons rfl (ha.cons rfl (ha.cons rfl (ha.cons rfl (ha.cons rfl (ha.cons rfl (ha.cons rfl (ha.cons rfl (ha.cons rfl (ha.cons rfl (ha.cons rfl (ha.nil))))))))))))))))))))), hw⟩
                  ·
                    replace h532 := of_decide_eq_false h532
                    refine Tr.skipE ?_
                    refine Arr.block ?_
                    refine Arr.meet ?_
                    exact fun a w ha hw => ⟨k, x, y, L, one, two, cn, _, l, by omega, hx, hy, hcn, by omega, FI.table hx _ (by omega), (ha.cons rfl (ha.cons rfl (ha.cons rfl (ha.cons rfl (ha.cons rfl (ha.cons rfl (ha.cons rfl (ha.cons rfl (ha.cons rfl (ha.cons rfl (ha.cons rfl (ha.cons rfl (ha.cons rfl (ha.cons rfl (ha.cons rfl (ha.cons rfl (ha.cons rfl (ha.cons rfl (ha.cons rfl (ha.cons rfl (ha.nil))))))))))))))))))))), hw⟩
              try clear hk
              try clear hx
              try clear hy
              try clear hx1
              try clear hx2
              try clear hk'
              try clear hr
              try clear hnn
              try clear htb
              try clear hla
              try clear hlb
              try clear hcn
              try clear htp
              try clear htt
              try clear htv0
              try clear hbig
              try clear hmm1
              try clear hmm2
              rintro a w ⟨k, x, y, L, one, two, cn, tt, l, hk, hx, hy, hcn, hjl, htt, ha, hw⟩
              refine Arr.use ha hw ?_
              refine Arr.seq ?_
              refine Tr.region ?_
              refine TL.buildSlice (vs := [(0, (.int .i64 0)), (1, (.int .i64 1)), (2, (.int .i64 2)), (3, (.int .i64 2)), (4, (.int .i64 0)), (5, (.int .i64 3)), (6, (.int .i64 3)), (7, (.int .i64 5))]) (cs := #[.int .i64 0, .int .i64 1, .int .i64 2, .int .i64 2, .int .i64 0, .int .i64 3, .int .i64 3, .int .i64 5]) sl_78 zero_3 rfl rfl (by kernel_rfl) rfl (by decide) (fun b => ?_)
              refine TL.val (YF.move rfl) (by decide) ?_
              obtain ⟨tv, htv, htv0⟩ := ints_get (cs := #[.int .i64 0, .int .i64 1, .int .i64 2, .int .i64 2, .int .i64 0, .int .i64 3, .int .i64 3, .int .i64 5]) 0 5 (by decide) tt.toNat (by show _ < 8; omega)
              refine TL.val (YF.indexSl sl_78 rfl rfl (by first | decide | omega) (show _ = tt.toNat by omega)) (by decide) ?_
              refine TL.val (YF.load 0 sc_3 rfl rfl htv) (by decide) ?_
              refine TL.val (YF.assign rfl) (by decide) ?_
              refine TL.end ?_
              refine Arr.meet ?_
              exact fun a w ha hw => ⟨k, x, y, L, one, two, cn, _, l, by omega, hx, hy, hcn, by omega, by omega, (ha.cons rfl (ha.cons rfl (ha.cons rfl (ha.cons rfl (ha.cons rfl (ha.cons rfl (ha.cons rfl (ha.cons rfl (ha.cons rfl (ha.cons rfl (ha.cons rfl (ha.cons rfl (ha.cons rfl (ha.cons rfl (ha.cons rfl (ha.cons rfl (ha.cons rfl (ha.cons rfl (ha.cons rfl (ha.nil)))))))))))))))))))), hw.mono (by repeat first | exact List.Sublist.refl _ | apply List.Sublist.cons)⟩
            ·
              replace h506 := of_decide_eq_false h506
              refine Tr.skipE ?_
              refine Arr.meet ?_
              exact fun a w ha hw => ⟨k, x, y, L, one, two, cn, _, l, by omega, hx, hy, hcn, by omega, by omega, (ha.cons rfl (ha.cons rfl (ha.cons rfl (ha.cons rfl (ha.cons rfl (ha.cons rfl (ha.cons rfl (ha.cons rfl (ha.cons rfl (ha.cons rfl (ha.cons rfl (ha.cons rfl (ha.cons rfl (ha.cons rfl (ha.cons rfl (ha.cons rfl (ha.cons rfl (ha.cons rfl (ha.cons rfl (ha.nil)))))))))))))))))))), hw.mono (by repeat first | exact List.Sublist.refl _ | apply List.Sublist.cons)⟩
          try clear hk
          try clear hx
          try clear hy
          try clear hx1
          try clear hx2
          try clear hk'
          try clear hr
          try clear hnn
          try clear htb
          try clear hla
          try clear hlb
          try clear hcn
          try clear htp
          try clear htt
          try clear htv0
          try clear hbig
          try clear hmm1
          try clear hmm2
          rintro a w ⟨k, x, y, L, one, two, cn, tp, l, hk, hx, hy, hcn, hjl, htp, ha, hw⟩
          refine Arr.use ha hw ?_
          refine Arr.seq ?_
          refine Tr.region ?_
          refine TL.val (YF.move rfl) (by decide) ?_
          refine TL.val (YF.move rfl) (by decide) ?_
          refine TL.val (YF.move rfl) (by decide) ?_
          refine TL.val (YF.move rfl) (by decide) ?_
          refine TL.val (YF.mul rfl rfl (IntWalk.i64_in _ (by omega))) (by decide) ?_
          refine TL.val (YF.add rfl rfl (IntWalk.i64_in _ (by omega))) (by decide) ?_
          refine TL.callv (vs := [_]) rfl call_22 rfl (by decide) (next_ct 1 4 _ k b8 b5 ad vl vc _ _ w0 _ rfl rfl (by decide) (by omega) (by omega) hv hvl) ?_
          rintro _ _ ⟨r, k, hk', rfl, hr, rfl⟩
          refine TL.heap (_ :: _ :: _ :: _ :: _ :: _ :: _) rfl ?_
          refine TL.val (YF.move rfl) (by decide) ?_
          refine TL.val (YF.sub rfl rfl (IntWalk.i64_in _ (by omega))) (by decide) ?_
          refine TL.val (YF.convIF und_3 und_82 rfl rfl) (by decide) ?_
          refine TL.val (YF.indexSl sl_43 rfl rfl (by first | decide | omega) (show _ = j by omega)) (by decide) ?_
          refine TL.storeV 0 (_ :: _) rfl rfl rfl sz_82 rfl (by rw [va_size]; omega) fl_set rfl ?_
          refine TL.end ?_
          refine Arr.block ?_
          refine Arr.seq ?_
          refine Tr.region ?_
          refine TL.val (YF.add rfl rfl (IntWalk.i64_in _ (by omega))) (by decide) ?_
          refine TL.val (YF.move rfl) (by decide) ?_
          refine TL.end ?_
          exact fun a w ha hw => ⟨_, by omega, j + 1, k, x, y, L, one, two, cn, _, rfl, by omega, by omega, hx, hy, hcn, by omega, (ha.cons rfl (ha.cons rfl (ha.cons rfl (ha.cons rfl (ha.cons rfl (ha.cons rfl (ha.cons rfl (ha.cons rfl (ha.cons rfl (ha.cons rfl (ha.cons rfl (ha.cons rfl (ha.cons rfl (ha.cons rfl (ha.cons rfl (ha.cons rfl (ha.cons rfl (ha.nil)))))))))))))))))), hw⟩
        ·
          replace h494 := of_decide_eq_false h494
          refine Tr.exitE ?_
          refine Arr.seqX ?_
          refine Arr.seqX ?_
          refine Arr.blockE ?_
          refine Arr.seq ?_
          refine Tr.region ?_
          refine TL.val (YF.move rfl) (by decide) ?_
          refine TL.val (YF.move rfl) (by decide) ?_
          refine TL.val (YF.move rfl) (by decide) ?_
          refine TL.val (YF.move rfl) (by decide) ?_
          refine TL.val (YF.nilCheck rfl) (by decide) ?_
          refine TL.val (YF.fieldAddr fo_47_2 rfl rfl) (by decide) ?_
          refine TL.val (YF.indexArr arr_45 rfl rfl (by first | decide | omega) rfl) (by decide) ?_
          refine TL.val (YF.indexArr arr_44 rfl rfl (by first | decide | omega) (show _ = 337 + (2 * g + c) by omega)) (by decide) ?_
          refine TL.storeV 2 (_ :: _ :: _ :: _) rfl rfl rfl sz_43 rfl (by rw [va_size]; omega) (fr_setL (by omega)) rfl ?_
          refine TL.end ?_
          refine Arr.block ?_
          refine Arr.seq ?_
          refine Tr.region ?_
          refine TL.val (YF.add rfl rfl (IntWalk.i64_in _ (by omega))) (by decide) ?_
          refine TL.val (YF.move rfl) (by decide) ?_
          refine TL.end ?_
          rw [show 337 + (2 * g + c) - 337 = 2 * g + c by omega]
          exact fun a w ha hw => ⟨_, by omega, c + 1, k, x, upd y (2 * g + c) (.slice (some ⟨bl, 0, none⟩) 576 576), (bl, .cells (va 576 (fl .f32 l)) 82 (0, 0)) :: L, ch, rfl, by omega, by omega, hx, fun i hi => by
            by_cases e : i = 2 * g + c
            · subst e; rw [upd_at]; exact .inr ⟨bl, _, _, rfl, List.mem_cons_self, fun _ _ => rfl⟩
            · rw [upd_ne _ _ e]; exact (hy i hi).mono fun q hq => List.mem_cons_of_mem _ hq, hch, by omega, (ha.cons rfl (ha.cons rfl (ha.cons rfl (ha.cons rfl (ha.cons rfl (ha.cons rfl (ha.cons rfl (ha.cons rfl (ha.cons rfl (ha.cons rfl (ha.cons rfl (ha.nil)))))))))))), hw.perm (List.perm_middle (l₁ := [_, _, _, _, _]))⟩
    ·
      replace h46 := of_decide_eq_false h46
      refine Tr.exitE ?_
      refine Arr.seqX ?_
      refine Arr.seqX ?_
      refine Arr.blockE ?_
      refine Arr.block ?_
      refine Arr.seq ?_
      refine Tr.region ?_
      refine TL.val (YF.add rfl rfl (IntWalk.i64_in _ (by omega))) (by decide) ?_
      refine TL.val (YF.move rfl) (by decide) ?_
      refine TL.end ?_
      exact fun a w ha hw => ⟨_, by omega, g + 1, k, x, y, L, rfl, by omega, by omega, hx, hy, (ha.cons rfl (ha.cons rfl (ha.cons rfl (ha.cons rfl (ha.cons rfl (ha.cons rfl (ha.cons rfl (ha.cons rfl (ha.nil))))))))), hw⟩
  ·
    replace h41 := of_decide_eq_false h41
    refine Tr.exitE ?_
    refine Arr.seqX ?_
    refine Arr.seqX ?_
    refine Arr.blockE ?_
    refine Arr.seq ?_
    refine Tr.seq ?_
    refine Tr.seq ?_
    refine Tr.region ?_
    refine TL.val (YF.loadAll 4 agg_27 rfl rfl (va_size _ _)) (by decide) ?_
    refine TL.call (vs := [_]) call_10 rfl (by decide) (channels_ct _ w0 _) ?_
    rintro _ _ ⟨rfl, rfl⟩
    refine TL.val (YF.move rfl) (by decide) ?_
    refine TL.end ?_
    refine Arr.seq ?_
    refine Tr.block ?_
    refine Tr.loop (I := fun q a w => ∃ (c : Nat) (k : Int) (x : Nat → Int) (y : Nat → Value) (L : Hp) (ch : Int), (q = (2 - c : Nat)) ∧ (c ≤ 2) ∧ (0 ≤ k ∧ k ≤ 2000 + 10 * c) ∧ (FI h x) ∧ (∀ i, i < 4 → LO L (y i)) ∧ (1 ≤ ch ∧ ch ≤ 2) ∧ ((c : Int) ≤ ch) ∧ Agree 631 [(1, .slice nd nl nc), (3, .pointer (some ⟨b3, 0, none⟩)), (6, .pointer (some ⟨b6, 0, none⟩)), (7, .pointer (some ⟨b7, 0, none⟩)), (9, .func (.func 22) #[] #[.pointer (some ⟨b8, 0, none⟩), .pointer (some ⟨b5, 0, none⟩)]), (10, .pointer (some ⟨b7, 7, none⟩)), (11, .pointer (some ⟨b7, 93, none⟩)), (572, .int .i64 ch), (573, .int .i64 c)] a ∧ HS w0 ((b8, .cells #[.int .i64 k] 3 (0, 0)) :: (b7, .cells (va 341 (fr x y)) 49 (0, 0)) :: (b6, .cells Zv_49 49 (0, 0)) :: (b5, .cells #[.slice ad vl vc] 24 (0, 0)) :: (b3, .cells (va 7 (sd h)) 27 (0, 0)) :: (L ++ H)) w) ((2 - (0) : Nat)) ?_ ?_
    · intro a w ha hw
      exact ⟨0, k, x, y, L, (if h 3 = 3 then 1 else 2), rfl, by omega, by omega, hx, hy, by split <;> omega, by split <;> omega, (ha.cons rfl (ha.cons rfl (ha.cons rfl (ha.cons rfl (ha.cons rfl (ha.cons rfl (ha.cons rfl (ha.cons rfl (ha.cons rfl (ha.nil)))))))))), hw⟩
    try clear hk
    try clear hx
    try clear hy
    try clear hx1
    try clear hx2
    try clear hk'
    try clear hr
    try clear hnn
    try clear htb
    try clear hla
    try clear hlb
    try clear hcn
    try clear htp
    try clear htt
    try clear htv0
    try clear hbig
    try clear hmm1
    try clear hmm2
    rintro _ a w ⟨c, k, x, y, L, ch, rfl, hc, hk, hx, hy, hch, hcc, ha, hw⟩
    refine Tr.use ha hw ?_
    refine Tr.seq ?_
    refine Tr.region ?_
    refine TL.val (YF.lss rfl rfl rfl) (by decide) ?_
    refine TL.end ?_
    refine Arr.seq ?_
    refine Tr.seq ?_
    refine Tr.cond rfl (fun h574 => ?_) (fun h574 => ?_)
    ·
      replace h574 := of_decide_eq_true h574
      refine Tr.skipE ?_
      refine Arr.seq ?_
      refine Tr.seq ?_
      refine Tr.block ?_
      refine Tr.seq ?_
      refine Tr.region ?_
      refine TL.val (YF.move rfl) (by decide) ?_
      refine TL.val (YF.assign rfl) (by decide) ?_
      refine TL.end ?_
      refine Arr.seq ?_
      refine Tr.seq ?_
      refine Tr.seq ?_
      refine Tr.region ?_
      refine TL.val (YF.move rfl) (by decide) ?_
      refine TL.val (YF.nilCheck rfl) (by decide) ?_
      refine TL.val (YF.loadAgg 1 agg_36 rfl rfl (by rw [va_size]; decide) fr_side) (by decide) ?_
      refine TL.val (YF.move rfl) (by decide) ?_
      refine TL.call (vs := [_, _, _]) call_23 rfl (by decide) (short_ct _ 0 c (by omega) (by omega) w0 _) ?_
      rintro _ _ ⟨sb, rfl, hsb, rfl⟩
      cases sb
      ·
        refine TL.val (YF.move rfl) (by decide) ?_
        first
          | refine TL.gno rfl (by decide) ?_
          | refine TL.gval rfl (YF.move rfl) (by decide) ?_
        first
          | refine TL.gno rfl (by decide) ?_
          | refine TL.gval rfl (YF.nilCheck rfl) (by decide) ?_
        first
          | refine TL.gno rfl (by decide) ?_
          | refine TL.gval rfl (YF.loadAgg 1 agg_36 rfl rfl (by rw [va_size]; decide) fr_side) (by decide) ?_
        first
          | refine TL.gno rfl (by decide) ?_
          | refine TL.gval rfl (YF.move rfl) (by decide) ?_
        first
          | refine TL.gno rfl (by decide) ?_
          | (refine TL.geff rfl (EF.call (vs := [_, _, _]) call_23 rfl (short_ct _ 1 c (by omega) (by omega) w0 _)) (by decide) ?_
             rintro _ _ ⟨sb, rfl, hsb, rfl⟩)
        first
          | refine TL.val (YF.pickT rfl rfl) (by decide) ?_
          | refine TL.val (YF.pickF rfl rfl) (by decide) ?_
          | refine TL.val (YF.pick rfl rfl rfl rfl) (by decide) ?_
        refine TL.end ?_
        refine Arr.seq ?_
        refine Tr.cond rfl (fun h587 => ?_) (fun h587 => ?_)
        ·
          refine Tr.exitE ?_
          refine Arr.seqX ?_
          refine Arr.blockE ?_
          refine Arr.seq ?_
          refine Tr.region ?_
          refine TL.val (YF.add rfl rfl (IntWalk.i64_in _ (by omega))) (by decide) ?_
          refine TL.val (YF.move rfl) (by decide) ?_
          refine TL.end ?_
          exact fun a w ha hw => ⟨_, by omega, c + 1, k, x, y, L, ch, rfl, by omega, by omega, hx, hy, hch, by omega, (ha.cons rfl (ha.cons rfl (ha.cons rfl (ha.cons rfl (ha.cons rfl (ha.cons rfl (ha.cons rfl (ha.cons rfl (ha.cons rfl (ha.nil)))))))))), hw⟩
        ·
          refine Tr.skipE ?_
          refine Arr.seq ?_
          refine Tr.seq ?_
          refine Tr.region ?_
          refine TL.val (YF.move rfl) (by decide) ?_
          refine TL.end ?_
          refine Arr.seq ?_
          refine Tr.block ?_
          refine Tr.loop (I := fun q a w => ∃ (j : Nat) (k : Int) (x : Nat → Int) (y : Nat → Value) (L : Hp) (ch : Int), (q = (4 - j : Nat)) ∧ (j ≤ 4) ∧ (0 ≤ k ∧ k ≤ 2000 + 10 * c + j) ∧ (FI h x) ∧ (∀ i, i < 4 → LO L (y i)) ∧ (1 ≤ ch ∧ ch ≤ 2) ∧ ((c : Int) < ch) ∧ Agree 631 [(1, .slice nd nl nc), (3, .pointer (some ⟨b3, 0, none⟩)), (6, .pointer (some ⟨b6, 0, none⟩)), (7, .pointer (some ⟨b7, 0, none⟩)), (9, .func (.func 22) #[] #[.pointer (some ⟨b8, 0, none⟩), .pointer (some ⟨b5, 0, none⟩)]), (10, .pointer (some ⟨b7, 7, none⟩)), (11, .pointer (some ⟨b7, 93, none⟩)), (32, .int .i64 c), (572, .int .i64 ch), (573, .int .i64 c), (588, .int .i64 j)] a ∧ HS w0 ((b8, .cells #[.int .i64 k] 3 (0, 0)) :: (b7, .cells (va 341 (fr x y)) 49 (0, 0)) :: (b6, .cells Zv_49 49 (0, 0)) :: (b5, .cells #[.slice ad vl vc] 24 (0, 0)) :: (b3, .cells (va 7 (sd h)) 27 (0, 0)) :: (L ++ H)) w) ((4 - (0) : Nat)) ?_ ?_
          · intro a w ha hw
            exact ⟨0, k, x, y, L, ch, rfl, by omega, by omega, hx, hy, hch, by omega, (ha.cons rfl (ha.cons rfl (ha.cons rfl (ha.cons rfl (ha.cons rfl (ha.cons rfl (ha.cons rfl (ha.cons rfl (ha.cons rfl (ha.cons rfl (ha.cons rfl (ha.nil)))))))))))), hw⟩
          try clear hk
          try clear hx
          try clear hy
          try clear hx1
          try clear hx2
          try clear hk'
          try clear hr
          try clear hnn
          try clear htb
          try clear hla
          try clear hlb
          try clear hcn
          try clear htp
          try clear htt
          try clear htv0
          try clear hbig
          try clear hmm1
          try clear hmm2
          rintro _ a w ⟨j, k, x, y, L, ch, rfl, hj, hk, hx, hy, hch, hcc, ha, hw⟩
          refine Tr.use ha hw ?_
          refine Tr.seq ?_
          refine Tr.region ?_
          refine TL.val (YF.lss rfl rfl rfl) (by decide) ?_
          refine TL.end ?_
          refine Arr.seq ?_
          refine Tr.seq ?_
          refine Tr.cond rfl (fun h589 => ?_) (fun h589 => ?_)
          ·
            replace h589 := of_decide_eq_true h589
            refine Tr.skipE ?_
            refine Arr.seq ?_
            refine Tr.seq ?_
            refine Tr.block ?_
            refine Tr.seq ?_
            refine Tr.region ?_
            refine TL.val (YF.move rfl) (by decide) ?_
            refine TL.val (YF.assign rfl) (by decide) ?_
            refine TL.end ?_
            refine Arr.seq ?_
            refine Tr.seq ?_
            refine Tr.seq ?_
            refine Tr.region ?_
            refine TL.val (YF.move rfl) (by decide) ?_
            refine TL.callv (vs := [_]) rfl call_22 rfl (by decide) (next_ct 0 3 _ k b8 b5 ad vl vc _ _ w0 _ rfl rfl (by decide) (by omega) (by omega) hv hvl) ?_
            rintro _ _ ⟨r, k, hk', rfl, hr, rfl⟩
            refine TL.heap (_ :: _ :: _ :: _ :: _ :: _) rfl ?_
            refine TL.val (YF.gtr rfl rfl rfl) (by decide) ?_
            refine TL.end ?_
            refine Arr.seq ?_
            refine Tr.cond rfl (fun h593 => ?_) (fun h593 => ?_)
            ·
              replace h593 := of_decide_eq_true h593
              refine Tr.exitE ?_
              refine Arr.seqX ?_
              refine Arr.blockE ?_
              refine Arr.seq ?_
              refine Tr.region ?_
              refine TL.val (YF.add rfl rfl (IntWalk.i64_in _ (by omega))) (by decide) ?_
              refine TL.val (YF.move rfl) (by decide) ?_
              refine TL.end ?_
              exact fun a w ha hw => ⟨_, by omega, j + 1, k, x, y, L, ch, rfl, by omega, by omega, hx, hy, hch, hcc, (ha.cons rfl (ha.cons rfl (ha.cons rfl (ha.cons rfl (ha.cons rfl (ha.cons rfl (ha.cons rfl (ha.cons rfl (ha.cons rfl (ha.cons rfl (ha.cons rfl (ha.nil)))))))))))), hw⟩
            ·
              replace h593 := of_decide_eq_false h593
              refine Tr.skipE ?_
              refine Arr.seq ?_
              refine Tr.seq ?_
              refine Tr.region ?_
              refine TL.val (YF.move rfl) (by decide) ?_
              refine TL.val (YF.move rfl) (by decide) ?_
              refine TL.val (YF.move rfl) (by decide) ?_
              refine TL.val (YF.nilCheck rfl) (by decide) ?_
              refine TL.val (YF.fieldAddr fo_36_2 rfl rfl) (by decide) ?_
              refine TL.val (YF.indexArr arr_29 rfl rfl (by first | decide | omega) rfl) (by decide) ?_
              refine TL.val (YF.indexArr arr_28 rfl rfl (by first | decide | omega) rfl) (by decide) ?_
              refine TL.eff0 (EF.storeF 1 rfl rfl rfl sz_3 hx (by omega) (by intro hq93; first | omega | exact lim_of (by omega) (by omega) (by omega)) (by omega) (by omega)) ?_
              rintro _ _ ⟨x, hx, hx1, hx2, rfl⟩
              refine TL.heap (_ :: _ :: _ :: _ :: _ :: _) rfl ?_
              refine TL.end ?_
              refine Arr.seq ?_
              refine Tr.seq ?_
              refine Tr.region ?_
              refine TL.val (YF.move rfl) (by decide) ?_
              refine TL.end ?_
              refine Arr.seq ?_
              refine Tr.block ?_
              refine Tr.loop (I := fun q a w => ∃ (u : Nat) (k : Int) (x : Nat → Int) (y : Nat → Value) (L : Hp) (ch : Int), (q = (21 - u : Nat)) ∧ (u ≤ 21) ∧ (0 ≤ k ∧ k ≤ 2000 + 10 * c + j + 1) ∧ (FI h x) ∧ (∀ i, i < 4 → LO L (y i)) ∧ (1 ≤ ch ∧ ch ≤ 2) ∧ ((c : Int) < ch) ∧ Agree 631 [(1, .slice nd nl nc), (3, .pointer (some ⟨b3, 0, none⟩)), (6, .pointer (some ⟨b6, 0, none⟩)), (7, .pointer (some ⟨b7, 0, none⟩)), (9, .func (.func 22) #[] #[.pointer (some ⟨b8, 0, none⟩), .pointer (some ⟨b5, 0, none⟩)]), (10, .pointer (some ⟨b7, 7, none⟩)), (11, .pointer (some ⟨b7, 93, none⟩)), (32, .int .i64 c), (33, .int .i64 j), (572, .int .i64 ch), (573, .int .i64 c), (588, .int .i64 j), (601, .int .i64 u)] a ∧ HS w0 ((b8, .cells #[.int .i64 k] 3 (0, 0)) :: (b7, .cells (va 341 (fr x y)) 49 (0, 0)) :: (b6, .cells Zv_49 49 (0, 0)) :: (b5, .cells #[.slice ad vl vc] 24 (0, 0)) :: (b3, .cells (va 7 (sd h)) 27 (0, 0)) :: (L ++ H)) w) ((21 - (0) : Nat)) ?_ ?_
              · intro a w ha hw
                exact ⟨0, k, x, y, L, ch, rfl, by omega, by omega, hx, hy, hch, hcc, (ha.cons rfl (ha.cons rfl (ha.cons rfl (ha.cons rfl (ha.cons rfl (ha.cons rfl (ha.cons rfl (ha.cons rfl (ha.cons rfl (ha.cons rfl (ha.cons rfl (ha.cons rfl (ha.cons rfl (ha.nil)))))))))))))), hw⟩
              try clear hk
              try clear hx
              try clear hy
              try clear hx1
              try clear hx2
              try clear hk'
              try clear hr
              try clear hnn
              try clear htb
              try clear hla
              try clear hlb
              try clear hcn
              try clear htp
              try clear htt
              try clear htv0
              try clear hbig
              try clear hmm1
              try clear hmm2
              rintro _ a w ⟨u, k, x, y, L, ch, rfl, hu, hk, hx, hy, hch, hcc, ha, hw⟩
              refine Tr.use ha hw ?_
              refine Tr.seq ?_
              refine Tr.region ?_
              refine TL.val (YF.lss rfl rfl rfl) (by decide) ?_
              refine TL.end ?_
              refine Arr.seq ?_
              refine Tr.seq ?_
              refine Tr.cond rfl (fun h602 => ?_) (fun h602 => ?_)
              ·
                replace h602 := of_decide_eq_true h602
                refine Tr.skipE ?_
                refine Arr.seq ?_
                refine Tr.seq ?_
                refine Tr.block ?_
                refine Tr.seq ?_
                refine Tr.region ?_
                refine TL.val (YF.move rfl) (by decide) ?_
                refine TL.val (YF.assign rfl) (by decide) ?_
                refine TL.end ?_
                refine Arr.seq ?_
                refine Tr.seq ?_
                refine Tr.region ?_
                refine TL.buildSlice (vs := [(0, (.int .i64 0)), (1, (.int .i64 0)), (2, (.int .i64 0)), (3, (.int .i64 0)), (4, (.int .i64 0)), (5, (.int .i64 0)), (6, (.int .i64 1)), (7, (.int .i64 1)), (8, (.int .i64 1)), (9, (.int .i64 1)), (10, (.int .i64 1)), (11, (.int .i64 2)), (12, (.int .i64 2)), (13, (.int .i64 2)), (14, (.int .i64 2)), (15, (.int .i64 2)), (16, (.int .i64 3)), (17, (.int .i64 3)), (18, (.int .i64 3)), (19, (.int .i64 3)), (20, (.int .i64 3))]) (cs := #[.int .i64 0, .int .i64 0, .int .i64 0, .int .i64 0, .int .i64 0, .int .i64 0, .int .i64 1, .int .i64 1, .int .i64 1, .int .i64 1, .int .i64 1, .int .i64 2, .int .i64 2, .int .i64 2, .int .i64 2, .int .i64 2, .int .i64 3, .int .i64 3, .int .i64 3, .int .i64 3, .int .i64 3]) sl_78 zero_3 rfl rfl (by kernel_rfl) rfl (by decide) (fun b => ?_)
                refine TL.val (YF.move rfl) (by decide) ?_
                obtain ⟨tv, htv, htv0⟩ := ints_get (cs := #[.int .i64 0, .int .i64 0, .int .i64 0, .int .i64 0, .int .i64 0, .int .i64 0, .int .i64 1, .int .i64 1, .int .i64 1, .int .i64 1, .int .i64 1, .int .i64 2, .int .i64 2, .int .i64 2, .int .i64 2, .int .i64 2, .int .i64 3, .int .i64 3, .int .i64 3, .int .i64 3, .int .i64 3]) 0 3 (by decide) u (by show _ < 21; omega)
                refine TL.val (YF.indexSl sl_78 rfl rfl (by first | decide | omega) (show _ = u by omega)) (by decide) ?_
                refine TL.val (YF.load 0 sc_3 rfl rfl htv) (by decide) ?_
                refine TL.val (YF.move rfl) (by decide) ?_
                refine TL.val (YF.eql rfl rfl rfl) (by decide) ?_
                refine TL.end ?_
                refine Arr.seq ?_
                refine Tr.cond rfl (fun h609 => ?_) (fun h609 => ?_)
                ·
                  replace h609 := of_decide_eq_true h609
                  refine Tr.drawE (_ :: _ :: _ :: _ :: _ :: _) (fun H => (H.eraseIdx 2)) rfl mixed_ ?_
                  refine TD.take 0 rfl (by kernel_rfl) (by kernel_rfl) (by kernel_rfl) (fun _ _ _ h => h) (by repeat first | exact List.Sublist.refl _ | apply List.Sublist.cons_cons | apply List.Sublist.cons) (YF.move rfl) (by decide) ?_
                  refine TD.take 1 rfl (by kernel_rfl) (by kernel_rfl) (by kernel_rfl) (fun _ _ _ h => h) (by repeat first | exact List.Sublist.refl _ | apply List.Sublist.cons_cons | apply List.Sublist.cons) (YF.move rfl) (by decide) ?_
                  refine TD.take 2 rfl (by kernel_rfl) (by kernel_rfl) (by kernel_rfl) (fun _ _ _ h => h) (by repeat first | exact List.Sublist.refl _ | apply List.Sublist.cons_cons | apply List.Sublist.cons) (YF.move rfl) (by decide) ?_
                  refine TD.take 3 rfl (by kernel_rfl) (by kernel_rfl) (by kernel_rfl) (fun _ _ _ h => h) (by repeat first | exact List.Sublist.refl _ | apply List.Sublist.cons_cons | apply List.Sublist.cons) (YF.move rfl) (by decide) ?_
                  refine TD.take 4 rfl (by kernel_rfl) (by kernel_rfl) (by kernel_rfl) (fun _ _ _ h => h) (by repeat first | exact List.Sublist.refl _ | apply List.Sublist.cons_cons | apply List.Sublist.cons) (YF.move rfl) (by decide) ?_
                  refine TD.take 5 rfl (by kernel_rfl) (by kernel_rfl) (by kernel_rfl) (fun _ _ _ h => h) (by repeat first | exact List.Sublist.refl _ | apply List.Sublist.cons_cons | apply List.Sublist.cons) (YF.move rfl) (by decide) ?_
                  refine TD.take 6 rfl (by kernel_rfl) (by kernel_rfl) (by kernel_rfl) (fun _ _ _ h => h) (by repeat first | exact List.Sublist.refl _ | apply List.Sublist.cons_cons | apply List.Sublist.cons) (YF.nilCheck rfl) (by decide) ?_
                  refine TD.take 7 rfl (by kernel_rfl) (by kernel_rfl) (by kernel_rfl) (fun _ _ _ h => h) (by repeat first | exact List.Sublist.refl _ | apply List.Sublist.cons_cons | apply List.Sublist.cons) (YF.fieldAddr fo_47_0 rfl rfl) (by decide) ?_
                  refine TD.take 8 rfl (by kernel_rfl) (by kernel_rfl) (by kernel_rfl) (fun _ _ _ h => h) (by repeat first | exact List.Sublist.refl _ | apply List.Sublist.cons_cons | apply List.Sublist.cons) (YF.indexArr arr_39 rfl rfl (by first | decide | omega) rfl) (by decide) ?_
                  refine TD.take 9 rfl (by kernel_rfl) (by kernel_rfl) (by kernel_rfl) (fun _ _ _ h => h) (by repeat first | exact List.Sublist.refl _ | apply List.Sublist.cons_cons | apply List.Sublist.cons) (YF.indexArr arr_38 rfl rfl (by first | decide | omega) rfl) (by decide) ?_
                  refine TD.take 10 rfl (by kernel_rfl) (by kernel_rfl) (by kernel_rfl) (fun _ _ _ h => h) (by repeat first | exact List.Sublist.refl _ | apply List.Sublist.cons_cons | apply List.Sublist.cons) (YF.indexArr arr_37 rfl rfl (by first | decide | omega) rfl) (by decide) ?_
                  refine TD.take 12 rfl (by kernel_rfl) (by kernel_rfl) (by kernel_rfl) (fun _ _ _ h => h) (by repeat first | exact List.Sublist.refl _ | apply List.Sublist.cons_cons | apply List.Sublist.cons) (YF.nilCheck rfl) (by decide) ?_
                  refine TD.take 13 rfl (by kernel_rfl) (by kernel_rfl) (by kernel_rfl) (fun _ _ _ h => h) (by repeat first | exact List.Sublist.refl _ | apply List.Sublist.cons_cons | apply List.Sublist.cons) (YF.fieldAddr fo_47_0 rfl rfl) (by decide) ?_
                  refine TD.take 14 rfl (by kernel_rfl) (by kernel_rfl) (by kernel_rfl) (fun _ _ _ h => h) (by repeat first | exact List.Sublist.refl _ | apply List.Sublist.cons_cons | apply List.Sublist.cons) (YF.indexArr arr_39 rfl rfl (by first | decide | omega) rfl) (by decide) ?_
                  refine TD.take 15 rfl (by kernel_rfl) (by kernel_rfl) (by kernel_rfl) (fun _ _ _ h => h) (by repeat first | exact List.Sublist.refl _ | apply List.Sublist.cons_cons | apply List.Sublist.cons) (YF.indexArr arr_38 rfl rfl (by first | decide | omega) rfl) (by decide) ?_
                  refine TD.eff 11 rfl (by kernel_rfl) (YF.ef (YF.load 2 sc_3 rfl rfl (fr_int (by omega)))) (by decide) (by rintro _ _ ⟨rfl, rfl⟩; exact (by repeat first | exact List.Sublist.refl _ | apply List.Sublist.cons_cons | apply List.Sublist.cons)) ?_
                  rintro _ _ ⟨rfl, rfl⟩
                  refine TD.take 16 rfl (by kernel_rfl) (by kernel_rfl) (by kernel_rfl) (fun _ _ _ h => h) (by repeat first | exact List.Sublist.refl _ | apply List.Sublist.cons_cons | apply List.Sublist.cons) (YF.indexArr arr_37 rfl rfl (by first | decide | omega) rfl) (by decide) ?_
                  refine TD.eff0 17 rfl (by kernel_rfl) (EF.storeF 2 rfl rfl rfl sz_3 hx (by omega) (by intro hq93; first | omega | exact lim_of (by omega) (by omega) (by omega)) (by omega) (by omega)) (by rintro _ _ ⟨x', _, _, _, rfl⟩; exact (by repeat first | exact List.Sublist.refl _ | apply List.Sublist.cons_cons | apply List.Sublist.cons)) ?_
                  rintro _ _ ⟨x, hx, hx1, hx2, rfl⟩
                  refine TD.heap (_ :: _ :: _ :: _ :: _ :: _ :: _) rfl ?_
                  refine TD.end (by kernel_rfl) ?_
                  refine Arr.block ?_
                  refine Arr.seq ?_
                  refine Tr.region ?_
                  refine TL.val (YF.add rfl rfl (IntWalk.i64_in _ (by omega))) (by decide) ?_
                  refine TL.val (YF.move rfl) (by decide) ?_
                  refine TL.end ?_
                  exact fun a w ha hw => ⟨_, by omega, u + 1, k, x, y, L, ch, rfl, by omega, by omega, hx, hy, hch, hcc, (ha.cons rfl (ha.cons rfl (ha.cons rfl (ha.cons rfl (ha.cons rfl (ha.cons rfl (ha.cons rfl (ha.cons rfl (ha.cons rfl (ha.cons rfl (ha.cons rfl (ha.cons rfl (ha.cons rfl (ha.nil)))))))))))))), hw.mono (by repeat first | exact List.Sublist.refl _ | apply List.Sublist.cons)⟩
                ·
                  replace h609 := of_decide_eq_false h609
                  refine Tr.skipE ?_
                  refine Arr.block ?_
                  refine Arr.seq ?_
                  refine Tr.region ?_
                  refine TL.val (YF.add rfl rfl (IntWalk.i64_in _ (by omega))) (by decide) ?_
                  refine TL.val (YF.move rfl) (by decide) ?_
                  refine TL.end ?_
                  exact fun a w ha hw => ⟨_, by omega, u + 1, k, x, y, L, ch, rfl, by omega, by omega, hx, hy, hch, hcc, (ha.cons rfl (ha.cons rfl (ha.cons rfl (ha.cons rfl (ha.cons rfl (ha.cons rfl (ha.cons rfl (ha.cons rfl (ha.cons rfl (ha.cons rfl (ha.cons rfl (ha.cons rfl (ha.cons rfl (ha.nil)))))))))))))), hw.mono (by repeat first | exact List.Sublist.refl _ | apply List.Sublist.cons)⟩
              ·
                replace h602 := of_decide_eq_false h602
                refine Tr.exitE ?_
                refine Arr.seqX ?_
                refine Arr.seqX ?_
                refine Arr.blockE ?_
                refine Arr.block ?_
                refine Arr.seq ?_
                refine Tr.region ?_
                refine TL.val (YF.add rfl rfl (IntWalk.i64_in _ (by omega))) (by decide) ?_
                refine TL.val (YF.move rfl) (by decide) ?_
                refine TL.end ?_
                exact fun a w ha hw => ⟨_, by omega, j + 1, k, x, y, L, ch, rfl, by omega, by omega, hx, hy, hch, hcc, (ha.cons rfl (ha.cons rfl (ha.cons rfl (ha.cons rfl (ha.cons rfl (ha.cons rfl (ha.cons rfl (ha.cons rfl (ha.cons rfl (ha.cons rfl (ha.cons rfl (ha.nil)))))))))))), hw⟩
          ·
            replace h589 := of_decide_eq_false h589
            refine Tr.exitE ?_
            refine Arr.seqX ?_
            refine Arr.seqX ?_
            refine Arr.blockE ?_
            refine Arr.block ?_
            refine Arr.seq ?_
            refine Tr.region ?_
            refine TL.val (YF.add rfl rfl (IntWalk.i64_in _ (by omega))) (by decide) ?_
            refine TL.val (YF.move rfl) (by decide) ?_
            refine TL.end ?_
            exact fun a w ha hw => ⟨_, by omega, c + 1, k, x, y, L, ch, rfl, by omega, by omega, hx, hy, hch, by omega, (ha.cons rfl (ha.cons rfl (ha.cons rfl (ha.cons rfl (ha.cons rfl (ha.cons rfl (ha.cons rfl (ha.cons rfl (ha.cons rfl (ha.nil)))))))))), hw⟩
      ·
        refine TL.val (YF.move rfl) (by decide) ?_
        first
          | refine TL.gno rfl (by decide) ?_
          | refine TL.gval rfl (YF.move rfl) (by decide) ?_
        first
          | refine TL.gno rfl (by decide) ?_
          | refine TL.gval rfl (YF.nilCheck rfl) (by decide) ?_
        first
          | refine TL.gno rfl (by decide) ?_
          | refine TL.gval rfl (YF.loadAgg 1 agg_36 rfl rfl (by rw [va_size]; decide) fr_side) (by decide) ?_
        first
          | refine TL.gno rfl (by decide) ?_
          | refine TL.gval rfl (YF.move rfl) (by decide) ?_
        first
          | refine TL.gno rfl (by decide) ?_
          | (refine TL.geff rfl (EF.call (vs := [_, _, _]) call_23 rfl (short_ct _ 1 c (by omega) (by omega) w0 _)) (by decide) ?_
             rintro _ _ ⟨sb, rfl, hsb, rfl⟩)
        first
          | refine TL.val (YF.pickT rfl rfl) (by decide) ?_
          | refine TL.val (YF.pickF rfl rfl) (by decide) ?_
          | refine TL.val (YF.pick rfl rfl rfl rfl) (by decide) ?_
        refine TL.end ?_
        refine Arr.seq ?_
        refine Tr.cond rfl (fun h587 => ?_) (fun h587 => ?_)
        ·
          refine Tr.exitE ?_
          refine Arr.seqX ?_
          refine Arr.blockE ?_
          refine Arr.seq ?_
          refine Tr.region ?_
          refine TL.val (YF.add rfl rfl (IntWalk.i64_in _ (by omega))) (by decide) ?_
          refine TL.val (YF.move rfl) (by decide) ?_
          refine TL.end ?_
          exact fun a w ha hw => ⟨_, by omega, c + 1, k, x, y, L, ch, rfl, by omega, by omega, hx, hy, hch, by omega, (ha.cons rfl (ha.cons rfl (ha.cons rfl (ha.cons rfl (ha.cons rfl (ha.cons rfl (ha.cons rfl (ha.cons rfl (ha.cons rfl (ha.nil)))))))))), hw⟩
        ·
          refine Tr.skipE ?_
          refine Arr.seq ?_
          refine Tr.seq ?_
          refine Tr.region ?_
          refine TL.val (YF.move rfl) (by decide) ?_
          refine TL.end ?_
          refine Arr.seq ?_
          refine Tr.block ?_
          refine Tr.loop (I := fun q a w => ∃ (j : Nat) (k : Int) (x : Nat → Int) (y : Nat → Value) (L : Hp) (ch : Int), (q = (4 - j : Nat)) ∧ (j ≤ 4) ∧ (0 ≤ k ∧ k ≤ 2000 + 10 * c + j) ∧ (FI h x) ∧ (∀ i, i < 4 → LO L (y i)) ∧ (1 ≤ ch ∧ ch ≤ 2) ∧ ((c : Int) < ch) ∧ Agree 631 [(1, .slice nd nl nc), (3, .pointer (some ⟨b3, 0, none⟩)), (6, .pointer (some ⟨b6, 0, none⟩)), (7, .pointer (some ⟨b7, 0, none⟩)), (9, .func (.func 22) #[] #[.pointer (some ⟨b8, 0, none⟩), .pointer (some ⟨b5, 0, none⟩)]), (10, .pointer (some ⟨b7, 7, none⟩)), (11, .pointer (some ⟨b7, 93, none⟩)), (32, .int .i64 c), (572, .int .i64 ch), (573, .int .i64 c), (588, .int .i64 j)] a ∧ HS w0 ((b8, .cells #[.int .i64 k] 3 (0, 0)) :: (b7, .cells (va 341 (fr x y)) 49 (0, 0)) :: (b6, .cells Zv_49 49 (0, 0)) :: (b5, .cells #[.slice ad vl vc] 24 (0, 0)) :: (b3, .cells (va 7 (sd h)) 27 (0, 0)) :: (L ++ H)) w) ((4 - (0) : Nat)) ?_ ?_
          · intro a w ha hw
            exact ⟨0, k, x, y, L, ch, rfl, by omega, by omega, hx, hy, hch, by omega, (ha.cons rfl (ha.cons rfl (ha.cons rfl (ha.cons rfl (ha.cons rfl (ha.cons rfl (ha.cons rfl (ha.cons rfl (ha.cons rfl (ha.cons rfl (ha.cons rfl (ha.nil)))))))))))), hw⟩
          try clear hk
          try clear hx
          try clear hy
          try clear hx1
          try clear hx2
          try clear hk'
          try clear hr
          try clear hnn
          try clear htb
          try clear hla
          try clear hlb
          try clear hcn
          try clear htp
          try clear htt
          try clear htv0
          try clear hbig
          try clear hmm1
          try clear hmm2
          rintro _ a w ⟨j, k, x, y, L, ch, rfl, hj, hk, hx, hy, hch, hcc, ha, hw⟩
          refine Tr.use ha hw ?_
          refine Tr.seq ?_
          refine Tr.region ?_
          refine TL.val (YF.lss rfl rfl rfl) (by decide) ?_
          refine TL.end ?_
          refine Arr.seq ?_
          refine Tr.seq ?_
          refine Tr.cond rfl (fun h589 => ?_) (fun h589 => ?_)
          ·
            replace h589 := of_decide_eq_true h589
            refine Tr.skipE ?_
            refine Arr.seq ?_
            refine Tr.seq ?_
            refine Tr.block ?_
            refine Tr.seq ?_
            refine Tr.region ?_
            refine TL.val (YF.move rfl) (by decide) ?_
            refine TL.val (YF.assign rfl) (by decide) ?_
            refine TL.end ?_
            refine Arr.seq ?_
            refine Tr.seq ?_
            refine Tr.seq ?_
            refine Tr.region ?_
            refine TL.val (YF.move rfl) (by decide) ?_
            refine TL.callv (vs := [_]) rfl call_22 rfl (by decide) (next_ct 0 3 _ k b8 b5 ad vl vc _ _ w0 _ rfl rfl (by decide) (by omega) (by omega) hv hvl) ?_
            rintro _ _ ⟨r, k, hk', rfl, hr, rfl⟩
            refine TL.heap (_ :: _ :: _ :: _ :: _ :: _) rfl ?_
            refine TL.val (YF.gtr rfl rfl rfl) (by decide) ?_
            refine TL.end ?_
            refine Arr.seq ?_
            refine Tr.cond rfl (fun h593 => ?_) (fun h593 => ?_)
            ·
              replace h593 := of_decide_eq_true h593
              refine Tr.exitE ?_
              refine Arr.seqX ?_
              refine Arr.blockE ?_
              refine Arr.seq ?_
              refine Tr.region ?_
              refine TL.val (YF.add rfl rfl (IntWalk.i64_in _ (by omega))) (by decide) ?_
              refine TL.val (YF.move rfl) (by decide) ?_
              refine TL.end ?_
              exact fun a w ha hw => ⟨_, by omega, j + 1, k, x, y, L, ch, rfl, by omega, by omega, hx, hy, hch, hcc, (ha.cons rfl (ha.cons rfl (ha.cons rfl (ha.cons rfl (ha.cons rfl (ha.cons rfl (ha.cons rfl (ha.cons rfl (ha.cons rfl (ha.cons rfl (ha.cons rfl (ha.nil)))))))))))), hw⟩
            ·
              replace h593 := of_decide_eq_false h593
              refine Tr.skipE ?_
              refine Arr.seq ?_
              refine Tr.seq ?_
              refine Tr.region ?_
              refine TL.val (YF.move rfl) (by decide) ?_
              refine TL.val (YF.move rfl) (by decide) ?_
              refine TL.val (YF.move rfl) (by decide) ?_
              refine TL.val (YF.nilCheck rfl) (by decide) ?_
              refine TL.val (YF.fieldAddr fo_36_2 rfl rfl) (by decide) ?_
              refine TL.val (YF.indexArr arr_29 rfl rfl (by first | decide | omega) rfl) (by decide) ?_
              refine TL.val (YF.indexArr arr_28 rfl rfl (by first | decide | omega) rfl) (by decide) ?_
              refine TL.eff0 (EF.storeF 1 rfl rfl rfl sz_3 hx (by omega) (by intro hq93; first | omega | exact lim_of (by omega) (by omega) (by omega)) (by omega) (by omega)) ?_
              rintro _ _ ⟨x, hx, hx1, hx2, rfl⟩
              refine TL.heap (_ :: _ :: _ :: _ :: _ :: _) rfl ?_
              refine TL.end ?_
              refine Arr.seq ?_
              refine Tr.seq ?_
              refine Tr.region ?_
              refine TL.val (YF.move rfl) (by decide) ?_
              refine TL.end ?_
              refine Arr.seq ?_
              refine Tr.block ?_
              refine Tr.loop (I := fun q a w => ∃ (u : Nat) (k : Int) (x : Nat → Int) (y : Nat → Value) (L : Hp) (ch : Int), (q = (21 - u : Nat)) ∧ (u ≤ 21) ∧ (0 ≤ k ∧ k ≤ 2000 + 10 * c + j + 1) ∧ (FI h x) ∧ (∀ i, i < 4 → LO L (y i)) ∧ (1 ≤ ch ∧ ch ≤ 2) ∧ ((c : Int) < ch) ∧ Agree 631 [(1, .slice nd nl nc), (3, .pointer (some ⟨b3, 0, none⟩)), (6, .pointer (some ⟨b6, 0, none⟩)), (7, .pointer (some ⟨b7, 0, none⟩)), (9, .func (.func 22) #[] #[.pointer (some ⟨b8, 0, none⟩), .pointer (some ⟨b5, 0, none⟩)]), (10, .pointer (some ⟨b7, 7, none⟩)), (11, .pointer (some ⟨b7, 93, none⟩)), (32, .int .i64 c), (33, .int .i64 j), (572, .int .i64 ch), (573, .int .i64 c), (588, .int .i64 j), (601, .int .i64 u)] a ∧ HS w0 ((b8, .cells #[.int .i64 k] 3 (0, 0)) :: (b7, .cells (va 341 (fr x y)) 49 (0, 0)) :: (b6, .cells Zv_49 49 (0, 0)) :: (b5, .cells #[.slice ad vl vc] 24 (0, 0)) :: (b3, .cells (va 7 (sd h)) 27 (0, 0)) :: (L ++ H)) w) ((21 - (0) : Nat)) ?_ ?_
              · intro a w ha hw
                exact ⟨0, k, x, y, L, ch, rfl, by omega, by omega, hx, hy, hch, hcc, (ha.cons rfl (ha.cons rfl (ha.cons rfl (ha.cons rfl (ha.cons rfl (ha.cons rfl (ha.cons rfl (ha.cons rfl (ha.cons rfl (ha.cons rfl (ha.cons rfl (ha.cons rfl (ha.cons rfl (ha.nil)))))))))))))), hw⟩
              try clear hk
              try clear hx
              try clear hy
              try clear hx1
              try clear hx2
              try clear hk'
              try clear hr
              try clear hnn
              try clear htb
              try clear hla
              try clear hlb
              try clear hcn
              try clear htp
              try clear htt
              try clear htv0
              try clear hbig
              try clear hmm1
              try clear hmm2
              rintro _ a w ⟨u, k, x, y, L, ch, rfl, hu, hk, hx, hy, hch, hcc, ha, hw⟩
              refine Tr.use ha hw ?_
              refine Tr.seq ?_
              refine Tr.region ?_
              refine TL.val (YF.lss rfl rfl rfl) (by decide) ?_
              refine TL.end ?_
              refine Arr.seq ?_
              refine Tr.seq ?_
              refine Tr.cond rfl (fun h602 => ?_) (fun h602 => ?_)
              ·
                replace h602 := of_decide_eq_true h602
                refine Tr.skipE ?_
                refine Arr.seq ?_
                refine Tr.seq ?_
                refine Tr.block ?_
                refine Tr.seq ?_
                refine Tr.region ?_
                refine TL.val (YF.move rfl) (by decide) ?_
                refine TL.val (YF.assign rfl) (by decide) ?_
                refine TL.end ?_
                refine Arr.seq ?_
                refine Tr.seq ?_
                refine Tr.region ?_
                refine TL.buildSlice (vs := [(0, (.int .i64 0)), (1, (.int .i64 0)), (2, (.int .i64 0)), (3, (.int .i64 0)), (4, (.int .i64 0)), (5, (.int .i64 0)), (6, (.int .i64 1)), (7, (.int .i64 1)), (8, (.int .i64 1)), (9, (.int .i64 1)), (10, (.int .i64 1)), (11, (.int .i64 2)), (12, (.int .i64 2)), (13, (.int .i64 2)), (14, (.int .i64 2)), (15, (.int .i64 2)), (16, (.int .i64 3)), (17, (.int .i64 3)), (18, (.int .i64 3)), (19, (.int .i64 3)), (20, (.int .i64 3))]) (cs := #[.int .i64 0, .int .i64 0, .int .i64 0, .int .i64 0, .int .i64 0, .int .i64 0, .int .i64 1, .int .i64 1, .int .i64 1, .int .i64 1, .int .i64 1, .int .i64 2, .int .i64 2, .int .i64 2, .int .i64 2, .int .i64 2, .int .i64 3, .int .i64 3, .int .i64 3, .int .i64 3, .int .i64 3]) sl_78 zero_3 rfl rfl (by kernel_rfl) rfl (by decide) (fun b => ?_)
                refine TL.val (YF.move rfl) (by decide) ?_
                obtain ⟨tv, htv, htv0⟩ := ints_get (cs := #[.int .i64 0, .int .i64 0, .int .i64 0, .int .i64 0, .int .i64 0, .int .i64 0, .int .i64 1, .int .i64 1, .int .i64 1, .int .i64 1, .int .i64 1, .int .i64 2, .int .i64 2, .int .i64 2, .int .i64 2, .int .i64 2, .int .i64 3, .int .i64 3, .int .i64 3, .int .i64 3, .int .i64 3]) 0 3 (by decide) u (by show _ < 21; omega)
                refine TL.val (YF.indexSl sl_78 rfl rfl (by first | decide | omega) (show _ = u by omega)) (by decide) ?_
                refine TL.val (YF.load 0 sc_3 rfl rfl htv) (by decide) ?_
                refine TL.val (YF.move rfl) (by decide) ?_
                refine TL.val (YF.eql rfl rfl rfl) (by decide) ?_
                refine TL.end ?_
                refine Arr.seq ?_
                refine Tr.cond rfl (fun h609 => ?_) (fun h609 => ?_)
                ·
                  replace h609 := of_decide_eq_true h609
                  refine Tr.drawE (_ :: _ :: _ :: _ :: _ :: _) (fun H => (H.eraseIdx 2)) rfl mixed_ ?_
                  refine TD.take 0 rfl (by kernel_rfl) (by kernel_rfl) (by kernel_rfl) (fun _ _ _ h => h) (by repeat first | exact List.Sublist.refl _ | apply List.Sublist.cons_cons | apply List.Sublist.cons) (YF.move rfl) (by decide) ?_
                  refine TD.take 1 rfl (by kernel_rfl) (by kernel_rfl) (by kernel_rfl) (fun _ _ _ h => h) (by repeat first | exact List.Sublist.refl _ | apply List.Sublist.cons_cons | apply List.Sublist.cons) (YF.move rfl) (by decide) ?_
                  refine TD.take 2 rfl (by kernel_rfl) (by kernel_rfl) (by kernel_rfl) (fun _ _ _ h => h) (by repeat first | exact List.Sublist.refl _ | apply List.Sublist.cons_cons | apply List.Sublist.cons) (YF.move rfl) (by decide) ?_
                  refine TD.take 3 rfl (by kernel_rfl) (by kernel_rfl) (by kernel_rfl) (fun _ _ _ h => h) (by repeat first | exact List.Sublist.refl _ | apply List.Sublist.cons_cons | apply List.Sublist.cons) (YF.move rfl) (by decide) ?_
                  refine TD.take 4 rfl (by kernel_rfl) (by kernel_rfl) (by kernel_rfl) (fun _ _ _ h => h) (by repeat first | exact List.Sublist.refl _ | apply List.Sublist.cons_cons | apply List.Sublist.cons) (YF.move rfl) (by decide) ?_
                  refine TD.take 5 rfl (by kernel_rfl) (by kernel_rfl) (by kernel_rfl) (fun _ _ _ h => h) (by repeat first | exact List.Sublist.refl _ | apply List.Sublist.cons_cons | apply List.Sublist.cons) (YF.move rfl) (by decide) ?_
                  refine TD.take 6 rfl (by kernel_rfl) (by kernel_rfl) (by kernel_rfl) (fun _ _ _ h => h) (by repeat first | exact List.Sublist.refl _ | apply List.Sublist.cons_cons | apply List.Sublist.cons) (YF.nilCheck rfl) (by decide) ?_
                  refine TD.take 7 rfl (by kernel_rfl) (by kernel_rfl) (by kernel_rfl) (fun _ _ _ h => h) (by repeat first | exact List.Sublist.refl _ | apply List.Sublist.cons_cons | apply List.Sublist.cons) (YF.fieldAddr fo_47_0 rfl rfl) (by decide) ?_
                  refine TD.take 8 rfl (by kernel_rfl) (by kernel_rfl) (by kernel_rfl) (fun _ _ _ h => h) (by repeat first | exact List.Sublist.refl _ | apply List.Sublist.cons_cons | apply List.Sublist.cons) (YF.indexArr arr_39 rfl rfl (by first | decide | omega) rfl) (by decide) ?_
                  refine TD.take 9 rfl (by kernel_rfl) (by kernel_rfl) (by kernel_rfl) (fun _ _ _ h => h) (by repeat first | exact List.Sublist.refl _ | apply List.Sublist.cons_cons | apply List.Sublist.cons) (YF.indexArr arr_38 rfl rfl (by first | decide | omega) rfl) (by decide) ?_
                  refine TD.take 10 rfl (by kernel_rfl) (by kernel_rfl) (by kernel_rfl) (fun _ _ _ h => h) (by repeat first | exact List.Sublist.refl _ | apply List.Sublist.cons_cons | apply List.Sublist.cons) (YF.indexArr arr_37 rfl rfl (by first | decide | omega) rfl) (by decide) ?_
                  refine TD.take 12 rfl (by kernel_rfl) (by kernel_rfl) (by kernel_rfl) (fun _ _ _ h => h) (by repeat first | exact List.Sublist.refl _ | apply List.Sublist.cons_cons | apply List.Sublist.cons) (YF.nilCheck rfl) (by decide) ?_
                  refine TD.take 13 rfl (by kernel_rfl) (by kernel_rfl) (by kernel_rfl) (fun _ _ _ h => h) (by repeat first | exact List.Sublist.refl _ | apply List.Sublist.cons_cons | apply List.Sublist.cons) (YF.fieldAddr fo_47_0 rfl rfl) (by decide) ?_
                  refine TD.take 14 rfl (by kernel_rfl) (by kernel_rfl) (by kernel_rfl) (fun _ _ _ h => h) (by repeat first | exact List.Sublist.refl _ | apply List.Sublist.cons_cons | apply List.Sublist.cons) (YF.indexArr arr_39 rfl rfl (by first | decide | omega) rfl) (by decide) ?_
                  refine TD.take 15 rfl (by kernel_rfl) (by kernel_rfl) (by kernel_rfl) (fun _ _ _ h => h) (by repeat first | exact List.Sublist.refl _ | apply List.Sublist.cons_cons | apply List.Sublist.cons) (YF.indexArr arr_38 rfl rfl (by first | decide | omega) rfl) (by decide) ?_
                  refine TD.eff 11 rfl (by kernel_rfl) (YF.ef (YF.load 2 sc_3 rfl rfl (fr_int (by omega)))) (by decide) (by rintro _ _ ⟨rfl, rfl⟩; exact (by repeat first | exact List.Sublist.refl _ | apply List.Sublist.cons_cons | apply List.Sublist.cons)) ?_
                  rintro _ _ ⟨rfl, rfl⟩
                  refine TD.take 16 rfl (by kernel_rfl) (by kernel_rfl) (by kernel_rfl) (fun _ _ _ h => h) (by repeat first | exact List.Sublist.refl _ | apply List.Sublist.cons_cons | apply List.Sublist.cons) (YF.indexArr arr_37 rfl rfl (by first | decide | omega) rfl) (by decide) ?_
                  refine TD.eff0 17 rfl (by kernel_rfl) (EF.storeF 2 rfl rfl rfl sz_3 hx (by omega) (by intro hq93; first | omega | exact lim_of (by omega) (by omega) (by omega)) (by omega) (by omega)) (by rintro _ _ ⟨x', _, _, _, rfl⟩; exact (by repeat first | exact List.Sublist.refl _ | apply List.Sublist.cons_cons | apply List.Sublist.cons)) ?_
                  rintro _ _ ⟨x, hx, hx1, hx2, rfl⟩
                  refine TD.heap (_ :: _ :: _ :: _ :: _ :: _ :: _) rfl ?_
                  refine TD.end (by kernel_rfl) ?_
                  refine Arr.block ?_
                  refine Arr.seq ?_
                  refine Tr.region ?_
                  refine TL.val (YF.add rfl rfl (IntWalk.i64_in _ (by omega))) (by decide) ?_
                  refine TL.val (YF.move rfl) (by decide) ?_
                  refine TL.end ?_
                  exact fun a w ha hw => ⟨_, by omega, u + 1, k, x, y, L, ch, rfl, by omega, by omega, hx, hy, hch, hcc, (ha.cons rfl (ha.cons rfl (ha.cons rfl (ha.cons rfl (ha.cons rfl (ha.cons rfl (ha.cons rfl (ha.cons rfl (ha.cons rfl (ha.cons rfl (ha.cons rfl (ha.cons rfl (ha.cons rfl (ha.nil)))))))))))))), hw.mono (by repeat first | exact List.Sublist.refl _ | apply List.Sublist.cons)⟩
                ·
                  replace h609 := of_decide_eq_false h609
                  refine Tr.skipE ?_
                  refine Arr.block ?_
                  refine Arr.seq ?_
                  refine Tr.region ?_
                  refine TL.val (YF.add rfl rfl (IntWalk.i64_in _ (by omega))) (by decide) ?_
                  refine TL.val (YF.move rfl) (by decide) ?_
                  refine TL.end ?_
                  exact fun a w ha hw => ⟨_, by omega, u + 1, k, x, y, L, ch, rfl, by omega, by omega, hx, hy, hch, hcc, (ha.cons rfl (ha.cons rfl (ha.cons rfl (ha.cons rfl (ha.cons rfl (ha.cons rfl (ha.cons rfl (ha.cons rfl (ha.cons rfl (ha.cons rfl (ha.cons rfl (ha.cons rfl (ha.cons rfl (ha.nil)))))))))))))), hw.mono (by repeat first | exact List.Sublist.refl _ | apply List.Sublist.cons)⟩
              ·
                replace h602 := of_decide_eq_false h602
                refine Tr.exitE ?_
                refine Arr.seqX ?_
                refine Arr.seqX ?_
                refine Arr.blockE ?_
                refine Arr.block ?_
                refine Arr.seq ?_
                refine Tr.region ?_
                refine TL.val (YF.add rfl rfl (IntWalk.i64_in _ (by omega))) (by decide) ?_
                refine TL.val (YF.move rfl) (by decide) ?_
                refine TL.end ?_
                exact fun a w ha hw => ⟨_, by omega, j + 1, k, x, y, L, ch, rfl, by omega, by omega, hx, hy, hch, hcc, (ha.cons rfl (ha.cons rfl (ha.cons rfl (ha.cons rfl (ha.cons rfl (ha.cons rfl (ha.cons rfl (ha.cons rfl (ha.cons rfl (ha.cons rfl (ha.cons rfl (ha.nil)))))))))))), hw⟩
          ·
            replace h589 := of_decide_eq_false h589
            refine Tr.exitE ?_
            refine Arr.seqX ?_
            refine Arr.seqX ?_
            refine Arr.blockE ?_
            refine Arr.block ?_
            refine Arr.seq ?_
            refine Tr.region ?_
            refine TL.val (YF.add rfl rfl (IntWalk.i64_in _ (by omega))) (by decide) ?_
            refine TL.val (YF.move rfl) (by decide) ?_
            refine TL.end ?_
            exact fun a w ha hw => ⟨_, by omega, c + 1, k, x, y, L, ch, rfl, by omega, by omega, hx, hy, hch, by omega, (ha.cons rfl (ha.cons rfl (ha.cons rfl (ha.cons rfl (ha.cons rfl (ha.cons rfl (ha.cons rfl (ha.cons rfl (ha.cons rfl (ha.nil)))))))))), hw⟩
    ·
      replace h574 := of_decide_eq_false h574
      refine Tr.exitE ?_
      refine Arr.seqX ?_
      refine Arr.seqX ?_
      refine Arr.blockE ?_
      refine Arr.seq ?_
      refine Tr.seq ?_
      refine Tr.region ?_
      refine TL.val (YF.loadAll 1 agg_49 rfl rfl (va_size _ _)) (by decide) ?_
      refine TL.storeAll 2 (_ :: _ :: _ :: _) rfl rfl rfl sz_49 (va_size _ _) Zsz_49 (va_one fun q hq => by unfold fr; split; rfl; exact (hy _ (by omega)).one) rfl ?_
      refine TL.end ?_
      refine Arr.seq ?_
      refine Tr.retE ?_
      refine Ends.cellG (G := L ++ H) 2 rfl rfl agg_49 rfl (va_size _ _) (by repeat first | exact List.Sublist.refl _ | apply List.Sublist.cons) ⟨x, y, L, rfl, hx, hy, rfl⟩

end Go.Proofs.YtbcjhkncifckiaaDoor
