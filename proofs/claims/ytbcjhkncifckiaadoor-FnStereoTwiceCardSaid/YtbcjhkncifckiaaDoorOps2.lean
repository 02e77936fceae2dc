/- More laws of operations for the engine: slices that are built, grown and copied, greatest and least, bits. No program is named here. -/
import Derived.Test.YtbcjhkncifckiaaDoorOps
namespace Go.Proofs.YtbcjhkncifckiaaDoor
open Go Go.RowKit
namespace En
/-- What two of the language's own functions are, by their definition. -/
theorem app_is (ats : Array TypeId) (ty : TypeId) (cs : Array Bool) (args : Array Value) : builtin .append ats ty cs args = (do pure (.value (← Builtin.append_ ats ty args))) := rfl
theorem copy_is (ats : Array TypeId) (ty : TypeId) (cs : Array Bool) (args : Array Value) : builtin .copy ats ty cs args = (do pure (.value (← Builtin.copy_ ats ty args))) := rfl
variable {P : Program} {n : Nat} {E : Env} {w0 : World} {H : Hp} {dst : Option Tmp} {ty : TypeId} {pos : String} {after : Array Edge} {g : Option (Nat × Bool)}
variable {Q K : Exit → Act → World → Prop} {ops : Array Oper} {l : List Oper}

/-! ## A slice of constants -/
theorem EF.buildSlice {T len e bytes : Nat} {parts : Array (Nat × Operand)} {vs : List (Nat × Value)} {cs : Array Value} {z : Value} (h : sliceOf P T = some (e, 1)) (hz : zeroOf P e = some z) (hl : Nat.ble len 16777216 = true)
    (hp : parts.toList.map (fun p => (ev E p.2).map fun v => (p.1, v)) = vs.map some)
    (hf : Instr.fill (fun i => some (i * 1, 1)) (Array.replicate len z) vs = some cs) (hz1 : z.oneCell' = true) (_hb : bytes = 0) :
    EF P n E w0 H ⟨dst, .buildSlice T len parts, ty, pos, after, g⟩ (fun u H' => ∃ b, u = .slice (some ⟨b, 0, none⟩) len len ∧ H' = (b, .cells cs e (0, 0)) :: H) :=
  fun a w ha hw K Q hK => by
    obtain ⟨inf, hu, he, hs⟩ := sliceOf_spec h
    have hle := Nat.le_of_ble_eq_true hl
    have hev : (parts.map fun (i, x) => (i, a.eval x)).toList = vs := by
      have : ∀ (ps : List (Nat × Operand)) (vs : List (Nat × Value)), ps.map (fun p => (ev E p.2).map fun v => (p.1, v)) = vs.map some → ps.map (fun (i, x) => (i, a.eval x)) = vs := by
        intro ps
        induction ps with
        | nil => intro vs h; cases vs <;> simp at h ⊢
        | cons p ps ih =>
          intro vs h
          cases vs with
          | nil => simp at h
          | cons v vs =>
            simp only [List.map_cons, List.cons.injEq] at h ⊢
            refine ⟨?_, ih vs h.2⟩
            cases hv : ev E p.2 with
            | none => rw [hv] at h; simp at h
            | some u => rw [hv] at h; simp at h; rw [← h.1, ha.ev hv]
      simpa using this parts.toList vs hp
    have hr : (Instr.buildSlice T len (parts.map fun (i, x) => (i, a.eval x))).run P w = .ok (.slice (some ⟨w.heap.size, 0, none⟩) len len) (w.alloc (.cells cs e)) := by
      have hmc : (Array.range len).map (fun _ => z) = Array.replicate len z := by
        apply Array.ext
        · simp
        · intro i h1 h2; simp
      have hf' : Instr.fill (fun i => some (i, 1)) (Array.replicate len z) vs = some cs := by simpa using hf
      unfold Instr.buildSlice
      rw [hev]
      by_cases h0 : len = 0
      · subst h0
        have hf0 : Instr.fill (fun i => some (i, 1)) #[] vs = some cs := by simpa using hf'
        have hm0 : (Array.map (fun _ => (default : Value)) (Array.range 0)) = #[] := by simp
        simp [run_underlying hu, sizeOf, typeInfo, he, hs, newRow, hm0, hf0]
      · have hg : ¬ (16777216 < len) := by omega
        simp [run_underlying hu, sizeOf, typeInfo, he, hs, hg, h0, run_zero hz, cells_one hz1, Nat.mod_one, hmc, hf', newRow]
    unfold Oper.wp
    simp only [execOp, Sem.run_bind, Sem.run_pure, hr, Result.andThen_ok]
    exact hK _ _ _ ⟨w.heap.size, rfl, rfl⟩ (hw.alloc _)

theorem TL.buildSlice {d T len e : Nat} {parts : Array (Nat × Operand)} {vs : List (Nat × Value)} {cs : Array Value} {z : Value} (h : sliceOf P T = some (e, 1)) (hz : zeroOf P e = some z) (hl : Nat.ble len 16777216 = true)
    (hp : parts.toList.map (fun p => (ev E p.2).map fun v => (p.1, v)) = vs.map some)
    (hf : Instr.fill (fun i => some (i * 1, 1)) (Array.replicate len z) vs = some cs) (hz1 : z.oneCell' = true) (hd : d < n)
    (hn : ∀ b, TL P ops Q l n ((d, .slice (some ⟨b, 0, none⟩) len len) :: E) w0 ((b, .cells cs e (0, 0)) :: H)) :
    TL P ops Q (⟨some d, .buildSlice T len parts, ty, pos, after, none⟩ :: l) n E w0 H :=
  TL.eff (EF.buildSlice (bytes := 0) h hz hl hp hf hz1 rfl) hd fun v H1 hR => by obtain ⟨b, rfl, rfl⟩ := hR; exact hn b

/-! ## append on a slice of the call's own; copy -/
theorem HS.eraseGrown {w w' : World} (hw : HS w0 H w) {i b : Nat} {o : Obj} (hi : H[i]? = some (b, o)) {b2 : Nat} {o2 : Obj} (hg : w.grownBy w' (some b)) (hb2 : w'.heap[b2]? = some o2) (hbase : w0.heap.size ≤ b2) (hor : b2 = b ∨ w.heap.size ≤ b2) :
    HS w0 ((b2, o2) :: H.eraseIdx i) w' := by
  have hlt : i < H.length := (List.getElem?_eq_some_iff.1 hi).1
  have hne : ∀ p ∈ H.eraseIdx i, p.1 ≠ b := by
    intro p hp heq
    obtain ⟨k, hk⟩ := List.getElem?_of_mem hp
    rw [List.getElem?_eraseIdx] at hk
    have hnd := List.pairwise_iff_getElem.1 hw.nodup
    have e1 : H[i]'hlt = (b, o) := (List.getElem?_eq_some_iff.1 hi).2
    split at hk
    · rename_i hki
      have hkl := (List.getElem?_eq_some_iff.1 hk).1
      have e2 : H[k]'hkl = p := (List.getElem?_eq_some_iff.1 hk).2
      exact hnd k i (by simpa using hkl) (by simpa using hlt) hki (by simp [e1, e2, heq])
    · have hkl := (List.getElem?_eq_some_iff.1 hk).1
      have e2 : H[k + 1]'hkl = p := (List.getElem?_eq_some_iff.1 hk).2
      exact hnd i (k + 1) (by simpa using hlt) (by simpa using hkl) (by omega) (by simp [e1, e2, heq])
  have hb := hw.base hi
  refine ⟨?_, ?_, fun p hp => ?_⟩
  · refine hw.below.trans ⟨hg.os, hg.tape, hg.output, hg.size, fun k hk => hg.block k (by have := hw.below.size; omega) (fun e => ?_)⟩
    simp only [Option.some.injEq] at e
    omega
  · rw [List.map_cons, List.nodup_cons]
    refine ⟨fun hm => ?_, (List.Sublist.nodup ((List.eraseIdx_sublist H i).map _) hw.nodup)⟩
    obtain ⟨p, hp, he⟩ := List.mem_map.1 hm
    simp only at he
    rcases hor with rfl | hge
    · exact hne p hp he
    · have := hw.lt (List.mem_of_mem_eraseIdx hp)
      omega
  · rcases List.mem_cons.1 hp with rfl | hp
    · exact ⟨hbase, hb2⟩
    · have hm := hw.mem p (List.mem_of_mem_eraseIdx hp)
      refine ⟨hm.1, ?_⟩
      rw [hg.block p.1 (hw.lt (List.mem_of_mem_eraseIdx hp)) (fun e => hne p hp (by simpa using e))]
      exact hm.2

/-- What append hands on. -/
def Grew (e : TypeId) (xs : List Value) (Hr : Hp) (u : Value) (H' : Hp) : Prop :=
  ∃ b cap cur, u = .slice (some ⟨b, 0, none⟩) xs.length cap ∧ xs.length ≤ cap ∧ cap ≤ maxLen ∧ cur.size = cap ∧ cur.toList.take xs.length = xs ∧ H' = (b, .cells cur e (0, 0)) :: Hr

theorem news_at {w : World} (hw : HS w0 H w) {j b o m : Nat} {cs : Array Value} {t : TypeId} {fr : Nat × Nat} (hj : H[j]? = some (b, .cells cs t fr)) (hm : o + m ≤ cs.size) :
    (cs.extract o (o + m)).toList.length = m ∧ ∀ k u, (cs.extract o (o + m)).toList[k]? = some u → w.cell? ((⟨b, o, none⟩ : Addr).add k) = some u := by
  have hl : (cs.extract o (o + m)).toList.length = m := by simp; omega
  refine ⟨hl, fun k u hu => ?_⟩
  have hk : k < m := by
    have := (List.getElem?_eq_some_iff.1 hu).1
    omega
  rw [addr_add, hw.cell hj]
  simpa [Array.getElem?_extract, hk] using hu

theorem EF.append (i j : Nat) {T e bytes b k cap b' o m c : Nat} {x y : Operand} {cur cs : Array Value} {t : TypeId} {fr : Nat × Nat} {z : Value} (h : sliceOf P T = some (e, 1)) (hb : (P.info? e).map (·.bytes) = some bytes) (hz : zeroOf P e = some z) (hz1 : z.oneCell' = true)
    (hx : ev E x = some (.slice (some ⟨b, 0, none⟩) k cap)) (hi : H[i]? = some (b, .cells cur e (0, 0))) (hk : k ≤ cap) (hc : cap ≤ maxLen) (hcs : cur.size = cap)
    (hy : ev E y = some (.slice (some ⟨b', o, none⟩) m c)) (hj : H[j]? = some (b', .cells cs t fr)) (hm : o + m ≤ cs.size) (h1 : ∀ u ∈ (cs.extract o (o + m)).toList, u.oneCell' = true)
    (h63 : k + m ≤ maxLen) (hby : (k + m) * bytes ≤ 140737488355328) :
    EF P n E w0 H ⟨dst, .call { callee := .builtin .append, args := #[x, y], argTypes := #[T, T] }, ty, pos, after, g⟩ (Grew e (cur.toList.take k ++ (cs.extract o (o + m)).toList) (H.eraseIdx i)) :=
  fun a w ha hw K Q hK => by
    obtain ⟨inf, hu, he, hs⟩ := sliceOf_spec h
    have hbytes : inf.bytes = bytes := by simpa [he] using hb
    have hzi : inf.zero = some z := by unfold zeroOf at hz; simpa [he] using hz
    obtain ⟨hnl, hna⟩ := news_at hw hj hm
    have hown : w.ownsRow w0.heap.size e 1 (.slice (some ⟨b, 0, none⟩) k cap) k (cur.toList.take k) :=
      ⟨by simp; omega, .inr ⟨b, cap, cur, rfl, hw.base hi, hw.at hi, hk, hc, by omega, by simp⟩⟩
    obtain ⟨v', w', hr, hown', hg, _⟩ := run_append_own (P := P) w w0.heap.size T ty e inf z 1 bytes hu he hzi hs hbytes (by rw [cells_one hz1]; rfl) (by decide)
      _ k _ hown ⟨b', o, none⟩ m c _ (by rw [hnl]; omega) hna h1 h63 hby hw.below.size
    have hlen : (cur.toList.take k ++ (cs.extract o (o + m)).toList).length = k + m := by
      rw [List.length_append, hnl]; simp; omega
    unfold Oper.wp
    rw [Go.BigFrame.execOp_builtin]
    have hb2 : ∀ C, (builtin .append #[T, T] ty C (#[x, y].map a.eval)).run P w = .ok (.value v') w' := by
      intro C
      simp only [app_is, List.map_toArray, List.map_cons, List.map_nil, ha.ev hx, ha.ev hy, Sem.run_bind, hr, Result.andThen_ok, Sem.run_pure]
    rw [hb2]
    have hfin : ∀ v' , w'.ownsRow w0.heap.size e 1 v' (k + m) (cur.toList.take k ++ (cs.extract o (o + m)).toList) → v' ≠ .slice none 0 0 →
        (∀ q cp, v' = .slice (some ⟨q, 0, none⟩) (k + m) cp → q = b ∨ w.heap.size ≤ q) → ∃ H', Grew e (cur.toList.take k ++ (cs.extract o (o + m)).toList) (H.eraseIdx i) v' H' ∧ HS w0 H' w' := by
      intro v' ho hne hor
      rcases ho.2 with ⟨hn, _⟩ | ⟨q, cp, cur', rfl, hbq, hq, hle, hcm, hsz, htk⟩
      · exact absurd hn hne
      · refine ⟨_, ⟨q, cp, cur', by rw [hlen], by rw [hlen]; exact hle, hcm, by omega, by rw [hlen]; simpa using htk, rfl⟩, ?_⟩
        exact HS.eraseGrown hw hi hg hq hbq (hor q cp rfl)
    by_cases hroom : k + m ≤ cap
    · have hr2 := run_append_fits (P := P) w w0.heap.size T ty e inf 1 hu he hs b k cap _ hown ⟨b', o, none⟩ m c _ (by rw [hnl]; omega) hna h1 hroom
      obtain ⟨w2, hr2, _, _⟩ := hr2
      rw [hr] at hr2
      injection hr2 with e1 e2
      obtain ⟨H', hG, hH⟩ := hfin v' hown' (by rw [e1]; simp) (by intro q cp hq; rw [e1] at hq; simp at hq; exact .inl hq.1.symm)
      exact hK v' H' w' hG hH
    · have holds : ∀ j u, (cur.toList.take k)[j]? = some u → w.cell? ((⟨b, 0, none⟩ : Addr).add j) = some u := hown.cells (g := b) rfl
      have hr2 := run_append_grow (P := P) w T ty e inf z hu he hzi ⟨b, 0, none⟩ k cap (cur.toList.take k) (by rw [hs]; exact hown.1) holds ⟨b', o, none⟩ m c _ (by rw [hnl, hs]; omega) hna (by omega) (by simp only [maxLen] at h63; omega) (by rw [hbytes]; exact growslice_fits (by omega) hby)
      rw [hr] at hr2
      injection hr2 with e1 e2
      obtain ⟨H', hG, hH⟩ := hfin v' hown' (by rw [e1]; simp) (by intro q cp hq; rw [e1] at hq; simp at hq; exact .inr (by omega))
      exact hK v' H' w' hG hH

/-- append on nil. -/
theorem EF.appendNil (j : Nat) {T e bytes b' o m c : Nat} {x y : Operand} {cs : Array Value} {t : TypeId} {fr : Nat × Nat} {z : Value} (h : sliceOf P T = some (e, 1)) (hb : (P.info? e).map (·.bytes) = some bytes) (hz : zeroOf P e = some z) (hz1 : z.oneCell' = true)
    (hx : ev E x = some (.slice none 0 0))
    (hy : ev E y = some (.slice (some ⟨b', o, none⟩) m c)) (hj : H[j]? = some (b', .cells cs t fr)) (hm : o + m ≤ cs.size) (h1 : ∀ u ∈ (cs.extract o (o + m)).toList, u.oneCell' = true) (hm0 : 0 < m)
    (h63 : m ≤ maxLen) (hby : m * bytes ≤ 140737488355328) :
    EF P n E w0 H ⟨dst, .call { callee := .builtin .append, args := #[x, y], argTypes := #[T, T] }, ty, pos, after, g⟩ (Grew e (cs.extract o (o + m)).toList H) :=
  fun a w ha hw K Q hK => by
    obtain ⟨inf, hu, he, hs⟩ := sliceOf_spec h
    have hbytes : inf.bytes = bytes := by simpa [he] using hb
    have hzi : inf.zero = some z := by unfold zeroOf at hz; simpa [he] using hz
    obtain ⟨hnl, hna⟩ := news_at hw hj hm
    have hown := World.ownsRow_nil w w0.heap.size e 1
    obtain ⟨v', w', hr, hown', hg, hnil⟩ := run_append_own (P := P) w w0.heap.size T ty e inf z 1 bytes hu he hzi hs hbytes (by rw [cells_one hz1]; rfl) (by decide)
      _ 0 _ hown ⟨b', o, none⟩ m c _ (by rw [hnl]; omega) hna h1 (by omega) (by simpa using hby) hw.below.size
    unfold Oper.wp
    rw [Go.BigFrame.execOp_builtin]
    have hb2 : ∀ C, (builtin .append #[T, T] ty C (#[x, y].map a.eval)).run P w = .ok (.value v') w' := by
      intro C
      simp only [app_is, List.map_toArray, List.map_cons, List.map_nil, ha.ev hx, ha.ev hy, Sem.run_bind, hr, Result.andThen_ok, Sem.run_pure]
    rw [hb2]
    rcases hown'.2 with ⟨hn, hz0⟩ | ⟨q, cp, cur', rfl, hbq, hq, hle, hcm, hsz, htk⟩
    · omega
    · have hr2 := run_append_nil (P := P) w T ty e inf z hu he hzi ⟨b', o, none⟩ m c _ (by rw [hnl, hs]; omega) hna (by omega) (by simp only [maxLen] at h63; omega) (by rw [hbytes]; omega)
      rw [hr] at hr2
      injection hr2 with e1 e2
      have hq2 : q = w.heap.size := by simp at e1; exact e1.1
      have hlen : ((cs.extract o (o + m)).toList).length = m := hnl
      refine hK _ ((q, .cells cur' e (0, 0)) :: H) w' ⟨q, cp, cur', by rw [hlen]; simp, by rw [hlen]; omega, hcm, by omega, by rw [hlen]; simpa using htk, rfl⟩ ?_
      refine ⟨?_, ?_, fun p hp => ?_⟩
      · exact hw.below.trans ⟨hg.os, hg.tape, hg.output, hg.size, fun i hi => hg.block i (by have := hw.below.size; omega) (by simp [Value.ownBlock])⟩
      · rw [List.map_cons, List.nodup_cons]
        refine ⟨fun hmm => ?_, hw.nodup⟩
        obtain ⟨p, hp, hpe⟩ := List.mem_map.1 hmm
        have := hw.lt hp
        simp only at hpe
        omega
      · rcases List.mem_cons.1 hp with rfl | hp
        · exact ⟨hbq, hq⟩
        · have hmm := hw.mem p hp
          exact ⟨hmm.1, by rw [hg.block p.1 (hw.lt hp) (by simp [Value.ownBlock])]; exact hmm.2⟩

/-- copy into a block of the list out of a block of the list. -/
theorem EF.copy (i j : Nat) {T T' b o dl dc b' o' m c : Nat} {x y : Operand} {cur cs : Array Value} {t t' : TypeId} {fr : Nat × Nat} {e : Nat} (h : sliceOf P T = some (e, 1))
    (hx : ev E x = some (.slice (some ⟨b, o, none⟩) dl dc)) (hi : H[i]? = some (b, .cells cur t (0, 0)))
    (hy : ev E y = some (.slice (some ⟨b', o', none⟩) m c)) (hj : H[j]? = some (b', .cells cs t' fr)) (hml : m ≤ dl) (hm : o' + m ≤ cs.size) (hfit : o + m ≤ cur.size) (h1 : ∀ u ∈ (cs.extract o' (o' + m)).toList, u.oneCell' = true) :
    EF P n E w0 H ⟨dst, .call { callee := .builtin .copy, args := #[x, y], argTypes := #[T, T'] }, ty, pos, after, g⟩ (fun u H' => u = .int .i64 m ∧ H' = H.set i (b, .cells (splice cur o (cs.extract o' (o' + m))) t (0, 0))) :=
  fun a w ha hw K Q hK => by
    obtain ⟨inf, hu, he, hs⟩ := sliceOf_spec h
    obtain ⟨hnl, hna⟩ := news_at hw hj hm
    have hr := run_copy_row P w T T' ty e b o dl dc ⟨b', o', none⟩ m c cur t (cs.extract o' (o' + m)).toList hu (by rw [he]; simp [hs]) (hw.at hi) (by rw [hnl]; show m = min m dl; omega) hna (by rw [hnl]; exact hfit) h1
    unfold Oper.wp
    rw [Go.BigFrame.execOp_builtin]
    have hb2 : ∀ C, (builtin .copy #[T, T'] ty C (#[x, y].map a.eval)).run P w = .ok (.value (.int .i64 m)) (w.setRow b (splice cur o (cs.extract o' (o' + m)))) := by
      intro C
      simp only [copy_is, List.map_toArray, List.map_cons, List.map_nil, ha.ev hx, ha.ev hy, Sem.run_bind, hr, Result.andThen_ok, Sem.run_pure, goInt, hnl]
      have hsz : (cs.extract o' (o' + m)).size = m := by rw [← Array.length_toList]; exact hnl
      unfold splice
      rw [hsz]
    rw [hb2]
    exact hK _ _ _ ⟨rfl, rfl⟩ (hw.set hi _)
/-- copy out of nil. -/
theorem EF.copyNil {T T' b o dl dc e s : Nat} {x y : Operand} (h : sliceOf P T = some (e, s)) (hx : ev E x = some (.slice (some ⟨b, o, none⟩) dl dc)) (hy : ev E y = some (.slice none 0 0)) :
    EF P n E w0 H ⟨dst, .call { callee := .builtin .copy, args := #[x, y], argTypes := #[T, T'] }, ty, pos, after, g⟩ (fun u H' => u = .int .i64 0 ∧ H' = H) :=
  YF.ef (v := .int .i64 0) fun a w ha hw => by
    obtain ⟨inf, hu, he, hs⟩ := sliceOf_spec h
    have hr := run_copy_nil P w T T' ty e ⟨b, o, none⟩ dl dc hu (by rw [he]; rfl)
    rw [Go.BigFrame.execOp_builtin]
    simp only [copy_is, List.map_toArray, List.map_cons, List.map_nil, ha.ev hx, ha.ev hy, Sem.run_bind, hr, Result.andThen_ok, Sem.run_pure, goInt]

/-! ## Greatest and least -/
def fmax (k : FloatKind) (x y : Nat) : Option Nat :=
  match k.format.order x y with
  | none => none
  | some .lt => some y
  | some .gt => some x
  | some .eq => some (if (k.decode x).neg then y else x)
theorem run_max2 {k : FloatKind} {x y r : Nat} (h : fmax k x y = some r) (w : World) : (Builtin.max2 (.float k x) (.float k y)).run P w = .ok (.float k r) w := by
  unfold fmax at h
  unfold Builtin.max2
  cases ho : k.format.order x y with
  | none => simp [ho] at h
  | some c => cases c <;> simp [ho] at h <;> subst h <;> simp [ho]
theorem YF.max3 {x y z : Operand} {ats : Array TypeId} {k : FloatKind} {i j m r s : Nat} (hx : ev E x = some (.float k i)) (hy : ev E y = some (.float k j)) (hz : ev E z = some (.float k m)) (h1 : fmax k i j = some r) (h2 : fmax k r m = some s) :
    YF P n E w0 H ⟨dst, .call { callee := .builtin .max, args := #[x, y, z], argTypes := ats }, ty, pos, after, g⟩ (.float k s) :=
  fun a w ha _ => by
    rw [Go.BigFrame.execOp_builtin]
    simp [builtin, Builtin.max_, ha.ev hx, ha.ev hy, ha.ev hz, run_max2 h1, run_max2 h2]
theorem YF.min2 {x y : Operand} {ats : Array TypeId} {k : IntKind} {i j r : Int} (hx : ev E x = some (.int k i)) (hy : ev E y = some (.int k j)) (h1 : (if j < i then j else i) = r) :
    YF P n E w0 H ⟨dst, .call { callee := .builtin .min, args := #[x, y], argTypes := ats }, ty, pos, after, g⟩ (.int k r) :=
  fun a w ha _ => by
    subst h1
    rw [Go.BigFrame.execOp_builtin]
    simp [builtin, Builtin.min_, Builtin.min2, ha.ev hx, ha.ev hy]

/-! ## Bits -/
theorem fdiv_pow (i : Int) (s : Nat) : i.fdiv (2 ^ s) = i / 2 ^ s := Int.fdiv_eq_ediv_of_nonneg _ (Int.pow_nonneg (by decide))
theorem nat_and_mask (a s t : Nat) : a &&& ((2 ^ t - 1) * 2 ^ s) = (a / 2 ^ s % 2 ^ t) * 2 ^ s := by
  apply Nat.eq_of_testBit_eq
  intro i
  rw [Nat.testBit_and, Nat.mul_comm (2 ^ t - 1), Nat.mul_comm _ (2 ^ s), Nat.testBit_two_pow_mul, Nat.testBit_two_pow_mul, Nat.testBit_two_pow_sub_one, Nat.testBit_mod_two_pow, Nat.testBit_div_two_pow]
  by_cases h : s ≤ i
  · simp only [h, decide_true, Bool.true_and, show i - s + s = i by omega]
    rw [Bool.and_comm]
  · simp [h]
theorem u32_and (a m : Nat) (ha : a < 4294967296) (hm : m < 4294967296) : IntKind.u32.wrap (BitVec.ofInt 32 (a : Int) &&& BitVec.ofInt 32 (m : Int)).toNat = ((a &&& m : Nat) : Int) := by
  have hl : a &&& m ≤ a := Nat.and_le_left
  rw [BitVec.toNat_and, BitVec.toNat_ofInt, BitVec.toNat_ofInt]
  have e1 : ((a : Int) % ((2 ^ 32 : Nat) : Int)).toNat = a := by omega
  have e2 : ((m : Int) % ((2 ^ 32 : Nat) : Int)).toNat = m := by omega
  rw [e1, e2]
  exact IntWalk.u32_in _ ⟨by omega, by omega⟩
theorem i64_and (a m : Nat) (ha : a < 9223372036854775808) (hm : m < 9223372036854775808) : IntKind.i64.wrap (BitVec.ofInt 64 (a : Int) &&& BitVec.ofInt 64 (m : Int)).toNat = ((a &&& m : Nat) : Int) := by
  have hl : a &&& m ≤ a := Nat.and_le_left
  rw [BitVec.toNat_and, BitVec.toNat_ofInt, BitVec.toNat_ofInt]
  have e1 : ((a : Int) % ((2 ^ 64 : Nat) : Int)).toNat = a := by omega
  have e2 : ((m : Int) % ((2 ^ 64 : Nat) : Int)).toNat = m := by omega
  rw [e1, e2]
  exact IntWalk.i64_in _ ⟨by omega, by omega⟩
theorem i64_or (a m : Nat) (ha : a < 4611686018427387904) (hm : m < 4611686018427387904) : IntKind.i64.wrap (BitVec.ofInt 64 (a : Int) ||| BitVec.ofInt 64 (m : Int)).toNat = ((a ||| m : Nat) : Int) := by
  have hl : a ||| m < 2 ^ 62 := Nat.or_lt_two_pow (by omega) (by omega)
  rw [BitVec.toNat_or, BitVec.toNat_ofInt, BitVec.toNat_ofInt]
  have e1 : ((a : Int) % ((2 ^ 64 : Nat) : Int)).toNat = a := by omega
  have e2 : ((m : Int) % ((2 ^ 64 : Nat) : Int)).toNat = m := by omega
  rw [e1, e2]
  exact IntWalk.i64_in _ ⟨by omega, by omega⟩
/-- A field of a word, by a mask. -/
theorem u32_mask (w : Int) (s t m : Nat) (h0 : 0 ≤ w) (h1 : w < 4294967296) (hm : (2 ^ t - 1) * 2 ^ s = m) (hlt : m < 4294967296) : IntKind.u32.wrap (BitVec.ofInt 32 w &&& BitVec.ofInt 32 (m : Int)).toNat = w / 2 ^ s % 2 ^ t * 2 ^ s := by
  obtain ⟨a, rfl⟩ := Int.eq_ofNat_of_zero_le h0
  rw [u32_and a m (by omega) hlt, ← hm, nat_and_mask]
  simp
theorem i64_mask (w : Int) (s t m : Nat) (h0 : 0 ≤ w) (h1 : w < 9223372036854775808) (hm : (2 ^ t - 1) * 2 ^ s = m) (hlt : m < 9223372036854775808) : IntKind.i64.wrap (BitVec.ofInt 64 w &&& BitVec.ofInt 64 (m : Int)).toNat = w / 2 ^ s % 2 ^ t * 2 ^ s := by
  obtain ⟨a, rfl⟩ := Int.eq_ofNat_of_zero_le h0
  rw [i64_and a m (by omega) hlt, ← hm, nat_and_mask]
  simp
/-- A field is laid below what stands there. -/
theorem i64_join (x y : Int) (s : Nat) (h0 : 0 ≤ x) (h1 : x < 4611686018427387904) (h2 : 0 ≤ y) (h3 : y < 2 ^ s) (h4 : y < 4611686018427387904) (hd : x % 2 ^ s = 0) : IntKind.i64.wrap (BitVec.ofInt 64 x ||| BitVec.ofInt 64 y).toNat = x + y := by
  obtain ⟨a, rfl⟩ := Int.eq_ofNat_of_zero_le h0
  obtain ⟨c, rfl⟩ := Int.eq_ofNat_of_zero_le h2
  rw [i64_or a c (by omega) (by omega)]
  have hc : c < 2 ^ s := by exact_mod_cast h3
  have hda : a % 2 ^ s = 0 := by exact_mod_cast hd
  have ha : a = 2 ^ s * (a / 2 ^ s) := by have := Nat.div_add_mod a (2 ^ s); omega
  have := Nat.two_pow_add_eq_or_of_lt hc (a / 2 ^ s)
  rw [← ha] at this
  rw [← this]; simp

/-! ## Shifts by a constant, masks: with the powers written out -/
theorem shlv {k : IntKind} {i c p : Int} (s : Nat) (hc : c.toNat = s) (hs : s ≤ k.bits) (hp : (2 : Int) ^ s = p) (hw : k.wrap (i * p) = i * p) : k.wrap (i * 2 ^ (min c.toNat k.bits)) = i * p := by
  rw [hc, Nat.min_eq_left hs, hp, hw]
theorem shrv {k : IntKind} {i c p : Int} (s : Nat) (hc : c.toNat = s) (hs : s ≤ k.bits) (hp : (2 : Int) ^ s = p) : i.fdiv (2 ^ (min c.toNat k.bits)) = i / p := by
  rw [hc, Nat.min_eq_left hs, fdiv_pow, hp]
theorem u32_maskv {w : Int} (s t m : Nat) {p q : Int} (hp : (2 : Int) ^ s = p) (hq : (2 : Int) ^ t = q) (hm : (2 ^ t - 1) * 2 ^ s = m) (hlt : m < 4294967296) (h0 : 0 ≤ w) (h1 : w < 4294967296) : IntKind.u32.wrap (BitVec.ofInt 32 w &&& BitVec.ofInt 32 (m : Int)).toNat = w / p % q * p := by
  rw [u32_mask w s t m h0 h1 hm hlt, hp, hq]
theorem i64_maskv {w : Int} (s t m : Nat) {p q : Int} (hp : (2 : Int) ^ s = p) (hq : (2 : Int) ^ t = q) (hm : (2 ^ t - 1) * 2 ^ s = m) (hlt : m < 9223372036854775808) (h0 : 0 ≤ w) (h1 : w < 9223372036854775808) : IntKind.i64.wrap (BitVec.ofInt 64 w &&& BitVec.ofInt 64 (m : Int)).toNat = w / p % q * p := by
  rw [i64_mask w s t m h0 h1 hm hlt, hp, hq]
theorem u32_mask0 {w : Int} (t m : Nat) {q : Int} (hq : (2 : Int) ^ t = q) (hm : 2 ^ t - 1 = m) (hlt : m < 4294967296) (h0 : 0 ≤ w) (h1 : w < 4294967296) : IntKind.u32.wrap (BitVec.ofInt 32 w &&& BitVec.ofInt 32 (m : Int)).toNat = w % q := by
  rw [u32_mask w 0 t m h0 h1 (by omega) hlt, hq]; simp
theorem i64_mask0 {w : Int} (t m : Nat) {q : Int} (hq : (2 : Int) ^ t = q) (hm : 2 ^ t - 1 = m) (hlt : m < 9223372036854775808) (h0 : 0 ≤ w) (h1 : w < 9223372036854775808) : IntKind.i64.wrap (BitVec.ofInt 64 w &&& BitVec.ofInt 64 (m : Int)).toNat = w % q := by
  rw [i64_mask w 0 t m h0 h1 (by omega) hlt, hq]; simp
theorem i64_joinv {x y : Int} (s : Nat) {p : Int} (hp : (2 : Int) ^ s = p) (h : 0 ≤ x ∧ x < 4611686018427387904 ∧ 0 ≤ y ∧ y < p ∧ y < 4611686018427387904 ∧ x % p = 0) : IntKind.i64.wrap (BitVec.ofInt 64 x ||| BitVec.ofInt 64 y).toNat = x + y := by
  subst hp
  exact i64_join x y s h.1 h.2.1 h.2.2.1 h.2.2.2.1 h.2.2.2.2.1 h.2.2.2.2.2

/-! ## Fewer blocks than there are -/
theorem Ends.sub {fn : Func} {e : Exit} {G : Hp} {R : Value → Hp → Prop} (hs : G.Sublist H) (h : ∀ a w, Agree n E a → HS w0 G w → Ends P fn w0 R e a w) : ∀ a w, Agree n E a → HS w0 H w → Ends P fn w0 R e a w :=
  fun a w ha hw => h a w ha (hw.mono hs)
theorem Ends.cellG {fn : Func} (i : Nat) {G : Hp} {t : Tmp} {T m b : Nat} {c : Array Value} {tt : TypeId} {fr : Nat × Nat} {R : Value → Hp → Prop} (hr : fn.results = #[.cell t T]) (hv : get E t = some (.pointer (some ⟨b, 0, none⟩))) (hs : aggOf P T = some m) (hi : H[i]? = some (b, .cells c tt fr)) (hm : c.size = m) (hG : G.Sublist H) (h : R (.agg c) G) :
    ∀ a w, Agree n E a → HS w0 H w → Ends P fn w0 R .ret a w :=
  fun a w ha hw => by
    have := Ends.cell (R := fun v H' => H' = H ∧ v = .agg c) i hr hv hs hi hm ⟨rfl, rfl⟩ a w ha hw
    unfold Ends bodyPost at this ⊢
    obtain ⟨h1, v, h2, v', H', h3, ⟨rfl, rfl⟩, h4⟩ := this
    exact ⟨h1, v, h2, _, G, h3, h, h4.mono hG⟩
theorem TL.drop {G : Hp} (hs : G.Sublist H) (h : TL P ops Q l n E w0 G) : TL P ops Q l n E w0 H := fun a w ha hw => h a w ha (hw.mono hs)
theorem Tr.drop {c : Code} {G : Hp} (hs : G.Sublist H) (h : Tr P c Q n E w0 G) : Tr P c Q n E w0 H := fun a w ha hw => h a w ha (hw.mono hs)
theorem Tr.perm {c : Code} {G : Hp} (hs : G.Perm H) (h : Tr P c Q n E w0 G) : Tr P c Q n E w0 H := fun a w ha hw => h a w ha (hw.perm hs)

/-! ## What 'build' lays -/
theorem foldl_zipIdx (off : Nat) : ∀ (vs : List Value) (k : Nat) (cells : Array Value), off + k + vs.length ≤ cells.size →
    (vs.zipIdx k).foldl (fun cs (c, j) => cs.setIfInBounds (off + j) c) cells = splice cells (off + k) vs.toArray
  | [], k, cells, _ => by
    apply Array.ext_getElem?
    intro j
    rw [splice_get _ _ _ (by simp at *; omega)]
    simp
    omega
  | v :: vs, k, cells, h => by
    rw [List.zipIdx_cons, List.foldl_cons, foldl_zipIdx off vs (k + 1) _ (by simp at *; omega)]
    apply Array.ext_getElem?
    intro j
    rw [splice_get _ _ _ (by simp at *; omega), splice_get _ _ _ (by simp at *; omega)]
    simp only [List.size_toArray, List.length_cons] at *
    by_cases h1 : off + (k + 1) ≤ j ∧ j < off + (k + 1) + vs.length
    · rw [if_pos h1, if_pos (by omega)]
      simp only [List.getElem?_toArray]
      rw [show j - (off + k) = (j - (off + (k + 1))) + 1 by omega, List.getElem?_cons_succ]
    · rw [if_neg h1]
      by_cases h2 : j = off + k
      · subst h2
        rw [if_pos (by omega), Nat.sub_self, Array.getElem?_setIfInBounds_self_of_lt (by omega)]
        simp
      · rw [if_neg (by omega), Array.getElem?_setIfInBounds_ne (by omega)]
theorem fill_cons (place : Nat → Option (Nat × Nat)) (cells : Array Value) (i off size : Nat) (v : Value) (rest : List (Nat × Value)) (hp : place i = some (off, size)) (hs : v.cells.size = size) (hle : off + size ≤ cells.size) :
    Instr.fill place cells ((i, v) :: rest) = Instr.fill place (splice cells off v.cells) rest := by
  rw [Instr.fill, hp]
  subst hs
  simp only
  rw [if_neg (by simp; omega)]
  congr 1
  have := foldl_zipIdx off v.cells.toList 0 cells (by simpa using hle)
  rw [← Array.foldl_toList, Array.toList_zipIdx]
  simpa using this
def placesOf (P : Program) (T : Nat) : Option (List (Nat × Nat)) :=
  match P.underlying T with
  | some (.struct fields) => fields.toList.mapM (fun f => (P.info? f.type).map fun i => (f.offset, i.size))
  | _ => none
theorem built_struct {T : Nat} {z : Array Value} {places : List (Nat × Nat)} (hz : zeroOf P T = some (.agg z)) (hp : placesOf P T = some places) (parts : List (Nat × Value)) :
    P.built T parts = Instr.fill (places.toArray[·]?) z parts := by
  unfold zeroOf at hz
  unfold placesOf at hp
  unfold Program.built
  cases hi : P.info? T with
  | none => simp [hi] at hz
  | some i =>
    simp [hi] at hz
    cases hu : P.underlying T with
    | none => simp [hu] at hp
    | some d =>
      cases d <;> try (simp [hu] at hp; done)
      case struct fields =>
        simp only [hu] at hp
        simp only [hz, hp]
        rfl
end En
end Go.Proofs.YtbcjhkncifckiaaDoor
