/- More operations; lines within main data. No program is named here. -/
import Derived.Test.YtbcjhkncifckiaaDoorFr
namespace Go.Proofs.YtbcjhkncifckiaaDoor
open Go Go.RowKit Go.Proofs En
set_option maxRecDepth 100000
section
variable {P : Program} {n : Nat} {E : Env} {w0 : World} {H : Hp} {Q : Exit → Act → World → Prop} {ops : Array Oper} {l : List Oper} {dst : Option Tmp} {ty : TypeId} {pos : String} {after : Array Edge} {g : Option (Nat × Bool)}
/-- x[lo:hi] of an array behind a pointer. -/
theorem YF.sliceArrLH {T len s b o lo' hi' q : Nat} {x y z : Operand} {k k' : IntKind} {lo hi : Int} (h : arrOf P T = some (len, s)) (hx : ev E x = some (.pointer (some ⟨b, o, none⟩))) (hy : ev E y = some (.int k lo)) (hz : ev E z = some (.int k' hi))
    (hlo : lo = lo') (hhi : hi = hi') (hb : lo' ≤ hi' ∧ hi' ≤ len ∧ lo' < len) (hq : o + lo' * s = q) :
    YF P n E w0 H ⟨dst, .slice T x (some y) (some z) none, ty, pos, after, g⟩ (.slice (some ⟨b, q, none⟩) (hi' - lo') (len - lo')) :=
  fun a w ha _ => by
    subst hq; subst hlo; subst hhi
    obtain ⟨e, inf, hu, he, hs⟩ := arrOf_spec h
    subst hs
    obtain ⟨h1, h2, h3⟩ := hb
    have : (Instr.sliceAt T (.pointer (some ⟨b, o, none⟩)) (some (.int k (lo' : Int))) (some (.int k' (hi' : Int))) none).run P w = .ok (.slice (some ⟨b, o + lo' * inf.size, none⟩) (hi' - lo') (len - lo')) w := by
      simp [Instr.sliceAt, run_underlying hu, Instr.sureAddr, Instr.sliceBounds, Instr.sliceBound, asIntOf, sizeOf, typeInfo, he, addr_add, h1, h2, Nat.ne_of_gt h3]
    simp [execOp, ha.ev hx, ha.ev hy, ha.ev hz, this]
/-- An element of an array that is a value, where the element is one of many cells. -/
theorem YF.indexAgg {T len m : Nat} {x y : Operand} {cs vs : Array Value} {k : IntKind} {i : Int} (h : arrOf P T = some (len, m)) (hag : (match P.underlying T with | some (.array _ e) => aggOf P e | _ => none) = some m) (hx : ev E x = some (.agg cs)) (hy : ev E y = some (.int k i)) (hi : 0 ≤ i ∧ i < len)
    (hv : cs.extract (i.toNat * m) (i.toNat * m + m) = vs) : YF P n E w0 H ⟨dst, .index T x y, ty, pos, after, g⟩ (.agg vs) :=
  fun a w ha _ => by
    obtain ⟨e, inf, hu, he, hs⟩ := arrOf_spec h
    rw [hu] at hag
    obtain ⟨h1, h2⟩ := run_isAgg_agg (P := P) hag w
    have : (Instr.index T (.agg cs) (.int k i)).run P w = .ok (.agg vs) w := by
      simp [Instr.index, run_underlying hu, asIntOf, hi, part, h1, h2, hv]
    simp [execOp, ha.ev hx, ha.ev hy, this]
theorem TL.perm {G : Hp} (hs : G.Perm H) (h : TL P ops Q l n E w0 G) : TL P ops Q l n E w0 H := fun a w ha hw => h a w ha (hw.perm hs)
/-- A function without a body that the model carries out. -/
def externIs (P : Program) (f : FuncId) (e : Array Value → Sem Value) : Prop :=
  ∃ fn, P.funcs[f]? = some fn ∧ (fn.name == "runtime.NumGoroutine") = false ∧ fn.body.isNone = true ∧ (Extern.findNext fn).isNone = true ∧ Extern.find fn = some e
theorem YF.extern {f : FuncId} {e : Array Value → Sem Value} {args : Array Operand} {ats : Array TypeId} {vs : List Value} {v : Value} (h : externIs P f e) (hv : args.toList.map (ev E) = vs.map some) (hr : ∀ w, (e vs.toArray).run P w = .ok v w) :
    YF P n E w0 H ⟨dst, .call { callee := .value (.func f), args := args, argTypes := ats }, ty, pos, after, g⟩ v :=
  fun a w ha _ => by
    obtain ⟨fn, h1, h2, h3, h4, h5⟩ := h
    have he : args.map a.eval = vs.toArray := by
      have := args_of ha args.toList vs hv
      rw [← Array.toList_map] at this
      rw [← this]
    rw [execOp_call_go, he]
    have h4' : Extern.findNext fn = none := by simpa using h4
    have h2' : fn.name ≠ "runtime.NumGoroutine" := by simpa using h2
    have h3' : fn.body = none := by simpa using h3
    simp [callFunc, h1, h2', h3', h4', h5, hr]
theorem YF.sqrt {f : FuncId} {x : Operand} {ats : Array TypeId} {i r : Nat} (h : externIs P f Extern.MathSqrt.sqrt) (hx : ev E x = some (.float .f64 i)) (hr : Ieee.double.sqrt i = some r) :
    YF P n E w0 H ⟨dst, .call { callee := .value (.func f), args := #[x], argTypes := ats }, ty, pos, after, g⟩ (.float .f64 r) :=
  YF.extern (vs := [.float .f64 i]) h (by show [ev E x] = _; rw [hx]; rfl) fun w => by
    have hr' : FloatKind.f64.format.sqrt i = some r := hr
    have hs : Extern.MathSqrt.sqrt #[.float .f64 i] = (match FloatKind.f64.format.sqrt i with
      | some r => (pure (Value.float .f64 r) : Sem Value)
      | none => (do pure (Value.float .f64 (← choose (.nanBits .f64 i i))) : Sem Value)) := rfl
    rw [hs, hr']; rfl
/-- All cells of a block are stored. -/
theorem EF.storeAll (i : Nat) {T b m : Nat} {x y : Operand} {c vs : Array Value} {t : TypeId} (hx : ev E x = some (.pointer (some ⟨b, 0, none⟩))) (hy : ev E y = some (.agg vs)) (hi : H[i]? = some (b, .cells c t (0, 0)))
    (hT : (P.info? T).map (·.size) = some m) (hm : vs.size = m) (hc : c.size = m) (h1 : vs.toList.all Value.oneCell' = true) :
    EF P n E w0 H ⟨dst, .store T x y, ty, pos, after, g⟩ (fun _ H' => H' = H.set i (b, .cells vs t (0, 0))) :=
  (EF.storeAgg i hx hy hi hT hm h1 (by omega)).mono fun u H' hu => by rw [hu.2, splice_all c vs (by omega)]
theorem YF.neqF {t yt : TypeId} {x y : Operand} {k : FloatKind} {i j : Nat} {b : Bool} (hx : ev E x = some (.float k i)) (hy : ev E y = some (.float k j)) (hr : Op.floatCmp .neq k i j = pure (.bool b)) : YF P n E w0 H ⟨dst, .binOp .neq t x y yt, ty, pos, after, g⟩ (.bool b) :=
  YF.fcmp hx hy hr (by decide)
end

/-! ## Rows that grow -/
theorem va_toList (n : Nat) (f : Nat → Value) : (va n f).toList = (List.range n).map f := by
  apply List.ext_getElem?
  intro k
  have := va_get? n f k
  rw [Array.getElem?_toList, this]
  by_cases h : k < n
  · rw [if_pos h]; simp [h]
  · rw [if_neg h, List.getElem?_eq_none (by simp; omega)]
theorem Grew.va {e : TypeId} {n : Nat} {f : Nat → Value} {xs : List Value} {Hr H' : Hp} {u : Value} (h : Grew e xs Hr u H') (hx : xs = (List.range n).map f) :
    ∃ (b S : Nat) (z : Nat → Value), n ≤ S ∧ S ≤ maxLen ∧ u = .slice (some ⟨b, 0, none⟩) n S ∧ H' = (b, .cells (YtbcjhkncifckiaaDoor.va S (fun q => if q < n then f q else z q)) e (0, 0)) :: Hr := by
  obtain ⟨b, cap, cur, h1, h2, h3, h4, h5, h6⟩ := h
  have hl : xs.length = n := by rw [hx]; simp
  rw [hl] at h1 h2 h5
  refine ⟨b, cap, fun q => cur.getD q undef, h2, h3, h1, ?_⟩
  rw [h6]
  congr 3
  apply Array.ext_getElem?
  intro k
  rw [va_get?]
  by_cases hk : k < cap
  · rw [if_pos hk]
    by_cases hkn : k < n
    · rw [if_pos hkn]
      have e1 : (cur.toList.take n)[k]? = some (f k) := by rw [h5, hx]; simp [hkn]
      rw [List.getElem?_take, if_pos hkn, Array.getElem?_toList] at e1
      exact e1
    · rw [if_neg hkn]
      simp [Array.getD_eq_getD_getElem?, show k < cur.size by omega]
  · rw [if_neg hk]; simp; omega
/-- A row of floats at the front of cells. -/
def zd (z : Nat → Value) (l : Nat → Nat) : Nat → Value := fun q => if q < 576 then .float .f64 (l q) else z q
theorem zd_get {S k : Nat} {z : Nat → Value} {l : Nat → Nat} (hk : k < 576) (hS : 576 ≤ S) : (va S (zd z l))[k]? = some (.float .f64 (l k)) :=
  va_get (by omega) (by unfold zd; rw [if_pos hk])
theorem zd_set {S k r : Nat} {z : Nat → Value} {l : Nat → Nat} (hk : k < 576) : (va S (zd z l)).setIfInBounds k (.float .f64 r) = va S (zd z (upd l k r)) := by
  rw [va_set]
  refine va_ext rfl fun j _ => ?_
  unfold zd upd
  by_cases e : j = k
  · rw [if_pos e, if_pos (by omega), if_pos e]
  · rw [if_neg e]
    by_cases h : j < 576
    · rw [if_pos h, if_pos h, if_neg e]
    · rw [if_neg h, if_neg h]
section
variable {P : Program} {n : Nat} {E : Env} {w0 : World} {H : Hp} {dst : Option Tmp} {ty : TypeId} {pos : String} {after : Array Edge} {g : Option (Nat × Bool)}
/-- A row of floats behind nothing. -/
theorem EF.appendRow (i j : Nat) {T e bytes b b' c : Nat} {x y : Operand} {l : Nat → Nat} {t : TypeId} {fr : Nat × Nat} {z : Value} (h : sliceOf P T = some (e, 1)) (hb : (P.info? e).map (·.bytes) = some bytes) (hz : zeroOf P e = some z) (hz1 : z.oneCell' = true) (h8 : bytes = 8)
    (hx : ev E x = some (.slice (some ⟨b, 0, none⟩) 0 0)) (hi : H[i]? = some (b, .cells #[] e (0, 0)))
    (hy : ev E y = some (.slice (some ⟨b', 0, none⟩) 576 c)) (hj : H[j]? = some (b', .cells (va 576 (fl .f64 l)) t fr)) :
    EF P n E w0 H ⟨dst, .call { callee := .builtin .append, args := #[x, y], argTypes := #[T, T] }, ty, pos, after, g⟩ (fun u H' => ∃ (b'' S : Nat) (z : Nat → Value), 576 ≤ S ∧ u = .slice (some ⟨b'', 0, none⟩) 576 S ∧ H' = (b'', .cells (va S (zd z l)) e (0, 0)) :: H.eraseIdx i) := by
  subst h8
  refine (EF.append i j h hb hz hz1 hx hi (Nat.le_refl 0) (by decide) rfl hy hj (by rw [va_size]; decide) (by rw [va_extract (by decide)]; exact va_mem fun k _ => rfl) (by decide) (by decide)).mono fun u H' hu => ?_
  obtain ⟨b'', S, z', h1, h2, h3, h4⟩ := Grew.va (n := 576) (f := fl .f64 l) hu (by
    rw [va_extract (by decide), va_toList]
    simp only [List.take_zero, List.nil_append]
    refine List.map_congr_left fun k _ => ?_
    rw [Nat.zero_add])
  refine ⟨b'', S, z', h1, h3, ?_⟩
  rw [h4]
  rfl
end

/-! ## Lines within main data -/
/-- Cells z0 with a row of 576 floats at o. -/
def zl (z0 : Nat → Value) (o : Nat) (l : Nat → Nat) : Nat → Value := fun q => if o ≤ q ∧ q < o + 576 then .float .f32 (l (q - o)) else z0 q
theorem zl_at {z0 : Nat → Value} {o : Nat} {l : Nat → Nat} {k q : Nat} (hk : k < 576) (hq : q = o + k) : zl z0 o l q = .float .f32 (l k) := by
  subst hq; unfold zl; rw [if_pos (by omega), show o + k - o = k by omega]
theorem zl_get {m o k q : Nat} {z0 : Nat → Value} {l : Nat → Nat} (hk : k < 576) (hq : q = o + k) (hm : o + 576 ≤ m) : (va m (zl z0 o l))[q]? = some (.float .f32 (l k)) :=
  va_get (by omega) (zl_at hk hq)
theorem zl_ne {z0 : Nat → Value} {o : Nat} {l : Nat → Nat} {q : Nat} (hq : q < o ∨ o + 576 ≤ q) : zl z0 o l q = z0 q := by
  unfold zl; rw [if_neg (by omega)]
theorem zl_set {m o k q r : Nat} {z0 : Nat → Value} {l : Nat → Nat} (hk : k < 576) (hq : q = o + k) : (va m (zl z0 o l)).setIfInBounds q (.float .f32 r) = va m (zl z0 o (upd l k r)) := by
  rw [va_set]
  refine va_ext rfl fun j _ => ?_
  unfold zl upd
  by_cases e : j = q
  · rw [if_pos e, if_pos (by omega), if_pos (by omega)]
  · rw [if_neg e]
    by_cases h : o ≤ j ∧ j < o + 576
    · rw [if_pos h, if_pos h, if_neg (by omega)]
    · rw [if_neg h, if_neg h]
theorem zl_row {m o e : Nat} {z0 : Nat → Value} {l : Nat → Nat} (hm : o + 576 ≤ m) (he : e = o + 576) : (va m (zl z0 o l)).extract o e = va 576 (fl .f32 l) := by
  subst he
  rw [va_extract hm]
  refine va_ext (by omega) fun j hj => ?_
  rw [zl_at (k := j) (by omega) rfl]; rfl
theorem zl_splice {m o j n q : Nat} {z0 : Nat → Value} {l f : Nat → Nat} (hq : q = o + j) (hn : j + n ≤ 576) (hm : o + 576 ≤ m) : splice (va m (zl z0 o l)) q (va n (fl .f32 f)) = va m (zl z0 o (fun k => if j ≤ k ∧ k < j + n then f (k - j) else l k)) := by
  subst hq
  rw [va_splice (by omega)]
  refine va_ext rfl fun k _ => ?_
  unfold zl fl
  by_cases h : o + j ≤ k ∧ k < o + j + n
  · rw [if_pos h, if_pos (by omega)]; dsimp only; rw [if_pos (by omega), show k - (o + j) = k - o - j by omega]
  · rw [if_neg h]
    by_cases h2 : o ≤ k ∧ k < o + 576
    · rw [if_pos h2, if_pos h2]; dsimp only; rw [if_neg (by omega)]
    · rw [if_neg h2, if_neg h2]
theorem zl_swap {z0 : Nat → Value} {o p : Nat} {l r : Nat → Nat} (h : o + 576 ≤ p ∨ p + 576 ≤ o) : zl (zl z0 o l) p r = zl (zl z0 p r) o l := by
  funext q
  unfold zl
  by_cases h1 : p ≤ q ∧ q < p + 576
  · rw [if_pos h1, if_neg (by omega), if_pos h1]
  · rw [if_neg h1, if_neg h1]
theorem zl_one {z0 : Nat → Value} {o m : Nat} {l : Nat → Nat} (h : ∀ q, q < m → (z0 q).oneCell' = true) (q : Nat) (hq : q < m) : (zl z0 o l q).oneCell' = true := by
  unfold zl
  split
  · rfl
  · exact h q hq
theorem app_get {α : Type} {L H : List α} {i : Nat} {p : α} (h : H[i]? = some p) : (L ++ H)[L.length + i]? = some p := by
  rw [List.getElem?_append_right (by omega)]
  rw [show L.length + i - L.length = i by omega]; exact h
/-- What the four slices of lines hold, one of them laid anew. -/
theorem LO.all {L Hc : Hp} {y : Nat → Value} (n b : Nat) (l : Nat → Nat) {t : TypeId} (hy : ∀ i, i < 4 → LO L (y i)) (hL : ∀ p ∈ L, p ∈ Hc) (hb : (b, Obj.cells (va 576 (fl .f32 l)) t (0, 0)) ∈ Hc) :
    ∃ ls : Nat → Nat → Value, (∀ i, i < 4 → LL Hc (upd y n (.slice (some ⟨b, 0, none⟩) 576 576) i) (ls i)) ∧ ∀ k, ls n k = .float .f32 (l k) := by
  have hex : ∀ i, ∃ r : Nat → Value, i < 4 → LL Hc (y i) r := fun i => by
    by_cases hi : i < 4
    · rcases hy i hi with h | ⟨b', l', t', h1, h2, h3⟩
      · exact ⟨fun _ => .float .f32 0, fun _ => .inl ⟨h, fun _ _ => rfl⟩⟩
      · exact ⟨l', fun _ => by rw [h1]; exact LL.row (hL _ h2) h3⟩
    · exact ⟨fun _ => undef, fun h => absurd h hi⟩
  refine ⟨fun i => if i = n then fl .f32 l else Classical.choose (hex i), fun i hi => ?_, fun k => ?_⟩
  · dsimp only
    by_cases e : i = n
    · subst e
      rw [upd_at, if_pos rfl]
      exact LL.row hb fun _ _ => rfl
    · rw [upd_ne _ _ e, if_neg e]
      exact Classical.choose_spec (hex i) hi
  · dsimp only; rw [if_pos rfl]; rfl
/-- As 'LO.all', two of them laid anew. -/
theorem LO.all2 {L Hc : Hp} {y : Nat → Value} (n m b b' : Nat) (hnm : n ≠ m) (l l' : Nat → Nat) {t t' : TypeId} (hy : ∀ i, i < 4 → LO L (y i)) (hL : ∀ p ∈ L, p ∈ Hc) (hb : (b, Obj.cells (va 576 (fl .f32 l)) t (0, 0)) ∈ Hc) (hb' : (b', Obj.cells (va 576 (fl .f32 l')) t' (0, 0)) ∈ Hc) :
    ∃ ls : Nat → Nat → Value, (∀ i, i < 4 → LL Hc (upd (upd y n (.slice (some ⟨b, 0, none⟩) 576 576)) m (.slice (some ⟨b', 0, none⟩) 576 576) i) (ls i)) ∧ (∀ k, ls n k = .float .f32 (l k)) ∧ ∀ k, ls m k = .float .f32 (l' k) := by
  obtain ⟨ls, h1, h2⟩ := LO.all n b l hy hL hb
  refine ⟨fun i => if i = m then fl .f32 l' else ls i, fun i hi => ?_, fun k => ?_, fun k => ?_⟩
  · dsimp only
    by_cases e : i = m
    · subst e
      rw [upd_at, if_pos rfl]
      exact LL.row hb' fun _ _ => rfl
    · rw [upd_ne _ _ e, if_neg e]
      exact h1 i hi
  · dsimp only; rw [if_neg hnm]; exact h2 k
  · dsimp only; rw [if_pos rfl]; rfl
/-- Two numbers beside one another are stored in the frame. -/
theorem fr_splice2 {x : Nat → Int} {y : Nat → Value} {q : Nat} {a b : Int} (h : q + 2 ≤ 337) : splice (va 341 (fr x y)) q #[.int .i64 a, .int .i64 b] = va 341 (fr (upd (upd x q a) (q + 1) b) y) := by
  have e : (#[.int .i64 a, .int .i64 b] : Array Value) = va 2 (sd (fun k => if k = 0 then a else b)) := by unfold va; rfl
  rw [e, va_splice (by omega)]
  refine va_ext rfl fun k _ => ?_
  unfold fr upd sd
  by_cases h1 : q ≤ k ∧ k < q + 2
  · rw [if_pos h1, if_pos (by omega)]
    by_cases h2 : k = q + 1
    · rw [if_pos h2]; show Value.int .i64 (if k - q = 0 then a else b) = _; rw [if_neg (by omega)]
    · rw [if_neg h2, if_pos (by omega)]; show Value.int .i64 (if k - q = 0 then a else b) = _; rw [if_pos (by omega)]
  · rw [if_neg h1]
    by_cases h2 : k < 337
    · rw [if_pos h2, if_pos h2, if_neg (by omega), if_neg (by omega)]
    · rw [if_neg h2, if_neg h2]
/-- Main data has its lines at their places. -/
theorem mdk_zl {x : Nat → Int} {ls : Nat → Nat → Value} {i : Nat} {l : Nat → Nat} (hi : i < 4) (hl : ∀ k, k < 576 → ls i k = .float .f32 (l k)) : va 2548 (mdk x ls 4) = va 2548 (zl (mdk x ls 4) (244 + 576 * i) l) := by
  refine va_ext rfl fun q hq => ?_
  unfold zl
  by_cases h : 244 + 576 * i ≤ q ∧ q < 244 + 576 * i + 576
  · rw [if_pos h]
    have := mdk_line (x := x) (ls := ls) hi (show q - (244 + 576 * i) < 576 by omega)
    rw [show 244 + 576 * i + (q - (244 + 576 * i)) = q by omega] at this
    rw [this, hl _ (by omega)]
  · rw [if_neg h]
end Go.Proofs.YtbcjhkncifckiaaDoor
