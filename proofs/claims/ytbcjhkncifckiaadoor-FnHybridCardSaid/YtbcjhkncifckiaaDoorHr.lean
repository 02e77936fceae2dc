/- What the walks of the reference's bands take beyond: the reference's windows by place, a part of a slice, products of small numbers. No program is named here. -/
import Derived.Test.YtbcjhkncifckiaaDoorHw
namespace Go.Proofs.YtbcjhkncifckiaaDoor
open Ieee Go Go.RowKit Go.Proofs En Fl
theorem sh0 {k : Nat} (hk : k < 36) : sinS k 36 = some (shb 0 k) := by
  have h := (wn_ok (b := 0) (by decide) hk).2.1
  unfold shp at h
  rwa [if_neg (by omega), if_neg (by omega), if_neg (by omega), if_neg (by omega)] at h
theorem sh1 {k : Nat} (hk : k < 36) : (k < 18 → sinS k 36 = some (shb 1 k)) ∧ (18 ≤ k → k < 24 → 4607182418800017408 = shb 1 k) ∧ (24 ≤ k → k < 30 → sinS (k - 18) 12 = some (shb 1 k)) ∧ (30 ≤ k → 0 = shb 1 k) := by
  have h := (wn_ok (b := 1) (by decide) hk).2.1
  unfold shp at h
  refine ⟨fun h1 => ?_, fun h1 h2 => ?_, fun h1 h2 => ?_, fun h1 => ?_⟩
  · rwa [if_neg (by omega), if_neg (by omega), if_neg (by omega), if_neg (by omega)] at h
  · rw [if_neg (by omega), if_neg (by omega), if_neg (by omega), if_pos (by omega)] at h; exact Option.some.inj h
  · rwa [if_neg (by omega), if_pos (by omega)] at h
  · rw [if_pos (by omega)] at h; exact Option.some.inj h
theorem sh3 {k : Nat} (hk : k < 36) : (k < 6 → 0 = shb 3 k) ∧ (6 ≤ k → k < 12 → sinS (k - 6) 12 = some (shb 3 k)) ∧ (12 ≤ k → k < 18 → 4607182418800017408 = shb 3 k) ∧ (18 ≤ k → sinS k 36 = some (shb 3 k)) := by
  have h := (wn_ok (b := 3) (by decide) hk).2.1
  unfold shp at h
  refine ⟨fun h1 => ?_, fun h1 h2 => ?_, fun h1 h2 => ?_, fun h1 => ?_⟩
  · rw [if_pos (by omega)] at h; exact Option.some.inj h
  · rwa [if_neg (by omega), if_neg (by omega), if_pos (by omega)] at h
  · rw [if_neg (by omega), if_neg (by omega), if_neg (by omega), if_pos (by omega)] at h; exact Option.some.inj h
  · rwa [if_neg (by omega), if_neg (by omega), if_neg (by omega), if_neg (by omega)] at h
theorem mul_small {a b : Int} {n m : Nat} (ha : a = n) (hb : b = m) (hn : n ≤ 100) (hm : m ≤ 100) : IntKind.i64.wrap (a * b) = ((n * m : Nat) : Int) := by
  subst ha; subst hb
  have := Nat.mul_le_mul hn hm
  rw [← Int.natCast_mul]
  exact IntWalk.i64_in _ ⟨by omega, by omega⟩
section
variable {P : Program} {n : Nat} {E : Env} {w0 : World} {H : Hp} {dst : Option Tmp} {ty : TypeId} {pos : String} {after : Array Edge} {g : Option (Nat × Bool)}
theorem YF.sliceN {T e s b o len cap l h' q m c : Nat} {x y z : Operand} {k k' : IntKind} {lo hi : Int} (h : sliceOf P T = some (e, s)) (hx : ev E x = some (.slice (some ⟨b, o, none⟩) len cap)) (hy : ev E y = some (.int k lo)) (hz : ev E z = some (.int k' hi))
    (hlo : lo = l) (hhi : hi = h') (hb : l ≤ h' ∧ h' ≤ cap ∧ l < cap) (hq : o + l * s = q) (hm : h' - l = m) (hc : cap - l = c) :
    YF P n E w0 H ⟨dst, .slice T x (some y) (some z) none, ty, pos, after, g⟩ (.slice (some ⟨b, q, none⟩) m c) := by
  subst hm; subst hc
  exact YF.sliceSl h hx hy hz hlo hhi hb hq
/-- A guard that asks an operation that was itself passed over. -/
def wantsU (ops : Array Oper) (E : Env) (j : Nat × Bool) : Bool :=
  match (ops[j.1]?).bind (·.dst) with
  | some t => match get E t with
    | some (.tuple _) => true
    | _ => false
  | none => false
theorem wantedU_of {ops : Array Oper} {o : Oper} {j : Nat × Bool} {a : Act} (ha : Agree n E a) (hg : o.guard = some j) (h : wantsU ops E j = true) : Region.wanted o (yielded ops a.tmps) = false := by
  obtain ⟨j, want⟩ := j
  unfold wantsU at h
  simp only at h
  unfold Region.wanted yielded
  rw [hg]
  simp only
  cases ht : (ops[j]?).bind (·.dst) with
  | none => rw [ht] at h; cases h
  | some t =>
    rw [ht] at h
    simp only at h
    cases hv : get E t with
    | none => rw [hv] at h; cases h
    | some v =>
      rw [hv] at h
      have he := ha.get t v hv
      cases v <;> simp only at h <;> first | (cases h; done) | skip
      case tuple c =>
        rw [Array.getD_eq_getD_getElem?] at he
        cases hq : a.tmps[t]? with
        | none => simp [hq]
        | some u =>
          rw [hq] at he
          simp only [Option.getD_some] at he
          subst he
          simp [hq]
theorem TL.gnoU {ops : Array Oper} {Q : Exit → Act → World → Prop} {l : List Oper} {d : Nat} {op : Op} {ty : TypeId} {pos : String} {after : Array Edge} {j : Nat × Bool} (hw : wantsU ops E j = true) (hd : d < n)
    (h : TL P ops Q l n ((d, undef) :: E) w0 H) : TL P ops Q (⟨some d, op, ty, pos, after, some j⟩ :: l) n E w0 H :=
  fun a w ha hh => wpList_step fun K hK => by
    rw [if_neg (by rw [wantedU_of ha rfl hw]; simp)]
    exact hK _ _ (h _ _ (ha.put hd _) hh)
end
theorem btOf_zero {s : Nat → Int} {g c t : Nat} (h : s (26 + 2 * g + c) = 0) (h0 : s (30 + 2 * g + c) = 0) : btOf s g c t = 0 := by
  unfold btOf
  split
  · rfl
  · rw [h0]; rfl
theorem btOf_mixed {s : Nat → Int} {g c t : Nat} (h : s (26 + 2 * g + c) = 1) (h2 : s (34 + 2 * g + c) = 1) (h3 : t < 2) : btOf s g c t = 0 := by
  unfold btOf; rw [if_pos ⟨h, h2, h3⟩]
theorem btOf_else {s : Nat → Int} {g c t : Nat} (h : ¬ (s (34 + 2 * g + c) = 1 ∧ t < 2)) (h0 : 0 ≤ s (30 + 2 * g + c)) : ((btOf s g c t : Nat) : Int) = s (30 + 2 * g + c) := by
  unfold btOf; rw [if_neg fun hq => h hq.2]; omega
end Go.Proofs.YtbcjhkncifckiaaDoor
