/- Middle and side: the plain law, over rational numbers; two rows of lines side by side. No program is named here. -/
import Derived.Test.YtbcjhkncifckiaaDoorSm
namespace Go.Proofs.YtbcjhkncifckiaaDoor
open Ieee Go Go.RowKit Go.Proofs En Fl
set_option maxRecDepth 100000

/-! ## Two rows side by side -/
def zz (z0 : Nat → Value) (o : Nat) (l r : Nat → Nat) : Nat → Value := fun q => if o ≤ q ∧ q < o + 1152 then .float .f32 (if q - o < 576 then l (q - o) else r (q - o - 576)) else z0 q
theorem zz_get0 {o k q : Nat} {z0 : Nat → Value} {l r : Nat → Nat} (hk : k < 576) (hq : q = o + k) (hm : o + 1152 ≤ 2548) : (va 2548 (zz z0 o l r))[q]? = some (.float .f32 (l k)) := by
  subst hq
  refine va_get (by omega) ?_
  unfold zz; rw [if_pos (by omega), if_pos (by omega), show o + k - o = k by omega]
theorem zz_get1 {o k q : Nat} {z0 : Nat → Value} {l r : Nat → Nat} (hk : k < 576) (hq : q = o + 576 + k) (hm : o + 1152 ≤ 2548) : (va 2548 (zz z0 o l r))[q]? = some (.float .f32 (r k)) := by
  subst hq
  refine va_get (by omega) ?_
  unfold zz; rw [if_pos (by omega), if_neg (by omega), show o + 576 + k - o - 576 = k by omega]
theorem zz_set0 {o k q v : Nat} {z0 : Nat → Value} {l r : Nat → Nat} (hk : k < 576) (hq : q = o + k) : (va 2548 (zz z0 o l r)).setIfInBounds q (.float .f32 v) = va 2548 (zz z0 o (upd l k v) r) := by
  subst hq
  rw [va_set]
  refine va_ext rfl fun j _ => ?_
  unfold zz upd
  by_cases e : j = o + k
  · rw [if_pos e, if_pos (by omega), if_pos (by omega), if_pos (by omega)]
  · rw [if_neg e]
    by_cases h : o ≤ j ∧ j < o + 1152
    · rw [if_pos h, if_pos h]
      by_cases h2 : j - o < 576
      · rw [if_pos h2, if_pos h2, if_neg (by omega)]
      · rw [if_neg h2, if_neg h2]
    · rw [if_neg h, if_neg h]
theorem zz_set1 {o k q v : Nat} {z0 : Nat → Value} {l r : Nat → Nat} (hk : k < 576) (hq : q = o + 576 + k) : (va 2548 (zz z0 o l r)).setIfInBounds q (.float .f32 v) = va 2548 (zz z0 o l (upd r k v)) := by
  subst hq
  rw [va_set]
  refine va_ext rfl fun j _ => ?_
  unfold zz upd
  by_cases e : j = o + 576 + k
  · rw [if_pos e, if_pos (by omega), if_neg (by omega), if_pos (by omega)]
  · rw [if_neg e]
    by_cases h : o ≤ j ∧ j < o + 1152
    · rw [if_pos h, if_pos h]
      by_cases h2 : j - o < 576
      · rw [if_pos h2, if_pos h2]
      · rw [if_neg h2, if_neg h2, if_neg (by omega)]
    · rw [if_neg h, if_neg h]
/-- Both rows. -/
def two (l r : Nat → Nat) : Nat → Value := fun q => .float .f32 (if q < 576 then l q else r (q - 576))
theorem zz_rows {o e : Nat} {z0 : Nat → Value} {l r : Nat → Nat} (hm : o + 1152 ≤ 2548) (he : e = o + 1152) : (va 2548 (zz z0 o l r)).extract o e = va 1152 (two l r) := by
  subst he
  rw [va_extract hm]
  refine va_ext (by omega) fun j hj => ?_
  unfold zz two
  rw [if_pos (by omega), show o + j - o = j by omega]
theorem two_get0 {l r : Nat → Nat} {k : Nat} (hk : k < 576) : (va 1152 (two l r))[0 + k]? = some (.float .f32 (l k)) := va_get (by omega) (by unfold two; rw [Nat.zero_add, if_pos hk])
theorem two_get1 {l r : Nat → Nat} {k : Nat} (hk : k < 576) : (va 1152 (two l r))[576 + k]? = some (.float .f32 (r k)) := va_get (by omega) (by unfold two; rw [if_neg (by omega), show 576 + k - 576 = k by omega])
theorem mdk_zz {x : Nat → Int} {ls : Nat → Nat → Value} {g : Nat} {l r : Nat → Nat} (hg : g < 2) (hl : ∀ k, k < 576 → ls (2 * g) k = .float .f32 (l k)) (hr : ∀ k, k < 576 → ls (2 * g + 1) k = .float .f32 (r k)) :
    va 2548 (mdk x ls 4) = va 2548 (zz (mdk x ls 4) (244 + 1152 * g) l r) := by
  refine va_ext rfl fun q hq => ?_
  unfold zz
  by_cases h : 244 + 1152 * g ≤ q ∧ q < 244 + 1152 * g + 1152
  · rw [if_pos h]
    by_cases h2 : q - (244 + 1152 * g) < 576
    · rw [if_pos h2]
      have := mdk_line (x := x) (ls := ls) (show 2 * g < 4 by omega) h2
      rw [show 244 + 576 * (2 * g) + (q - (244 + 1152 * g)) = q by omega] at this
      rw [this, hl _ h2]
    · rw [if_neg h2]
      have := mdk_line (x := x) (ls := ls) (show 2 * g + 1 < 4 by omega) (show q - (244 + 1152 * g) - 576 < 576 by omega)
      rw [show 244 + 576 * (2 * g + 1) + (q - (244 + 1152 * g) - 576) = q by omega] at this
      rw [this, hr _ (by omega)]
  · rw [if_neg h]

/-! ## Rows that grow by one -/
def gz (n : Nat) (z : Nat → Value) (l : Nat → Nat) : Nat → Value := fun q => if q < n then .float .f64 (l q) else z q
section
variable {P : Program} {n : Nat} {E : Env} {w0 : World} {H : Hp} {dst : Option Tmp} {ty : TypeId} {pos : String} {after : Array Edge} {g : Option (Nat × Bool)}
theorem EF.appendOne (i j : Nat) {T e bytes b b' m cap v c : Nat} {x y : Operand} {l : Nat → Nat} {zf : Nat → Value} {t : TypeId} {fr : Nat × Nat} {z : Value} (h : sliceOf P T = some (e, 1)) (hb : (P.info? e).map (·.bytes) = some bytes) (hz : zeroOf P e = some z) (hz1 : z.oneCell' = true) (h8 : bytes = 8)
    (hx : ev E x = some (.slice (some ⟨b, 0, none⟩) m cap)) (hi : H[i]? = some (b, .cells (va cap (gz m zf l)) e (0, 0))) (hm : m ≤ cap ∧ cap ≤ maxLen) (hm6 : m ≤ 600)
    (hy : ev E y = some (.slice (some ⟨b', 0, none⟩) 1 c)) (hj : H[j]? = some (b', .cells #[.float .f64 v] t fr)) :
    EF P n E w0 H ⟨dst, .call { callee := .builtin .append, args := #[x, y], argTypes := #[T, T] }, ty, pos, after, g⟩ (fun u H' => ∃ (b'' S : Nat) (z' : Nat → Value), (m + 1 ≤ S ∧ S ≤ maxLen) ∧ u = .slice (some ⟨b'', 0, none⟩) (m + 1) S ∧ H' = (b'', .cells (va S (gz (m + 1) z' (upd l m v))) e (0, 0)) :: H.eraseIdx i) := by
  subst h8
  refine (EF.append i j h hb hz hz1 hx hi hm.1 hm.2 (va_size _ _) hy hj (show 0 + 1 ≤ 1 from Nat.le_refl 1) (by intro u hu; simp at hu; subst hu; rfl) (by simp only [maxLen]; omega) (by omega)).mono fun u H' hu => ?_
  obtain ⟨b'', S, z', h1, h2, h3, h4⟩ := Grew.va (n := m + 1) (f := fl .f64 (upd l m v)) hu (by
    rw [va_toList, List.range_succ, List.map_append]
    congr 1
    · rw [← List.map_take, List.take_range, Nat.min_eq_left hm.1]
      refine List.map_congr_left fun k hk => ?_
      have hk' := List.mem_range.1 hk
      unfold gz fl
      rw [if_pos hk', upd_ne _ _ (by omega)]
    · show [Value.float .f64 v] = [fl .f64 (upd l m v) m]
      unfold fl; rw [upd_at])
  exact ⟨b'', S, z', ⟨h1, h2⟩, h3, h4⟩
end

/-! ## One pair -/
def hb : Nat := 1060439283
def qb : Nat := 4609047870845172685
def Cm : Rat := V single hb
theorem hb_facts : Fin single hb ∧ Fin double qb ∧ mg Cm ≤ 1 ∧ 1 ≤ V double qb ∧ mg (1 / V double qb - Cm) ≤ 1 / 10000000 ∧ mg (2 * Cm * Cm - 1) ≤ 1 / 1000000 := by
  have h : dfin (single.read hb) = true ∧ dfin (double.read qb) = true ∧ mg Cm ≤ 1 ∧ 1 ≤ V double qb ∧ mg (1 / V double qb - Cm) ≤ 1 / 10000000 ∧ mg (2 * Cm * Cm - 1) ≤ 1 / 1000000 := by decide +kernel
  exact h
theorem both_impl {a b : Nat} (ha : Fin single a) (hb' : Fin single b) {G : Rat} (hG0 : 0 ≤ G) (hG : G ≤ 100) (hA : mg (V single a) ≤ G) (hB : mg (V single b) ≤ G) :
    ∃ s p d q, single.add a b = some s ∧ single.mul s hb = some p ∧ single.sub a b = some d ∧ single.mul d hb = some q ∧
      Ap single p ((V single a + V single b) * Cm) (G / 1000000 + 1 / 10 ^ 30) ∧ Ap single q ((V single a - V single b) * Cm) (G / 1000000 + 1 / 10 ^ 30) := by
  obtain ⟨h1, _, h3, _⟩ := hb_facts
  have hbig : (10000 : Rat) ≤ big := by decide +kernel
  have ht : tiny ≤ 1 / 10 ^ 32 := by decide +kernel
  have ht0 := tiny_nonneg
  have eU : U single = 1 / 16777216 := by decide +kernel
  obtain ⟨s, e1, s1⟩ := add_ap two_single ha hb' (S := 2 * G) (by grind) (by grind)
  obtain ⟨d, e2, d1⟩ := sub_ap two_single ha hb' (S := 2 * G) (by grind) (by grind)
  rw [eU] at s1 d1
  have hs := mg_add (V single a) (V single b)
  have hd := mg_sub (V single a) (V single b)
  have ss := s1.le (B := 3 * G + 1 / 10 ^ 32) (by grind)
  have dd := d1.le (B := 3 * G + 1 / 10 ^ 32) (by grind)
  obtain ⟨p, e3, p1⟩ := mul_ap two_single s1.fin h1 ss h3 (by grind)
  obtain ⟨q, e4, q1⟩ := mul_ap two_single d1.fin h1 dd h3 (by grind)
  rw [eU] at p1 q1
  refine ⟨s, p, d, q, e1, e3, e2, e4, ⟨p1.fin, ?_⟩, ⟨q1.fin, ?_⟩⟩
  · have n1 := p1.near
    have n2 := mul_le s1.near h3
    rw [show (V single s - (V single a + V single b)) * Cm = V single s * Cm - (V single a + V single b) * Cm by grind] at n2
    have e : V single s * V single hb = V single s * Cm := rfl
    rw [e] at n1
    generalize V single s * Cm = x1 at *
    generalize (V single a + V single b) * Cm = x2 at *
    rw [mg_le] at *
    constructor <;> grind
  · have n1 := q1.near
    have n2 := mul_le d1.near h3
    rw [show (V single d - (V single a - V single b)) * Cm = V single d * Cm - (V single a - V single b) * Cm by grind] at n2
    have e : V single d * V single hb = V single d * Cm := rfl
    rw [e] at n1
    generalize V single d * Cm = x1 at *
    generalize (V single a - V single b) * Cm = x2 at *
    rw [mg_le] at *
    constructor <;> grind
theorem both_spec {a b : Nat} (ha : Fin double a) (hb' : Fin double b) {G : Rat} (hG0 : 0 ≤ G) (hG : G ≤ 100) (hA : mg (V double a) ≤ G) (hB : mg (V double b) ≤ G) :
    ∃ s p d q, double.add a b = some s ∧ double.div s qb = some p ∧ double.sub a b = some d ∧ double.div d qb = some q ∧
      Ap double p ((V double a + V double b) * Cm) (G / 1000000 + 1 / 10 ^ 30) ∧ Ap double q ((V double a - V double b) * Cm) (G / 1000000 + 1 / 10 ^ 30) := by
  obtain ⟨_, h2, h3, h4, h5, _⟩ := hb_facts
  have hbig : (10000 : Rat) ≤ big := by decide +kernel
  have ht : tiny ≤ 1 / 10 ^ 32 := by decide +kernel
  have ht0 := tiny_nonneg
  have eU : U double = 1 / 9007199254740992 := by decide +kernel
  obtain ⟨s, e1, s1⟩ := add_ap two_double ha hb' (S := 2 * G) (by grind) (by grind)
  obtain ⟨d, e2, d1⟩ := sub_ap two_double ha hb' (S := 2 * G) (by grind) (by grind)
  rw [eU] at s1 d1
  have hs := mg_add (V double a) (V double b)
  have hd := mg_sub (V double a) (V double b)
  have ss := s1.le (B := 3 * G + 1 / 10 ^ 32) (by grind)
  have dd := d1.le (B := 3 * G + 1 / 10 ^ 32) (by grind)
  obtain ⟨p, e3, p1⟩ := div_ap two_double s1.fin h2 ss h4 (by grind)
  obtain ⟨q, e4, q1⟩ := div_ap two_double d1.fin h2 dd h4 (by grind)
  rw [eU] at p1 q1
  generalize V double qb = R at *
  have n3 := mul_le ss h5
  have n4 := mul_le dd h5
  refine ⟨s, p, d, q, e1, e3, e2, e4, ⟨p1.fin, ?_⟩, ⟨q1.fin, ?_⟩⟩
  · have n1 := p1.near
    have n2 := mul_le s1.near h3
    rw [show (V double s - (V double a + V double b)) * Cm = V double s * Cm - (V double a + V double b) * Cm by grind] at n2
    rw [show V double s * (1 / R - Cm) = V double s / R - V double s * Cm by grind] at n3
    generalize V double s * Cm = x1 at *
    generalize V double s / R = x3 at *
    generalize (V double a + V double b) * Cm = x2 at *
    rw [mg_le] at *
    constructor <;> grind
  · have n1 := q1.near
    have n2 := mul_le d1.near h3
    rw [show (V double d - (V double a - V double b)) * Cm = V double d * Cm - (V double a - V double b) * Cm by grind] at n2
    rw [show V double d * (1 / R - Cm) = V double d / R - V double d * Cm by grind] at n4
    generalize V double d * Cm = x1 at *
    generalize V double d / R = x3 at *
    generalize (V double a - V double b) * Cm = x2 at *
    rw [mg_le] at *
    constructor <;> grind
/-- Up to line n both rows are put together. -/
def MS (f : Format) (e : Rat) (X Y : Nat → Rat) (x y : Nat → Nat) (n : Nat) (l r : Nat → Nat) : Prop :=
  ∀ k, k < 576 → (k < n → Ap f (l k) ((X k + Y k) * Cm) e ∧ Ap f (r k) ((X k - Y k) * Cm) e) ∧ (n ≤ k → l k = x k ∧ r k = y k)
theorem MS.zero {f : Format} {e : Rat} {X Y : Nat → Rat} {x y : Nat → Nat} : MS f e X Y x y 0 x y := fun k _ => ⟨fun h => absurd h (by omega), fun _ => ⟨rfl, rfl⟩⟩
theorem MS.step {f : Format} {e : Rat} {X Y : Nat → Rat} {x y l r : Nat → Nat} {n p q : Nat} (h : MS f e X Y x y n l r) (h1 : Ap f p ((X n + Y n) * Cm) e) (h2 : Ap f q ((X n - Y n) * Cm) e) : MS f e X Y x y (n + 1) (upd l n p) (upd r n q) := by
  intro k hk
  by_cases e1 : k = n
  · subst e1
    rw [upd_at, upd_at]
    exact ⟨fun _ => ⟨h1, h2⟩, fun h => absurd h (by omega)⟩
  · rw [upd_ne _ _ e1, upd_ne _ _ e1]
    have := h k hk
    exact ⟨fun h' => this.1 (by omega), fun h' => this.2 (by omega)⟩
/-- What the step of both channels makes. -/
def SR (M J : Int) (e : Rat) (x y l r : Nat → Nat) : Prop :=
  (M = 1 ∧ J = 2 → MS single e (fun q => V single (x q)) (fun q => V single (y q)) x y 576 l r) ∧ (¬ (M = 1 ∧ J = 2) → l = x ∧ r = y)
/-- What the package and the reference make lies near. -/
theorem both_near {p q : Nat} {Z G T : Rat} (hG : G ≤ 100) (hZ : mg Z ≤ 2 * G) (h1 : Ap single p Z (G / 1000000 + 1 / 10 ^ 30)) (h2 : Ap double q Z (G / 1000000 + 1 / 10 ^ 30)) (hT0 : -(1 / 10 ^ 20) ≤ T) (hT : G ≤ T + 1 / 10 ^ 10) :
    Fin single p ∧ Fin double q ∧ mg (V single p) ≤ 100000 ∧ mg (V single p - V double q) ≤ T / 20000 + 1 / 10 ^ 10 := by
  refine ⟨h1.fin, h2.fin, h1.le (by grind), ?_⟩
  have n1 := h1.near; have n2 := h2.near
  rw [show T / 20000 = T * (1 / 20000) by grind]
  rw [mg_le] at *
  constructor <;> grind
theorem same_near {p q : Nat} {G T : Rat} (hG : G ≤ 100) (h1 : Fin single p) (h2 : Fin double q) (hp : mg (V single p) ≤ G) (he : V double q = V single p) (hT0 : -(1 / 10 ^ 20) ≤ T) :
    Fin single p ∧ Fin double q ∧ mg (V single p) ≤ 100000 ∧ mg (V single p - V double q) ≤ T / 20000 + 1 / 10 ^ 10 := by
  rw [he, Rat.sub_self, show mg (0 : Rat) = 0 by decide, show T / 20000 = T * (1 / 20000) by grind]
  exact ⟨h1, h2, by grind, by grind⟩
theorem sum_le {X Y G : Rat} (hX : mg X ≤ G) (hY : mg Y ≤ G) : mg ((X + Y) * Cm) ≤ 2 * G ∧ mg ((X - Y) * Cm) ≤ 2 * G := by
  have h := hb_facts.2.2.1
  have h1 := mg_add X Y
  have h2 := mg_sub X Y
  have h3 := mul_le (show mg (X + Y) ≤ 2 * G by grind) h
  have h4 := mul_le (show mg (X - Y) ≤ 2 * G by grind) h
  constructor <;> grind
/-- The greatest of two rows. -/
theorem greatest_two (X Y : Nat → Rat) : ∃ G, 0 ≤ G ∧ (∀ k, k < 576 → mg (X k) ≤ G ∧ mg (Y k) ≤ G) ∧ ∀ M, 0 ≤ M → (∀ k, k < 576 → mg (X k) ≤ M ∧ mg (Y k) ≤ M) → G ≤ M := by
  obtain ⟨A, a1, a2, a3⟩ := greatest_some 576 X
  obtain ⟨B, b1, b2, b3⟩ := greatest_some 576 Y
  by_cases h : A ≤ B
  · exact ⟨B, b1, fun k hk => ⟨Rat.le_trans (a2 k hk) h, b2 k hk⟩, fun M h0 hM => b3 M h0 fun k hk => (hM k hk).2⟩
  · have h' : B ≤ A := Rat.le_of_lt (Rat.not_le.1 h)
    exact ⟨A, a1, fun k hk => ⟨a2 k hk, Rat.le_trans (b2 k hk) h'⟩, fun M h0 hM => a3 M h0 fun k hk => (hM k hk).1⟩
theorem fr_setK {x : Nat → Int} {y : Nat → Value} {q k : Nat} {v : Value} (h : q = 337 + k) : (va 341 (fr x y)).setIfInBounds q v = va 341 (fr x (upd y k v)) := by
  subst h
  rw [fr_setL (by omega), show 337 + k - 337 = k by omega]
/-- The second rows of the step lie in its block. -/
theorem LL.two {Hc : Hp} {y : Nat → Value} {ls : Nat → Nat → Value} {bo : Nat} {l r : Nat → Nat} {t : TypeId} (hls : ∀ i, i < 4 → LL Hc (y i) (ls i)) (hb : (bo, Obj.cells (va 1152 (two l r)) t (0, 0)) ∈ Hc) :
    ∃ ls' : Nat → Nat → Value, (∀ i, i < 4 → LL Hc (upd (upd y 0 (.slice (some ⟨bo, 0, none⟩) 576 576)) 1 (.slice (some ⟨bo, 576, none⟩) 576 576) i) (ls' i)) ∧ (∀ k, ls' 0 k = .float .f32 (l k)) ∧ ∀ k, ls' 1 k = .float .f32 (r k) := by
  obtain ⟨j, hj⟩ := List.getElem?_of_mem hb
  refine ⟨fun i => if i = 1 then fl .f32 r else if i = 0 then fl .f32 l else ls i, fun i hi => ?_, fun k => rfl, fun k => rfl⟩
  dsimp only
  by_cases e : i = 1
  · subst e
    rw [upd_at, if_pos rfl]
    exact .inr ⟨j, bo, 576, 576, _, t, _, rfl, hj, fun k hk => two_get1 hk, fun _ _ => rfl⟩
  · rw [upd_ne _ _ e, if_neg e]
    by_cases e0 : i = 0
    · subst e0
      rw [upd_at, if_pos rfl]
      exact .inr ⟨j, bo, 0, 576, _, t, _, rfl, hj, fun k hk => two_get0 hk, fun _ _ => rfl⟩
    · rw [upd_ne _ _ e0, if_neg e0]
      exact hls i hi
theorem sd_set {n k : Nat} {h : Nat → Int} {v : Int} : (va n (sd h)).setIfInBounds k (.int .i64 v) = va n (sd (upd h k v)) := by
  rw [va_set]
  refine va_ext rfl fun j _ => ?_
  unfold sd upd
  by_cases e : j = k
  · rw [if_pos e, if_pos e]
  · rw [if_neg e, if_neg e]
/-- Put together twice, rows are as they were. -/
theorem twice_near {p : Nat} {X Y A B G T e1 : Rat} (hG0 : 0 ≤ G) (hG : G ≤ 10) (hX : mg X ≤ G) (hY : mg Y ≤ G) (hA : mg (A - (X + Y) * Cm) ≤ G / 1000000 + 1 / 10 ^ 30) (hB : mg (B - (X - Y) * Cm) ≤ G / 1000000 + 1 / 10 ^ 30)
    (hp : Ap single p ((A + B) * Cm) e1) (he : e1 ≤ 3 * G / 1000000 + 1 / 10 ^ 29) (hT0 : -(1 / 10 ^ 20) ≤ T) (hT : G ≤ T + 1 / 10 ^ 10) : mg (V single p) ≤ 100000 ∧ mg (V single p - X) ≤ T / 20000 + 1 / 10 ^ 10 := by
  obtain ⟨_, _, h3, _, _, h6⟩ := hb_facts
  have n1 := hp.near
  have n2 := mul_le hA h3
  have n3 := mul_le hB h3
  have n4 := mul_le hX h6
  rw [show X * (2 * Cm * Cm - 1) = 2 * X * Cm * Cm - X by grind] at n4
  rw [show (A - (X + Y) * Cm) * Cm = A * Cm - (X * Cm * Cm + Y * Cm * Cm) by grind] at n2
  rw [show (B - (X - Y) * Cm) * Cm = B * Cm - (X * Cm * Cm - Y * Cm * Cm) by grind] at n3
  rw [show (A + B) * Cm = A * Cm + B * Cm by grind] at n1
  rw [show 2 * X * Cm * Cm = 2 * (X * Cm * Cm) by grind] at n4
  generalize X * Cm * Cm = u1 at *
  generalize Y * Cm * Cm = u2 at *
  generalize A * Cm = u3 at *
  generalize B * Cm = u4 at *
  rw [show T / 20000 = T * (1 / 20000) by grind]
  rw [mg_le] at *
  refine ⟨?_, ?_⟩
  · constructor <;> grind
  · rw [mg_le]; constructor <;> grind
theorem twice_near' {p : Nat} {X Y A B G T e1 : Rat} (hG0 : 0 ≤ G) (hG : G ≤ 10) (hX : mg X ≤ G) (hY : mg Y ≤ G) (hA : mg (A - (X + Y) * Cm) ≤ G / 1000000 + 1 / 10 ^ 30) (hB : mg (B - (X - Y) * Cm) ≤ G / 1000000 + 1 / 10 ^ 30)
    (hp : Ap single p ((A - B) * Cm) e1) (he : e1 ≤ 3 * G / 1000000 + 1 / 10 ^ 29) (hT0 : -(1 / 10 ^ 20) ≤ T) (hT : G ≤ T + 1 / 10 ^ 10) : mg (V single p) ≤ 100000 ∧ mg (V single p - Y) ≤ T / 20000 + 1 / 10 ^ 10 := by
  refine twice_near (X := Y) (Y := X) (A := A) (B := -B) hG0 hG hY hX (by rw [Rat.add_comm]; exact hA) ?_ (by rw [← Rat.sub_eq_add_neg]; exact hp) he hT0 hT
  rw [show -B - (Y - X) * Cm = -(B - (X - Y) * Cm) by grind, mg_neg]
  exact hB
theorem LL.mono2 {H : Hp} {v : Value} {l : Nat → Value} (h : LL H v l) (H' : Hp) (hs : ∀ p ∈ H, p ∈ H') : LL H' v l := h.mono hs
theorem va_zero (f : Nat → Value) : va 0 f = #[] := by unfold va; rfl
theorem two_one (l r : Nat → Nat) (n : Nat) : (va n (two l r)).toList.all Value.oneCell' = true := va_one fun _ _ => rfl
theorem zz_one {z0 : Nat → Value} {o m : Nat} {l r : Nat → Nat} (h : ∀ q, q < m → (z0 q).oneCell' = true) (q : Nat) (hq : q < m) : (zz z0 o l r q).oneCell' = true := by
  unfold zz
  split
  · rfl
  · exact h q hq
end Go.Proofs.YtbcjhkncifckiaaDoor
