/- What is left of aliases between bands: the plain law, over rational numbers. No program is named here. -/
import Derived.Test.YtbcjhkncifckiaaDoorFo
import Derived.Test.YtbcjhkncifckiaaDoorOp3
namespace Go.Proofs.YtbcjhkncifckiaaDoor
open Ieee Go Go.RowKit Go.Proofs En Fl

/-! ## Products, sums, quotients within bounds -/
theorem mg_sub (x y : Rat) : mg (x - y) ≤ mg x + mg y := by
  have := mg_add x (-y)
  rw [mg_neg] at this
  rwa [Rat.sub_eq_add_neg]
theorem mul_le {a b A B : Rat} (ha : mg a ≤ A) (hb : mg b ≤ B) : mg (a * b) ≤ A * B := by
  rw [mg_mul]
  have h0 := mg_nonneg a
  have h1 := mg_nonneg b
  exact Rat.le_trans (Rat.mul_le_mul_of_nonneg_right ha h1) (Rat.mul_le_mul_of_nonneg_left hb (Rat.le_trans h0 ha))
theorem mul_ap {f : Format} (hf : Two f) {a b : Nat} (ha : Fin f a) (hb : Fin f b) {A B : Rat} (hA : mg (V f a) ≤ A) (hB : mg (V f b) ≤ B) (hM : A * B ≤ big) :
    ∃ r, f.mul a b = some r ∧ Ap f r (V f a * V f b) (A * B * U f + tiny) := by
  have h := mul_le hA hB
  obtain ⟨r, h1, h2⟩ := mul_near hf ha hb (Rat.le_trans h hM)
  refine ⟨r, h1, h2.mono ?_⟩
  have := Rat.mul_le_mul_of_nonneg_right h (U_nonneg f)
  grind
theorem add_ap {f : Format} (hf : Two f) {a b : Nat} (ha : Fin f a) (hb : Fin f b) {S : Rat} (hS : mg (V f a) + mg (V f b) ≤ S) (hM : S ≤ big) :
    ∃ r, f.add a b = some r ∧ Ap f r (V f a + V f b) (S * U f + tiny) := by
  have h := Rat.le_trans (mg_add (V f a) (V f b)) hS
  obtain ⟨r, h1, h2⟩ := add_near hf ha hb (Rat.le_trans h hM)
  refine ⟨r, h1, h2.mono ?_⟩
  have := Rat.mul_le_mul_of_nonneg_right h (U_nonneg f)
  grind
theorem sub_ap {f : Format} (hf : Two f) {a b : Nat} (ha : Fin f a) (hb : Fin f b) {S : Rat} (hS : mg (V f a) + mg (V f b) ≤ S) (hM : S ≤ big) :
    ∃ r, f.sub a b = some r ∧ Ap f r (V f a - V f b) (S * U f + tiny) := by
  have h := Rat.le_trans (mg_sub (V f a) (V f b)) hS
  obtain ⟨r, h1, h2⟩ := sub_near hf ha hb (Rat.le_trans h hM)
  refine ⟨r, h1, h2.mono ?_⟩
  have := Rat.mul_le_mul_of_nonneg_right h (U_nonneg f)
  grind
/-- A quotient by a number of at least 1. -/
theorem div_ap {f : Format} (hf : Two f) {a b : Nat} (ha : Fin f a) (hb : Fin f b) {A : Rat} (hA : mg (V f a) ≤ A) (h1 : 1 ≤ V f b) (hM : A ≤ big / 2) :
    ∃ r, f.div a b = some r ∧ Ap f r (V f a / V f b) (A * (3 * U f) + tiny) := by
  have h0 : (0 : Rat) < V f b := Std.lt_of_lt_of_le (by decide) h1
  have hinv : mg (V f b)⁻¹ ≤ 1 := by
    have hp : (0 : Rat) < (V f b)⁻¹ := Rat.inv_pos.2 h0
    have he : (V f b)⁻¹ * V f b = 1 := Rat.inv_mul_cancel _ (Rat.ne_of_gt h0)
    have : (V f b)⁻¹ * 1 ≤ (V f b)⁻¹ * V f b := Rat.mul_le_mul_of_nonneg_left h1 (Rat.le_of_lt hp)
    rw [mg_le]; constructor <;> grind
  have h : mg (V f a / V f b) ≤ A := by
    rw [Rat.div_def]
    have := mul_le hA hinv
    rwa [Rat.mul_one] at this
  obtain ⟨r, h2, h3⟩ := div_near hf ha hb (Rat.ne_of_gt h0) (Rat.le_trans h hM)
  refine ⟨r, h2, h3.mono ?_⟩
  have := Rat.mul_le_mul_of_nonneg_right h (show 0 ≤ 3 * U f by have := U_nonneg f; grind)
  grind
theorem Fl.Ap.le {f : Format} {b : Nat} {x e B : Rat} (h : Ap f b x e) (hB : mg x + e ≤ B) : mg (V f b) ≤ B := Rat.le_trans h.size hB
/-- The greatest magnitude of the first n numbers. -/
theorem greatest_some (n : Nat) (X : Nat → Rat) : ∃ G, 0 ≤ G ∧ (∀ k, k < n → mg (X k) ≤ G) ∧ ∀ M, 0 ≤ M → (∀ k, k < n → mg (X k) ≤ M) → G ≤ M := by
  induction n with
  | zero => exact ⟨0, Rat.le_refl, fun k h => absurd h (by omega), fun M h _ => h⟩
  | succ n ih =>
    obtain ⟨G, h1, h2, h3⟩ := ih
    by_cases h : mg (X n) ≤ G
    · refine ⟨G, h1, fun k hk => ?_, fun M h0 hM => h3 M h0 fun k hk => hM k (by omega)⟩
      by_cases e : k = n
      · rw [e]; exact h
      · exact h2 k (by omega)
    · have h' : G ≤ mg (X n) := Rat.le_of_lt (Rat.not_le.1 h)
      refine ⟨mg (X n), mg_nonneg _, fun k hk => ?_, fun M h0 hM => hM n (by omega)⟩
      by_cases e : k = n
      · rw [e]; exact Rat.le_refl
      · exact Rat.le_trans (h2 k (by omega)) h'

/-! ## The eight numbers of each side -/
def csb (i : Nat) : Nat := [1062962345, 1063369176, 1064508131, 1065073288, 1065278021, 1065339140, 1065351522, 1065353099].getD i 0
def cab (i : Nat) : Nat := [3204691459, 3203499739, 3198186227, 3191490407, 3183587331, 3173501943, 3160974060, 3144842163].getD i 0
/-- The numbers of the reference, and their roots. -/
def vsb (i : Nat) : Nat := [13826951575952896819, 13826366108001338655, 13822988408280810783, 13819205384593819566, 13814881928951543890, 13809441580601680331, 13802711401318537862, 13794050078515178924].getD i 0
def rsb (i : Nat) : Nat := [4607930873728815028, 4607786435279252504, 4607421304176259400, 4607258838285307540, 4607202695646460562, 4607186202486077822, 4607182872830045339, 4607182449627051352].getD i 0
def rootOf (v : Nat) : Option Nat := (double.mul v v).bind fun p => (double.add 4607182418800017408 p).bind fun q => double.sqrt q
theorem root_ok (i : Nat) (hi : i < 8) : ∃ p q, double.mul (vsb i) (vsb i) = some p ∧ double.add 4607182418800017408 p = some q ∧ double.sqrt q = some (rsb i) := by
  have h : ∀ i, i < 8 → rootOf (vsb i) = some (rsb i) := by decide +kernel
  have := h i hi
  unfold rootOf at this
  rw [Option.bind_eq_some_iff] at this
  obtain ⟨p, h1, h2⟩ := this
  rw [Option.bind_eq_some_iff] at h2
  obtain ⟨q, h3, h4⟩ := h2
  exact ⟨p, q, h1, h3, h4⟩
def Cv (i : Nat) : Rat := V single (csb i)
def Sv (i : Nat) : Rat := V single (cab i)
theorem cs_facts (i : Nat) (hi : i < 8) : Fin single (csb i) ∧ Fin single (cab i) ∧ mg (Cv i) ≤ 1 ∧ mg (Sv i) ≤ 1 := by
  have h : ∀ i, i < 8 → dfin (single.read (csb i)) = true ∧ dfin (single.read (cab i)) = true ∧ mg (Cv i) ≤ 1 ∧ mg (Sv i) ≤ 1 := by decide +kernel
  exact h i hi
theorem vs_facts (i : Nat) (hi : i < 8) : Fin double (vsb i) ∧ Fin double (rsb i) ∧ mg (V double (vsb i)) ≤ 1 ∧ 1 ≤ V double (rsb i) ∧ mg (1 / V double (rsb i) - Cv i) ≤ 1 / 1000000 ∧ mg (V double (vsb i) / V double (rsb i) - Sv i) ≤ 1 / 1000000 := by
  have h : ∀ i, i < 8 → dfin (double.read (vsb i)) = true ∧ dfin (double.read (rsb i)) = true ∧ mg (V double (vsb i)) ≤ 1 ∧ 1 ≤ V double (rsb i) ∧ mg (1 / V double (rsb i) - Cv i) ≤ 1 / 1000000 ∧ mg (V double (vsb i) / V double (rsb i) - Sv i) ≤ 1 / 1000000 := by decide +kernel
  exact h i hi

/-! ## One pair of lines -/
/-- x·c ∓ y·s in 32 bits. -/
theorem turn_impl {i a b : Nat} (hi : i < 8) (ha : Fin single a) (hb : Fin single b) {G : Rat} (hG0 : 0 ≤ G) (hG : G ≤ 10) (hA : mg (V single a) ≤ G) (hB : mg (V single b) ≤ G) :
    ∃ p q r p' q' r', single.mul a (csb i) = some p ∧ single.mul b (cab i) = some q ∧ single.sub p q = some r ∧ single.mul b (csb i) = some p' ∧ single.mul a (cab i) = some q' ∧ single.add p' q' = some r' ∧
      Ap single r (V single a * Cv i - V single b * Sv i) (G / 1000000 + 1 / 10 ^ 30) ∧ Ap single r' (V single b * Cv i + V single a * Sv i) (G / 1000000 + 1 / 10 ^ 30) := by
  obtain ⟨h1, h2, h3, h4⟩ := cs_facts i hi
  have hbig : (1000 : Rat) ≤ big := by decide +kernel
  have ht : tiny ≤ 1 / 10 ^ 32 := by decide +kernel
  have ht0 := tiny_nonneg
  have eU : U single = 1 / 16777216 := by decide +kernel
  obtain ⟨p, e1, p1⟩ := mul_ap two_single ha h1 hA h3 (by grind)
  obtain ⟨q, e2, q1⟩ := mul_ap two_single hb h2 hB h4 (by grind)
  obtain ⟨p', e3, p1'⟩ := mul_ap two_single hb h1 hB h3 (by grind)
  obtain ⟨q', e4, q1'⟩ := mul_ap two_single ha h2 hA h4 (by grind)
  rw [eU] at p1 q1 p1' q1'
  have hac := mul_le hA h3
  have hbs := mul_le hB h4
  have hbc := mul_le hB h3
  have has := mul_le hA h4
  have sp := p1.le (B := 2 * G + 1 / 10 ^ 32) (by show mg (V single a * Cv i) + _ ≤ _; unfold Cv at *; grind)
  have sq := q1.le (B := 2 * G + 1 / 10 ^ 32) (by unfold Sv at *; grind)
  have sp' := p1'.le (B := 2 * G + 1 / 10 ^ 32) (by unfold Cv at *; grind)
  have sq' := q1'.le (B := 2 * G + 1 / 10 ^ 32) (by unfold Sv at *; grind)
  obtain ⟨r, e5, r1⟩ := sub_ap two_single p1.fin q1.fin (S := 4 * G + 2 / 10 ^ 32) (by grind) (by grind)
  obtain ⟨r', e6, r1'⟩ := add_ap two_single p1'.fin q1'.fin (S := 4 * G + 2 / 10 ^ 32) (by grind) (by grind)
  rw [eU] at r1 r1'
  refine ⟨p, q, r, p', q', r', e1, e2, e5, e3, e4, e6, ⟨r1.fin, ?_⟩, ⟨r1'.fin, ?_⟩⟩
  · have n1 := r1.near; have n2 := p1.near; have n3 := q1.near
    rw [mg_le] at *
    unfold Cv Sv
    constructor <;> grind
  · have n1 := r1'.near; have n2 := p1'.near; have n3 := q1'.near
    rw [mg_le] at *
    unfold Cv Sv
    constructor <;> grind
/-- x/ρ ∓ y·v/ρ in 64 bits. -/
theorem turn_spec {i a b : Nat} (hi : i < 8) (ha : Fin double a) (hb : Fin double b) {G : Rat} (hG0 : 0 ≤ G) (hG : G ≤ 10) (hA : mg (V double a) ≤ G) (hB : mg (V double b) ≤ G) :
    ∃ p q s r p' q' s' r', double.div a (rsb i) = some p ∧ double.mul b (vsb i) = some q ∧ double.div q (rsb i) = some s ∧ double.sub p s = some r ∧ double.div b (rsb i) = some p' ∧ double.mul a (vsb i) = some q' ∧ double.div q' (rsb i) = some s' ∧ double.add p' s' = some r' ∧
      Ap double r (V double a * Cv i - V double b * Sv i) (3 * G / 1000000 + 1 / 10 ^ 30) ∧ Ap double r' (V double b * Cv i + V double a * Sv i) (3 * G / 1000000 + 1 / 10 ^ 30) := by
  obtain ⟨h1, h2, h3, h4, h5, h6⟩ := vs_facts i hi
  have hbig : (1000 : Rat) ≤ big := by decide +kernel
  have ht : tiny ≤ 1 / 10 ^ 32 := by decide +kernel
  have ht0 := tiny_nonneg
  have eU : U double = 1 / 9007199254740992 := by decide +kernel
  have h0 : (0 : Rat) < V double (rsb i) := Std.lt_of_lt_of_le (by decide) h4
  obtain ⟨p, e1, p1⟩ := div_ap two_double ha h2 hA h4 (by grind)
  obtain ⟨q, e2, q1⟩ := mul_ap two_double hb h1 hB h3 (by grind)
  obtain ⟨p', e3, p1'⟩ := div_ap two_double hb h2 hB h4 (by grind)
  obtain ⟨q', e4, q1'⟩ := mul_ap two_double ha h1 hA h3 (by grind)
  rw [eU] at p1 q1 p1' q1'
  have hbv := mul_le hB h3
  have hav := mul_le hA h3
  have sq := q1.le (B := 2 * G + 1 / 10 ^ 32) (by grind)
  have sq' := q1'.le (B := 2 * G + 1 / 10 ^ 32) (by grind)
  obtain ⟨s, e5, s1⟩ := div_ap two_double q1.fin h2 sq h4 (by grind)
  obtain ⟨s', e6, s1'⟩ := div_ap two_double q1'.fin h2 sq' h4 (by grind)
  rw [eU] at s1 s1'
  generalize hR : V double (rsb i) = R at *
  generalize hv : V double (vsb i) = v at *
  have hinv : mg R⁻¹ ≤ 1 := by
    have hp : (0 : Rat) < R⁻¹ := Rat.inv_pos.2 h0
    have he : R⁻¹ * R = 1 := Rat.inv_mul_cancel _ (Rat.ne_of_gt h0)
    have : R⁻¹ * 1 ≤ R⁻¹ * R := Rat.mul_le_mul_of_nonneg_left h4 (Rat.le_of_lt hp)
    rw [mg_le]; constructor <;> grind
  have hdiv : ∀ x B : Rat, mg x ≤ B → mg (x / R) ≤ B := fun x B h => by
    rw [Rat.div_def]
    have := mul_le h hinv
    rwa [Rat.mul_one] at this
  have sp := p1.le (B := 2 * G + 1 / 10 ^ 32) (by have := hdiv _ _ hA; grind)
  have sp' := p1'.le (B := 2 * G + 1 / 10 ^ 32) (by have := hdiv _ _ hB; grind)
  have ss := s1.le (B := 3 * G + 4 / 10 ^ 32) (by have := hdiv _ _ sq; grind)
  have ss' := s1'.le (B := 3 * G + 4 / 10 ^ 32) (by have := hdiv _ _ sq'; grind)
  obtain ⟨r, e7, r1⟩ := sub_ap two_double p1.fin s1.fin (S := 5 * G + 5 / 10 ^ 32) (by grind) (by grind)
  obtain ⟨r', e8, r1'⟩ := add_ap two_double p1'.fin s1'.fin (S := 5 * G + 5 / 10 ^ 32) (by grind) (by grind)
  rw [eU] at r1 r1'
  -- the quotient of a rounded product
  have hq : mg (V double q / R - V double b * v / R) ≤ G * 1 * (1 / 9007199254740992) + tiny := by
    have := hdiv _ _ q1.near
    rwa [show (V double q - V double b * v) / R = V double q / R - V double b * v / R by grind] at this
  have hq' : mg (V double q' / R - V double a * v / R) ≤ G * 1 * (1 / 9007199254740992) + tiny := by
    have := hdiv _ _ q1'.near
    rwa [show (V double q' - V double a * v) / R = V double q' / R - V double a * v / R by grind] at this
  -- the numbers of 32 bits against those of 64
  have c1 : mg (V double a / R - V double a * Cv i) ≤ G * (1 / 1000000) := by
    have := mul_le hA h5
    rwa [show V double a * (1 / R - Cv i) = V double a / R - V double a * Cv i by grind] at this
  have c2 : mg (V double b / R - V double b * Cv i) ≤ G * (1 / 1000000) := by
    have := mul_le hB h5
    rwa [show V double b * (1 / R - Cv i) = V double b / R - V double b * Cv i by grind] at this
  have c3 : mg (V double b * v / R - V double b * Sv i) ≤ G * (1 / 1000000) := by
    have := mul_le hB h6
    rwa [show V double b * (v / R - Sv i) = V double b * v / R - V double b * Sv i by grind] at this
  have c4 : mg (V double a * v / R - V double a * Sv i) ≤ G * (1 / 1000000) := by
    have := mul_le hA h6
    rwa [show V double a * (v / R - Sv i) = V double a * v / R - V double a * Sv i by grind] at this
  refine ⟨p, q, s, r, p', q', s', r', e1, e2, e5, e7, e3, e4, e6, e8, ⟨r1.fin, ?_⟩, ⟨r1'.fin, ?_⟩⟩
  · have n1 := r1.near; have n2 := p1.near; have n3 := s1.near
    generalize V double a / R = x1 at *
    generalize V double b * v / R = x2 at *
    generalize V double q / R = x3 at *
    generalize V double a * Cv i = x4 at *
    generalize V double b * Sv i = x5 at *
    rw [mg_le] at *
    constructor <;> grind
  · have n1 := r1'.near; have n2 := p1'.near; have n3 := s1'.near
    generalize V double b / R = x1 at *
    generalize V double a * v / R = x2 at *
    generalize V double q' / R = x3 at *
    generalize V double b * Cv i = x4 at *
    generalize V double a * Sv i = x5 at *
    rw [mg_le] at *
    constructor <;> grind

/-! ## All pairs -/
def bandOf (q : Nat) : Nat := if q % 18 ≤ 7 then q / 18 else if 10 ≤ q % 18 then q / 18 + 1 else 0
def idxOf (q : Nat) : Nat := if q % 18 ≤ 7 then q % 18 else 17 - q % 18
/-- Line q is one of a pair that came before pair i of band sb. -/
def Met (sb i q : Nat) : Prop := 1 ≤ bandOf q ∧ (bandOf q < sb ∨ bandOf q = sb ∧ idxOf q < i)
/-- What line q is to be. -/
def ideal (X : Nat → Rat) (q : Nat) : Rat :=
  if q % 18 ≤ 7 then X q * Cv (idxOf q) + X (18 * bandOf q - 1 - idxOf q) * Sv (idxOf q) else X q * Cv (idxOf q) - X (18 * bandOf q + idxOf q) * Sv (idxOf q)
/-- Up to which band pairs are turned. -/
def lastOf (s : Nat → Int) (g c : Nat) : Nat := if s (26 + 2 * g + c) = 1 ∧ s (30 + 2 * g + c) = 2 then (if s (34 + 2 * g + c) = 0 then 1 else 2) else 32
theorem lastOf_le (s : Nat → Int) (g c : Nat) : 1 ≤ lastOf s g c ∧ lastOf s g c ≤ 32 := by
  unfold lastOf; split
  · split <;> omega
  · omega
def AI (f : Format) (e : Rat) (X : Nat → Rat) (x : Nat → Nat) (sb i : Nat) (l : Nat → Nat) : Prop := ∀ q, q < 576 → (Met sb i q → Ap f (l q) (ideal X q) e) ∧ (¬ Met sb i q → l q = x q)
theorem AI.zero {f : Format} {e : Rat} {X : Nat → Rat} {x : Nat → Nat} : AI f e X x 1 0 x := fun q _ => ⟨fun h => by unfold Met at h; omega, fun _ => rfl⟩
theorem AI.next {f : Format} {e : Rat} {X : Nat → Rat} {x l : Nat → Nat} {sb : Nat} (h : AI f e X x sb 8 l) : AI f e X x (sb + 1) 0 l := by
  have hm : ∀ q, Met (sb + 1) 0 q ↔ Met sb 8 q := fun q => by
    unfold Met
    have : 1 ≤ bandOf q → idxOf q < 8 := by
      unfold bandOf idxOf
      by_cases h1 : q % 18 ≤ 7
      · rw [if_pos h1, if_pos h1]; omega
      · rw [if_neg h1, if_neg h1]
        by_cases h2 : 10 ≤ q % 18
        · rw [if_pos h2]; omega
        · rw [if_neg h2]; omega
    omega
  intro q hq
  rw [hm]
  exact h q hq
theorem AI.low {f : Format} {e : Rat} {X : Nat → Rat} {x l : Nat → Nat} {sb i : Nat} (h : AI f e X x sb i l) (hs : 1 ≤ sb ∧ sb < 32) (hi : i < 8) : l (18 * sb - 1 - i) = x (18 * sb - 1 - i) := by
  refine (h _ (by omega)).2 ?_
  unfold Met bandOf idxOf
  have e1 : (18 * sb - 1 - i) % 18 = 17 - i := by omega
  have e2 : (18 * sb - 1 - i) / 18 = sb - 1 := by omega
  rw [e1, e2, if_neg (by omega), if_pos (by omega), if_neg (by omega)]
  omega
theorem AI.high {f : Format} {e : Rat} {X : Nat → Rat} {x l : Nat → Nat} {sb i : Nat} (h : AI f e X x sb i l) (hs : 1 ≤ sb ∧ sb < 32) (hi : i < 8) : l (18 * sb + i) = x (18 * sb + i) := by
  refine (h _ (by omega)).2 ?_
  unfold Met bandOf idxOf
  have e1 : (18 * sb + i) % 18 = i := by omega
  have e2 : (18 * sb + i) / 18 = sb := by omega
  rw [e1, e2, if_pos (by omega), if_pos (by omega)]
  omega
theorem AI.step {f : Format} {e : Rat} {X : Nat → Rat} {x l : Nat → Nat} {sb i lo hi : Nat} (h : AI f e X x sb i l) (hs : 1 ≤ sb ∧ sb < 32) (hi8 : i < 8)
    (h1 : Ap f lo (X (18 * sb - 1 - i) * Cv i - X (18 * sb + i) * Sv i) e) (h2 : Ap f hi (X (18 * sb + i) * Cv i + X (18 * sb - 1 - i) * Sv i) e) :
    AI f e X x sb (i + 1) (upd (upd l (18 * sb - 1 - i) lo) (18 * sb + i) hi) := by
  intro q hq
  by_cases e1 : q = 18 * sb + i
  · subst e1
    have e1 : (18 * sb + i) % 18 = i := by omega
    have e2 : (18 * sb + i) / 18 = sb := by omega
    have eb : bandOf (18 * sb + i) = sb := by unfold bandOf; rw [e1, e2, if_pos (by omega)]
    have ei : idxOf (18 * sb + i) = i := by unfold idxOf; rw [e1, if_pos (by omega)]
    refine ⟨fun _ => ?_, fun hn => absurd ⟨by omega, .inr ⟨eb, by omega⟩⟩ hn⟩
    rw [upd_at]
    unfold ideal
    rw [if_pos (by omega), eb, ei]
    exact h2
  · rw [upd_ne _ _ e1]
    by_cases e2 : q = 18 * sb - 1 - i
    · subst e2
      have e1 : (18 * sb - 1 - i) % 18 = 17 - i := by omega
      have e2 : (18 * sb - 1 - i) / 18 = sb - 1 := by omega
      have eb : bandOf (18 * sb - 1 - i) = sb := by unfold bandOf; rw [e1, e2, if_neg (by omega), if_pos (by omega)]; omega
      have ei : idxOf (18 * sb - 1 - i) = i := by unfold idxOf; rw [e1, if_neg (by omega)]; omega
      refine ⟨fun _ => ?_, fun hn => absurd ⟨by omega, .inr ⟨eb, by omega⟩⟩ hn⟩
      rw [upd_at]
      unfold ideal
      rw [if_neg (by omega), eb, ei]
      exact h1
    · rw [upd_ne _ _ e2]
      have hm : Met sb (i + 1) q ↔ Met sb i q := by
        unfold Met
        have : ¬ (bandOf q = sb ∧ idxOf q = i) := by
          rintro ⟨hb, hi'⟩
          unfold bandOf at hb
          unfold idxOf at hi'
          by_cases h3 : q % 18 ≤ 7
          · rw [if_pos h3] at hb hi'; omega
          · rw [if_neg h3] at hb hi'
            by_cases h4 : 10 ≤ q % 18
            · rw [if_pos h4] at hb; omega
            · rw [if_neg h4] at hb; omega
        omega
      rw [hm]
      exact h q hq
theorem vs_cells : (#[.float .f64 13826951575952896819, .float .f64 13826366108001338655, .float .f64 13822988408280810783, .float .f64 13819205384593819566, .float .f64 13814881928951543890, .float .f64 13809441580601680331, .float .f64 13802711401318537862, .float .f64 13794050078515178924] : Array Value) = va 8 (fl .f64 vsb) := by unfold va; rfl
/-- What the package and the reference make lies near. -/
theorem smooth_near {x m y1 y2 : Nat → Nat} {G T : Rat} {last : Nat} (hlast : last ≤ 32) (hG0 : 0 ≤ G) (hG : G ≤ 10) (hx : ∀ q, q < 576 → Fin single (x q) ∧ mg (V single (x q)) ≤ G) (hm : ∀ q, q < 576 → Fin double (m q) ∧ V double (m q) = V single (x q))
    (h1 : AI single (G / 1000000 + 1 / 10 ^ 30) (fun q => V single (x q)) x last 0 y1) (h2 : AI double (3 * G / 1000000 + 1 / 10 ^ 30) (fun q => V single (x q)) m last 0 y2) (hT0 : -(1 / 10 ^ 20) ≤ T) (hT : G ≤ T + 1 / 10 ^ 10) (k : Nat) (hk : k < 576) :
    Fin single (y1 k) ∧ Fin double (y2 k) ∧ mg (V single (y1 k)) ≤ 100000 ∧ mg (V single (y1 k) - V double (y2 k)) ≤ T / 20000 + 1 / 10 ^ 10 := by
  by_cases hmt : Met last 0 k
  · have a1 := (h1 k hk).1 hmt
    have a2 := (h2 k hk).1 hmt
    have hid : mg (ideal (fun q => V single (x q)) k) ≤ 2 * G := by
      unfold Met at hmt
      have hidx : idxOf k < 8 ∧ (k % 18 ≤ 7 → 18 * bandOf k - 1 - idxOf k < 576) ∧ (¬ k % 18 ≤ 7 → 18 * bandOf k + idxOf k < 576) := by
        unfold bandOf at hmt ⊢
        unfold idxOf
        by_cases h1 : k % 18 ≤ 7
        · rw [if_pos h1] at hmt ⊢; rw [if_pos h1]; omega
        · rw [if_neg h1] at hmt ⊢; rw [if_neg h1]
          by_cases h2 : 10 ≤ k % 18
          · rw [if_pos h2] at hmt ⊢; omega
          · rw [if_neg h2] at hmt; omega
      obtain ⟨i1, i2, i3⟩ := hidx
      obtain ⟨_, _, c3, c4⟩ := cs_facts (idxOf k) i1
      unfold ideal
      by_cases hr : k % 18 ≤ 7
      · rw [if_pos hr]
        have e1 := mul_le (hx k hk).2 c3
        have e2 := mul_le (hx _ (i2 hr)).2 c4
        have e3 := mg_add (V single (x k) * Cv (idxOf k)) (V single (x (18 * bandOf k - 1 - idxOf k)) * Sv (idxOf k))
        dsimp only
        grind
      · rw [if_neg hr]
        have e1 := mul_le (hx k hk).2 c3
        have e2 := mul_le (hx _ (i3 hr)).2 c4
        have e3 := mg_sub (V single (x k) * Cv (idxOf k)) (V single (x (18 * bandOf k + idxOf k)) * Sv (idxOf k))
        dsimp only
        grind
    refine ⟨a1.fin, a2.fin, a1.le (by grind), ?_⟩
    have n1 := a1.near; have n2 := a2.near
    rw [show T / 20000 = T * (1 / 20000) by grind]
    rw [mg_le] at *
    constructor <;> grind
  · have e1 := (h1 k hk).2 hmt
    have e2 := (h2 k hk).2 hmt
    rw [e1, e2, (hm k hk).2, Rat.sub_self, show mg (0 : Rat) = 0 by decide]
    have := (hx k hk).2
    refine ⟨(hx k hk).1, (hm k hk).1, by grind, ?_⟩
    rw [show T / 20000 = T * (1 / 20000) by grind]
    grind
end Go.Proofs.YtbcjhkncifckiaaDoor
