/- Cosines and sines as the library makes them, number by number, and the rules of the operations that they take beyond the others. No program is named here. -/
import Derived.Test.YtbcjhkncifckiaaDoorSm
import GoSem.Extern.MathFloatBits
namespace Go.Proofs.YtbcjhkncifckiaaDoor
open Ieee Go Go.RowKit Go.Proofs En Fl

/-! ## Rules -/
section
variable {P : Program} {n : Nat} {E : Env} {w0 : World} {H : Hp} {dst : Option Tmp} {ty : TypeId} {pos : String} {after : Array Edge} {g : Option (Nat × Bool)}
theorem u64_and (a m : Nat) (ha : a < 18446744073709551616) (hm : m < 18446744073709551616) : IntKind.u64.wrap (BitVec.ofInt 64 (a : Int) &&& BitVec.ofInt 64 (m : Int)).toNat = ((a &&& m : Nat) : Int) := by
  have hl : a &&& m ≤ a := Nat.and_le_left
  rw [BitVec.toNat_and, BitVec.toNat_ofInt, BitVec.toNat_ofInt]
  have e1 : ((a : Int) % ((2 ^ 64 : Nat) : Int)).toNat = a := by omega
  have e2 : ((m : Int) % ((2 ^ 64 : Nat) : Int)).toNat = m := by omega
  rw [e1, e2]
  exact IntWalk.u64_in _ ⟨by omega, by omega⟩
theorem u64_low {a : Nat} (s m : Nat) {q : Nat} (hq : 2 ^ s = q) (hm : q - 1 = m) (ha : a < 18446744073709551616) (hlt : m < 18446744073709551616) : IntKind.u64.wrap (BitVec.ofInt 64 (a : Int) &&& BitVec.ofInt 64 (m : Int)).toNat = ((a % q : Nat) : Int) := by
  rw [u64_and a m ha hlt, ← hm, ← hq, Nat.and_two_pow_sub_one_eq_mod]
theorem u64_andNot {a : Nat} (ha : a < 9223372036854775808) : IntKind.u64.wrap (BitVec.ofInt 64 (a : Int) &&& ~~~BitVec.ofInt 64 9223372036854775808).toNat = (a : Int) := by
  have e : ~~~BitVec.ofInt 64 9223372036854775808 = BitVec.ofInt 64 ((9223372036854775807 : Nat) : Int) := by decide
  rw [e, u64_low 63 9223372036854775807 (q := 9223372036854775808) (by decide) (by decide) (by omega) (by decide), Nat.mod_eq_of_lt ha]
theorem YF.bandNot {t yt : TypeId} {x y : Operand} {k : IntKind} {i j r : Int} (hx : ev E x = some (.int k i)) (hy : ev E y = some (.int k j)) (hr : k.wrap (BitVec.ofInt k.bits i &&& ~~~BitVec.ofInt k.bits j).toNat = r) : YF P n E w0 H ⟨dst, .binOp .andNot t x y yt, ty, pos, after, g⟩ (.int k r) :=
  YF.bin hx hy fun w => by subst hr; simp [binOp_andNot, Op.intBits]
theorem YF.toBits {f : FuncId} {x : Operand} {ats : Array TypeId} {i : Nat} (h : externIs P f Extern.MathFloatBits.float64bits) (hx : ev E x = some (.float .f64 i)) :
    YF P n E w0 H ⟨dst, .call { callee := .value (.func f), args := #[x], argTypes := ats }, ty, pos, after, g⟩ (.int .u64 i) :=
  YF.extern (vs := [.float .f64 i]) h (by show [ev E x] = _; rw [hx]; rfl) fun _ => rfl
theorem YF.ofBits {f : FuncId} {x : Operand} {ats : Array TypeId} {i : Nat} (h : externIs P f Extern.MathFloatBits.float64frombits) (hx : ev E x = some (.int .u64 i)) :
    YF P n E w0 H ⟨dst, .call { callee := .value (.func f), args := #[x], argTypes := ats }, ty, pos, after, g⟩ (.float .f64 i) :=
  YF.extern (vs := [.int .u64 i]) h (by show [ev E x] = _; rw [hx]; rfl) fun _ => rfl
theorem YF.convFI {src dt : TypeId} {x : Operand} {s : FloatKind} {k : IntKind} {b : Nat} {i : Int} (hs : (P.underlying src).isSome = true) (hd : P.underlying dt = some (.int k)) (hx : ev E x = some (.float s b)) (hr : (s.format.read b).toInt .zero = some i) (hi : k.min ≤ i ∧ i ≤ k.max) :
    YF P n E w0 H ⟨dst, .convert src dt x, ty, pos, after, g⟩ (.int k i) :=
  fun a w ha _ => by
    obtain ⟨sd, hs'⟩ := Option.isSome_iff_exists.1 hs
    have hr' : (s.decode b).toInt .zero = some i := hr
    have hc : (convert src dt (.float s b)).run P w = .ok (.int k i) w := by
      simp [convert, run_underlying hs', run_underlying hd, Conv.floatToInt, hr', hi]
    simp [execOp, ha.ev hx, hc]
theorem YF.fgeq {t yt : TypeId} {x y : Operand} {k : FloatKind} {i j : Nat} {b : Bool} (hx : ev E x = some (.float k i)) (hy : ev E y = some (.float k j)) (hr : (k.format.order i j == some .gt || k.format.order i j == some .eq) = b) : YF P n E w0 H ⟨dst, .binOp .geq t x y yt, ty, pos, after, g⟩ (.bool b) :=
  YF.fcmp hx hy (by subst hr; rfl) (by decide)
theorem YF.flss {t yt : TypeId} {x y : Operand} {k : FloatKind} {i j : Nat} {b : Bool} (hx : ev E x = some (.float k i)) (hy : ev E y = some (.float k j)) (hr : (k.format.order i j == some .lt) = b) : YF P n E w0 H ⟨dst, .binOp .lss t x y yt, ty, pos, after, g⟩ (.bool b) :=
  YF.fcmp hx hy (by subst hr; rfl) (by decide)
theorem YF.feql {t yt : TypeId} {x y : Operand} {k : FloatKind} {i j : Nat} {b : Bool} (hx : ev E x = some (.float k i)) (hy : ev E y = some (.float k j)) (hr : (k.format.order i j == some .eq) = b) : YF P n E w0 H ⟨dst, .binOp .eql t x y yt, ty, pos, after, g⟩ (.bool b) :=
  YF.fcmp hx hy (by subst hr; rfl) (by decide)
end

/-! ## The chains of operations -/
/-- The next operation, where there is a number; the number is made before it goes on. -/
def fb {α : Type} (x : Option Nat) (f : Nat → Option α) : Option α := match x with | none => none | some 0 => f 0 | some (k + 1) => f (Nat.succ k)
theorem fb_some {α : Type} {x : Option Nat} {f : Nat → Option α} {r : α} (h : fb x f = some r) : ∃ a, x = some a ∧ f a = some r := by
  cases x with
  | none => cases h
  | some a => cases a with
    | zero => exact ⟨0, rfl, h⟩
    | succ k => exact ⟨k + 1, rfl, h⟩
/-- The library's coefficients. -/
def snb (i : Nat) : Nat := [4460209587652500685, 13716528389658582877, 4523617212962785441, 13774824197404483331, 4575957461383575504, 13818544856648471880].getD i 0
def cnb (i : Nat) : Nat := [13666448263388469915, 4477121864728985349, 13732177093698800582, 4537941361668146421, 13787419979223748497, 4586165620538955083].getD i 0
def poly (c : Nat → Nat) (zz : Nat) : Option Nat :=
  fb (double.mul (c 0) zz) fun p1 => fb (double.add p1 (c 1)) fun q1 => fb (double.mul q1 zz) fun p2 => fb (double.add p2 (c 2)) fun q2 => fb (double.mul q2 zz) fun p3 => fb (double.add p3 (c 3)) fun q3 =>
  fb (double.mul q3 zz) fun p4 => fb (double.add p4 (c 4)) fun q4 => fb (double.mul q4 zz) fun p5 => double.add p5 (c 5)
theorem poly_spec {c : Nat → Nat} {zz q5 : Nat} (h : poly c zz = some q5) : ∃ p1 q1 p2 q2 p3 q3 p4 q4 p5, double.mul (c 0) zz = some p1 ∧ double.add p1 (c 1) = some q1 ∧ double.mul q1 zz = some p2 ∧ double.add p2 (c 2) = some q2 ∧ double.mul q2 zz = some p3 ∧ double.add p3 (c 3) = some q3 ∧
    double.mul q3 zz = some p4 ∧ double.add p4 (c 4) = some q4 ∧ double.mul q4 zz = some p5 ∧ double.add p5 (c 5) = some q5 := by
  unfold poly at h
  obtain ⟨p1, h1, h⟩ := fb_some h
  obtain ⟨q1, h2, h⟩ := fb_some h
  obtain ⟨p2, h3, h⟩ := fb_some h
  obtain ⟨q2, h4, h⟩ := fb_some h
  obtain ⟨p3, h5, h⟩ := fb_some h
  obtain ⟨q3, h6, h⟩ := fb_some h
  obtain ⟨p4, h7, h⟩ := fb_some h
  obtain ⟨q4, h8, h⟩ := fb_some h
  obtain ⟨p5, h9, h⟩ := fb_some h
  exact ⟨p1, q1, p2, q2, p3, q3, p4, q4, p5, h1, h2, h3, h4, h5, h6, h7, h8, h9, h⟩
def sinPoly (z zz : Nat) : Option Nat := fb (double.mul z zz) fun a => fb (poly snb zz) fun q5 => fb (double.mul a q5) fun b => double.add z b
def cosPoly (zz : Nat) : Option Nat := fb (double.mul 4602678819172646912 zz) fun a => fb (double.sub 4607182418800017408 a) fun o => fb (double.mul zz zz) fun q => fb (poly cnb zz) fun q5 => fb (double.mul q q5) fun b => double.add o b
theorem sinPoly_spec {z zz y : Nat} (h : sinPoly z zz = some y) : ∃ a p1 q1 p2 q2 p3 q3 p4 q4 p5 q5 b, double.mul z zz = some a ∧ (double.mul (snb 0) zz = some p1 ∧ double.add p1 (snb 1) = some q1 ∧ double.mul q1 zz = some p2 ∧ double.add p2 (snb 2) = some q2 ∧ double.mul q2 zz = some p3 ∧ double.add p3 (snb 3) = some q3 ∧
    double.mul q3 zz = some p4 ∧ double.add p4 (snb 4) = some q4 ∧ double.mul q4 zz = some p5 ∧ double.add p5 (snb 5) = some q5) ∧ double.mul a q5 = some b ∧ double.add z b = some y := by
  unfold sinPoly at h
  obtain ⟨a, h1, h⟩ := fb_some h
  obtain ⟨q5, h2, h⟩ := fb_some h
  obtain ⟨b, h3, h⟩ := fb_some h
  obtain ⟨p1, q1, p2, q2, p3, q3, p4, q4, p5, h2⟩ := poly_spec h2
  exact ⟨a, p1, q1, p2, q2, p3, q3, p4, q4, p5, q5, b, h1, h2, h3, h⟩
theorem cosPoly_spec {zz y : Nat} (h : cosPoly zz = some y) : ∃ a o q p1 q1 p2 q2 p3 q3 p4 q4 p5 q5 b, double.mul 4602678819172646912 zz = some a ∧ double.sub 4607182418800017408 a = some o ∧ double.mul zz zz = some q ∧ (double.mul (cnb 0) zz = some p1 ∧ double.add p1 (cnb 1) = some q1 ∧ double.mul q1 zz = some p2 ∧ double.add p2 (cnb 2) = some q2 ∧ double.mul q2 zz = some p3 ∧ double.add p3 (cnb 3) = some q3 ∧
    double.mul q3 zz = some p4 ∧ double.add p4 (cnb 4) = some q4 ∧ double.mul q4 zz = some p5 ∧ double.add p5 (cnb 5) = some q5) ∧ double.mul q q5 = some b ∧ double.add o b = some y := by
  unfold cosPoly at h
  obtain ⟨a, h1, h⟩ := fb_some h
  obtain ⟨o, h2, h⟩ := fb_some h
  obtain ⟨q, h3, h⟩ := fb_some h
  obtain ⟨q5, h4, h⟩ := fb_some h
  obtain ⟨b, h5, h⟩ := fb_some h
  obtain ⟨p1, q1, p2, q2, p3, q3, p4, q4, p5, h4⟩ := poly_spec h4
  exact ⟨a, o, q, p1, q1, p2, q2, p3, q3, p4, q4, p5, q5, b, h1, h2, h3, h4, h5, h⟩
/-- A number cut to a whole one below a million. -/
def whole (x : Nat) : Option Nat := match (double.read x).toInt .zero with | some (.ofNat n) => if n < 1000000 then some n else none | _ => none
theorem whole_spec {x n : Nat} (h : whole x = some n) : (FloatKind.f64.format.read x).toInt .zero = some (n : Int) ∧ n < 1000000 := by
  unfold whole at h
  split at h
  · rename_i m hm
    split at h
    · cases h; exact ⟨hm, by assumption⟩
    · cases h
  · cases h
def nr (n : Nat) : Nat := FloatKind.f64.nearest (n : Int)
/-- The eighth of a turn, and what is left. -/
def redu (x : Nat) (k : Nat → Nat → Option Nat) : Option Nat :=
  fb (double.mul x 4608412980311869571) fun q => fb (whole q) fun n => fb (if n % 2 = 1 then double.add (nr n) 4607182418800017408 else some (nr n)) fun y =>
  fb (double.mul y 4605249456957292544) fun a => fb (double.sub x a) fun u => fb (double.mul y 4495793288086814720) fun b => fb (double.sub u b) fun v => fb (double.mul y 4388835458085048688) fun c => fb (double.sub v c) fun z =>
  fb (some ((if n % 2 = 1 then n + 1 else n) % 8)) fun j => k j z
theorem redu_spec {x r : Nat} {k : Nat → Nat → Option Nat} (h : redu x k = some r) : ∃ (q n y a u b v c z j : Nat), double.mul x 4608412980311869571 = some q ∧ (FloatKind.f64.format.read q).toInt .zero = some (n : Int) ∧ n < 1000000 ∧ (n % 2 = 1 → double.add (FloatKind.f64.nearest n) 4607182418800017408 = some y) ∧ (¬ n % 2 = 1 → FloatKind.f64.nearest n = y) ∧
    double.mul y 4605249456957292544 = some a ∧ double.sub x a = some u ∧ double.mul y 4495793288086814720 = some b ∧ double.sub u b = some v ∧ double.mul y 4388835458085048688 = some c ∧ double.sub v c = some z ∧ (if n % 2 = 1 then n + 1 else n) % 8 = j ∧ k j z = some r := by
  unfold redu at h
  obtain ⟨q, h1, h⟩ := fb_some h
  obtain ⟨n, h2, h⟩ := fb_some h
  obtain ⟨y, h3, h⟩ := fb_some h
  obtain ⟨a, h4, h⟩ := fb_some h
  obtain ⟨u, h5, h⟩ := fb_some h
  obtain ⟨b, h6, h⟩ := fb_some h
  obtain ⟨v, h7, h⟩ := fb_some h
  obtain ⟨c, h8, h⟩ := fb_some h
  obtain ⟨z, h9, h⟩ := fb_some h
  obtain ⟨j, h10, h⟩ := fb_some h
  obtain ⟨h21, h22⟩ := whole_spec h2
  refine ⟨q, n, y, a, u, b, v, c, z, j, h1, h21, h22, fun ho => ?_, fun ho => ?_, h4, h5, h6, h7, h8, h9, Option.some.inj h10, h⟩
  · rw [if_pos ho] at h3; exact h3
  · rw [if_neg ho] at h3; exact Option.some.inj h3
/-- The argument is positive and small. -/
def argOk (x : Nat) : Bool := Nat.blt x 9223372036854775808 && (double.order x 9218868437227405311 == some .lt) && (double.order x 4737786807993761792 == some .lt) && (double.order x 0 == some .gt) && (double.order x x == some .eq)
theorem argOk_spec {x : Nat} (h : argOk x = true) : x < 9223372036854775808 ∧ FloatKind.f64.format.order x 9218868437227405311 = some .lt ∧ FloatKind.f64.format.order x 4737786807993761792 = some .lt ∧ FloatKind.f64.format.order x 0 = some .gt ∧ FloatKind.f64.format.order x x = some .eq := by
  unfold argOk at h
  simp only [Bool.and_eq_true, beq_iff_eq] at h
  obtain ⟨⟨⟨⟨h1, h2⟩, h3⟩, h4⟩, h5⟩ := h
  exact ⟨by simpa [Nat.blt_eq] using h1, h2, h3, h4, h5⟩
def cosR (x : Nat) : Option Nat := if argOk x then redu x fun j z => fb (double.mul z z) fun zz => if j = 0 then cosPoly zz else if j = 2 then fb (sinPoly z zz) fun y => some (Op.negFloat .f64 y) else if j = 4 then fb (cosPoly zz) fun y => some (Op.negFloat .f64 y) else sinPoly z zz else none
def sinR (x : Nat) : Option Nat := if argOk x then redu x fun j z => fb (double.mul z z) fun zz => if j = 0 then sinPoly z zz else if j = 2 then cosPoly zz else if j = 4 then fb (sinPoly z zz) fun y => some (Op.negFloat .f64 y) else fb (cosPoly zz) fun y => some (Op.negFloat .f64 y) else none
/-- What is left goes through one of the two sums, its sign turned or not. -/
def Out (p : Option Nat) (neg : Bool) (r : Nat) : Prop := ∃ y, p = some y ∧ r = if neg then Op.negFloat .f64 y else y
theorem cosR_spec {x r : Nat} (h : cosR x = some r) : argOk x = true ∧ ∃ (q n y a u b v c z j zz : Nat), double.mul x 4608412980311869571 = some q ∧ (FloatKind.f64.format.read q).toInt .zero = some (n : Int) ∧ n < 1000000 ∧ (n % 2 = 1 → double.add (FloatKind.f64.nearest n) 4607182418800017408 = some y) ∧ (¬ n % 2 = 1 → FloatKind.f64.nearest n = y) ∧
    double.mul y 4605249456957292544 = some a ∧ double.sub x a = some u ∧ double.mul y 4495793288086814720 = some b ∧ double.sub u b = some v ∧ double.mul y 4388835458085048688 = some c ∧ double.sub v c = some z ∧ (if n % 2 = 1 then n + 1 else n) % 8 = j ∧ double.mul z z = some zz ∧
    (j = 0 ∧ Out (cosPoly zz) false r ∨ j = 2 ∧ Out (sinPoly z zz) true r ∨ j = 4 ∧ Out (cosPoly zz) true r ∨ j = 6 ∧ Out (sinPoly z zz) false r) := by
  unfold cosR at h
  split at h
  · rename_i ho
    refine ⟨ho, ?_⟩
    obtain ⟨q, n, y, a, u, b, v, c, z, j, h1, h2, h3, h4, h5, h6, h7, h8, h9, h10, h11, h12, h⟩ := redu_spec h
    obtain ⟨zz, hz, h⟩ := fb_some h
    refine ⟨q, n, y, a, u, b, v, c, z, j, zz, h1, h2, h3, h4, h5, h6, h7, h8, h9, h10, h11, h12, hz, ?_⟩
    by_cases j0 : j = 0
    · rw [if_pos j0] at h; exact .inl ⟨j0, r, h, rfl⟩
    · rw [if_neg j0] at h
      by_cases j2 : j = 2
      · rw [if_pos j2] at h
        obtain ⟨t, h13, h⟩ := fb_some h
        exact .inr (.inl ⟨j2, t, h13, (Option.some.inj h).symm⟩)
      · rw [if_neg j2] at h
        by_cases j4 : j = 4
        · rw [if_pos j4] at h
          obtain ⟨t, h13, h⟩ := fb_some h
          exact .inr (.inr (.inl ⟨j4, t, h13, (Option.some.inj h).symm⟩))
        · rw [if_neg j4] at h
          refine .inr (.inr (.inr ⟨?_, r, h, rfl⟩))
          have hj : j % 2 = 0 ∧ j < 8 := by rw [← h12]; split <;> omega
          omega
  · cases h
theorem sinR_spec {x r : Nat} (h : sinR x = some r) : argOk x = true ∧ ∃ (q n y a u b v c z j zz : Nat), double.mul x 4608412980311869571 = some q ∧ (FloatKind.f64.format.read q).toInt .zero = some (n : Int) ∧ n < 1000000 ∧ (n % 2 = 1 → double.add (FloatKind.f64.nearest n) 4607182418800017408 = some y) ∧ (¬ n % 2 = 1 → FloatKind.f64.nearest n = y) ∧
    double.mul y 4605249456957292544 = some a ∧ double.sub x a = some u ∧ double.mul y 4495793288086814720 = some b ∧ double.sub u b = some v ∧ double.mul y 4388835458085048688 = some c ∧ double.sub v c = some z ∧ (if n % 2 = 1 then n + 1 else n) % 8 = j ∧ double.mul z z = some zz ∧
    (j = 0 ∧ Out (sinPoly z zz) false r ∨ j = 2 ∧ Out (cosPoly zz) false r ∨ j = 4 ∧ Out (sinPoly z zz) true r ∨ j = 6 ∧ Out (cosPoly zz) true r) := by
  unfold sinR at h
  split at h
  · rename_i ho
    refine ⟨ho, ?_⟩
    obtain ⟨q, n, y, a, u, b, v, c, z, j, h1, h2, h3, h4, h5, h6, h7, h8, h9, h10, h11, h12, h⟩ := redu_spec h
    obtain ⟨zz, hz, h⟩ := fb_some h
    refine ⟨q, n, y, a, u, b, v, c, z, j, zz, h1, h2, h3, h4, h5, h6, h7, h8, h9, h10, h11, h12, hz, ?_⟩
    by_cases j0 : j = 0
    · rw [if_pos j0] at h; exact .inl ⟨j0, r, h, rfl⟩
    · rw [if_neg j0] at h
      by_cases j2 : j = 2
      · rw [if_pos j2] at h
        exact .inr (.inl ⟨j2, r, h, rfl⟩)
      · rw [if_neg j2] at h
        by_cases j4 : j = 4
        · rw [if_pos j4] at h
          obtain ⟨t, h13, h⟩ := fb_some h
          exact .inr (.inr (.inl ⟨j4, t, h13, (Option.some.inj h).symm⟩))
        · rw [if_neg j4] at h
          obtain ⟨t, h13, h⟩ := fb_some h
          refine .inr (.inr (.inr ⟨?_, t, h13, (Option.some.inj h).symm⟩))
          have hj : j % 2 = 0 ∧ j < 8 := by rw [← h12]; split <;> omega
          omega
  · cases h

/-! ## The numbers of the tables -/
def narrow (b : Nat) : Option Nat := floatToFloatBits .f64 b .f32
/-- The package's cosine: unit, half, line, place. -/
def argP (unit half i j : Nat) : Option Nat :=
  fb (double.mul 4611686018427387904 (nr j)) fun a => fb (double.add a 4607182418800017408) fun b => fb (double.add b half) fun c => fb (double.mul unit c) fun d => fb (double.mul 4611686018427387904 (nr i)) fun e => fb (double.add e 4607182418800017408) fun f => double.mul d f
def cosP (unit half i j : Nat) : Option Nat := fb (argP unit half i j) fun x => fb (cosR x) narrow
theorem cosP_spec {unit half i j r : Nat} (h : cosP unit half i j = some r) : ∃ a b c d e f x y, double.mul 4611686018427387904 (FloatKind.f64.nearest j) = some a ∧ double.add a 4607182418800017408 = some b ∧ double.add b half = some c ∧ double.mul unit c = some d ∧ double.mul 4611686018427387904 (FloatKind.f64.nearest i) = some e ∧ double.add e 4607182418800017408 = some f ∧ double.mul d f = some x ∧ cosR x = some y ∧ floatToFloatBits .f64 y .f32 = some r := by
  unfold cosP at h
  obtain ⟨x, h1, h⟩ := fb_some h
  obtain ⟨y, h2, h⟩ := fb_some h
  unfold argP at h1
  obtain ⟨a, g1, h1⟩ := fb_some h1
  obtain ⟨b, g2, h1⟩ := fb_some h1
  obtain ⟨c, g3, h1⟩ := fb_some h1
  obtain ⟨d, g4, h1⟩ := fb_some h1
  obtain ⟨e, g5, h1⟩ := fb_some h1
  obtain ⟨f, g6, h1⟩ := fb_some h1
  exact ⟨a, b, c, d, e, f, x, y, g1, g2, g3, g4, g5, g6, h1, h2, h⟩
/-- The reference's cosine. -/
def cosS (unit m : Nat) : Option Nat := fb (double.mul unit (nr m)) cosR
theorem cosS_spec {unit m r : Nat} (h : cosS unit m = some r) : ∃ x, double.mul unit (FloatKind.f64.nearest m) = some x ∧ cosR x = some r := fb_some h
/-- The package's sines: of a place, of a place less so many. -/
def sinA (unit i : Nat) : Option Nat := fb (double.add (nr i) 4602678819172646912) fun b => fb (double.mul unit b) fun x => fb (sinR x) narrow
def sinB (unit less i : Nat) : Option Nat := fb (double.add (nr i) 4602678819172646912) fun b => fb (double.sub b less) fun c => fb (double.mul unit c) fun x => fb (sinR x) narrow
theorem sinA_spec {unit i r : Nat} (h : sinA unit i = some r) : ∃ b x y, double.add (FloatKind.f64.nearest i) 4602678819172646912 = some b ∧ double.mul unit b = some x ∧ sinR x = some y ∧ floatToFloatBits .f64 y .f32 = some r := by
  unfold sinA at h
  obtain ⟨b, h1, h⟩ := fb_some h
  obtain ⟨x, h2, h⟩ := fb_some h
  obtain ⟨y, h3, h⟩ := fb_some h
  exact ⟨b, x, y, h1, h2, h3, h⟩
theorem sinB_spec {unit less i r : Nat} (h : sinB unit less i = some r) : ∃ b c x y, double.add (FloatKind.f64.nearest i) 4602678819172646912 = some b ∧ double.sub b less = some c ∧ double.mul unit c = some x ∧ sinR x = some y ∧ floatToFloatBits .f64 y .f32 = some r := by
  unfold sinB at h
  obtain ⟨b, h1, h⟩ := fb_some h
  obtain ⟨c, h2, h⟩ := fb_some h
  obtain ⟨x, h3, h⟩ := fb_some h
  obtain ⟨y, h4, h⟩ := fb_some h
  exact ⟨b, c, x, y, h1, h2, h3, h4, h⟩
/-- The reference's sine. -/
def sinS (k m : Nat) : Option Nat := fb (double.div 4614256656552045848 (nr m)) fun q => fb (double.add (nr k) 4602678819172646912) fun b => fb (double.mul q b) sinR
theorem sinS_spec {k m r : Nat} (h : sinS k m = some r) : ∃ q b x, double.div 4614256656552045848 (FloatKind.f64.nearest m) = some q ∧ double.add (FloatKind.f64.nearest k) 4602678819172646912 = some b ∧ double.mul q b = some x ∧ sinR x = some r := by
  unfold sinS at h
  obtain ⟨q, h1, h⟩ := fb_some h
  obtain ⟨b, h2, h⟩ := fb_some h
  obtain ⟨x, h3, h⟩ := fb_some h
  exact ⟨q, b, x, h1, h2, h3, h⟩
/-- Both are numbers, the first at most 1, and they lie near. -/
def okP (x y : Option Nat) : Bool := (fb x fun c => fb y fun d => if dfin (single.read c) && dfin (double.read d) && decide (mg (V single c) ≤ 1) && decide (mg (V double d - V single c) ≤ 1 / 10000000) then some 1 else none).isSome
theorem okP_spec {x y : Option Nat} (h : okP x y = true) : ∃ c d, x = some c ∧ y = some d ∧ Fin single c ∧ Fin double d ∧ mg (V single c) ≤ 1 ∧ mg (V double d - V single c) ≤ 1 / 10000000 := by
  obtain ⟨r, h⟩ := Option.isSome_iff_exists.1 h
  obtain ⟨c, h1, h⟩ := fb_some h
  obtain ⟨d, h2, h⟩ := fb_some h
  split at h
  · rename_i hc
    simp only [Bool.and_eq_true, decide_eq_true_eq] at hc
    exact ⟨c, d, h1, h2, hc.1.1.1, hc.1.1.2, hc.1.2, hc.2⟩
  · cases h
end Go.Proofs.YtbcjhkncifckiaaDoor
