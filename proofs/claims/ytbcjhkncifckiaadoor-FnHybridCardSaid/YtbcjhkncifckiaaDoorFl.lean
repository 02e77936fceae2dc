/- Floats as rational numbers: how far the result of an operation may lie from the exact one. No program is named here. -/
import Ieee.Arith
import Derived.Laws.FloatBits
namespace Go.Proofs.YtbcjhkncifckiaaDoor
open Ieee
namespace Fl

/-! ## Powers of two -/
theorem two_ne : (2 : Rat) ≠ 0 := by decide
theorem zp_pos (e : Int) : (0 : Rat) < 2 ^ e := Rat.zpow_pos (by decide)
theorem zp_add (a b : Int) : (2 : Rat) ^ (a + b) = 2 ^ a * 2 ^ b := Rat.zpow_add two_ne a b
theorem zp_nat (n : Nat) : (2 : Rat) ^ (n : Int) = ((2 ^ n : Nat) : Rat) := by
  rw [Rat.zpow_natCast]
  induction n with
  | zero => rfl
  | succ n ih => rw [Rat.pow_succ, ih, Nat.pow_succ]; simp [Rat.natCast_mul]
theorem zp_le {a b : Int} (h : a ≤ b) : (2 : Rat) ^ a ≤ 2 ^ b := by
  obtain ⟨n, hn⟩ := Int.eq_ofNat_of_zero_le (show 0 ≤ b - a by omega)
  have : b = a + n := by omega
  rw [this, zp_add, zp_nat]
  have h1 : (1 : Rat) ≤ ((2 ^ n : Nat) : Rat) := by
    have : 1 ≤ 2 ^ n := Nat.one_le_two_pow
    exact_mod_cast this
  have := Rat.mul_le_mul_of_nonneg_left h1 (Rat.le_of_lt (zp_pos a))
  rwa [Rat.mul_one] at this
theorem nat_nonneg (n : Nat) : (0 : Rat) ≤ (n : Rat) := by exact_mod_cast Nat.zero_le n

/-! ## What a word stands for -/
def dval : Datum → Rat
  | .number s m e => if s then -((m : Rat) * 2 ^ e) else (m : Rat) * 2 ^ e
  | _ => 0
theorem dval_number (s : Bool) (m : Nat) (e : Int) : dval (.number s m e) = if s then -((m : Rat) * 2 ^ e) else (m : Rat) * 2 ^ e := rfl
def dfin : Datum → Bool
  | .number .. => true
  | _ => false
/-- The number that a word stands for. -/
def V (f : Format) (b : Nat) : Rat := dval (f.read b)
/-- The word stands for a number. -/
def Fin (f : Format) (b : Nat) : Prop := dfin (f.read b) = true

theorem Fin.num {f : Format} {b : Nat} (h : Fin f b) : ∃ s m e, f.read b = .number s m e := by
  unfold Fin at h
  cases hr : f.read b with
  | number s m e => exact ⟨s, m, e, rfl⟩
  | infinity s => rw [hr] at h; cases h
  | nan s t => rw [hr] at h; cases h

/-! ## Rounding to a whole number -/
theorem log2_lt (n : Nat) : n < 2 ^ (n.log2 + 1) := Nat.lt_log2_self
theorem cut_even (neg : Bool) (n drop : Nat) :
    2 * (Toward.even.cut neg n drop * 2 ^ drop) ≤ 2 * n + 2 ^ drop ∧ 2 * n ≤ 2 * (Toward.even.cut neg n drop * 2 ^ drop) + 2 ^ drop := by
  unfold Toward.cut
  simp only [Nat.one_shiftLeft]
  by_cases hd : drop ≤ n.log2 + 2
  · rw [Nat.min_eq_left hd]
    have hg : 0 < 2 ^ drop := Nat.two_pow_pos _
    generalize 2 ^ drop = g at *
    have h1 := Nat.div_add_mod n g
    have h2 := Nat.mod_lt n hg
    generalize n / g = q at *
    generalize n % g = r at *
    by_cases hm : (decide (g < 2 * r) || (g == 2 * r && q % 2 == 1)) = true
    · rw [hm]
      have : g ≤ 2 * r := by
        simp at hm; omega
      rw [show (q + true.toNat) * g = g * q + g by rw [Nat.add_mul, Nat.mul_comm]; simp]
      omega
    · have hm' : (decide (g < 2 * r) || (g == 2 * r && q % 2 == 1)) = false := by simpa using hm
      rw [hm']
      have : 2 * r ≤ g := by simp at hm'; omega
      rw [show (q + false.toNat) * g = g * q by rw [Nat.add_mul, Nat.mul_comm]; simp]
      omega
  · rw [Nat.min_eq_right (by omega)]
    have hn := log2_lt n
    have h4 : 2 ^ (n.log2 + 2) = 2 * 2 ^ (n.log2 + 1) := by rw [Nat.pow_succ, Nat.mul_comm]
    have hle : 2 ^ (n.log2 + 2) ≤ 2 ^ drop := Nat.pow_le_pow_right (by decide) (by omega)
    have hlt : n < 2 ^ (n.log2 + 2) := by omega
    rw [Nat.div_eq_of_lt hlt, Nat.mod_eq_of_lt hlt]
    have hm : (decide (2 ^ (n.log2 + 2) < 2 * n) || (2 ^ (n.log2 + 2) == 2 * n && 0 % 2 == 1)) = false := by
      simp; omega
    rw [hm]
    simp
    omega
theorem cut_exact (neg : Bool) (n : Nat) : Toward.even.cut neg n 0 = n := by
  unfold Toward.cut
  simp [Nat.mod_one]

/-! ## Reading a word back -/
theorem read_word (f : Format) (neg : Bool) (rung : Nat) (h : rung < f.signWeight) :
    f.read (f.word neg rung) = if rung < f.binade then .number neg rung f.leastPlace
      else if rung < f.infRung then .number neg (f.binade + rung % f.binade) (f.leastPlace + (rung / f.binade - 1 : Nat))
      else if rung = f.infRung then .infinity neg else .nan neg (rung - f.infRung) := by
  have hw : f.word neg rung % f.signWeight = rung := by
    unfold Format.word
    cases neg
    · simp [Nat.mod_eq_of_lt h]
    · simp [Nat.mod_eq_of_lt h]
  have hs : (f.word neg rung / f.signWeight % 2 == 1) = neg := by
    unfold Format.word
    have hp : 0 < f.signWeight := by omega
    cases neg
    · simp [Nat.div_eq_of_lt h]
    · simp [Nat.add_div_left _ hp, Nat.div_eq_of_lt h]
  unfold Format.read
  simp only [hw, hs]

/-- The value of a rung that is k binades up and has 'kept' units. -/
theorem read_rung (f : Format) (neg : Bool) (k kept : Nat) (hk : k = 0 ∨ f.binade ≤ kept) (hkept : kept ≤ 2 * f.binade) (hlt : k * f.binade + kept < f.infRung) :
    dfin (f.read (f.word neg (k * f.binade + kept))) = true ∧ dval (f.read (f.word neg (k * f.binade + kept))) = dval (.number neg kept (f.leastPlace + k)) := by
  have hb : 0 < f.binade := Nat.two_pow_pos _
  rw [read_word f neg _ (Nat.lt_trans hlt f.infRung_lt)]
  by_cases h1 : k * f.binade + kept < f.binade
  · rw [if_pos h1]
    have hk0 : k = 0 := by
      rcases hk with hk | hk
      · exact hk
      · omega
    subst hk0
    simp [dfin]
  · rw [if_neg h1, if_pos hlt]
    refine ⟨rfl, ?_⟩
    by_cases h2 : kept < f.binade
    · have hk0 : k = 0 := by
        rcases hk with hk | hk
        · exact hk
        · omega
      subst hk0
      omega
    · by_cases h3 : kept < 2 * f.binade
      · have hq : (k * f.binade + kept) / f.binade = k + 1 := by
          rw [Nat.mul_comm, Nat.mul_add_div hb]
          congr 1
          exact Nat.div_eq_of_lt_le (by omega) (by omega)
        have hr : (k * f.binade + kept) % f.binade = kept - f.binade := by
          rw [Nat.mul_comm, Nat.mul_add_mod]
          rw [Nat.mod_eq_sub_mod (by omega), Nat.mod_eq_of_lt (by omega)]
        rw [hq, hr]
        simp only [Nat.add_sub_cancel]
        rw [show f.binade + (kept - f.binade) = kept by omega]
      · have he : kept = 2 * f.binade := by omega
        subst he
        have hq : (k * f.binade + 2 * f.binade) / f.binade = k + 2 := by
          rw [← Nat.add_mul]; exact Nat.mul_div_cancel _ hb
        have hr : (k * f.binade + 2 * f.binade) % f.binade = 0 := by
          rw [← Nat.add_mul]; exact Nat.mul_mod_left _ _
        rw [hq, hr]
        have hz : ((f.binade : Nat) : Rat) * 2 ^ (f.leastPlace + ((k + 1 : Nat) : Int)) = ((2 * f.binade : Nat) : Rat) * 2 ^ (f.leastPlace + (k : Int)) := by
          rw [show f.leastPlace + ((k + 1 : Nat) : Int) = (f.leastPlace + k) + 1 by omega, zp_add, Rat.zpow_one, Rat.natCast_mul]
          grind
        simp only [dval, Nat.add_zero, show k + 2 - 1 = k + 1 by omega, hz]

/-! ## The nearest word -/
theorem mag_le (mag : Nat) (h : mag ≠ 0) : 2 ^ mag.log2 ≤ mag := Nat.log2_self_le h

theorem nearest_spec (f : Format) (neg : Bool) (mag : Nat) (place : Int) (hm : mag ≠ 0) (hk : (max (place + mag.log2 - f.fractionBits) f.leastPlace - f.leastPlace).toNat + 3 ≤ 2 ^ f.exponentBits - 1) :
    dfin (f.read (f.nearest neg mag place)) = true ∧
    ∃ kept : Nat, dval (f.read (f.nearest neg mag place)) = dval (.number neg kept (max (place + mag.log2 - f.fractionBits) f.leastPlace)) ∧
      (kept = Toward.even.cut neg (mag <<< (place - max (place + mag.log2 - f.fractionBits) f.leastPlace).toNat) (max (place + mag.log2 - f.fractionBits) f.leastPlace - place).toNat) := by
  unfold Format.nearest
  rw [if_neg hm]
  simp only
  generalize hl : max (place + mag.log2 - f.fractionBits) f.leastPlace = last at *
  have hleast : f.leastPlace ≤ last := by omega
  generalize hkept : Toward.even.cut neg (mag <<< (place - last).toNat) (last - place).toNat = kept
  have hc := cut_even neg (mag <<< (place - last).toNat) (last - place).toNat
  rw [hkept, Nat.shiftLeft_eq] at hc
  have hlo := mag_le mag hm
  have hhi := log2_lt mag
  have hbin : f.binade = 2 ^ f.fractionBits := rfl
  have hb : 0 < f.binade := Nat.two_pow_pos _
  -- kept lies between one binade and two
  have hup : kept ≤ 2 * f.binade := by
    have hn : mag * 2 ^ (place - last).toNat < 2 ^ (f.fractionBits + 1) * 2 ^ (last - place).toNat := by
      have h1 : mag * 2 ^ (place - last).toNat < 2 ^ (mag.log2 + 1) * 2 ^ (place - last).toNat := Nat.mul_lt_mul_of_pos_right hhi (Nat.two_pow_pos _)
      rw [← Nat.pow_add] at h1
      rw [← Nat.pow_add]
      exact Nat.lt_of_lt_of_le h1 (Nat.pow_le_pow_right (by decide) (by omega))
    generalize hd : 2 ^ (last - place).toNat = d at *
    have hd0 : 0 < d := by rw [← hd]; exact Nat.two_pow_pos _
    have h2 : 2 ^ (f.fractionBits + 1) = 2 * f.binade := by rw [hbin, Nat.pow_succ, Nat.mul_comm]
    rw [h2] at hn
    have h3 : 2 * (kept * d) < 2 * (2 * f.binade * d) + d + 0 := by omega
    rcases Nat.lt_or_ge (2 * f.binade) kept with h | h
    · have h4 : (2 * f.binade + 1) * d ≤ kept * d := Nat.mul_le_mul_right d h
      rw [Nat.add_mul] at h4
      omega
    · exact h
  have hk2 : (last - f.leastPlace).toNat = 0 ∨ f.binade ≤ kept := by
    by_cases h0 : (last - f.leastPlace).toNat = 0
    · exact .inl h0
    · refine .inr ?_
      have hlast : last = place + mag.log2 - f.fractionBits := by omega
      have hn : f.binade * 2 ^ (last - place).toNat ≤ mag * 2 ^ (place - last).toNat := by
        have h1 : 2 ^ mag.log2 * 2 ^ (place - last).toNat ≤ mag * 2 ^ (place - last).toNat := Nat.mul_le_mul_right _ hlo
        refine Nat.le_trans ?_ h1
        rw [hbin, ← Nat.pow_add, ← Nat.pow_add]
        exact Nat.pow_le_pow_right (by decide) (by omega)
      generalize hd : 2 ^ (last - place).toNat = d at *
      have hd0 : 0 < d := by rw [← hd]; exact Nat.two_pow_pos _
      rcases Nat.lt_or_ge kept f.binade with h | h
      · have h4 : (kept + 1) * d ≤ f.binade * d := Nat.mul_le_mul_right d h
        rw [Nat.add_mul] at h4
        omega
      · exact h
  have hlt : (last - f.leastPlace).toNat * f.binade + kept < f.infRung := by
    unfold Format.infRung
    have h1 : ((last - f.leastPlace).toNat + 3) * f.binade ≤ (2 ^ f.exponentBits - 1) * f.binade := Nat.mul_le_mul_right _ hk
    rw [Nat.add_mul] at h1
    omega
  rw [Nat.min_eq_left (Nat.le_of_lt hlt)]
  obtain ⟨h1, h2⟩ := read_rung f neg (last - f.leastPlace).toNat kept hk2 hup hlt
  refine ⟨h1, kept, ?_, rfl⟩
  rw [h2]
  congr 1
  simp
  omega

/-- What lies between the nearest word and the number: half a unit of the last place. -/
theorem nearest_near (f : Format) (neg : Bool) (mag : Nat) (place : Int) (hm : mag ≠ 0) (hk : (max (place + mag.log2 - f.fractionBits) f.leastPlace - f.leastPlace).toNat + 3 ≤ 2 ^ f.exponentBits - 1) :
    Fin f (f.nearest neg mag place) ∧
    2 * (V f (f.nearest neg mag place) - dval (.number neg mag place)) ≤ 2 ^ (max (place + mag.log2 - f.fractionBits) f.leastPlace) ∧
    2 * (dval (.number neg mag place) - V f (f.nearest neg mag place)) ≤ 2 ^ (max (place + mag.log2 - f.fractionBits) f.leastPlace) := by
  obtain ⟨h1, kept, h2, h3⟩ := nearest_spec f neg mag place hm hk
  refine ⟨h1, ?_⟩
  unfold V
  rw [h2]
  generalize max (place + mag.log2 - f.fractionBits) f.leastPlace = last at *
  have hc := cut_even neg (mag <<< (place - last).toNat) (last - place).toNat
  rw [← h3, Nat.shiftLeft_eq] at hc
  -- everything over the unit 2 ^ (min place last)
  have hp : (mag : Rat) * 2 ^ place = ((mag * 2 ^ (place - last).toNat : Nat) : Rat) * 2 ^ (last - (last - place).toNat) := by
    rw [Rat.natCast_mul, ← zp_nat, Rat.mul_assoc, ← zp_add]
    congr 2
    omega
  have hq : (kept : Rat) * 2 ^ last = ((kept * 2 ^ (last - place).toNat : Nat) : Rat) * 2 ^ (last - (last - place).toNat) := by
    rw [Rat.natCast_mul, ← zp_nat, Rat.mul_assoc, ← zp_add]
    congr 2
    omega
  have hr : (2 : Rat) ^ last = ((2 ^ (last - place).toNat : Nat) : Rat) * 2 ^ (last - (last - place).toNat) := by
    rw [← zp_nat, ← zp_add]
    congr 1
    omega
  have hu := zp_pos (last - (last - place).toNat)
  generalize (2 : Rat) ^ (last - ((last - place).toNat : Int)) = u at *
  generalize mag * 2 ^ (place - last).toNat = A at *
  generalize kept * 2 ^ (last - place).toNat = B at *
  generalize 2 ^ (last - place).toNat = C at *
  have c1 : 2 * (B : Rat) ≤ 2 * (A : Rat) + (C : Rat) := by exact_mod_cast hc.1
  have c2 : 2 * (A : Rat) ≤ 2 * (B : Rat) + (C : Rat) := by exact_mod_cast hc.2
  have d1 := Rat.mul_le_mul_of_nonneg_right c1 (Rat.le_of_lt hu)
  have d2 := Rat.mul_le_mul_of_nonneg_right c2 (Rat.le_of_lt hu)
  rw [dval_number, dval_number, hp, hq, hr]
  cases neg
  · simp only [Bool.false_eq_true, if_false]
    constructor <;> grind
  · simp only [if_true]
    constructor <;> grind
/-- A number that needs no rounding. -/
theorem nearest_exact (f : Format) (neg : Bool) (mag : Nat) (place : Int) (hm : mag ≠ 0) (hk : (max (place + mag.log2 - f.fractionBits) f.leastPlace - f.leastPlace).toNat + 3 ≤ 2 ^ f.exponentBits - 1)
    (hle : max (place + mag.log2 - f.fractionBits) f.leastPlace ≤ place) : Fin f (f.nearest neg mag place) ∧ V f (f.nearest neg mag place) = dval (.number neg mag place) := by
  obtain ⟨h1, kept, h2, h3⟩ := nearest_spec f neg mag place hm hk
  refine ⟨h1, ?_⟩
  unfold V
  rw [h2]
  generalize max (place + mag.log2 - f.fractionBits) f.leastPlace = last at *
  rw [show (last - place).toNat = 0 by omega, cut_exact, Nat.shiftLeft_eq] at h3
  subst h3
  have hp : ((mag * 2 ^ (place - last).toNat : Nat) : Rat) * 2 ^ last = (mag : Rat) * 2 ^ place := by
    rw [Rat.natCast_mul, ← zp_nat, Rat.mul_assoc, ← zp_add]
    congr 2
    omega
  rw [dval_number, dval_number, hp]

/-! ## In numbers: single and double -/
/-- The rounding's share. -/
def U (f : Format) : Rat := if f = single then 1 / 16777216 else 1 / 9007199254740992
/-- What is added near nought. -/
def tiny : Rat := 1 / 10 ^ 40
/-- The two formats. -/
def Two (f : Format) : Prop := f = single ∨ f = double
theorem two_single : Two single := .inl rfl
theorem two_double : Two double := .inr rfl
def big : Rat := 2 ^ (100 : Int)

theorem U_nonneg (f : Format) : 0 ≤ U f := by unfold U; split <;> decide +kernel
theorem tiny_nonneg : 0 ≤ tiny := by decide +kernel

/-- The magnitude of a number. -/
theorem mag_val (s : Bool) (m : Nat) (e : Int) : (m : Rat) * 2 ^ e = if 0 ≤ dval (.number s m e) then dval (.number s m e) else -dval (.number s m e) := by
  have h : (0 : Rat) ≤ (m : Rat) * 2 ^ e := Rat.mul_nonneg (nat_nonneg m) (Rat.le_of_lt (zp_pos e))
  rw [dval_number]
  generalize (m : Rat) * 2 ^ e = x at *
  cases s
  · simp only [Bool.false_eq_true, if_false]; rw [if_pos h]
  · simp only [if_true]
    split
    · grind
    · grind

theorem log2_place {m : Nat} {e : Int} (hm : m ≠ 0) (h : (m : Rat) * 2 ^ e ≤ big) : e + m.log2 ≤ 100 := by
  by_cases hc : e + m.log2 ≤ 100
  · exact hc
  · exfalso
    have h1 : ((2 ^ m.log2 : Nat) : Rat) ≤ (m : Rat) := by exact_mod_cast mag_le m hm
    have h2 := Rat.mul_le_mul_of_nonneg_right h1 (Rat.le_of_lt (zp_pos e))
    rw [← zp_nat, ← zp_add] at h2
    have h3 := zp_le (show (101 : Int) ≤ (m.log2 : Int) + e by omega)
    have h4 : (2 : Rat) ^ (101 : Int) = 2 * big := by
      unfold big
      rw [show (101 : Int) = 100 + 1 by rfl, zp_add, Rat.zpow_one, Rat.mul_comm]
    have h5 : (0 : Rat) < big := zp_pos 100
    grind

theorem room {f : Format} (hf : Two f) {m : Nat} {e : Int} (hm : m ≠ 0) (h : (m : Rat) * 2 ^ e ≤ big) : (max (e + m.log2 - f.fractionBits) f.leastPlace - f.leastPlace).toNat + 3 ≤ 2 ^ f.exponentBits - 1 := by
  have hl := log2_place hm h
  rcases hf with rfl | rfl
  · have h1 : single.leastPlace = -149 := by decide
    have h2 : (single.fractionBits : Int) = 23 := by decide
    have h3 : 2 ^ single.exponentBits - 1 = 255 := by decide
    rw [h1, h2, h3]; omega
  · have h1 : double.leastPlace = -1074 := by decide
    have h2 : (double.fractionBits : Int) = 52 := by decide
    have h3 : 2 ^ double.exponentBits - 1 = 2047 := by decide
    rw [h1, h2, h3]; omega

theorem unit_le {f : Format} (hf : Two f) {m : Nat} {e : Int} (hm : m ≠ 0) : (2 : Rat) ^ (max (e + m.log2 - f.fractionBits) f.leastPlace) ≤ 2 * ((m : Rat) * 2 ^ e * U f + tiny) := by
  have h1 : ((2 ^ m.log2 : Nat) : Rat) ≤ (m : Rat) := by exact_mod_cast mag_le m hm
  have h2 := Rat.mul_le_mul_of_nonneg_right h1 (Rat.le_of_lt (zp_pos e))
  rw [← zp_nat, ← zp_add] at h2
  have hu := U_nonneg f
  have ht := tiny_nonneg
  have hme : (0 : Rat) ≤ (m : Rat) * 2 ^ e := Rat.mul_nonneg (nat_nonneg m) (Rat.le_of_lt (zp_pos e))
  have h0 := Rat.mul_nonneg hme hu
  rcases Int.le_total (e + m.log2 - f.fractionBits) f.leastPlace with hc | hc
  · rw [Int.max_eq_right hc]
    have h3 : (2 : Rat) ^ f.leastPlace ≤ 2 * tiny := by
      rcases hf with rfl | rfl
      · have : (2 : Rat) ^ single.leastPlace ≤ 2 * tiny := by
          have h1 : single.leastPlace = -149 := by decide
          rw [h1]; decide +kernel
        exact this
      · have h1 : double.leastPlace = -1074 := by decide
        rw [h1]; decide +kernel
    grind
  · rw [Int.max_eq_left hc]
    have h3 : (2 : Rat) ^ (e + (m.log2 : Int) - f.fractionBits) = 2 ^ ((m.log2 : Int) + e) * (2 * U f) := by
      have h4 : (2 : Rat) ^ (-(f.fractionBits : Int)) = 2 * U f := by
        rcases hf with rfl | rfl
        · decide +kernel
        · decide +kernel
      rw [← h4, ← zp_add]
      congr 1
      omega
    rw [h3]
    have h5 := Rat.mul_le_mul_of_nonneg_right h2 (show (0 : Rat) ≤ 2 * U f by grind)
    grind

/-- The magnitude of a rational number. -/
def mg (x : Rat) : Rat := if 0 ≤ x then x else -x
theorem mg_nonneg (x : Rat) : 0 ≤ mg x := by unfold mg; split <;> grind
theorem mg_le {x e : Rat} : mg x ≤ e ↔ x ≤ e ∧ -x ≤ e := by unfold mg; split <;> grind
theorem mg_add (x y : Rat) : mg (x + y) ≤ mg x + mg y := by unfold mg; split <;> split <;> split <;> grind
theorem mg_mul (x y : Rat) : mg (x * y) = mg x * mg y := by
  unfold mg
  by_cases hx : 0 ≤ x
  · by_cases hy : 0 ≤ y
    · rw [if_pos hx, if_pos hy, if_pos (Rat.mul_nonneg hx hy)]
    · rw [if_pos hx, if_neg hy]
      have h := Rat.mul_nonneg hx (show 0 ≤ -y by grind)
      split <;> grind
  · by_cases hy : 0 ≤ y
    · rw [if_neg hx, if_pos hy]
      have h := Rat.mul_nonneg (show 0 ≤ -x by grind) hy
      split <;> grind
    · rw [if_neg hx, if_neg hy]
      have h := Rat.mul_nonneg (show 0 ≤ -x by grind) (show 0 ≤ -y by grind)
      split <;> grind
theorem mg_neg (x : Rat) : mg (-x) = mg x := by unfold mg; split <;> split <;> grind

theorem nearest_zero (f : Format) (s : Bool) (e : Int) : Fin f (f.nearest s 0 e) ∧ V f (f.nearest s 0 e) = 0 := by
  have h : f.nearest s 0 e = f.word s (0 * f.binade + 0) := by simp [Format.nearest]
  have hb : 0 < f.binade := Nat.two_pow_pos _
  have hi : 0 < f.signWeight := Nat.two_pow_pos _
  unfold Fin V
  rw [h, read_word f s _ (by simpa using hi), if_pos (by simpa using hb)]
  refine ⟨rfl, ?_⟩
  rw [dval_number]
  simp

/-- THE LAW OF ROUNDING. -/
theorem write_near {f : Format} (hf : Two f) {s : Bool} {m : Nat} {e : Int} (hb : mg (dval (.number s m e)) ≤ big) :
    Fin f (f.write (.number s m e)) ∧ mg (V f (f.write (.number s m e)) - dval (.number s m e)) ≤ mg (dval (.number s m e)) * U f + tiny := by
  show Fin f (f.nearest s m e) ∧ _
  have hmv : mg (dval (.number s m e)) = (m : Rat) * 2 ^ e := (mag_val s m e).symm
  by_cases hm : m = 0
  · subst hm
    obtain ⟨h1, h2⟩ := nearest_zero f s e
    refine ⟨h1, ?_⟩
    have h3 : dval (.number s 0 e) = 0 := by rw [dval_number]; simp
    show mg (V f (f.nearest s 0 e) - _) ≤ _
    rw [h2, h3, Rat.sub_self, show mg 0 = 0 by decide, Rat.zero_mul, Rat.zero_add]
    exact tiny_nonneg
  · rw [hmv] at hb ⊢
    obtain ⟨h1, h2, h3⟩ := nearest_near f s m e hm (room hf hm hb)
    have h4 := unit_le hf (e := e) hm
    refine ⟨h1, ?_⟩
    show mg (V f (f.nearest s m e) - _) ≤ _
    rw [mg_le]
    constructor <;> grind

/-- A number of few digits is written as it is. -/
theorem write_exact {f : Format} (hf : Two f) {s : Bool} {m : Nat} {e : Int} (hb : mg (dval (.number s m e)) ≤ big) (h1 : m.log2 ≤ f.fractionBits) (h2 : f.leastPlace ≤ e) :
    Fin f (f.write (.number s m e)) ∧ V f (f.write (.number s m e)) = dval (.number s m e) := by
  show Fin f (f.nearest s m e) ∧ V f (f.nearest s m e) = _
  have hmv : mg (dval (.number s m e)) = (m : Rat) * 2 ^ e := (mag_val s m e).symm
  by_cases hm : m = 0
  · subst hm
    obtain ⟨h1, h2⟩ := nearest_zero f s e
    refine ⟨h1, ?_⟩
    rw [h2, dval_number]; simp
  · rw [hmv] at hb
    exact nearest_exact f s m e hm (room hf hm hb) (by omega)

/-! ## Sums, products -/
theorem signed_val (s : Bool) (m : Nat) (i base : Int) (h : base ≤ i) : ((signed s m (i - base).toNat : Int) : Rat) * 2 ^ base = dval (.number s m i) := by
  have h1 : (m : Rat) * 2 ^ i = ((m <<< (i - base).toNat : Nat) : Rat) * 2 ^ base := by
    rw [Nat.shiftLeft_eq, Rat.natCast_mul, ← zp_nat, Rat.mul_assoc, ← zp_add]
    congr 2
    omega
  rw [dval_number, h1]
  unfold signed
  cases s
  · simp only [Bool.false_eq_true, if_false, Rat.intCast_natCast]
  · simp only [if_true, Rat.intCast_neg, Rat.intCast_natCast, Rat.neg_mul]

theorem sum_val (s t : Bool) (m n : Nat) (i j : Int) : ∃ s' m' e', (Datum.number s m i).sum (.number t n j) = some (.number s' m' e') ∧ dval (.number s' m' e') = dval (.number s m i) + dval (.number t n j) := by
  refine ⟨_, _, _, rfl, ?_⟩
  have h1 := signed_val s m i (min i j) (Int.min_le_left _ _)
  have h2 := signed_val t n j (min i j) (Int.min_le_right _ _)
  rw [← h1, ← h2]
  generalize signed s m (i - min i j).toNat = a
  generalize signed t n (j - min i j).toNat = b
  rw [← Rat.add_mul, ← Rat.intCast_add, dval_number]
  have hnn : (((a + b).natAbs : Nat) : Rat) = (((a + b).natAbs : Int) : Rat) := rfl
  rw [hnn]
  by_cases h0 : a + b = 0
  · rw [h0]; simp
  · rw [if_neg h0]
    by_cases hneg : a + b < 0
    · simp only [hneg, decide_true, if_true]
      rw [show (((a + b).natAbs : Nat) : Int) = -(a + b) by omega, Rat.intCast_neg]
      grind
    · simp only [hneg, decide_false, Bool.false_eq_true, if_false]
      rw [show (((a + b).natAbs : Nat) : Int) = a + b by omega]

theorem product_val (s t : Bool) (m n : Nat) (i j : Int) : dval (.number (s ^^ t) (m * n) (i + j)) = dval (.number s m i) * dval (.number t n j) := by
  simp only [dval_number, Rat.natCast_mul, zp_add]
  cases s <;> cases t <;> simp <;> grind

theorem opposite_val (s : Bool) (m : Nat) (i : Int) : dval (.number (!s) m i) = -dval (.number s m i) := by
  simp only [dval_number]
  cases s <;> simp

/-- How near a word stands to a number. -/
structure Ap (f : Format) (b : Nat) (x e : Rat) : Prop where
  fin : Fin f b
  near : mg (V f b - x) ≤ e

theorem Ap.self {f : Format} {b : Nat} (h : Fin f b) : Ap f b (V f b) 0 := ⟨h, by rw [Rat.sub_self]; decide⟩
theorem Ap.mono {f : Format} {b : Nat} {x e d : Rat} (h : Ap f b x e) (hd : e ≤ d) : Ap f b x d := ⟨h.fin, Rat.le_trans h.near hd⟩
theorem Ap.move {f : Format} {b : Nat} {x y e d : Rat} (h : Ap f b x e) (hd : mg (x - y) ≤ d) : Ap f b y (e + d) := ⟨h.fin, by
  have h1 := h.near
  have := mg_add (V f b - x) (x - y)
  rw [show V f b - x + (x - y) = V f b - y by grind] at this
  grind⟩
theorem Ap.size {f : Format} {b : Nat} {x e : Rat} (h : Ap f b x e) : mg (V f b) ≤ mg x + e := by
  have := mg_add (V f b - x) x
  rw [show V f b - x + x = V f b by grind] at this
  have := h.near
  grind

theorem add_near {f : Format} (hf : Two f) {a b : Nat} (ha : Fin f a) (hb : Fin f b) (hM : mg (V f a + V f b) ≤ big) :
    ∃ r, f.add a b = some r ∧ Ap f r (V f a + V f b) (mg (V f a + V f b) * U f + tiny) := by
  obtain ⟨s, m, i, h1⟩ := ha.num
  obtain ⟨t, n, j, h2⟩ := hb.num
  obtain ⟨s', m', e', h3, h4⟩ := sum_val s t m n i j
  have hva : V f a = dval (.number s m i) := by unfold V; rw [h1]
  have hvb : V f b = dval (.number t n j) := by unfold V; rw [h2]
  rw [hva, hvb, ← h4] at hM ⊢
  obtain ⟨h5, h6⟩ := write_near hf hM
  refine ⟨_, ?_, h5, h6⟩
  unfold Format.add
  rw [h1, h2, h3]; rfl
theorem sub_near {f : Format} (hf : Two f) {a b : Nat} (ha : Fin f a) (hb : Fin f b) (hM : mg (V f a - V f b) ≤ big) :
    ∃ r, f.sub a b = some r ∧ Ap f r (V f a - V f b) (mg (V f a - V f b) * U f + tiny) := by
  obtain ⟨s, m, i, h1⟩ := ha.num
  obtain ⟨t, n, j, h2⟩ := hb.num
  obtain ⟨s', m', e', h3, h4⟩ := sum_val s (!t) m n i j
  have hva : V f a = dval (.number s m i) := by unfold V; rw [h1]
  have hvb : V f b = dval (.number t n j) := by unfold V; rw [h2]
  rw [opposite_val, ← Rat.sub_eq_add_neg] at h4
  rw [hva, hvb, ← h4] at hM ⊢
  obtain ⟨h5, h6⟩ := write_near hf hM
  refine ⟨_, ?_, h5, h6⟩
  unfold Format.sub
  rw [h1, h2]
  show Option.map f.write ((Datum.number s m i).sum (.number (!t) n j)) = _
  rw [h3]; rfl
theorem mul_near {f : Format} (hf : Two f) {a b : Nat} (ha : Fin f a) (hb : Fin f b) (hM : mg (V f a * V f b) ≤ big) :
    ∃ r, f.mul a b = some r ∧ Ap f r (V f a * V f b) (mg (V f a * V f b) * U f + tiny) := by
  obtain ⟨s, m, i, h1⟩ := ha.num
  obtain ⟨t, n, j, h2⟩ := hb.num
  have h4 := product_val s t m n i j
  have hva : V f a = dval (.number s m i) := by unfold V; rw [h1]
  have hvb : V f b = dval (.number t n j) := by unfold V; rw [h2]
  rw [hva, hvb, ← h4] at hM ⊢
  obtain ⟨h5, h6⟩ := write_near hf hM
  refine ⟨_, ?_, h5, h6⟩
  unfold Format.mul
  rw [h1, h2]; rfl
end Fl
end Go.Proofs.YtbcjhkncifckiaaDoor
