/- Floats as rational numbers, further: order, quotients, conversions, signs, the greater of two. No program is named here. -/
import Derived.Test.YtbcjhkncifckiaaDoorFl
import Derived.Test.YtbcjhkncifckiaaDoorOps2
namespace Go.Proofs.YtbcjhkncifckiaaDoor
open Ieee Go Go.RowKit En
namespace Fl

/-! ## Order -/
theorem order_val {f : Format} {a b : Nat} (ha : Fin f a) (hb : Fin f b) : ∃ c, f.order a b = some c ∧ (c = .lt ↔ V f a < V f b) ∧ (c = .gt ↔ V f b < V f a) ∧ (c = .eq ↔ V f a = V f b) := by
  obtain ⟨s, m, i, h1⟩ := ha.num
  obtain ⟨t, n, j, h2⟩ := hb.num
  have hva : V f a = dval (.number s m i) := by unfold V; rw [h1]
  have hvb : V f b = dval (.number t n j) := by unfold V; rw [h2]
  refine ⟨compare (signed s m (i - min i j).toNat) (signed t n (j - min i j).toNat), by unfold Format.order; rw [h1, h2]; rfl, ?_⟩
  rw [hva, hvb, ← signed_val s m i (min i j) (Int.min_le_left _ _), ← signed_val t n j (min i j) (Int.min_le_right _ _)]
  generalize signed s m (i - min i j).toNat = A
  generalize signed t n (j - min i j).toNat = B
  have hp := zp_pos (min i j)
  generalize (2 : Rat) ^ (min i j) = p at hp
  have hlt : ∀ A B : Int, (A : Rat) * p < B * p ↔ A < B := fun A B => by
    rw [Rat.mul_lt_mul_right hp]
    exact Rat.intCast_lt_intCast
  refine ⟨?_, ?_, ?_⟩
  · rw [hlt]; exact Int.compare_eq_lt
  · rw [hlt]; exact Int.compare_eq_gt
  · rw [Int.compare_eq_eq]
    constructor
    · rintro rfl; rfl
    · intro h
      rcases Int.lt_trichotomy A B with h' | h' | h'
      · have := (hlt A B).2 h'; rw [h] at this; exact absurd this (Rat.lt_irrefl)
      · exact h'
      · have := (hlt B A).2 h'; rw [h] at this; exact absurd this (Rat.lt_irrefl)
/-- The bits of '>' on floats. -/
theorem cmp_gt {k : FloatKind} {a b : Nat} (ha : Fin k.format a) (hb : Fin k.format b) : Op.floatCmp .gtr k a b = pure (.bool (decide (V k.format b < V k.format a))) := by
  obtain ⟨c, h1, h2, h3, h4⟩ := order_val ha hb
  unfold Op.floatCmp
  simp only [h1]
  congr 2
  by_cases h : V k.format b < V k.format a
  · rw [decide_eq_true h, h3.2 h]; rfl
  · rw [decide_eq_false h]
    have : c ≠ .gt := fun e => h (h3.1 e)
    cases c <;> simp at this ⊢
theorem cmp_neq_self {k : FloatKind} {a : Nat} (ha : Fin k.format a) : Op.floatCmp .neq k a a = pure (.bool false) := by
  obtain ⟨c, h1, h2, h3, h4⟩ := order_val ha ha
  unfold Op.floatCmp
  simp only [h1]
  rw [h4.2 rfl]; rfl

/-! ## The greater of two -/
theorem fmax_val {k : FloatKind} {a b : Nat} (ha : Fin k.format a) (hb : Fin k.format b) : ∃ r, fmax k a b = some r ∧ Fin k.format r ∧ V k.format a ≤ V k.format r ∧ V k.format b ≤ V k.format r ∧ (r = a ∨ r = b) := by
  obtain ⟨c, h1, h2, h3, h4⟩ := order_val ha hb
  unfold fmax
  rw [h1]
  cases c
  · exact ⟨b, rfl, hb, Rat.le_of_lt (h2.1 rfl), Rat.le_refl, .inr rfl⟩
  · have he := h4.1 rfl
    by_cases hn : (k.decode a).neg = true
    · exact ⟨b, by simp [hn], hb, by rw [he]; exact Rat.le_refl, Rat.le_refl, .inr rfl⟩
    · exact ⟨a, by simp [hn], ha, Rat.le_refl, by rw [he]; exact Rat.le_refl, .inl rfl⟩
  · exact ⟨a, rfl, ha, Rat.le_refl, Rat.le_of_lt (h3.1 rfl), .inl rfl⟩

/-! ## The opposite -/
theorem neg_read (f : Format) (a : Nat) : V f (a ^^^ 2 ^ (f.exponentBits + f.fractionBits)) = -V f a ∧ (Fin f a → Fin f (a ^^^ 2 ^ (f.exponentBits + f.fractionBits))) := by
  have hr : (a ^^^ 2 ^ (f.exponentBits + f.fractionBits)) % f.signWeight = a % f.signWeight := by
    unfold Format.signWeight
    rw [Nat.xor_mod_two_pow, Nat.mod_self, Nat.xor_zero]
  have hs : ((a ^^^ 2 ^ (f.exponentBits + f.fractionBits)) / f.signWeight % 2 == 1) = !(a / f.signWeight % 2 == 1) := by
    unfold Format.signWeight
    rw [Nat.xor_div_two_pow, Nat.div_self (Nat.two_pow_pos _)]
    have : (a / 2 ^ (f.exponentBits + f.fractionBits) ^^^ 1) % 2 = (a / 2 ^ (f.exponentBits + f.fractionBits) % 2) ^^^ 1 := by
      have := Nat.xor_mod_two_pow (a := a / 2 ^ (f.exponentBits + f.fractionBits)) (b := 1) (n := 1)
      simpa using this
    rw [this]
    rcases Nat.mod_two_eq_zero_or_one (a / 2 ^ (f.exponentBits + f.fractionBits)) with h | h <;> rw [h] <;> rfl
  unfold V Fin Format.read
  rw [hr, hs]
  by_cases h1 : a % f.signWeight < f.binade
  · simp only [h1, if_true]
    exact ⟨opposite_val _ _ _, fun _ => rfl⟩
  · by_cases h2 : a % f.signWeight < f.infRung
    · simp only [h1, h2, if_true, if_false]
      exact ⟨opposite_val _ _ _, fun _ => rfl⟩
    · by_cases h3 : a % f.signWeight = f.infRung
      · simp only [if_neg h1, if_neg h2, if_pos h3]
        exact ⟨show (0 : Rat) = -0 by decide, fun h => h⟩
      · simp only [if_neg h1, if_neg h2, if_neg h3]
        exact ⟨show (0 : Rat) = -0 by decide, fun h => h⟩
theorem neg_val (k : FloatKind) (a : Nat) : V k.format (Op.negFloat k a) = -V k.format a := (neg_read k.format a).1
theorem neg_fin {k : FloatKind} {a : Nat} (h : Fin k.format a) : Fin k.format (Op.negFloat k a) := (neg_read k.format a).2 h

/-! ## Quotients -/
theorem quo_val {f : Format} (hf : Two f) (s t : Bool) (m n : Nat) (i j : Int) (hn : n ≠ 0) (hm : m ≠ 0) : ∃ s' m' e', (Datum.number s m i).quotient (f.fractionBits + 2) (.number t n j) = some (.number s' m' e') ∧
    mg (dval (.number s' m' e') - dval (.number s m i) / dval (.number t n j)) ≤ mg (dval (.number s m i) / dval (.number t n j)) * U f := by
  let more := f.fractionBits + 2 + n.log2 - m.log2
  let d := m <<< more
  refine ⟨s ^^ t, 2 * (d / n) + (d % n != 0).toNat, i - j - more - 1, ?_, ?_⟩
  · show (if n = 0 then _ else _) = _
    rw [if_neg hn]
  have hd : d = m * 2 ^ more := Nat.shiftLeft_eq _ _
  have hlog : 2 ^ (f.fractionBits + 2 + n.log2) ≤ d := by
    have h1 := Nat.log2_self_le hm
    rw [hd]
    have h2 : 2 ^ m.log2 * 2 ^ more ≤ m * 2 ^ more := Nat.mul_le_mul_right _ h1
    rw [← Nat.pow_add] at h2
    exact Nat.le_trans (Nat.pow_le_pow_right (by decide) (by show _ ≤ m.log2 + (f.fractionBits + 2 + n.log2 - m.log2); omega)) h2
  have hn2 : n < 2 ^ (n.log2 + 1) := Nat.lt_log2_self
  have hbig : 2 ^ (f.fractionBits + 1) * n ≤ d := by
    have h3 : 2 ^ (f.fractionBits + 1) * n ≤ 2 ^ (f.fractionBits + 1) * 2 ^ (n.log2 + 1) := Nat.mul_le_mul_left _ (by omega)
    rw [← Nat.pow_add, show f.fractionBits + 1 + (n.log2 + 1) = f.fractionBits + 2 + n.log2 by omega] at h3
    omega
  have hdm := Nat.div_add_mod d n
  have hml := Nat.mod_lt d (Nat.pos_of_ne_zero hn)
  generalize hq : d / n = q at *
  generalize hr : d % n = r at *
  -- the digits against twice the quotient
  have hnr : (0 : Rat) < n := by exact_mod_cast Nat.pos_of_ne_zero hn
  have hk : ∃ k : Nat, k = 2 * q + (r != 0).toNat ∧ k * n ≤ 2 * d + n ∧ 2 * d ≤ k * n + n := by
    refine ⟨_, rfl, ?_⟩
    rw [Nat.add_mul, Nat.mul_assoc, Nat.mul_comm q n]
    by_cases h0 : r = 0
    · subst h0; simp; omega
    · rw [show (r != 0) = true by simpa using h0, Bool.toNat_true, Nat.one_mul]; omega
  obtain ⟨k, hk1, hk2, hk3⟩ := hk
  rw [← hk1]
  have hU : (n : Rat) ≤ 2 * (d : Rat) * U f := by
    have h1 : ((2 ^ (f.fractionBits + 1) : Nat) : Rat) * n ≤ d := by exact_mod_cast hbig
    have h2 : U f * ((2 ^ (f.fractionBits + 1) : Nat) : Rat) = 1 := by
      rcases hf with rfl | rfl <;> unfold U <;> decide +kernel
    have h3 := U_nonneg f
    have h4 := Rat.mul_le_mul_of_nonneg_left h1 h3
    rw [← Rat.mul_assoc, h2, Rat.one_mul] at h4
    have : (0 : Rat) ≤ (d : Rat) := nat_nonneg d
    have : 0 ≤ U f * (d : Rat) := Rat.mul_nonneg h3 this
    grind
  have e2 : (k : Rat) * n ≤ 2 * d + n := by exact_mod_cast hk2
  have e3 : 2 * (d : Rat) ≤ k * n + n := by exact_mod_cast hk3
  -- the values
  let p : Rat := 2 ^ (i - j - more - 1)
  have hp : 0 < p := zp_pos _
  have hx : dval (.number s m i) / dval (.number t n j) = if (s ^^ t) then -((2 * (d : Rat) / n) * p) else (2 * (d : Rat) / n) * p := by
    have h2j : (2 : Rat) ^ j ≠ 0 := Rat.ne_of_gt (zp_pos j)
    have hmp : (m : Rat) * 2 ^ i = 2 * (d : Rat) * p * 2 ^ j := by
      have : (2 : Rat) ^ i = 2 ^ (1 : Int) * ((2 ^ more : Nat) : Rat) * p * 2 ^ j := by
        rw [← zp_nat, ← zp_add]
        show _ = (2 : Rat) ^ (1 + (more : Int)) * 2 ^ (i - j - more - 1) * 2 ^ j
        rw [← zp_add, ← zp_add]; congr 1; omega
      rw [this, hd, Rat.natCast_mul, show (2 : Rat) ^ (1 : Int) = 2 by rfl]
      grind
    have hq : (m : Rat) * 2 ^ i / (n * 2 ^ j) = 2 * (d : Rat) / n * p := by
      rw [hmp]
      have hn0 : (n : Rat) ≠ 0 := Rat.ne_of_gt hnr
      rw [Rat.div_def, Rat.div_def, Rat.inv_mul_rev]
      have := Rat.mul_inv_cancel _ h2j
      grind
    rw [dval_number, dval_number, ← hq]
    have hneg : ∀ a b : Rat, -a / b = -(a / b) := fun a b => by rw [Rat.div_def, Rat.div_def, Rat.neg_mul]
    have hneg' : ∀ a b : Rat, a / -b = -(a / b) := fun a b => by grind
    cases s <;> cases t <;> simp [hneg, hneg']
  have hy : dval (.number (s ^^ t) k (i - j - more - 1)) = if (s ^^ t) then -((k : Rat) * p) else (k : Rat) * p := rfl
  rw [hx, hy]
  have hQ : 0 ≤ 2 * (d : Rat) / n := by
    rw [Rat.div_def]
    exact Rat.mul_nonneg (Rat.mul_nonneg (by decide) (nat_nonneg d)) (Rat.le_of_lt (Rat.inv_pos.2 hnr))
  have hQn : 2 * (d : Rat) / n * n = 2 * d := by
    rw [Rat.div_def, Rat.mul_assoc, Rat.inv_mul_cancel _ (Rat.ne_of_gt hnr), Rat.mul_one]
  generalize 2 * (d : Rat) / n = X at *
  have hk' : mg ((k : Rat) - X) ≤ X * U f := by
    have h1 : (1 : Rat) ≤ X * U f := by
      have : (n : Rat) * 1 ≤ n * (X * U f) := by rw [Rat.mul_one]; rw [← hQn] at hU; grind
      exact Rat.le_of_mul_le_mul_left this hnr
    have h2 : (k : Rat) ≤ X + 1 := Rat.le_of_mul_le_mul_left (c := (n : Rat)) (by grind) hnr
    have h3 : X ≤ k + 1 := Rat.le_of_mul_le_mul_left (c := (n : Rat)) (by grind) hnr
    rw [mg_le]; constructor <;> grind
  have hXp : 0 ≤ X * p := Rat.mul_nonneg hQ (Rat.le_of_lt hp)
  have hm1 : mg ((k : Rat) * p - X * p) ≤ X * p * U f := by
    rw [show (k : Rat) * p - X * p = (k - X) * p by grind, mg_mul]
    have : mg p = p := by unfold mg; rw [if_pos (Rat.le_of_lt hp)]
    rw [this]
    have := Rat.mul_le_mul_of_nonneg_right hk' (Rat.le_of_lt hp)
    grind
  have hm2 : mg (X * p) = X * p := by unfold mg; rw [if_pos hXp]
  cases h : (s ^^ t)
  · simp only [Bool.false_eq_true, if_false]; rw [hm2]; exact hm1
  · simp only [if_true]
    rw [mg_neg, hm2, show -((k : Rat) * p) - -(X * p) = -((k : Rat) * p - X * p) by grind, mg_neg]; exact hm1

theorem div_near {f : Format} (hf : Two f) {a b : Nat} (ha : Fin f a) (hb : Fin f b) (h0 : V f b ≠ 0) (hM : mg (V f a / V f b) ≤ big / 2) :
    ∃ r, f.div a b = some r ∧ Ap f r (V f a / V f b) (mg (V f a / V f b) * (3 * U f) + tiny) := by
  obtain ⟨s, m, i, h1⟩ := ha.num
  obtain ⟨t, n, j, h2⟩ := hb.num
  have hva : V f a = dval (.number s m i) := by unfold V; rw [h1]
  have hvb : V f b = dval (.number t n j) := by unfold V; rw [h2]
  have hn : n ≠ 0 := by
    rintro rfl
    apply h0; rw [hvb, dval_number]; simp
  by_cases hm : m = 0
  · subst hm
    have hz : V f a = 0 := by rw [hva, dval_number]; simp
    have hz' : V f a / V f b = 0 := by rw [hz, Rat.div_def, Rat.zero_mul]
    refine ⟨f.nearest (s ^^ t) 0 (i - j - (f.fractionBits + 2 + n.log2 - Nat.log2 0 : Nat) - 1), ?_, ?_⟩
    · unfold Format.div; rw [h1, h2]; unfold Datum.quotient
      simp [hn, Format.write]
    · obtain ⟨h5, h6⟩ := nearest_zero f (s ^^ t) (i - j - (f.fractionBits + 2 + n.log2 - Nat.log2 0 : Nat) - 1)
      refine ⟨h5, ?_⟩
      rw [h6, hz']
      have := tiny_nonneg
      rw [Rat.sub_self, show mg 0 = 0 by decide, Rat.zero_mul, Rat.zero_add]; exact this
  obtain ⟨s', m', e', h3, h4⟩ := quo_val hf s t m n i j hn hm
  rw [hva, hvb] at hM ⊢
  generalize dval (.number s m i) / dval (.number t n j) = X at *
  have hU : U f ≤ 1 / 4 := by rcases hf with rfl | rfl <;> unfold U <;> decide +kernel
  have hU0 := U_nonneg f
  have hX0 := mg_nonneg X
  have hXU : mg X * U f ≤ mg X * (1 / 4) := Rat.mul_le_mul_of_nonneg_left hU hX0
  have hsz : mg (dval (.number s' m' e')) ≤ mg X + mg X * U f := by
    have := mg_add (dval (.number s' m' e') - X) X
    rw [show dval (.number s' m' e') - X + X = dval (.number s' m' e') by grind] at this
    grind
  obtain ⟨h5, h6⟩ := write_near hf (s := s') (m := m') (e := e') (by grind)
  refine ⟨_, ?_, h5, ?_⟩
  · unfold Format.div; rw [h1, h2, h3]; rfl
  · have h7 := mg_add (V f (f.write (.number s' m' e')) - dval (.number s' m' e')) (dval (.number s' m' e') - X)
    rw [show V f (f.write (.number s' m' e')) - dval (.number s' m' e') + (dval (.number s' m' e') - X) = V f (f.write (.number s' m' e')) - X by grind] at h7
    have h8 : mg (dval (.number s' m' e')) * U f ≤ (mg X + mg X * U f) * U f := Rat.mul_le_mul_of_nonneg_right hsz hU0
    have h9 : mg X * U f * U f ≤ mg X * U f * (1 / 4) := Rat.mul_le_mul_of_nonneg_left hU (Rat.mul_nonneg hX0 hU0)
    have h10 : 0 ≤ mg X * U f := Rat.mul_nonneg hX0 hU0
    grind

/-! ## Conversions -/
theorem read_few {f : Format} {b : Nat} {s : Bool} {m : Nat} {e : Int} (h : f.read b = .number s m e) : m < 2 ^ (f.fractionBits + 1) ∧ f.leastPlace ≤ e := by
  unfold Format.read at h
  have hb : f.binade = 2 ^ f.fractionBits := rfl
  have h2 : 2 ^ (f.fractionBits + 1) = 2 ^ f.fractionBits + 2 ^ f.fractionBits := by rw [Nat.pow_succ]; omega
  have h0 := Nat.two_pow_pos f.fractionBits
  simp only at h
  split at h
  · rename_i h1
    cases h
    exact ⟨by omega, Int.le_refl _⟩
  · split at h
    · injection h with _ h4 h5
      have := Nat.mod_lt (b % f.signWeight) (show f.binade > 0 by omega)
      exact ⟨by omega, by omega⟩
    · split at h <;> cases h
theorem log2_few {m k : Nat} (h : m < 2 ^ (k + 1)) : m.log2 ≤ k := by
  by_cases hm : m = 0
  · subst hm; simp
  · have := (Nat.log2_lt hm).2 h; omega
/-- A float32 as a float64. -/
theorem wide_val {b : Nat} (h : Fin single b) (hb : mg (V single b) ≤ big) : ∃ r, floatToFloatBits .f32 b .f64 = some r ∧ Fin double r ∧ V double r = V single b := by
  obtain ⟨s, m, e, h1⟩ := h.num
  obtain ⟨h2, h3⟩ := read_few h1
  have hv : V single b = dval (.number s m e) := by unfold V; rw [h1]
  rw [hv] at hb ⊢
  have h4 : double.leastPlace ≤ single.leastPlace := by decide
  have h5 : single.fractionBits ≤ double.fractionBits := by decide
  obtain ⟨h6, h7⟩ := write_exact two_double (s := s) hb (Nat.le_trans (log2_few h2) h5) (by omega)
  refine ⟨double.write (.number s m e), ?_, h6, h7⟩
  unfold floatToFloatBits
  rw [if_neg (by decide)]
  have : FloatKind.f32.decode b = .number s m e := h1
  rw [this]
  have hn : ((FloatKind.f64.decode (FloatKind.f64.encode (.number s m e))).isInfinity) = false := by
    obtain ⟨s', m', e', h8⟩ := h6.num
    have : FloatKind.f64.decode (FloatKind.f64.encode (.number s m e)) = .number s' m' e' := h8
    rw [this]; rfl
  simp only [hn, Bool.false_eq_true, if_false]
  rfl
/-- A float64 as a float32. -/
theorem narrow_val {b : Nat} (h : Fin double b) (hb : mg (V double b) ≤ big) : ∃ r, floatToFloatBits .f64 b .f32 = some r ∧ Ap single r (V double b) (mg (V double b) * U single + tiny) := by
  obtain ⟨s, m, e, h1⟩ := h.num
  have hv : V double b = dval (.number s m e) := by unfold V; rw [h1]
  rw [hv] at hb ⊢
  obtain ⟨h6, h7⟩ := write_near two_single (s := s) hb
  refine ⟨single.write (.number s m e), ?_, h6, h7⟩
  unfold floatToFloatBits
  rw [if_neg (by decide)]
  have : FloatKind.f64.decode b = .number s m e := h1
  rw [this]
  have hn : ((FloatKind.f32.decode (FloatKind.f32.encode (.number s m e))).isInfinity) = false := by
    obtain ⟨s', m', e', h8⟩ := h6.num
    have : FloatKind.f32.decode (FloatKind.f32.encode (.number s m e)) = .number s' m' e' := h8
    rw [this]; rfl
  simp only [hn, Bool.false_eq_true, if_false]
  rfl
/-- A small whole number as a float. -/
theorem whole_val (k : FloatKind) (n : Int) (hn : n.natAbs < 16777216) : Fin k.format (k.nearest n) ∧ V k.format (k.nearest n) = (n : Rat) := by
  have hf : Two k.format := by cases k <;> simp [FloatKind.format, Two]
  have hd : dval (.number (decide (n < 0)) n.natAbs 0) = (n : Rat) := by
    rw [dval_number, show (2 : Rat) ^ (0 : Int) = 1 by rfl, Rat.mul_one]
    have hnn : ((n.natAbs : Nat) : Rat) = ((n.natAbs : Int) : Rat) := rfl
    rw [hnn]
    by_cases h : n < 0
    · simp only [h, decide_true, if_true]
      rw [show ((n.natAbs : Nat) : Int) = -n by omega, Rat.intCast_neg]
      grind
    · simp only [h, decide_false, Bool.false_eq_true, if_false]
      rw [show ((n.natAbs : Nat) : Int) = n by omega]
  have hbig : mg (dval (.number (decide (n < 0)) n.natAbs 0)) ≤ big := by
    show (if _ then _ else _) ≤ _
    rw [← mag_val]
    rw [show (2 : Rat) ^ (0 : Int) = 1 by rfl, Rat.mul_one]
    have : ((n.natAbs : Nat) : Rat) ≤ ((16777216 : Nat) : Rat) := by exact_mod_cast Nat.le_of_lt hn
    refine Rat.le_trans this ?_
    decide +kernel
  have := write_exact hf hbig (log2_few (k := k.format.fractionBits) (Nat.lt_of_lt_of_le hn (by cases k <;> decide))) (by cases k <;> decide)
  rw [hd] at this
  exact this
end Fl
end Go.Proofs.YtbcjhkncifckiaaDoor
