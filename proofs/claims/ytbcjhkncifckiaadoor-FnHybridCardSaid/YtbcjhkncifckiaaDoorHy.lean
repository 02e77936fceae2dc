/- Lines into time: the plain law, over rational numbers. No program is named here. -/
import Derived.Test.YtbcjhkncifckiaaDoorHd
namespace Go.Proofs.YtbcjhkncifckiaaDoor
open Ieee Go Go.RowKit Go.Proofs En Fl

/-! ## Sums of products -/
def dot (X C : Nat → Rat) : Nat → Rat
  | 0 => 0
  | m + 1 => dot X C m + X m * C m
/-- How far a sum of so many products may lie off, by product; how far a product with a window. -/
def EE (G : Rat) : Rat := G / 500000 + 1 / 10 ^ 30
def FE (G : Rat) : Rat := G / 400000 + 1 / 10 ^ 29
def AE (G : Rat) : Rat := G / 50000 + 1 / 10 ^ 27
def WE (G : Rat) : Rat := G / 10000 + 1 / 10 ^ 25
theorem cast_le {n k : Nat} (h : n ≤ k) : (n : Rat) ≤ (k : Rat) := by exact_mod_cast h
theorem cast_mul_le {n k : Nat} (h : n ≤ k) {G : Rat} (hG : 0 ≤ G) : (n : Rat) * G ≤ (k : Rat) * G := Rat.mul_le_mul_of_nonneg_right (cast_le h) hG
theorem dot_le {X C : Nat → Rat} {G : Rat} (n : Nat) (hX : ∀ q, q < n → mg (X q) ≤ G) (hC : ∀ q, q < n → mg (C q) ≤ 1) : mg (dot X C n) ≤ n * G := by
  induction n with
  | zero => show mg 0 ≤ (0 : Rat) * G; rw [Rat.zero_mul]; decide
  | succ n ih =>
    have h1 := ih (fun q h => hX q (by omega)) (fun q h => hC q (by omega))
    have h2 := mul_le (hX n (by omega)) (hC n (by omega))
    have h3 := mg_add (dot X C n) (X n * C n)
    show mg (dot X C n + X n * C n) ≤ _
    have e : ((n + 1 : Nat) : Rat) * G = n * G + G := by rw [Rat.natCast_add, Rat.add_mul]; simp
    rw [e]
    grind
theorem U_le {f : Format} (hf : Two f) : 0 ≤ U f ∧ U f ≤ 1 / 16777216 := by
  refine ⟨U_nonneg f, ?_⟩
  rcases hf with rfl | rfl <;> decide +kernel
theorem EE_nonneg {G : Rat} (h : 0 ≤ G) : 0 ≤ EE G := by unfold EE; grind
/-- x·c with a number c near C. -/
theorem near_mul {x C c X G e : Rat} (hx : x = X) (hX : mg X ≤ G) (hc : mg (c - C) ≤ e) : mg (x * c - X * C) ≤ G * e := by
  subst hx
  have := mul_le hX hc
  rwa [show x * (c - C) = x * c - x * C by grind] at this
theorem near_le {C c e : Rat} (hC : mg C ≤ 1) (hc : mg (c - C) ≤ e) : mg c ≤ 1 + e := by
  have := mg_add (c - C) C
  rw [show c - C + C = c by grind] at this
  grind
theorem dot_step {f : Format} (hf : Two f) {s x c m : Nat} {X C : Nat → Rat} {G : Rat} (hm : m < 18) (hG0 : 0 ≤ G) (hG : G ≤ 10) (hX : ∀ q, q < m + 1 → mg (X q) ≤ G) (hC : ∀ q, q < m + 1 → mg (C q) ≤ 1)
    (hs : Ap f s (dot X C m) (m * EE G)) (hx : Fin f x) (hxv : V f x = X m) (hc : Fin f c) (hcv : mg (V f c - C m) ≤ 1 / 10000000) :
    ∃ p r, f.mul x c = some p ∧ f.add s p = some r ∧ Ap f r (dot X C (m + 1)) ((m + 1 : Nat) * EE G) := by
  obtain ⟨u0, u1⟩ := U_le hf
  have hbig : (100000 : Rat) ≤ big := by decide +kernel
  have ht : tiny ≤ 1 / 10 ^ 40 := by decide +kernel
  have ht0 := tiny_nonneg
  have hxG : mg (V f x) ≤ G := by rw [hxv]; exact hX m (by omega)
  have hc1 := near_le (hC m (by omega)) hcv
  obtain ⟨p, e1, p1⟩ := mul_ap hf hx hc hxG hc1 (by grind)
  have hd := dot_le (n := m) (fun q h => hX q (by omega)) (fun q h => hC q (by omega))
  have hmG := cast_mul_le (show m ≤ 17 by omega) hG0
  have hmE := cast_mul_le (show m ≤ 17 by omega) (EE_nonneg hG0)
  have hmE' : (m : Rat) * EE G ≤ 17 * EE G := hmE
  have hmG' : (m : Rat) * G ≤ 17 * G := hmG
  have hgu : G * (1 + 1 / 10000000) * U f ≤ G * (1 + 1 / 10000000) * (1 / 16777216) := Rat.mul_le_mul_of_nonneg_left u1 (by grind)
  have sp := p1.le (B := 2 * G + 1 / 10 ^ 39) (by have := mul_le hxG hc1; grind)
  have hEE : EE G = G / 500000 + 1 / 10 ^ 30 := rfl
  have ss := hs.le (B := 18 * G + 1 / 10 ^ 28) (by grind)
  obtain ⟨r, e2, r1⟩ := add_ap hf hs.fin p1.fin (S := 20 * G + 1 / 10 ^ 27) (by grind) (by grind)
  refine ⟨p, r, e1, e2, r1.fin, ?_⟩
  have hsu : (20 * G + 1 / 10 ^ 27) * U f ≤ (20 * G + 1 / 10 ^ 27) * (1 / 16777216) := Rat.mul_le_mul_of_nonneg_left u1 (by grind)
  have n1 := r1.near; have n2 := p1.near; have n3 := hs.near
  have n4 := near_mul hxv (hX m (by omega)) hcv
  have e : ((m + 1 : Nat) : Rat) * EE G = m * EE G + EE G := by rw [Rat.natCast_add, Rat.add_mul]; simp
  rw [e]
  show mg (V f r - (dot X C m + X m * C m)) ≤ _
  generalize (m : Rat) * EE G = me at *
  generalize X m * C m = xc at *
  generalize V f x * V f c = xc' at *
  rw [mg_le] at *
  constructor <;> grind
/-- The sum by the window. -/
theorem win_step {f : Format} (hf : Two f) {s w n : Nat} {X C : Nat → Rat} {G W : Rat} (hn1 : 1 ≤ n) (hn : n ≤ 18) (hG0 : 0 ≤ G) (hG : G ≤ 10) (hX : ∀ q, q < n → mg (X q) ≤ G) (hC : ∀ q, q < n → mg (C q) ≤ 1)
    (hs : Ap f s (dot X C n) (n * EE G)) (hw : Fin f w) (hwv : mg (V f w - W) ≤ 1 / 10000000) (hW : mg W ≤ 1) : ∃ r, f.mul s w = some r ∧ Ap f r (dot X C n * W) (n * FE G) ∧ mg (dot X C n * W) ≤ n * G := by
  obtain ⟨u0, u1⟩ := U_le hf
  have hbig : (100000 : Rat) ≤ big := by decide +kernel
  have ht : tiny ≤ 1 / 10 ^ 40 := by decide +kernel
  have ht0 := tiny_nonneg
  have hd := dot_le (n := n) hX hC
  have hEE : EE G = G / 500000 + 1 / 10 ^ 30 := rfl
  have hFE : FE G = G / 400000 + 1 / 10 ^ 29 := rfl
  have h1 : (1 : Rat) ≤ n := by exact_mod_cast hn1
  have h18 : (n : Rat) ≤ 18 := by exact_mod_cast hn
  have h0 : (0 : Rat) ≤ n := by grind
  have hw1 := near_le hW hwv
  have ss : mg (V f s) ≤ n * (G + EE G) := hs.le (by grind)
  have hng : (n : Rat) * (G + EE G) ≤ 18 * (G + EE G) := Rat.mul_le_mul_of_nonneg_right h18 (by grind)
  obtain ⟨r, e1, r1⟩ := mul_ap hf hs.fin hw ss hw1 (by grind)
  have hdw := mul_le hd hW
  refine ⟨r, e1, ⟨r1.fin, ?_⟩, by grind⟩
  have n1 := r1.near
  have n2 := mul_le hs.near hw1
  have n3 := mul_le hd hwv
  rw [show (V f s - dot X C n) * V f w = V f s * V f w - dot X C n * V f w by grind] at n2
  rw [show dot X C n * (V f w - W) = dot X C n * V f w - dot X C n * W by grind] at n3
  have hru : (n : Rat) * (G + EE G) * (1 + 1 / 10000000) * U f ≤ n * (G + EE G) * (1 + 1 / 10000000) * (1 / 16777216) := Rat.mul_le_mul_of_nonneg_left u1 (by
    have h2 := Rat.mul_nonneg h0 (show 0 ≤ G + EE G by grind)
    exact Rat.mul_nonneg h2 (by decide +kernel))
  -- all in n times something
  have hsum : (n : Rat) * (G + EE G) * (1 + 1 / 10000000) * (1 / 16777216) + tiny + n * EE G * (1 + 1 / 10000000) + n * G * (1 / 10000000) ≤ n * FE G := by
    have ht1 : tiny ≤ n * tiny := by
      have := Rat.mul_le_mul_of_nonneg_right h1 ht0
      rwa [Rat.one_mul] at this
    have key : (G + EE G) * (1 + 1 / 10000000) * (1 / 16777216) + tiny + EE G * (1 + 1 / 10000000) + G * (1 / 10000000) ≤ FE G := by grind
    have := Rat.mul_le_mul_of_nonneg_left key h0
    grind
  generalize V f s * V f w = x1 at *
  generalize dot X C n * V f w = x2 at *
  generalize dot X C n * W = x3 at *
  rw [mg_le] at *
  constructor <;> grind

/-! ## The tables as numbers -/
def C36 (p : Nat) : Nat → Rat := fun m => V single (c36 m p)
def C12 (p : Nat) : Nat → Rat := fun m => V single (c12 m p)
def Wn (b p : Nat) : Rat := V single (wnb b p)

/-! ## Three windows of short blocks -/
/-- What window i of a short block gives at its place p. -/
def shW (X : Nat → Rat) (i p : Nat) : Rat := dot (fun m => X (i + 3 * m)) (C12 p) 6 * Wn 2 p
/-- What it gives at place q of all. -/
def con (X : Nat → Rat) (i q : Nat) : Rat := if 6 * i + 6 ≤ q ∧ q < 6 * i + 18 then shW X i (q - 6 - 6 * i) else 0
def tot (X : Nat → Rat) : Nat → Nat → Rat
  | 0, _ => 0
  | i + 1, q => tot X i q + con X i q
/-- The state before place p of window i. -/
def SI (f : Format) (e : Rat) (X : Nat → Rat) (i p : Nat) (o : Nat → Nat) : Prop :=
  ∀ q, q < 36 → (6 * i + 6 ≤ q ∧ q < 6 * i + 6 + p → Ap f (o q) (tot X (i + 1) q) ((i + 1 : Nat) * e)) ∧ (¬ (6 * i + 6 ≤ q ∧ q < 6 * i + 6 + p) → Ap f (o q) (tot X i q) ((i : Nat) * e))
theorem shW_le {X : Nat → Rat} {G : Rat} (hG0 : 0 ≤ G) (hX : ∀ q, q < 18 → mg (X q) ≤ G) {i p : Nat} (hi : i < 3) (hp : p < 12) : mg (shW X i p) ≤ 6 * G := by
  have h1 := dot_le (X := fun m => X (i + 3 * m)) (C := C12 p) (G := G) 6 (fun q h => hX _ (by omega)) (fun q h => (c12_ok h hp).2.2.le)
  have h2 := mul_le h1 (wn2_ok hp).2.2.le
  show mg (_ * V single (wnb 2 p)) ≤ _
  rw [Rat.mul_one] at h2
  exact h2
theorem con_le {X : Nat → Rat} {G : Rat} (hG0 : 0 ≤ G) (hX : ∀ q, q < 18 → mg (X q) ≤ G) {i q : Nat} (hi : i < 3) : mg (con X i q) ≤ 6 * G := by
  unfold con
  split
  · exact shW_le hG0 hX hi (by omega)
  · rw [show mg (0 : Rat) = 0 by decide]; grind
theorem tot_le {X : Nat → Rat} {G : Rat} (hG0 : 0 ≤ G) (hX : ∀ q, q < 18 → mg (X q) ≤ G) (i q : Nat) (hi : i ≤ 3) : mg (tot X i q) ≤ i * (6 * G) := by
  induction i with
  | zero => show mg 0 ≤ (0 : Rat) * _; rw [Rat.zero_mul]; decide
  | succ i ih =>
    have h1 := ih (by omega)
    have h2 := con_le hG0 hX (q := q) (show i < 3 by omega)
    have h3 := mg_add (tot X i q) (con X i q)
    show mg (tot X i q + con X i q) ≤ _
    have e : ((i + 1 : Nat) : Rat) * (6 * G) = i * (6 * G) + 6 * G := by rw [Rat.natCast_add, Rat.add_mul]; simp
    rw [e]
    grind
theorem SI.zero {f : Format} {e : Rat} {X : Nat → Rat} (h : Fin f 0 ∧ V f 0 = 0) : SI f e X 0 0 (fun _ => 0) := fun q _ => ⟨fun h => absurd h (by omega), fun _ => by
  refine ⟨h.1, ?_⟩
  show mg (V f 0 - 0) ≤ (0 : Rat) * e
  rw [h.2, Rat.zero_mul]
  decide +kernel⟩
theorem SI.next {f : Format} {G : Rat} {X : Nat → Rat} {i : Nat} {o : Nat → Nat} (hG0 : 0 ≤ G) (h : SI f (AE G) X i 12 o) : SI f (AE G) X (i + 1) 0 o := fun q hq => by
  refine ⟨fun h => absurd h (by omega), fun _ => ?_⟩
  by_cases hc : 6 * i + 6 ≤ q ∧ q < 6 * i + 18
  · exact (h q hq).1 ⟨hc.1, by omega⟩
  · have := (h q hq).2 (by omega)
    have e : tot X (i + 1) q = tot X i q := by
      show tot X i q + con X i q = _
      unfold con; rw [if_neg hc, Rat.add_zero]
    rw [e]
    exact this.mono (cast_mul_le (by omega) (by unfold AE; grind))
/-- Before place p of window i, that place has what the windows ahead gave. -/
theorem SI.here {f : Format} {e : Rat} {X : Nat → Rat} {i p : Nat} {o : Nat → Nat} (h : SI f e X i p o) (hi : i < 3) (hp : p < 12) : Ap f (o (6 * i + p + 6)) (tot X i (6 * i + p + 6)) (i * e) := (h _ (by omega)).2 (by omega)
theorem SI.step {f : Format} {e : Rat} {X : Nat → Rat} {i p r : Nat} {o : Nat → Nat} (h : SI f e X i p o) (hr : Ap f r (tot X i (6 * i + p + 6) + shW X i p) ((i + 1 : Nat) * e)) (hi : i < 3) (hp : p < 12) : SI f e X i (p + 1) (upd o (6 * i + p + 6) r) := by
  intro q hq
  by_cases e1 : q = 6 * i + p + 6
  · subst e1
    refine ⟨fun _ => ?_, fun hn => absurd ⟨by omega, by omega⟩ hn⟩
    rw [upd_at]
    have ec : tot X (i + 1) (6 * i + p + 6) = tot X i (6 * i + p + 6) + shW X i p := by
      show tot X i _ + con X i _ = _
      unfold con; rw [if_pos (by omega), show 6 * i + p + 6 - 6 - 6 * i = p by omega]
    rw [ec]; exact hr
  · rw [upd_ne _ _ e1]
    exact ⟨fun hc => (h q hq).1 (by omega), fun hc => (h q hq).2 (by omega)⟩
/-- One place of one window is added. -/
theorem short_step {f : Format} (hf : Two f) {s w i p : Nat} {X : Nat → Rat} {G : Rat} {o : Nat → Nat} (hG0 : 0 ≤ G) (hG : G ≤ 10) (hX : ∀ q, q < 18 → mg (X q) ≤ G) (hi : i < 3) (hp : p < 12) (hS : SI f (AE G) X i p o)
    (hs : Ap f s (dot (fun m => X (i + 3 * m)) (C12 p) 6) ((6 : Nat) * EE G)) (hw : Fin f w) (hwv : mg (V f w - Wn 2 p) ≤ 1 / 10000000) :
    ∃ t r, f.mul s w = some t ∧ f.add (o (6 * i + p + 6)) t = some r ∧ SI f (AE G) X i (p + 1) (upd o (6 * i + p + 6) r) := by
  obtain ⟨u0, u1⟩ := U_le hf
  have hbig : (100000 : Rat) ≤ big := by decide +kernel
  have ht : tiny ≤ 1 / 10 ^ 40 := by decide +kernel
  have ht0 := tiny_nonneg
  have hFE : FE G = G / 400000 + 1 / 10 ^ 29 := rfl
  have hAE : AE G = G / 50000 + 1 / 10 ^ 27 := rfl
  obtain ⟨t, e1, t1, t2⟩ := win_step hf (n := 6) (by decide) (by decide) hG0 hG (fun q h => hX _ (by omega)) (fun q h => (c12_ok h hp).2.2.le) hs hw hwv (wn2_ok hp).2.2.le
  have hh := hS.here hi hp
  have htl := tot_le hG0 hX i (6 * i + p + 6) (by omega)
  have h2 := cast_mul_le (show i ≤ 2 by omega) (show 0 ≤ 6 * G by grind)
  have h2' : (i : Rat) * (6 * G) ≤ 2 * (6 * G) := h2
  have h3 := cast_mul_le (show i ≤ 2 by omega) (show 0 ≤ AE G by grind)
  have h3' : (i : Rat) * AE G ≤ 2 * AE G := h3
  have t1' : Ap f t (shW X i p) (6 * FE G) := t1
  have t2' : mg (shW X i p) ≤ 6 * G := t2
  have s1 := hh.le (B := 13 * G + 1 / 10 ^ 26) (by grind)
  have s2 := t1'.le (B := 7 * G + 1 / 10 ^ 27) (by grind)
  obtain ⟨r, e2, r1⟩ := add_ap hf hh.fin t1'.fin (S := 20 * G + 1 / 10 ^ 25) (by grind) (by grind)
  refine ⟨t, r, e1, e2, hS.step ⟨r1.fin, ?_⟩ hi hp⟩
  have hsu : (20 * G + 1 / 10 ^ 25) * U f ≤ (20 * G + 1 / 10 ^ 25) * (1 / 16777216) := Rat.mul_le_mul_of_nonneg_left u1 (by grind)
  have n1 := r1.near; have n2 := hh.near; have n3 := t1'.near
  have e : ((i + 1 : Nat) : Rat) * AE G = i * AE G + AE G := by rw [Rat.natCast_add, Rat.add_mul]; simp
  rw [e]
  generalize (i : Rat) * AE G = ie at *
  generalize tot X i (6 * i + p + 6) = x1 at *
  generalize shW X i p = x2 at *
  rw [mg_le] at *
  constructor <;> grind

/-! ## Thirty-six numbers of a band -/
/-- What a band's lines are in time: its kind of block, its lines. -/
def Yw (b : Nat) (X : Nat → Rat) (p : Nat) : Rat := if b = 2 then tot X 3 p else dot X (C36 p) 18 * Wn b p
theorem Yw_le {b p : Nat} {X : Nat → Rat} {G : Rat} (hb : b < 4) (hp : p < 36) (hG0 : 0 ≤ G) (hX : ∀ q, q < 18 → mg (X q) ≤ G) : mg (Yw b X p) ≤ 18 * G := by
  unfold Yw
  by_cases hn : b = 2
  · rw [if_pos hn]
    have := tot_le hG0 hX 3 p (by omega)
    have e : ((3 : Nat) : Rat) * (6 * G) = 18 * G := by grind
    rw [← e]; exact this
  · rw [if_neg hn]
    have h1 := dot_le (C := C36 p) (G := G) 18 hX (fun q h => (c36_ok h hp).2.2.le)
    have h2 := mul_le h1 (wn_ok (b := b) (by omega) hp).2.2.le
    rw [Rat.mul_one] at h2
    exact h2
/-- The long block's numbers. -/
theorem long_out {f : Format} (hf : Two f) {s w b p : Nat} {X : Nat → Rat} {G : Rat} (hb : b ≠ 2) (hp : p < 36) (hG0 : 0 ≤ G) (hG : G ≤ 10) (hX : ∀ q, q < 18 → mg (X q) ≤ G) (hs : Ap f s (dot X (C36 p) 18) ((18 : Nat) * EE G))
    (hw : Fin f w) (hwv : mg (V f w - Wn b p) ≤ 1 / 10000000) (hW : mg (Wn b p) ≤ 1) : ∃ r, f.mul s w = some r ∧ Ap f r (Yw b X p) (WE G) := by
  obtain ⟨r, e1, r1, _⟩ := win_step hf (n := 18) (by decide) (by decide) hG0 hG hX (fun q h => (c36_ok h hp).2.2.le) hs hw hwv hW
  refine ⟨r, e1, ?_⟩
  unfold Yw
  rw [if_neg hb]
  exact r1.mono (by
    have hFE : FE G = G / 400000 + 1 / 10 ^ 29 := rfl
    have hWE : WE G = G / 10000 + 1 / 10 ^ 25 := rfl
    have e : ((18 : Nat) : Rat) = 18 := rfl
    rw [e]
    grind)
/-- The short block's numbers. -/
theorem short_out {f : Format} {X : Nat → Rat} {G : Rat} {o : Nat → Nat} (hG0 : 0 ≤ G) (h : SI f (AE G) X 3 0 o) (p : Nat) (hp : p < 36) : Ap f (o p) (Yw 2 X p) (WE G) := by
  unfold Yw
  rw [if_pos rfl]
  refine ((h p hp).2 (by omega)).mono ?_
  have hAE : AE G = G / 50000 + 1 / 10 ^ 27 := rfl
  have hWE : WE G = G / 10000 + 1 / 10 ^ 25 := rfl
  have e : ((3 : Nat) : Rat) = 3 := rfl
  rw [e]
  grind

/-! ## All bands -/
/-- The kind of block of a band. -/
def btOf (s : Nat → Int) (g c t : Nat) : Nat := if s (26 + 2 * g + c) = 1 ∧ s (34 + 2 * g + c) = 1 ∧ t < 2 then 0 else (s (30 + 2 * g + c)).toNat
/-- The numbers in time without what was stored; what is to be stored. -/
def Yq (s : Nat → Int) (g c : Nat) (X : Nat → Rat) (q : Nat) : Rat := Yw (btOf s g c (q / 18)) (fun m => X (18 * (q / 18) + m)) (q % 18)
def Nq (s : Nat → Int) (g c : Nat) (X : Nat → Rat) (q : Nat) : Rat := Yw (btOf s g c (q / 18)) (fun m => X (18 * (q / 18) + m)) (18 + q % 18)
def HE (G K : Rat) : Rat := G / 5000 + K / 1000000 + 1 / 10 ^ 24
/-- Up to number n both rows are made. -/
def HY (f : Format) (e : Rat) (Y N : Nat → Rat) (x st : Nat → Nat) (n : Nat) (y k : Nat → Nat) : Prop :=
  ∀ q, q < 576 → (q < n → Ap f (y q) (Y q) e ∧ Ap f (k q) (N q) e) ∧ (n ≤ q → y q = x q ∧ k q = st q)
theorem HY.zero {f : Format} {e : Rat} {Y N : Nat → Rat} {x st : Nat → Nat} : HY f e Y N x st 0 x st := fun _ _ => ⟨fun h => absurd h (by omega), fun _ => ⟨rfl, rfl⟩⟩
theorem HY.step {f : Format} {e : Rat} {Y N : Nat → Rat} {x st y k : Nat → Nat} {n a b : Nat} (h : HY f e Y N x st n y k) (h1 : Ap f a (Y n) e) (h2 : Ap f b (N n) e) : HY f e Y N x st (n + 1) (upd y n a) (upd k n b) := by
  intro q hq
  by_cases e1 : q = n
  · subst e1
    rw [upd_at, upd_at]
    exact ⟨fun _ => ⟨h1, h2⟩, fun h => absurd h (by omega)⟩
  · rw [upd_ne _ _ e1, upd_ne _ _ e1]
    exact ⟨fun h' => (h q hq).1 (by omega), fun h' => (h q hq).2 (by omega)⟩
/-- One number laid over what was stored. -/
theorem lay_step {f : Format} (hf : Two f) {a st : Nat} {Y S G K : Rat} (hG0 : 0 ≤ G) (hG : G ≤ 10) (hK0 : 0 ≤ K) (hK : K ≤ 10) (hY : mg Y ≤ 18 * G) (ha : Ap f a Y (WE G)) (hs : Fin f st) (hsv : V f st = S) (hS : mg S ≤ K) :
    ∃ r, f.add a st = some r ∧ Ap f r (Y + S) (HE G K) := by
  obtain ⟨u0, u1⟩ := U_le hf
  have hbig : (100000 : Rat) ≤ big := by decide +kernel
  have ht : tiny ≤ 1 / 10 ^ 40 := by decide +kernel
  have ht0 := tiny_nonneg
  have hWE : WE G = G / 10000 + 1 / 10 ^ 25 := rfl
  have s1 := ha.le (B := 19 * G + 1 / 10 ^ 24) (by grind)
  obtain ⟨r, e1, r1⟩ := add_ap hf ha.fin hs (S := 19 * G + K + 1 / 10 ^ 24) (by rw [hsv]; grind) (by grind)
  refine ⟨r, e1, r1.fin, ?_⟩
  have hsu : (19 * G + K + 1 / 10 ^ 24) * U f ≤ (19 * G + K + 1 / 10 ^ 24) * (1 / 16777216) := Rat.mul_le_mul_of_nonneg_left u1 (by grind)
  have n1 := r1.near; have n2 := ha.near
  rw [hsv] at n1
  unfold HE
  rw [mg_le] at *
  constructor <;> grind
theorem keep_step {f : Format} {a : Nat} {N G K : Rat} (hG0 : 0 ≤ G) (hK0 : 0 ≤ K) (ha : Ap f a N (WE G)) : Ap f a N (HE G K) := ha.mono (by unfold WE HE; grind)
/-- What the package and the reference make lies near. -/
theorem hybrid_near {p q : Nat} {Z G K T : Rat} (hG0 : 0 ≤ G) (hG : G ≤ 10) (hK0 : 0 ≤ K) (hK : K ≤ 10) (hZ : mg Z ≤ 18 * G + K) (h1 : Ap single p Z (HE G K)) (h2 : Ap double q Z (HE G K)) (hT : 18 * G + K ≤ T + 1 / 10 ^ 10) :
    Fin single p ∧ Fin double q ∧ mg (V single p) ≤ 100000 ∧ mg (V single p - V double q) ≤ T / 20000 + 1 / 10 ^ 10 := by
  have hHE : HE G K = G / 5000 + K / 1000000 + 1 / 10 ^ 24 := rfl
  refine ⟨h1.fin, h2.fin, h1.le (by grind), ?_⟩
  have n1 := h1.near; have n2 := h2.near
  rw [show T / 20000 = T * (1 / 20000) by grind]
  rw [mg_le] at *
  constructor <;> grind
end Go.Proofs.YtbcjhkncifckiaaDoor
