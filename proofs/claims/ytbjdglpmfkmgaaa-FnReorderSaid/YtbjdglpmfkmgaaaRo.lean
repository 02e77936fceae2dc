/- The order of the lines of short blocks. No program is named here. -/
import Derived.Test.YtbjdglpmfkmgaaaOp3
namespace Go.Proofs.Ytbjdglpmfkmgaaa
open Go Go.RowKit Go.Proofs En
set_option maxRecDepth 100000
/-- Where the bands of short blocks begin. -/
def sbn (r k : Nat) : Nat :=
  (if r = 0 then [0, 4, 8, 12, 16, 22, 30, 40, 52, 66, 84, 106, 136, 192] else if r = 1 then [0, 4, 8, 12, 16, 22, 28, 38, 50, 64, 80, 100, 126, 192] else [0, 4, 8, 12, 16, 22, 30, 42, 58, 78, 104, 138, 180, 192]).getD k 0
theorem sbn_0 (r : Nat) : sbn r 0 = 0 := by unfold sbn; split; rfl; split <;> rfl
theorem sbn_3 (r : Nat) : sbn r 3 = 12 := by unfold sbn; split; rfl; split <;> rfl
theorem sbn_13 (r : Nat) : sbn r 13 = 192 := by unfold sbn; split; rfl; split <;> rfl
theorem sbn_lt (r k : Nat) (hk : k < 13) : sbn r k < sbn r (k + 1) := by
  have h : ∀ k, k < 13 → sbn 0 k < sbn 0 (k + 1) ∧ sbn 1 k < sbn 1 (k + 1) ∧ sbn 2 k < sbn 2 (k + 1) := by decide
  have := h k hk
  by_cases h0 : r = 0
  · subst h0; exact this.1
  · by_cases h1 : r = 1
    · subst h1; exact this.2.1
    · have e : ∀ j, sbn r j = sbn 2 j := fun j => by unfold sbn; rw [if_neg h0, if_neg h1]; rfl
      rw [e, e]; exact this.2.2
theorem sbn_le (r : Nat) {i j : Nat} (h : i ≤ j) (hj : j ≤ 13) : sbn r i ≤ sbn r j := by
  induction j with
  | zero => rw [show i = 0 by omega]; exact Nat.le_refl _
  | succ j ih =>
    by_cases e : i = j + 1
    · rw [e]; exact Nat.le_refl _
    · have := ih (by omega) (by omega)
      have := sbn_lt r j (by omega)
      omega
/-- The cells of the table. -/
def sbi (r : Nat) : Nat → Int := fun k => (sbn r k : Int)
theorem sbi_get {r k : Nat} (hk : k < 14) : (va 14 (sd (sbi r)))[k]? = some (.int .i64 (sbn r k)) := va_get hk rfl
theorem sb_0 : (#[.int .i64 0, .int .i64 4, .int .i64 8, .int .i64 12, .int .i64 16, .int .i64 22, .int .i64 30, .int .i64 40, .int .i64 52, .int .i64 66, .int .i64 84, .int .i64 106, .int .i64 136, .int .i64 192] : Array Value) = va 14 (sd (sbi 0)) := by unfold va; rfl
theorem sb_1 : (#[.int .i64 0, .int .i64 4, .int .i64 8, .int .i64 12, .int .i64 16, .int .i64 22, .int .i64 28, .int .i64 38, .int .i64 50, .int .i64 64, .int .i64 80, .int .i64 100, .int .i64 126, .int .i64 192] : Array Value) = va 14 (sd (sbi 1)) := by unfold va; rfl
theorem sb_2 : (#[.int .i64 0, .int .i64 4, .int .i64 8, .int .i64 12, .int .i64 16, .int .i64 22, .int .i64 30, .int .i64 42, .int .i64 58, .int .i64 78, .int .i64 104, .int .i64 138, .int .i64 180, .int .i64 192] : Array Value) = va 14 (sd (sbi 2)) := by unfold va; rfl

/-- The bands from lo up to s are in their order. -/
def Done (r lo s : Nat) (x y : Nat → Nat) : Prop :=
  ∀ s' w' k', lo ≤ s' → s' < s → w' < 3 → k' < sbn r (s' + 1) - sbn r s' → y (3 * sbn r s' + 3 * k' + w') = x (3 * sbn r s' + w' * (sbn r (s' + 1) - sbn r s') + k')
/-- Of band s so much is in its order, from place base on. -/
def Part (r s w k base : Nat) (x y : Nat → Nat) : Prop :=
  ∀ w' k', w' < w ∧ k' < sbn r (s + 1) - sbn r s ∨ w' = w ∧ k' < k → y (base + 3 * k' + w') = x (3 * sbn r s + w' * (sbn r (s + 1) - sbn r s) + k')
theorem Part.zero (r s base : Nat) (x y : Nat → Nat) : Part r s 0 0 base x y := fun w' k' h => absurd h (by omega)
theorem Part.step {r s w k base : Nat} {x y : Nat → Nat} (h : Part r s w k base x y) (hw : w < 3) {q v : Nat} (hq : q = base + 3 * k + w) (hv : v = x (3 * sbn r s + w * (sbn r (s + 1) - sbn r s) + k)) : Part r s w (k + 1) base x (upd y q v) := by
  subst hq; subst hv
  intro w' k' hc
  by_cases e : w' = w ∧ k' = k
  · obtain ⟨rfl, rfl⟩ := e
    rw [upd_at]
  · rw [upd_ne _ _ (by omega)]
    exact h w' k' (by omega)
theorem Part.next {r s w base : Nat} {x y : Nat → Nat} (h : Part r s w (sbn r (s + 1) - sbn r s) base x y) : Part r s (w + 1) 0 base x y :=
  fun w' k' hc => h w' k' (by omega)
theorem Done.zero (r lo : Nat) (x y : Nat → Nat) : Done r lo lo x y := fun s' w' k' h1 h2 => absurd h2 (by omega)
theorem Done.upd {r lo s : Nat} {x y : Nat → Nat} (h : Done r lo s x y) (hs : s ≤ 13) {q v : Nat} (hq : 3 * sbn r s ≤ q) : Done r lo s x (Ytbjdglpmfkmgaaa.upd y q v) := by
  intro s' w' k' h1 h2 h3 h4
  have := sbn_le r (show s' + 1 ≤ s by omega) hs
  rw [upd_ne _ _ (by omega)]
  exact h s' w' k' h1 h2 h3 h4
theorem Done.step {r lo s : Nat} {x y : Nat → Nat} (h : Done r lo s x y) (hp : Part r s 3 0 (3 * sbn r s) x y) : Done r lo (s + 1) x y := by
  intro s' w' k' h1 h2 h3 h4
  by_cases e : s' = s
  · subst e; exact hp w' k' (.inl ⟨h3, h4⟩)
  · exact h s' w' k' h1 (by omega) h3 h4
theorem Done.copy {r lo s : Nat} {x y re : Nat → Nat} (h : Done r lo s x y) (hs : s < 13) (hp : Part r s 3 0 0 x re) {m : Nat} (hm : m = 3 * (sbn r (s + 1) - sbn r s)) : Done r lo (s + 1) x (fun q => if 3 * sbn r s ≤ q ∧ q < 3 * sbn r s + m then re (q - 3 * sbn r s) else y q) := by
  subst hm
  intro s' w' k' h1 h2 h3 h4
  dsimp only
  by_cases e : s' = s
  · subst e
    rw [if_pos (by omega), show 3 * sbn r s' + 3 * k' + w' - 3 * sbn r s' = 0 + 3 * k' + w' by omega]
    exact hp w' k' (.inl ⟨h3, h4⟩)
  · have := sbn_le r (show s' + 1 ≤ s by omega) (by omega)
    rw [if_neg (by omega)]
    exact h s' w' k' h1 (by omega) h3 h4
/-- Each line is a line, and which one is the same of all that are in their order. -/
theorem Done.at {r lo : Nat} (hlo : lo ≤ 13) (q : Nat) (hq : q < 576) : ∃ p, p < 576 ∧ ∀ x y : Nat → Nat, Done r lo 13 x y → (∀ q, q < 3 * sbn r lo → y q = x q) → y q = x p := by
  by_cases h : q < 3 * sbn r lo
  · exact ⟨q, hq, fun x y _ hh => hh q h⟩
  · have hs : ∀ s, lo ≤ s → s ≤ 13 → q < 3 * sbn r s → ∃ s', lo ≤ s' ∧ s' < 13 ∧ 3 * sbn r s' ≤ q ∧ q < 3 * sbn r (s' + 1) := by
      intro s
      induction s with
      | zero => intro h1 h2 h3; rw [show lo = 0 by omega] at h; omega
      | succ s ih =>
        intro h1 h2 h3
        by_cases h4 : q < 3 * sbn r s
        · by_cases h5 : lo ≤ s
          · exact ih h5 (by omega) h4
          · rw [show lo = s + 1 by omega] at h; omega
        · by_cases h5 : lo ≤ s
          · exact ⟨s, h5, by omega, by omega, h3⟩
          · rw [show lo = s + 1 by omega] at h; omega
    obtain ⟨s, h1, h2, h3, h4⟩ := hs 13 hlo (Nat.le_refl _) (by rw [sbn_13]; omega)
    have h5 := sbn_le r (show s + 1 ≤ 13 by omega) (Nat.le_refl _)
    rw [sbn_13] at h5
    generalize hn : sbn r (s + 1) - sbn r s = n at *
    have hmod : (q - 3 * sbn r s) % 3 < 3 := Nat.mod_lt _ (by decide)
    have hmul : (q - 3 * sbn r s) % 3 * n ≤ 2 * n := Nat.mul_le_mul_right _ (by omega)
    refine ⟨3 * sbn r s + (q - 3 * sbn r s) % 3 * n + (q - 3 * sbn r s) / 3, by omega, fun x y hd _ => ?_⟩
    have := hd s ((q - 3 * sbn r s) % 3) ((q - 3 * sbn r s) / 3) h1 h2 hmod (by omega)
    rw [hn] at this
    rw [← this]
    congr 1; omega

/-- What the order makes of a row. -/
def RO (r : Nat) (s : Nat → Int) (g c : Nat) (x y : Nat → Nat) : Prop :=
  (s (26 + 2 * g + c) = 1 ∧ s (30 + 2 * g + c) = 2 → ∃ lo, (s (34 + 2 * g + c) = 0 ∧ lo = 0 ∨ s (34 + 2 * g + c) ≠ 0 ∧ lo = 3) ∧ Done r lo 13 x y ∧ ∀ q, q < 3 * sbn r lo → y q = x q) ∧
  (¬ (s (26 + 2 * g + c) = 1 ∧ s (30 + 2 * g + c) = 2) → ∀ k, k < 576 → y k = x k)
theorem RO.at (r : Nat) (s : Nat → Int) (g c : Nat) (q : Nat) (hq : q < 576) : ∃ p, p < 576 ∧ ∀ x y : Nat → Nat, RO r s g c x y → y q = x p := by
  by_cases h : s (26 + 2 * g + c) = 1 ∧ s (30 + 2 * g + c) = 2
  · by_cases hm : s (34 + 2 * g + c) = 0
    · obtain ⟨p, hp, hh⟩ := Done.at (r := r) (lo := 0) (by decide) q hq
      refine ⟨p, hp, fun x y ho => ?_⟩
      obtain ⟨lo, h1, h2, h3⟩ := ho.1 h
      obtain rfl : lo = 0 := by rcases h1 with h1 | h1; exact h1.2; exact absurd hm h1.1
      exact hh x y h2 h3
    · obtain ⟨p, hp, hh⟩ := Done.at (r := r) (lo := 3) (by decide) q hq
      refine ⟨p, hp, fun x y ho => ?_⟩
      obtain ⟨lo, h1, h2, h3⟩ := ho.1 h
      obtain rfl : lo = 3 := by rcases h1 with h1 | h1; exact absurd h1.1 hm; exact h1.2
      exact hh x y h2 h3
  · exact ⟨q, hq, fun x y ho => ho.2 h q hq⟩
theorem prod_some (w a b : Nat) (hw : w ≤ 2) (h : a ≤ b) : ∃ wn : Nat, (w : Int) * ((b : Int) - (a : Int)) = wn ∧ wn = w * (b - a) ∧ wn ≤ 2 * (b - a) := by
  refine ⟨w * (b - a), ?_, rfl, Nat.mul_le_mul_right _ hw⟩
  rw [Int.natCast_mul]; congr 1; omega

section
variable {P : Program} {n : Nat} {E : Env} {w0 : World} {H : Hp} {dst : Option Tmp} {ty : TypeId} {pos : String} {after : Array Edge} {g : Option (Nat × Bool)}
/-- A row of floats is copied into lines. -/
theorem EF.copyZ (i j : Nat) {T T' e b b' o q a M m dl dc c : Nat} {x y : Operand} {z0 : Nat → Value} {l f : Nat → Nat} {t t' : TypeId} {fr : Nat × Nat} (h : sliceOf P T = some (e, 1))
    (hx : ev E x = some (.slice (some ⟨b, q, none⟩) dl dc)) (hi : H[i]? = some (b, .cells (va M (zl z0 o l)) t (0, 0)))
    (hy : ev E y = some (.slice (some ⟨b', 0, none⟩) m c)) (hj : H[j]? = some (b', .cells (va 576 (fl .f32 f)) t' fr)) (hml : m ≤ dl) (hq : q = o + a) (hfit : a + m ≤ 576) (hM : o + 576 ≤ M) :
    EF P n E w0 H ⟨dst, .call { callee := .builtin .copy, args := #[x, y], argTypes := #[T, T'] }, ty, pos, after, g⟩ (fun _ H' => H' = H.set i (b, .cells (va M (zl z0 o (fun k => if a ≤ k ∧ k < a + m then f (k - a) else l k))) t (0, 0))) := by
  refine (EF.copy i j h hx hi hy hj hml (by rw [va_size]; omega) (by rw [va_size]; omega) (by rw [va_extract (by omega)]; exact va_mem fun k _ => rfl)).mono fun u H' hu => ?_
  rw [hu.2, va_extract (by omega)]
  congr 3
  rw [show va (0 + m - 0) (fun k => fl .f32 f (0 + k)) = va m (fl .f32 f) from va_ext (by omega) fun k _ => by rw [Nat.zero_add]]
  exact zl_splice hq hfit hM
end
end Go.Proofs.Ytbjdglpmfkmgaaa
