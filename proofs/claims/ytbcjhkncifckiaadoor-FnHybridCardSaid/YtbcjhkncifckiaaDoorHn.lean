/- Tables as rows of cells; the segments of the windows. No program is named here. -/
import Derived.Test.YtbcjhkncifckiaaDoorHy
namespace Go.Proofs.YtbcjhkncifckiaaDoor
open Ieee Go Go.RowKit Go.Proofs En Fl
/-- A table, row by row. -/
def tab (n : Nat) (c : Nat → Nat → Nat) : Nat → Nat := fun q => c (q / n) (q % n)
theorem tab_at {n i j : Nat} {c : Nat → Nat → Nat} (hj : j < n) : tab n c (n * i + j) = c i j := by
  unfold tab
  have hn : 0 < n := by omega
  rw [Nat.mul_add_div hn, Nat.div_eq_of_lt hj, Nat.mul_add_mod, Nat.mod_eq_of_lt hj, Nat.add_zero]
theorem tab_step {n i j r : Nat} {c : Nat → Nat → Nat} {l : Nat → Nat} (hj : j < n) (hl : ∀ q, q < n * i + j → l q = tab n c q) (hr : r = c i j) (q : Nat) (hq : q < n * i + (j + 1)) : upd l (n * i + j) r q = tab n c q := by
  by_cases e : q = n * i + j
  · subst e; rw [upd_at, tab_at hj, hr]
  · rw [upd_ne _ _ e]; exact hl q (by omega)
theorem va_tab {n : Nat} {l m : Nat → Nat} {k : FloatKind} (h : ∀ q, q < n → l q = m q) : va n (fl k l) = va n (fl k m) := va_ext rfl fun q hq => by unfold fl; rw [h q hq]
/-- One row of a table. -/
theorem tab_row {n m i o e : Nat} {c : Nat → Nat → Nat} {k : FloatKind} (ho : o = n * i) (he : e = n * i + n) (hm : n * i + n ≤ m) : (va m (fl k (tab n c))).extract o e = va n (fl k (c i)) := by
  subst ho; subst he
  rw [va_extract hm]
  refine va_ext (by omega) fun j hj => ?_
  unfold fl
  rw [tab_at (by omega)]
theorem tab_get {n m i j q : Nat} {c : Nat → Nat → Nat} {k : FloatKind} (hq : q = n * i + j) (hj : j < n) (hm : n * i + n ≤ m) : (va m (fl k (tab n c)))[q]? = some (.float k (c i j)) := by
  subst hq
  exact va_get (by omega) (by unfold fl; rw [tab_at hj])
theorem wseg0 {k : Nat} (hk : k < 36) : sinA 4590952631998301319 k = some (wnb 0 k) := by
  have h := wn_some (b := 0) (by decide) hk
  unfold winP at h
  rwa [if_pos rfl] at h
theorem wseg1 {k : Nat} (hk : k < 36) : (k < 18 → sinA 4590952631998301319 k = some (wnb 1 k)) ∧ (18 ≤ k → k < 24 → 1065353216 = wnb 1 k) ∧ (24 ≤ k → k < 30 → sinB 4598387778419258214 4625759767262920704 k = some (wnb 1 k)) ∧ (30 ≤ k → 0 = wnb 1 k) := by
  have h := wn_some (b := 1) (by decide) hk
  unfold winP at h
  rw [if_neg (by decide), if_pos rfl] at h
  refine ⟨fun h1 => ?_, fun h1 h2 => ?_, fun h1 h2 => ?_, fun h1 => ?_⟩
  · rwa [if_pos h1] at h
  · rw [if_neg (by omega), if_pos h2] at h; exact Option.some.inj h
  · rwa [if_neg (by omega), if_neg (by omega), if_pos h2] at h
  · rw [if_neg (by omega), if_neg (by omega), if_neg (by omega)] at h; exact Option.some.inj h
theorem wseg2 {k : Nat} (hk : k < 36) : (k < 12 → sinA 4598387778419258214 k = some (wnb 2 k)) ∧ (12 ≤ k → 0 = wnb 2 k) := by
  have h := wn_some (b := 2) (by decide) hk
  unfold winP at h
  rw [if_neg (by decide), if_neg (by decide), if_pos rfl] at h
  refine ⟨fun h1 => ?_, fun h1 => ?_⟩
  · rwa [if_pos h1] at h
  · rw [if_neg (by omega)] at h; exact Option.some.inj h
theorem wseg3 {k : Nat} (hk : k < 36) : (k < 6 → 0 = wnb 3 k) ∧ (6 ≤ k → k < 12 → sinB 4598387778419258214 4618441417868443648 k = some (wnb 3 k)) ∧ (12 ≤ k → k < 18 → 1065353216 = wnb 3 k) ∧ (18 ≤ k → sinA 4590952631998301319 k = some (wnb 3 k)) := by
  have h := wn_some (b := 3) (by decide) hk
  unfold winP at h
  rw [if_neg (by decide), if_neg (by decide), if_neg (by decide)] at h
  refine ⟨fun h1 => ?_, fun h1 h2 => ?_, fun h1 h2 => ?_, fun h1 => ?_⟩
  · rw [if_pos h1] at h; exact Option.some.inj h
  · rwa [if_neg (by omega), if_pos h2] at h
  · rw [if_neg (by omega), if_neg (by omega), if_pos h2] at h; exact Option.some.inj h
  · rwa [if_neg (by omega), if_neg (by omega), if_neg (by omega)] at h
end Go.Proofs.YtbcjhkncifckiaaDoor
