/- What the tables of cosines and sines hold, evaluated by the kernel (the short block, the windows). No program is named here. -/
import Derived.Test.YtbcjhkncifckiaaDoorHa
import Derived.Test.YtbcjhkncifckiaaDoorHb
import Derived.Test.YtbcjhkncifckiaaDoorHc
namespace Go.Proofs.YtbcjhkncifckiaaDoor
open Ieee Go Go.RowKit Go.Proofs En Fl
set_option maxRecDepth 100000
theorem t12 : ∀ i, i < 6 → ∀ j, j < 12 → okP (cosP 4593884178791887718 4618441417868443648 i j) (cosS 4593884178791887718 ((2 * j + 7) * (2 * i + 1))) = true := by decide +kernel
/-- The package's windows. -/
def winP (b k : Nat) : Option Nat :=
  if b = 0 then sinA 4590952631998301319 k
  else if b = 1 then (if k < 18 then sinA 4590952631998301319 k else if k < 24 then some 1065353216 else if k < 30 then sinB 4598387778419258214 4625759767262920704 k else some 0)
  else if b = 2 then (if k < 12 then sinA 4598387778419258214 k else some 0)
  else (if k < 6 then some 0 else if k < 12 then sinB 4598387778419258214 4618441417868443648 k else if k < 18 then some 1065353216 else sinA 4590952631998301319 k)
/-- The reference's windows of long blocks. -/
def shp (b k : Nat) : Option Nat :=
  if b = 1 ∧ 30 ≤ k ∨ b = 3 ∧ k < 6 then some 0 else if b = 1 ∧ 24 ≤ k then sinS (k - 18) 12 else if b = 3 ∧ k < 12 then sinS (k - 6) 12
  else if b = 1 ∧ 18 ≤ k ∨ b = 3 ∧ k < 18 then some 4607182418800017408 else sinS k 36
theorem tw0 : ∀ k, k < 36 → okP (winP 0 k) (shp 0 k) = true := by decide +kernel
theorem tw1 : ∀ k, k < 36 → okP (winP 1 k) (shp 1 k) = true := by decide +kernel
theorem tw3 : ∀ k, k < 36 → okP (winP 3 k) (shp 3 k) = true := by decide +kernel
theorem tw2 : ∀ k, k < 12 → okP (winP 2 k) (sinS k 12) = true := by decide +kernel
theorem tw2' : ∀ k, k < 36 → (winP 2 k).isSome = true := by decide +kernel

/-! ## By name -/
def c36 (i j : Nat) : Nat := (cosP 4586449032370930823 4625759767262920704 i j).getD 0
def d36 (i j : Nat) : Nat := (cosS 4586449032370930823 ((2 * j + 19) * (2 * i + 1))).getD 0
def c12 (i j : Nat) : Nat := (cosP 4593884178791887718 4618441417868443648 i j).getD 0
def d12 (i j : Nat) : Nat := (cosS 4593884178791887718 ((2 * j + 7) * (2 * i + 1))).getD 0
def wnb (b k : Nat) : Nat := (winP b k).getD 0
def shb (b k : Nat) : Nat := (shp b k).getD 0
def s12 (k : Nat) : Nat := (sinS k 12).getD 0
/-- A number of the package and one of the reference. -/
structure Pair (c d : Nat) : Prop where
  fc : Fin single c
  fd : Fin double d
  le : mg (V single c) ≤ 1
  near : mg (V double d - V single c) ≤ 1 / 10000000
theorem pair_of {x y : Option Nat} (h : okP x y = true) : x = some (x.getD 0) ∧ y = some (y.getD 0) ∧ Pair (x.getD 0) (y.getD 0) := by
  obtain ⟨c, d, rfl, rfl, h1, h2, h3, h4⟩ := okP_spec h
  exact ⟨rfl, rfl, h1, h2, h3, h4⟩
theorem c36_ok {i j : Nat} (hi : i < 18) (hj : j < 36) : cosP 4586449032370930823 4625759767262920704 i j = some (c36 i j) ∧ cosS 4586449032370930823 ((2 * j + 19) * (2 * i + 1)) = some (d36 i j) ∧ Pair (c36 i j) (d36 i j) := by
  refine pair_of ?_
  rcases (show i < 6 ∨ (6 ≤ i ∧ i < 12) ∨ 12 ≤ i by omega) with h | h | h
  · exact t36_0 i h j hj
  · have := t36_6 (i - 6) (by omega) j hj
    rwa [show 6 + (i - 6) = i by omega] at this
  · have := t36_12 (i - 12) (by omega) j hj
    rwa [show 12 + (i - 12) = i by omega] at this
theorem c12_ok {i j : Nat} (hi : i < 6) (hj : j < 12) : cosP 4593884178791887718 4618441417868443648 i j = some (c12 i j) ∧ cosS 4593884178791887718 ((2 * j + 7) * (2 * i + 1)) = some (d12 i j) ∧ Pair (c12 i j) (d12 i j) := pair_of (t12 i hi j hj)
theorem wn_ok {b k : Nat} (hb : b = 0 ∨ b = 1 ∨ b = 3) (hk : k < 36) : winP b k = some (wnb b k) ∧ shp b k = some (shb b k) ∧ Pair (wnb b k) (shb b k) := by
  refine pair_of ?_
  rcases hb with rfl | rfl | rfl
  · exact tw0 k hk
  · exact tw1 k hk
  · exact tw3 k hk
theorem wn2_ok {k : Nat} (hk : k < 12) : winP 2 k = some (wnb 2 k) ∧ sinS k 12 = some (s12 k) ∧ Pair (wnb 2 k) (s12 k) := pair_of (tw2 k hk)
theorem wn_some {b k : Nat} (hb : b < 4) (hk : k < 36) : winP b k = some (wnb b k) := by
  rcases (show b = 2 ∨ (b = 0 ∨ b = 1 ∨ b = 3) by omega) with rfl | h
  · have := tw2' k hk
    obtain ⟨r, hr⟩ := Option.isSome_iff_exists.1 this
    unfold wnb; rw [hr]; rfl
  · exact (wn_ok h hk).1
attribute [irreducible] c36 d36 c12 d12 wnb shb s12
end Go.Proofs.YtbcjhkncifckiaaDoor
