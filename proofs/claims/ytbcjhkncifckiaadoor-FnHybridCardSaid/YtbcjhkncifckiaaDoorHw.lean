/- What the walks of bands take beyond: rows that grow by a band, two rows handed on, places of a band. No program is named here. -/
import Derived.Test.YtbcjhkncifckiaaDoorHn
namespace Go.Proofs.YtbcjhkncifckiaaDoor
open Ieee Go Go.RowKit Go.Proofs En Fl
theorem self_near (x : Rat) : mg (x - x) ≤ 1 / 10000000 := by rw [Rat.sub_self]; decide +kernel
theorem zero_fin {f : Format} (hf : Two f) : Fin f 0 ∧ V f 0 = 0 := by
  unfold Fl.Fin
  rcases hf with rfl | rfl <;> decide +kernel
theorem ap_zero {f : Format} (hf : Two f) {X C : Nat → Rat} {e : Rat} : Ap f 0 (dot X C 0) ((0 : Nat) * e) := by
  obtain ⟨h1, h2⟩ := zero_fin hf
  refine ⟨h1, ?_⟩
  show mg (V f 0 - 0) ≤ (0 : Rat) * e
  rw [h2, Rat.zero_mul]
  decide +kernel
theorem Yq_at {s : Nat → Int} {g c t v : Nat} {X : Nat → Rat} (hv : v < 18) : Yq s g c X (18 * t + v) = Yw (btOf s g c t) (fun m => X (18 * t + m)) v := by
  unfold Yq; rw [show (18 * t + v) / 18 = t by omega, show (18 * t + v) % 18 = v by omega]
theorem Nq_at {s : Nat → Int} {g c t v : Nat} {X : Nat → Rat} (hv : v < 18) : Nq s g c X (18 * t + v) = Yw (btOf s g c t) (fun m => X (18 * t + m)) (18 + v) := by
  unfold Nq; rw [show (18 * t + v) / 18 = t by omega, show (18 * t + v) % 18 = v by omega]
theorem btOf_lt {s : Nat → Int} {g c t : Nat} (h : 0 ≤ s (30 + 2 * g + c) ∧ s (30 + 2 * g + c) ≤ 3) : btOf s g c t < 4 := by
  unfold btOf; split <;> omega
theorem Yq_le {s : Nat → Int} {g c q : Nat} {X : Nat → Rat} {G : Rat} (h : 0 ≤ s (30 + 2 * g + c) ∧ s (30 + 2 * g + c) ≤ 3) (hG0 : 0 ≤ G) (hX : ∀ q, q < 576 → mg (X q) ≤ G) (hq : q < 576) : mg (Yq s g c X q) ≤ 18 * G ∧ mg (Nq s g c X q) ≤ 18 * G :=
  ⟨Yw_le (btOf_lt h) (by omega) hG0 fun m hm => hX _ (by omega), Yw_le (btOf_lt h) (by omega) hG0 fun m hm => hX _ (by omega)⟩

/-! ## Rows that grow -/
/-- What is kept of m numbers: nothing yet, or a slice. -/
def Kept (e : TypeId) (l : Nat → Nat) (m : Nat) (v : Value) (Hk : Hp) : Prop :=
  (m = 0 ∧ v = .slice none 0 0 ∧ Hk = []) ∨ ∃ (b cap : Nat) (z : Nat → Value), m ≤ cap ∧ cap ≤ maxLen ∧ v = .slice (some ⟨b, 0, none⟩) m cap ∧ Hk = [(b, .cells (va cap (fun q => if q < m then fl .f32 l q else z q)) e (0, 0))]
section
variable {P : Program} {n : Nat} {E : Env} {w0 : World} {H B : Hp} {dst : Option Tmp} {ty : TypeId} {pos : String} {after : Array Edge} {g : Option (Nat × Bool)}
theorem EF.appendKept (j : Nat) {T e bytes b' o d c N m : Nat} {x y : Operand} {l : Nat → Nat} {t : TypeId} {fr : Nat × Nat} {z v : Value} {Hk : Hp} (h : sliceOf P T = some (e, 1)) (hb : (P.info? e).map (·.bytes) = some bytes) (hz : zeroOf P e = some z) (hz1 : z.oneCell' = true) (h4 : bytes = 4)
    (hx : ev E x = some v) (hk : Kept e l m v Hk) (hm : m ≤ 600) (hd : 0 < d ∧ d ≤ 600) (hy : ev E y = some (.slice (some ⟨b', o, none⟩) d c)) (hj : B[j]? = some (b', .cells (va N (fl .f32 l)) t fr)) (ho : o = m) (hN : m + d ≤ N) :
    EF P n E w0 (Hk ++ B) ⟨dst, .call { callee := .builtin .append, args := #[x, y], argTypes := #[T, T] }, ty, pos, after, g⟩ (fun u H' => ∃ Hk', Kept e l (m + d) u Hk' ∧ H' = Hk' ++ B) := by
  subst h4; subst ho
  have hex : ((va N (fl .f32 l)).extract o (o + d)).toList = (List.range d).map fun k => fl .f32 l (o + k) := by
    rw [va_extract hN, va_toList, show o + d - o = d by omega]
  have hmx : maxLen = 9223372036854775807 ∨ True := .inr trivial
  rcases hk with ⟨rfl, rfl, rfl⟩ | ⟨b, cap, zf, h1, h2, rfl, rfl⟩
  · refine (EF.appendNil (H := B) j h hb hz hz1 hx hy hj (by rw [va_size]; exact hN) (by rw [hex]; intro u hu; obtain ⟨k, _, rfl⟩ := List.mem_map.1 hu; rfl) hd.1 (by simp only [maxLen]; omega) (by omega)).mono fun u H' hu => ?_
    obtain ⟨b'', S, z', g1, g2, g3, g4⟩ := Grew.va (n := 0 + d) (f := fl .f32 l) hu (by
      rw [hex, Nat.zero_add]
      exact List.map_congr_left fun k _ => by rw [Nat.zero_add])
    exact ⟨_, .inr ⟨b'', S, z', g1, g2, g3, rfl⟩, g4⟩
  · refine (EF.append (H := (b, _) :: B) 0 (j + 1) h hb hz hz1 hx rfl h1 h2 (va_size _ _) hy hj (by rw [va_size]; exact hN) (by rw [hex]; intro u hu; obtain ⟨k, _, rfl⟩ := List.mem_map.1 hu; rfl) (by simp only [maxLen]; omega) (by omega)).mono fun u H' hu => ?_
    obtain ⟨b'', S, z', g1, g2, g3, g4⟩ := Grew.va (n := o + d) (f := fl .f32 l) hu (by
      rw [hex, va_toList, List.range_add, List.map_append]
      congr 1
      · rw [← List.map_take, List.take_range, Nat.min_eq_left h1]
        exact List.map_congr_left fun k hk' => if_pos (List.mem_range.1 hk')
      · rw [List.map_map]; rfl)
    exact ⟨_, .inr ⟨b'', S, z', g1, g2, g3, rfl⟩, g4⟩
theorem Kept.out {e : TypeId} {l : Nat → Nat} {m : Nat} {v : Value} {Hk : Hp} (h : Kept e l m v Hk) (hm : m ≠ 0) : ∃ (b cap : Nat) (cs : Array Value), v = .slice (some ⟨b, 0, none⟩) m cap ∧ Hk = [(b, .cells cs e (0, 0))] ∧ ∀ q, q < m → cs[q]? = some (.float .f32 (l q)) := by
  rcases h with ⟨h, _⟩ | ⟨b, cap, z, h1, _, h3, h4⟩
  · exact absurd h hm
  · exact ⟨b, cap, _, h3, h4, fun q hq => va_get (by omega) (if_pos hq)⟩
/-- Two blocks are handed on as values. -/
theorem En.Ends.cell2G {fn : Func} (i i' : Nat) {G : Hp} {t t' : Tmp} {T T' m m' b b' : Nat} {c c' : Array Value} {tt tt' : TypeId} {fr fr' : Nat × Nat} {R : Value → Hp → Prop} (hr : fn.results = #[.cell t T, .cell t' T'])
    (hv : get E t = some (.pointer (some ⟨b, 0, none⟩))) (hs : aggOf P T = some m) (hi : H[i]? = some (b, .cells c tt fr)) (hm : c.size = m)
    (hv' : get E t' = some (.pointer (some ⟨b', 0, none⟩))) (hs' : aggOf P T' = some m') (hi' : H[i']? = some (b', .cells c' tt' fr')) (hm' : c'.size = m') (hG : G.Sublist H) (h : R (.tuple #[.agg c, .agg c']) G) :
    ∀ a w, Agree n E a → HS w0 H w → En.Ends P fn w0 R .ret a w :=
  fun a w ha hw => ⟨ha.defers, .tuple #[.agg c, .agg c'], by
    obtain ⟨h1, h2⟩ := run_isAgg_agg hs w
    obtain ⟨h1', h2'⟩ := run_isAgg_agg hs' w
    have ht := ha.get t _ hv
    have ht2 := ha.get t' _ hv'
    have hl : (loadCells ⟨b, 0, none⟩ m).run P w = .ok c w := by
      have := run_loadCells_list (P := P) w ⟨b, 0, none⟩ c.toList (fun j v hv => by
        rw [addr_add, hw.cell hi]
        simpa using hv)
      simpa [hm] using this
    have hl' : (loadCells ⟨b', 0, none⟩ m').run P w = .ok c' w := by
      have := run_loadCells_list (P := P) w ⟨b', 0, none⟩ c'.toList (fun j v hv => by
        rw [addr_add, hw.cell hi']
        simpa using hv)
      simpa [hm'] using this
    have ht' : a.tmps[t]?.getD undef = .pointer (some ⟨b, 0, none⟩) := by simpa using ht
    have ht2' : a.tmps[t']?.getD undef = .pointer (some ⟨b', 0, none⟩) := by simpa using ht2
    simp [results, hr, ht', ht2', asAddr, loadVar, h1, h2, hl, h1', h2', hl'], _, G, rfl, h, hw.mono hG⟩
end
theorem ff_at {w : Int} {si : Option Addr} {bm o q : Nat} {l : Nat → Nat} (h : q < 4) (ho : 4 ≤ o) : zl (ff w si bm) o l q = ff w si bm q := zl_ne (.inl (by omega))
end Go.Proofs.YtbcjhkncifckiaaDoor
