/- What a listed table of floats is for the walks. No program is named here. -/
import Derived.Test.YtbcjhkncifckiaaDoorRw
import Derived.OpenShut
namespace Go.Proofs.YtbcjhkncifckiaaDoor
open Go Go.RowKit Go.Proofs En
theorem trod_float1 {H : Type} {enc : TypeId × Value → H} {P : Program} {w : World} {base : Nat} {spare : Nat → Bool} {held : Bool} {fuel : Nat} {t : TypeId} {k : FloatKind} {cs : List Value} {x : DataW H × List MemPlace}
    (ht : P.underlying t = some (.float k)) (h : DataW.trod enc P w base spare held fuel t cs = some x) : ∃ b, cs = [.float k b] ∧ x = (.lit (.float k b), []) := by
  cases fuel with
  | zero => simp [DataW.trod] at h
  | succ n =>
    unfold DataW.trod at h
    rw [ht] at h
    split at h <;> simp_all
/-- The cells of a table of floats that reads as listed. -/
theorem laid_floats {H : Type} {enc : TypeId × Value → H} {P : Program} {w : World} {base : Nat} {spare : Nat → Bool} {held : Bool} {fuel n : Nat} {t e : TypeId} {k : FloatKind} {cs : List Value} {p : List MemPlace} {bits : List Nat}
    (ht : P.underlying t = some (.array n e)) (he : P.underlying e = some (.float k)) (hc : P.cellsOf e = 1) (h : DataW.trod enc P w base spare held fuel t cs = some (.agg (bits.map fun b => .lit (.float k b)), p)) (i : Nat) (hi : i < n) :
    cs[i]? = (bits[i]?).map (Value.float k) := by
  obtain ⟨xs, m, _, hx, hl, hn, hel⟩ := DataW.trod_array ht h
  have hi' := hel i hi
  rw [hc, Nat.mul_one] at hi'
  obtain ⟨y, hy⟩ : ∃ y, xs[i]? = some y := ⟨xs[i]'(by omega), List.getElem?_eq_getElem _⟩
  rw [hy] at hi'
  obtain ⟨b, h1, rfl⟩ := trod_float1 he hi'
  simp only [Prod.mk.injEq, DataW.agg.injEq] at hx
  have h2 : (bits.map fun b => (DataW.lit (.float k b) : DataW H))[i]? = some (.lit (.float k b)) := by rw [hx.1, List.getElem?_map, hy]; rfl
  rw [List.getElem?_map] at h2
  have h3 : cs[i]? = some (.float k b) := by
    have : (List.take 1 (List.drop i cs))[0]? = some (.float k b) := by rw [h1]; rfl
    rw [List.getElem?_take] at this
    simpa using this
  rw [h3]
  cases hb : bits[i]? with
  | none => rw [hb] at h2; cases h2
  | some b' =>
    rw [hb] at h2
    simp only [Option.map_some, Option.some.injEq, DataW.lit.injEq, Lit.float.injEq, true_and] at h2
    rw [h2]; rfl
end Go.Proofs.YtbcjhkncifckiaaDoor
