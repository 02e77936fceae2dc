/- What a slice of numbers that came in is for the walks. No program is named here. -/
import Derived.Test.YtbcjhkncifckiaaDoorFr
import Derived.ProofKit
namespace Go.Proofs.YtbcjhkncifckiaaDoor
open Go Go.RowKit Go.Proofs En
theorem cell_spot {w : World} {x : Addr} {v : Value} (h : w.cell? x = some v) : x = ⟨x.block, x.off, none⟩ := by
  obtain ⟨b, o, s⟩ := x
  cases s with
  | none => rfl
  | some k =>
    exfalso
    unfold World.cell? at h
    simp only [Option.isSome_some, if_true] at h
    split at h <;> cases h
theorem row_cells {k : IntKind} {w : World} {a : Option Addr} {len cap : Nat} {zs : List Int}
    (h : (a = none ∧ len = 0 ∧ cap = 0 ∧ zs = []) ∨ ∃ x, a = some x ∧ len ≤ cap ∧ cap ≤ maxLen ∧ zs.length = cap ∧ (∀ i, i < zs.length → w.cell? (x.add i) = some (.int k (zs.getD i 0))) ∧ ∀ n ∈ zs, (Lit.int k n).wf = true) :
    len = 0 ∨ ∃ b o, a = some ⟨b, o, none⟩ ∧ ∀ q, q < len → ∃ z, w.cell? ⟨b, o + q, none⟩ = some (.int k z) ∧ (Lit.int k z).wf = true := by
  rcases h with ⟨_, h, _⟩ | ⟨x, rfl, h1, h2, h3, h4, h5⟩
  · exact .inl h
  · by_cases h0 : len = 0
    · exact .inl h0
    · right
      have e := cell_spot (h4 0 (by omega))
      rw [show x.add 0 = x from rfl] at e
      refine ⟨x.block, x.off, congrArg some e, fun q hq => ⟨zs.getD q 0, ?_, ?_⟩⟩
      · have := h4 q (by omega)
        rw [e] at this
        rwa [addr_add] at this
      · refine h5 _ ?_
        rw [List.getD_eq_getElem?_getD, List.getElem?_eq_getElem (by omega)]
        exact List.getElem_mem _
theorem u32s_of {w : World} {a : Option Addr} {len cap : Nat} {zs : List Int}
    (h : (a = none ∧ len = 0 ∧ cap = 0 ∧ zs = []) ∨ ∃ x, a = some x ∧ len ≤ cap ∧ cap ≤ maxLen ∧ zs.length = cap ∧ (∀ i, i < zs.length → w.cell? (x.add i) = some (.int .u32 (zs.getD i 0))) ∧ ∀ n ∈ zs, (Lit.int .u32 n).wf = true) : U32s w a len := by
  rcases row_cells h with h | ⟨b, o, h1, h2⟩
  · exact .inl h
  · refine .inr ⟨b, o, h1, fun q hq => ?_⟩
    obtain ⟨z, h3, h4⟩ := h2 q hq
    refine ⟨z, h3, ?_⟩
    simp [Lit.wf, IntKind.min, IntKind.max, IntKind.bits, IntKind.signed] at h4
    omega
theorem i8s_of {w : World} {a : Option Addr} {len cap : Nat} {zs : List Int}
    (h : (a = none ∧ len = 0 ∧ cap = 0 ∧ zs = []) ∨ ∃ x, a = some x ∧ len ≤ cap ∧ cap ≤ maxLen ∧ zs.length = cap ∧ (∀ i, i < zs.length → w.cell? (x.add i) = some (.int .i8 (zs.getD i 0))) ∧ ∀ n ∈ zs, (Lit.int .i8 n).wf = true) : I8s w a len := by
  rcases row_cells h with h | ⟨b, o, h1, h2⟩
  · exact .inl h
  · refine .inr ⟨b, o, h1, fun q hq => ?_⟩
    obtain ⟨z, h3, h4⟩ := h2 q hq
    refine ⟨z, h3, ?_⟩
    simp [Lit.wf, IntKind.min, IntKind.max, IntKind.bits, IntKind.signed] at h4
    omega
theorem wf_u32 {n : Int} (h : (Lit.int .u32 n).wf = true) : 0 ≤ n ∧ n ≤ 4294967295 := by
  simp [Lit.wf, IntKind.min, IntKind.max, IntKind.bits, IntKind.signed] at h
  omega
theorem wf_u8 {n : Int} (h : (Lit.int .u8 n).wf = true) : 0 ≤ n ∧ n ≤ 255 := by
  simp [Lit.wf, IntKind.min, IntKind.max, IntKind.bits, IntKind.signed] at h
  omega
/-- From a contract to a call that is told of the world alone. -/
theorem Ct.call {P : Program} {f : FuncId} {args : Array Value} {w : World} {v : Value} (h : Ct P f args w [] (fun u _ => u = v)) : Calls P f args w fun e w' => e = .returned v ∧ Below w.heap.size w w' :=
  (h w (HS.nil w)).mono fun _ _ ⟨_, _, he, hv, hw⟩ => ⟨by rw [he, hv], hw.below⟩
end Go.Proofs.YtbcjhkncifckiaaDoor
