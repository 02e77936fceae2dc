/- One law for each kind of operation, for the engine: what it yields by what is known of the slots and of the heap. No program is named here. -/
import Derived.Test.YtbcjhkncifckiaaDoorEn
import Derived.Laws.FloatArith
import Derived.WalkLawsBesides
namespace Go.Proofs.YtbcjhkncifckiaaDoor
open Go Go.RowKit
namespace En
variable {P : Program} {n : Nat} {E : Env} {w0 : World} {H : Hp} {dst : Option Tmp} {ty : TypeId} {pos : String} {after : Array Edge} {g : Option (Nat × Bool)}

/-! ## Copies -/
theorem YF.move {x : Operand} {v : Value} (hx : ev E x = some v) : YF P n E w0 H ⟨dst, .move x, ty, pos, after, g⟩ v :=
  fun a w ha _ => by simp [execOp, ha.ev hx]
theorem YF.assign {x : Operand} {v : Value} (hx : ev E x = some v) : YF P n E w0 H ⟨dst, .assign x, ty, pos, after, g⟩ v :=
  fun a w ha _ => by simp [execOp, ha.ev hx]
theorem YF.pickT {c x y : Operand} {v : Value} (hc : ev E c = some (.bool true)) (hx : ev E x = some v) : YF P n E w0 H ⟨dst, .pick c x y, ty, pos, after, g⟩ v :=
  fun a w ha _ => by simp [execOp, ha.ev hc, ha.ev hx, asBool]
theorem YF.pickF {c x y : Operand} {v : Value} (hc : ev E c = some (.bool false)) (hy : ev E y = some v) : YF P n E w0 H ⟨dst, .pick c x y, ty, pos, after, g⟩ v :=
  fun a w ha _ => by simp [execOp, ha.ev hc, ha.ev hy, asBool]
theorem YF.pick {c x y : Operand} {b : Bool} {v u r : Value} (hc : ev E c = some (.bool b)) (hx : ev E x = some v) (hy : ev E y = some u) (hr : (if b then v else u) = r) : YF P n E w0 H ⟨dst, .pick c x y, ty, pos, after, g⟩ r :=
  fun a w ha _ => by subst hr; cases b <;> simp [execOp, ha.ev hc, ha.ev hx, ha.ev hy, asBool]

/-! ## Whole numbers -/
theorem eqGuard_int (op : BinOp) (t : TypeId) (x y : Operand) (k : IntKind) (i : Int) (v : Value) : eqGuard op t x y (.int k i) v = pure () := eqGuard_at_int op t x y v k i

theorem YF.bin {op : BinOp} {t yt : TypeId} {x y : Operand} {k k' : IntKind} {i j : Int} {v : Value} (hx : ev E x = some (.int k i)) (hy : ev E y = some (.int k' j))
    (hr : ∀ w, (binOp op t (.int k i) (.int k' j)).run P w = .ok v w) : YF P n E w0 H ⟨dst, .binOp op t x y yt, ty, pos, after, g⟩ v :=
  fun a w ha _ => by simp [execOp, ha.ev hx, ha.ev hy, eqGuard_int, hr]

theorem YF.add {t yt : TypeId} {x y : Operand} {k : IntKind} {i j r : Int} (hx : ev E x = some (.int k i)) (hy : ev E y = some (.int k j)) (hr : k.wrap (i + j) = r) : YF P n E w0 H ⟨dst, .binOp .add t x y yt, ty, pos, after, g⟩ (.int k r) :=
  YF.bin hx hy fun w => by subst hr; simp [binOp_add, Op.intArith]
theorem YF.sub {t yt : TypeId} {x y : Operand} {k : IntKind} {i j r : Int} (hx : ev E x = some (.int k i)) (hy : ev E y = some (.int k j)) (hr : k.wrap (i - j) = r) : YF P n E w0 H ⟨dst, .binOp .sub t x y yt, ty, pos, after, g⟩ (.int k r) :=
  YF.bin hx hy fun w => by subst hr; simp [binOp_sub, Op.intArith]
theorem YF.mul {t yt : TypeId} {x y : Operand} {k : IntKind} {i j r : Int} (hx : ev E x = some (.int k i)) (hy : ev E y = some (.int k j)) (hr : k.wrap (i * j) = r) : YF P n E w0 H ⟨dst, .binOp .mul t x y yt, ty, pos, after, g⟩ (.int k r) :=
  YF.bin hx hy fun w => by subst hr; simp [binOp_mul, Op.intArith]
theorem YF.quo {t yt : TypeId} {x y : Operand} {k : IntKind} {i j r : Int} (hx : ev E x = some (.int k i)) (hy : ev E y = some (.int k j)) (h0 : j ≠ 0) (hr : k.wrap (i.tdiv j) = r) : YF P n E w0 H ⟨dst, .binOp .quo t x y yt, ty, pos, after, g⟩ (.int k r) :=
  YF.bin hx hy fun w => by subst hr; simp [binOp_quo, Op.intDiv, h0]
theorem YF.rem {t yt : TypeId} {x y : Operand} {k : IntKind} {i j r : Int} (hx : ev E x = some (.int k i)) (hy : ev E y = some (.int k j)) (h0 : j ≠ 0) (hr : i.tmod j = r) : YF P n E w0 H ⟨dst, .binOp .rem t x y yt, ty, pos, after, g⟩ (.int k r) :=
  YF.bin hx hy fun w => by subst hr; simp [binOp_rem, Op.intDiv, h0]
theorem YF.band {t yt : TypeId} {x y : Operand} {k : IntKind} {i j r : Int} (hx : ev E x = some (.int k i)) (hy : ev E y = some (.int k j)) (hr : k.wrap (BitVec.ofInt k.bits i &&& BitVec.ofInt k.bits j).toNat = r) : YF P n E w0 H ⟨dst, .binOp .and t x y yt, ty, pos, after, g⟩ (.int k r) :=
  YF.bin hx hy fun w => by subst hr; simp [binOp_and, Op.intBits]
theorem YF.bor {t yt : TypeId} {x y : Operand} {k : IntKind} {i j r : Int} (hx : ev E x = some (.int k i)) (hy : ev E y = some (.int k j)) (hr : k.wrap (BitVec.ofInt k.bits i ||| BitVec.ofInt k.bits j).toNat = r) : YF P n E w0 H ⟨dst, .binOp .or t x y yt, ty, pos, after, g⟩ (.int k r) :=
  YF.bin hx hy fun w => by subst hr; simp [binOp_or, Op.intBits]
theorem YF.shl {t yt : TypeId} {x y : Operand} {k k' : IntKind} {i j r : Int} (hx : ev E x = some (.int k i)) (hy : ev E y = some (.int k' j)) (h0 : ¬ j < 0) (hr : k.wrap (i * 2 ^ (min j.toNat k.bits)) = r) : YF P n E w0 H ⟨dst, .binOp .shl t x y yt, ty, pos, after, g⟩ (.int k r) :=
  YF.bin hx hy fun w => by subst hr; simp [binOp_shl, Op.shift, h0]
theorem YF.shr {t yt : TypeId} {x y : Operand} {k k' : IntKind} {i j r : Int} (hx : ev E x = some (.int k i)) (hy : ev E y = some (.int k' j)) (h0 : ¬ j < 0) (hr : i.fdiv (2 ^ (min j.toNat k.bits)) = r) : YF P n E w0 H ⟨dst, .binOp .shr t x y yt, ty, pos, after, g⟩ (.int k r) :=
  YF.bin hx hy fun w => by subst hr; simp [binOp_shr, Op.shift, h0]
theorem YF.lss {t yt : TypeId} {x y : Operand} {k : IntKind} {i j : Int} {b : Bool} (hx : ev E x = some (.int k i)) (hy : ev E y = some (.int k j)) (hr : decide (i < j) = b) : YF P n E w0 H ⟨dst, .binOp .lss t x y yt, ty, pos, after, g⟩ (.bool b) :=
  YF.bin hx hy fun w => by subst hr; simp [binOp_lss]
theorem YF.leq {t yt : TypeId} {x y : Operand} {k : IntKind} {i j : Int} {b : Bool} (hx : ev E x = some (.int k i)) (hy : ev E y = some (.int k j)) (hr : decide (i ≤ j) = b) : YF P n E w0 H ⟨dst, .binOp .leq t x y yt, ty, pos, after, g⟩ (.bool b) :=
  YF.bin hx hy fun w => by subst hr; simp [binOp_leq]
theorem YF.gtr {t yt : TypeId} {x y : Operand} {k : IntKind} {i j : Int} {b : Bool} (hx : ev E x = some (.int k i)) (hy : ev E y = some (.int k j)) (hr : decide (j < i) = b) : YF P n E w0 H ⟨dst, .binOp .gtr t x y yt, ty, pos, after, g⟩ (.bool b) :=
  YF.bin hx hy fun w => by subst hr; simp [binOp_gtr]
theorem YF.geq {t yt : TypeId} {x y : Operand} {k : IntKind} {i j : Int} {b : Bool} (hx : ev E x = some (.int k i)) (hy : ev E y = some (.int k j)) (hr : decide (j ≤ i) = b) : YF P n E w0 H ⟨dst, .binOp .geq t x y yt, ty, pos, after, g⟩ (.bool b) :=
  YF.bin hx hy fun w => by subst hr; simp [binOp_geq]
theorem YF.eql {t yt : TypeId} {x y : Operand} {k : IntKind} {i j : Int} {b : Bool} (hx : ev E x = some (.int k i)) (hy : ev E y = some (.int k j)) (hr : decide (i = j) = b) : YF P n E w0 H ⟨dst, .binOp .eql t x y yt, ty, pos, after, g⟩ (.bool b) :=
  YF.bin hx hy fun w => by
    subst hr
    have : (i == j) = decide (i = j) := by by_cases h : i = j <;> simp [h]
    simp [binOp_eql, this]
theorem YF.neq {t yt : TypeId} {x y : Operand} {k : IntKind} {i j : Int} {b : Bool} (hx : ev E x = some (.int k i)) (hy : ev E y = some (.int k j)) (hr : decide (i ≠ j) = b) : YF P n E w0 H ⟨dst, .binOp .neq t x y yt, ty, pos, after, g⟩ (.bool b) :=
  YF.bin hx hy fun w => by subst hr; simp [binOp_neq, bne]; by_cases h : i = j <;> simp [h]
theorem YF.not {t : TypeId} {x : Operand} {b c : Bool} (hx : ev E x = some (.bool b)) (hr : (!b) = c) : YF P n E w0 H ⟨dst, .unOp .not t x, ty, pos, after, g⟩ (.bool c) :=
  fun a w ha _ => by subst hr; simp [execOp, ha.ev hx, Op.unary]
theorem YF.negInt {t : TypeId} {x : Operand} {k : IntKind} {i r : Int} (hx : ev E x = some (.int k i)) (hr : k.wrap (0 - i) = r) : YF P n E w0 H ⟨dst, .unOp .neg t x, ty, pos, after, g⟩ (.int k r) :=
  fun a w ha _ => by subst hr; simp [execOp, ha.ev hx, Op.unary, Op.intArith]

/-! ## Conversions -/
/-- The underlying type is a number's. -/
theorem run_conv {src dst : TypeId} {s d : TypeDesc} (hs : P.underlying src = some s) (hd : P.underlying dst = some d) (w : World) {k : IntKind} {i : Int} {k' : IntKind} (hd' : d = .int k') :
    (convert src dst (.int k i)).run P w = .ok (.int k' (k'.wrap i)) w := by
  subst hd'
  simp [convert, run_underlying hs, run_underlying hd, Conv.intToInt]
theorem YF.conv {src dt : TypeId} {x : Operand} {s : TypeDesc} {k k' : IntKind} {i r : Int} (hs : P.underlying src = some s) (hd : P.underlying dt = some (.int k')) (hx : ev E x = some (.int k i)) (hr : k'.wrap i = r) :
    YF P n E w0 H ⟨dst, .convert src dt x, ty, pos, after, g⟩ (.int k' r) :=
  fun a w ha _ => by subst hr; simp [execOp, ha.ev hx, run_conv hs hd w rfl]
theorem YF.convIF {src dt : TypeId} {x : Operand} {s : IntKind} {k : IntKind} {k' : FloatKind} {i : Int} {r : Nat} (hs : P.underlying src = some (.int s)) (hd : P.underlying dt = some (.float k')) (hx : ev E x = some (.int k i)) (hr : k'.nearest i = r) :
    YF P n E w0 H ⟨dst, .convert src dt x, ty, pos, after, g⟩ (.float k' r) :=
  fun a w ha _ => by
    subst hr
    have hc : (convert src dt (.int k i)).run P w = .ok (.float k' (k'.nearest i)) w := by
      simp [convert, run_underlying hs, run_underlying hd, Conv.intToFloat]
    simp [execOp, ha.ev hx, hc]
theorem YF.convFF {src dt : TypeId} {x : Operand} {s k : FloatKind} {b r : Nat} (hs : (P.underlying src).isSome = true) (hd : P.underlying dt = some (.float k)) (hx : ev E x = some (.float s b)) (hr : floatToFloatBits s b k = some r) :
    YF P n E w0 H ⟨dst, .convert src dt x, ty, pos, after, g⟩ (.float k r) :=
  fun a w ha _ => by simp [execOp, ha.ev hx, run_convert_float_float w src dt s k b r hs hd hr]

/-! ## Floats -/
theorem eqGuard_float (op : BinOp) (t : TypeId) (x y : Operand) (k : FloatKind) (i : Nat) (v : Value) : eqGuard op t x y (.float k i) v = pure () := eqGuard_at_float op t x y v k i
theorem YF.farith {op : BinOp} {t yt : TypeId} {x y : Operand} {k : FloatKind} {i j r : Nat} (hx : ev E x = some (.float k i)) (hy : ev E y = some (.float k j)) (hr : floatBits op k i j = some r) : YF P n E w0 H ⟨dst, .binOp op t x y yt, ty, pos, after, g⟩ (.float k r) :=
  fun a w ha _ => by simp [execOp, ha.ev hx, ha.ev hy, eqGuard_float, run_float_arith w op t k i j r hr]
theorem YF.fgtr {t yt : TypeId} {x y : Operand} {k : FloatKind} {i j : Nat} {b : Bool} (hx : ev E x = some (.float k i)) (hy : ev E y = some (.float k j)) (hr : (k.format.order i j == some .gt) = b) : YF P n E w0 H ⟨dst, .binOp .gtr t x y yt, ty, pos, after, g⟩ (.bool b) :=
  fun a w ha _ => by subst hr; simp [execOp, ha.ev hx, ha.ev hy, eqGuard_float, binOp, Op.floatCmp]
theorem YF.fneq {t yt : TypeId} {x y : Operand} {k : FloatKind} {i j : Nat} {b : Bool} (hx : ev E x = some (.float k i)) (hy : ev E y = some (.float k j)) (hr : (k.format.order i j != some .eq) = b) : YF P n E w0 H ⟨dst, .binOp .neq t x y yt, ty, pos, after, g⟩ (.bool b) :=
  fun a w ha _ => by subst hr; simp [execOp, ha.ev hx, ha.ev hy, eqGuard_float, binOp, Op.floatCmp]
theorem YF.fcmp {op : BinOp} {t yt : TypeId} {x y : Operand} {k : FloatKind} {i j : Nat} {b : Bool} (hx : ev E x = some (.float k i)) (hy : ev E y = some (.float k j)) (hr : Op.floatCmp op k i j = pure (.bool b)) (ho : op ≠ .add ∧ op ≠ .sub ∧ op ≠ .mul ∧ op ≠ .quo) : YF P n E w0 H ⟨dst, .binOp op t x y yt, ty, pos, after, g⟩ (.bool b) :=
  fun a w ha _ => by
    have hb : binOp op t (.float k i) (.float k j) = Op.floatCmp op k i j := by
      obtain ⟨h1, h2, h3, h4⟩ := ho
      cases op <;> first | contradiction | simp [binOp]
    simp [execOp, ha.ev hx, ha.ev hy, eqGuard_float, hb, hr]
theorem YF.fneg {t : TypeId} {x : Operand} {k : FloatKind} {i r : Nat} (hx : ev E x = some (.float k i)) (hr : Op.negFloat k i = r) : YF P n E w0 H ⟨dst, .unOp .neg t x, ty, pos, after, g⟩ (.float k r) :=
  fun a w ha _ => by subst hr; simp [execOp, ha.ev hx, Op.unary]

/-! ## Addresses -/
def fieldOff (P : Program) (T f : Nat) : Option Nat :=
  match P.underlying T with
  | some (.struct fs) => match fs[f]? with
    | some fl => match P.info? fl.type with
      | some i => if i.size = 0 then none else some fl.offset
      | none => none
    | none => none
  | _ => none

theorem addr_add (b o k : Nat) : (⟨b, o, none⟩ : Addr).add k = ⟨b, o + k, none⟩ := Addr.add_lit b o k

theorem run_fieldAt {T f off b o : Nat} (h : fieldOff P T f = some off) (w : World) : (Instr.fieldAt T (.pointer (some ⟨b, o, none⟩)) f).run P w = .ok (.pointer (some ⟨b, o + off, none⟩)) w := by
  unfold fieldOff at h
  cases hu : P.underlying T with
  | none => simp [hu] at h
  | some d =>
    cases d <;> try (simp [hu] at h; done)
    case struct fs =>
      simp only [hu] at h
      cases hf : fs[f]? with
      | none => simp [hf] at h
      | some fl =>
        simp only [hf] at h
        cases hi : P.info? fl.type with
        | none => simp [hi] at h
        | some i =>
          simp only [hi] at h
          by_cases h0 : i.size = 0
          · simp [h0] at h
          · simp only [if_neg h0] at h
            cases h
            simp [Instr.fieldAt, run_underlying hu, hf, Instr.sureAddr, fieldPlace, sizeOf, typeInfo, hi, h0, addr_add]

theorem YF.fieldAddr {T f off b o q : Nat} {x : Operand} (h : fieldOff P T f = some off) (hx : ev E x = some (.pointer (some ⟨b, o, none⟩))) (hq : o + off = q) :
    YF P n E w0 H ⟨dst, .fieldAddr T x f, ty, pos, after, g⟩ (.pointer (some ⟨b, q, none⟩)) :=
  fun a w ha _ => by subst hq; simp [execOp, ha.ev hx, run_fieldAt h]

def arrOf (P : Program) (T : Nat) : Option (Nat × Nat) :=
  match P.underlying T with
  | some (.array len e) => (P.info? e).map fun i => (len, i.size)
  | _ => none
def sliceOf (P : Program) (T : Nat) : Option (Nat × Nat) :=
  match P.underlying T with
  | some (.slice e) => (P.info? e).map fun i => (e, i.size)
  | _ => none

theorem arrOf_spec {T len s : Nat} (h : arrOf P T = some (len, s)) : ∃ e i, P.underlying T = some (.array len e) ∧ P.info? e = some i ∧ i.size = s := by
  unfold arrOf at h
  cases hu : P.underlying T with
  | none => simp [hu] at h
  | some d =>
    cases d <;> try (simp [hu] at h; done)
    case array l e =>
      simp only [hu] at h
      cases hi : P.info? e with
      | none => simp [hi] at h
      | some i => simp [hi] at h; exact ⟨e, i, by rw [h.1], hi, h.2⟩
theorem sliceOf_spec {T e s : Nat} (h : sliceOf P T = some (e, s)) : ∃ i, P.underlying T = some (.slice e) ∧ P.info? e = some i ∧ i.size = s := by
  unfold sliceOf at h
  cases hu : P.underlying T with
  | none => simp [hu] at h
  | some d =>
    cases d <;> try (simp [hu] at h; done)
    case slice e' =>
      simp only [hu] at h
      cases hi : P.info? e' with
      | none => simp [hi] at h
      | some i => simp [hi] at h; exact ⟨i, by rw [h.1], h.1 ▸ hi, h.2⟩

theorem YF.indexArr {T len s b o q : Nat} {x y : Operand} {k : IntKind} {i : Int} (h : arrOf P T = some (len, s)) (hx : ev E x = some (.pointer (some ⟨b, o, none⟩))) (hy : ev E y = some (.int k i))
    (hi : 0 ≤ i ∧ i < len) (hq : o + i.toNat * s = q) : YF P n E w0 H ⟨dst, .indexAddr T x y, ty, pos, after, g⟩ (.pointer (some ⟨b, q, none⟩)) :=
  fun a w ha _ => by
    subst hq
    obtain ⟨e, inf, hu, he, hs⟩ := arrOf_spec h
    subst hs
    have : (Instr.indexAt T (.pointer (some ⟨b, o, none⟩)) (.int k i)).run P w = .ok (.pointer (some ⟨b, o + i.toNat * inf.size, none⟩)) w := by
      simp [Instr.indexAt, run_underlying hu, Instr.sureAddr, asIntOf, sizeOf, typeInfo, he, hi, addr_add]
    simp [execOp, ha.ev hx, ha.ev hy, this]
theorem YF.indexSl {T e s b o q len cap : Nat} {x y : Operand} {k : IntKind} {i : Int} (h : sliceOf P T = some (e, s)) (hx : ev E x = some (.slice (some ⟨b, o, none⟩) len cap)) (hy : ev E y = some (.int k i))
    (hi : 0 ≤ i ∧ i < len) (hq : o + i.toNat * s = q) : YF P n E w0 H ⟨dst, .indexAddr T x y, ty, pos, after, g⟩ (.pointer (some ⟨b, q, none⟩)) :=
  fun a w ha _ => by
    subst hq
    obtain ⟨inf, hu, he, hs⟩ := sliceOf_spec h
    subst hs
    have : (Instr.indexAt T (.slice (some ⟨b, o, none⟩) len cap) (.int k i)).run P w = .ok (.pointer (some ⟨b, o + i.toNat * inf.size, none⟩)) w := by
      simp [Instr.indexAt, run_underlying hu, asIntOf, sizeOf, typeInfo, he, hi, addr_add]
    simp [execOp, ha.ev hx, ha.ev hy, this]
theorem YF.nilCheck {x : Operand} {p : Addr} (hx : ev E x = some (.pointer (some p))) : YF P n E w0 H ⟨dst, .nilCheck x, ty, pos, after, g⟩ (.pointer (some p)) :=
  fun a w ha _ => by simp [execOp, ha.ev hx]

/-! ## Loads -/
def scalar (P : Program) (T : Nat) : Bool :=
  match P.underlying T with
  | some (.struct _) | some (.array _ _) | none => false
  | _ => true
def aggOf (P : Program) (T : Nat) : Option Nat :=
  match P.underlying T with
  | some (.struct _) | some (.array _ _) => (P.info? T).map (·.size)
  | _ => none

theorem run_isAgg_scalar {T : Nat} (h : scalar P T = true) (w : World) : (isAgg T).run P w = .ok false w := by
  unfold scalar at h
  cases hu : P.underlying T with
  | none => simp [hu] at h
  | some d => cases d <;> first | (simp [hu] at h; done) | simp [isAgg, run_underlying hu]
theorem run_isAgg_agg {T m : Nat} (h : aggOf P T = some m) (w : World) : (isAgg T).run P w = .ok true w ∧ (sizeOf T).run P w = .ok m w := by
  unfold aggOf at h
  cases hu : P.underlying T with
  | none => simp [hu] at h
  | some d =>
    cases d <;> try (simp [hu] at h; done)
    all_goals
      simp only [hu] at h
      cases hi : P.info? T with
      | none => simp [hi] at h
      | some i => simp [hi] at h; subst h; simp [isAgg, run_underlying hu, sizeOf, typeInfo, hi]

theorem YF.load_of {T : Nat} {x : Operand} {p : Addr} {v : Value} (hs : scalar P T = true) (hx : ev E x = some (.pointer (some p))) (hc : ∀ w, HS w0 H w → w.cell? p = some v) :
    YF P n E w0 H ⟨dst, .load T x, ty, pos, after, g⟩ v :=
  fun a w ha hw => by
    have : (loadVar T p).run P w = .ok v w := by simp [loadVar, run_isAgg_scalar hs, hc w hw]
    simp [execOp, ha.ev hx, Instr.loadAt, Instr.sureAddr, this]

theorem HS.cell {w : World} (h : HS w0 H w) {i b o : Nat} {c : Array Value} {t : TypeId} {fr : Nat × Nat} (hi : H[i]? = some (b, .cells c t fr)) : w.cell? ⟨b, o, none⟩ = c[o]? :=
  cell_of_row w b o c t fr (h.at hi)

/-- One cell of a block of the list. -/
theorem YF.load (i : Nat) {T b o : Nat} {x : Operand} {c : Array Value} {t : TypeId} {fr : Nat × Nat} {v : Value} (hs : scalar P T = true) (hx : ev E x = some (.pointer (some ⟨b, o, none⟩))) (hi : H[i]? = some (b, .cells c t fr)) (hv : c[o]? = some v) :
    YF P n E w0 H ⟨dst, .load T x, ty, pos, after, g⟩ v :=
  YF.load_of hs hx fun _ hw => (hw.cell hi).trans hv
/-- One cell that was there when the call began. -/
theorem YF.load_old {T : Nat} {x : Operand} {p : Addr} {v : Value} (hs : scalar P T = true) (hx : ev E x = some (.pointer (some p))) (hc : w0.cell? p = some v) : YF P n E w0 H ⟨dst, .load T x, ty, pos, after, g⟩ v :=
  YF.load_of hs hx fun _ hw => (hw.below.cell (World.block_lt_of_cell? w0 p hc)).trans hc

/-- Several cells of a block of the list. -/
theorem YF.loadAgg (i : Nat) {T b o m : Nat} {x : Operand} {c : Array Value} {t : TypeId} {fr : Nat × Nat} {v : Array Value} (hs : aggOf P T = some m) (hx : ev E x = some (.pointer (some ⟨b, o, none⟩))) (hi : H[i]? = some (b, .cells c t fr)) (hm : o + m ≤ c.size) (hv : c.extract o (o + m) = v) :
    YF P n E w0 H ⟨dst, .load T x, ty, pos, after, g⟩ (.agg v) :=
  fun a w ha hw => by
    subst hv
    obtain ⟨h1, h2⟩ := run_isAgg_agg hs w
    have hl : (loadCells ⟨b, o, none⟩ m).run P w = .ok (c.extract o (o + m)) w := by
      have := run_loadCells_list (P := P) w ⟨b, o, none⟩ (c.extract o (o + m)).toList (fun j v hv => by
        rw [addr_add, hw.cell hi]
        have hj : j < m := by
          have := (List.getElem?_eq_some_iff.1 hv).1
          simp at this; omega
        simpa [Array.getElem?_extract, hj] using hv)
      rw [show (c.extract o (o + m)).toList.length = m by simp; omega, Array.toArray_toList] at this
      exact this
    have : (loadVar T ⟨b, o, none⟩).run P w = .ok (.agg (c.extract o (o + m))) w := by simp [loadVar, h1, h2, hl]
    simp [execOp, ha.ev hx, Instr.loadAt, Instr.sureAddr, this]
/-- A whole block. -/
theorem YF.loadAll (i : Nat) {T b m : Nat} {x : Operand} {c : Array Value} {t : TypeId} {fr : Nat × Nat} (hs : aggOf P T = some m) (hx : ev E x = some (.pointer (some ⟨b, 0, none⟩))) (hi : H[i]? = some (b, .cells c t fr)) (hm : c.size = m) :
    YF P n E w0 H ⟨dst, .load T x, ty, pos, after, g⟩ (.agg c) :=
  YF.loadAgg i hs hx hi (by omega) (by subst hm; simp)

/-! ## Stores, new blocks -/
theorem EF.store (i : Nat) {T b o : Nat} {x y : Operand} {c : Array Value} {t : TypeId} {v : Value} (hx : ev E x = some (.pointer (some ⟨b, o, none⟩))) (hy : ev E y = some v) (hi : H[i]? = some (b, .cells c t (0, 0)))
    (hT : (P.info? T).map (·.size) = some 1) (h1 : v.oneCell' = true) (ho : o < c.size) :
    EF P n E w0 H ⟨dst, .store T x y, ty, pos, after, g⟩ (fun u H' => u = undef ∧ H' = H.set i (b, .cells (c.setIfInBounds o v) t (0, 0))) :=
  fun a w ha hw K Q hK => by
    cases hq : P.info? T with
    | none => simp [hq] at hT
    | some inf =>
      have hsz : inf.size = 1 := by simpa [hq] using hT
      have hcs : v.cells = #[v] := by cases v <;> first | rfl | (simp [Value.oneCell'] at h1)
      have hb := hw.at hi
      have hcell : w.cell? ⟨b, o, none⟩ = some c[o] := by rw [hw.cell hi]; simp [ho]
      have hfr : w.frozen? ⟨b, o, none⟩ = false := frozen_of_row w b o c t hb
      have hst : (storeVar T ⟨b, o, none⟩ v).run P w = .ok () (w.setRow b (c.setIfInBounds o v)) := by
        have h0 := run_store P w ⟨b, o, none⟩ v .plain h1
        rw [hcell] at h0
        simp only [hfr, Bool.false_eq_true, if_false] at h0
        rw [setCell_eq_setRow w b o c t (0, 0) v hb] at h0
        simp [storeVar, sizeOf, typeInfo, hq, hcs, hsz, storeCells, addr_add, h0]
      unfold Oper.wp
      simp only [execOp, ha.ev hx, ha.ev hy, Instr.storeAt, Instr.sureAddr, Sem.run_bind, Sem.run_pure, Result.andThen_ok, hst]
      exact hK undef _ _ ⟨rfl, rfl⟩ (hw.set hi _)

/-- Several cells at once. -/
def splice (c : Array Value) (o : Nat) (vs : Array Value) : Array Value := (c.toList.take o ++ vs.toList ++ c.toList.drop (o + vs.size)).toArray

theorem splice_size (c : Array Value) (o : Nat) (vs : Array Value) (h : o + vs.size ≤ c.size) : (splice c o vs).size = c.size := by
  simp [splice]; omega
theorem splice_get (c : Array Value) (o : Nat) (vs : Array Value) (h : o + vs.size ≤ c.size) (j : Nat) : (splice c o vs)[j]? = if o ≤ j ∧ j < o + vs.size then vs[j - o]? else c[j]? := by
  unfold splice
  rw [List.getElem?_toArray, List.append_assoc, List.getElem?_append]
  simp only [List.length_take, Array.length_toList]
  have : min o c.size = o := by omega
  rw [this]
  by_cases h1 : j < o
  · rw [if_pos h1, if_neg (by omega), List.getElem?_take, if_pos h1]; simp
  · rw [if_neg h1, List.getElem?_append]
    simp only [Array.length_toList]
    by_cases h2 : j < o + vs.size
    · rw [if_pos (by omega), if_pos ⟨by omega, h2⟩]; simp
    · rw [if_neg (by omega), if_neg (by omega), List.getElem?_drop]
      simp only [Array.getElem?_toList]
      congr 1; omega
theorem splice_all (c vs : Array Value) (h : vs.size = c.size) : splice c 0 vs = vs := by
  apply Array.ext_getElem?
  intro j
  rw [splice_get _ _ _ (by omega)]
  by_cases hj : j < vs.size
  · rw [if_pos ⟨by omega, by omega⟩]; simp
  · rw [if_neg (by omega)]
    simp [Array.getElem?_eq_none (Nat.le_of_not_lt hj), Array.getElem?_eq_none (by omega : c.size ≤ j)]

theorem EF.storeAgg (i : Nat) {T b o m : Nat} {x y : Operand} {c vs : Array Value} {t : TypeId} (hx : ev E x = some (.pointer (some ⟨b, o, none⟩))) (hy : ev E y = some (.agg vs)) (hi : H[i]? = some (b, .cells c t (0, 0)))
    (hT : (P.info? T).map (·.size) = some m) (hm : vs.size = m) (h1' : vs.toList.all Value.oneCell' = true) (ho : o + m ≤ c.size) :
    EF P n E w0 H ⟨dst, .store T x y, ty, pos, after, g⟩ (fun u H' => u = undef ∧ H' = H.set i (b, .cells (splice c o vs) t (0, 0))) :=
  fun a w ha hw K Q hK => by
    subst hm
    have h1 : ∀ v ∈ vs.toList, v.oneCell' = true := List.all_eq_true.1 h1'
    cases hq : P.info? T with
    | none => simp [hq] at hT
    | some inf =>
      have hsz : inf.size = vs.size := by simpa [hq] using hT
      have hb := hw.at hi
      have hst : (storeVar T ⟨b, o, none⟩ (.agg vs)).run P w = .ok () (w.setRow b (splice c o vs)) := by
        have h0 := run_storeCells_at P b o t vs.toList 0 c w hb (by simpa using ho) h1
        simp only [Nat.add_zero, Array.length_toList] at h0
        simp [storeVar, sizeOf, typeInfo, hq, Value.cells, hsz, h0, splice]
      unfold Oper.wp
      simp only [execOp, ha.ev hx, ha.ev hy, Instr.storeAt, Instr.sureAddr, Sem.run_bind, Sem.run_pure, Result.andThen_ok, hst]
      exact hK undef _ _ ⟨rfl, rfl⟩ (hw.set hi _)

def zeroOf (P : Program) (T : Nat) : Option Value := (P.info? T).bind (·.zero)
theorem run_zero {T : Nat} {v : Value} (h : zeroOf P T = some v) (w : World) : (zeroValue T).run P w = .ok v w := by
  unfold zeroOf at h
  cases hi : P.info? T with
  | none => simp [hi] at h
  | some i => simp [hi] at h; simp [zeroValue, typeInfo, hi, h]

theorem EF.alloc {T : Nat} {z : Value} (hz : zeroOf P T = some z) :
    EF P n E w0 H ⟨dst, .alloc T, ty, pos, after, g⟩ (fun u H' => ∃ b, u = .pointer (some ⟨b, 0, none⟩) ∧ H' = (b, .cells z.cells T (0, 0)) :: H) :=
  fun a w ha hw K Q hK => by
    unfold Oper.wp
    have hr : (Instr.alloc T true (.tuple #[])).run P w = .ok (.pointer (some ⟨w.heap.size, 0, none⟩)) (w.alloc (.cells z.cells T)) := by
      simp [Instr.alloc, run_zero hz, newVar, newRow]
    simp only [execOp, Sem.run_bind, Sem.run_pure, hr, Result.andThen_ok]
    exact hK _ _ _ ⟨w.heap.size, rfl, rfl⟩ (hw.alloc _)

theorem EF.box {T : Nat} {x : Operand} {v : Value} (hx : ev E x = some v) :
    EF P n E w0 H ⟨dst, .box T x, ty, pos, after, g⟩ (fun u H' => ∃ b, u = .pointer (some ⟨b, 0, none⟩) ∧ H' = (b, .cells v.cells T (0, 0)) :: H) :=
  fun a w ha hw K Q hK => by
    unfold Oper.wp
    have hr : (Instr.box T v).run P w = .ok (.pointer (some ⟨w.heap.size, 0, none⟩)) (w.alloc (.cells v.cells T)) := by
      simp [Instr.box, newVar, newRow]
    simp only [execOp, ha.ev hx, Sem.run_bind, Sem.run_pure, hr, Result.andThen_ok]
    exact hK _ _ _ ⟨w.heap.size, rfl, rfl⟩ (hw.alloc _)

/-! ## Structs, slices -/
theorem YF.build {T : Nat} {parts : Array (Nat × Operand)} {vs : List (Nat × Value)} {cs : Array Value} (hp : parts.toList.map (fun p => (ev E p.2).map fun v => (p.1, v)) = vs.map some) (hb : P.built T vs = some cs) :
    YF P n E w0 H ⟨dst, .build T parts, ty, pos, after, g⟩ (.agg cs) :=
  fun a w ha _ => by
    have he : (parts.map fun (i, x) => (i, a.eval x)).toList = vs := by
      have : ∀ (ps : List (Nat × Operand)) (vs : List (Nat × Value)), ps.map (fun p => (ev E p.2).map fun v => (p.1, v)) = vs.map some → ps.map (fun (i, x) => (i, a.eval x)) = vs := by
        intro ps
        induction ps with
        | nil => intro vs h; cases vs <;> simp at h ⊢
        | cons p ps ih =>
          intro vs h
          cases vs with
          | nil => simp at h
          | cons v vs =>
            simp only [List.map_cons, List.cons.injEq] at h ⊢
            refine ⟨?_, ih vs h.2⟩
            cases hv : ev E p.2 with
            | none => rw [hv] at h; simp at h
            | some u => rw [hv] at h; simp at h; rw [← h.1, ha.ev hv]
      simpa using this parts.toList vs hp
    have hr := run_build (P := P) w T (parts.map fun (i, x) => (i, a.eval x)) cs (by rw [he]; exact hb)
    simp [execOp, hr]

theorem madeCells_one (z : Value) (m : Nat) : madeCells #[z] m = Array.replicate m z := by
  apply Array.ext
  · simp [madeCells]
  · intro i h1 h2
    simp [madeCells, Nat.mod_one]
theorem cells_one {z : Value} (h : z.oneCell' = true) : z.cells = #[z] := by
  cases z <;> first | rfl | (simp [Value.oneCell'] at h)

theorem EF.makeSlice {T e bytes m : Nat} {x y : Operand} {z : Value} {k k' : IntKind} {l c : Int} (h : sliceOf P T = some (e, 1)) (hb : (P.info? e).map (·.bytes) = some bytes) (hx : ev E x = some (.int k l)) (hy : ev E y = some (.int k' c)) (hl : l = m) (hc : c = m) (hm : bytes * m ≤ 281474976710656) (hm' : m ≤ 281474976710656)
    (hz : zeroOf P e = some z) (hz1 : z.oneCell' = true) :
    EF P n E w0 H ⟨dst, .makeSlice T x y, ty, pos, after, g⟩ (fun u H' => ∃ b, u = .slice (some ⟨b, 0, none⟩) m m ∧ H' = (b, .cells (Array.replicate m z) e (0, 0)) :: H) :=
  fun a w ha hw K Q hK => by
    subst hl; subst hc
    obtain ⟨inf, hu, he, hs⟩ := sliceOf_spec h
    have hbytes : inf.bytes = bytes := by simpa [he] using hb
    subst hbytes
    have hzi : inf.zero = some z := by unfold zeroOf at hz; simpa [he] using hz
    have hbm : (inf.bytes : Int) * (m : Int) ≤ 281474976710656 := by
      have : ((inf.bytes * m : Nat) : Int) ≤ 281474976710656 := by omega
      rwa [Int.natCast_mul] at this
    have hr := run_make (P := P) w T e inf z hu he hzi k k' m m (by omega) (by omega) hbm (by omega)
    rw [hs, cells_one hz1, Int.toNat_natCast, Nat.mul_one, madeCells_one] at hr
    unfold Oper.wp
    simp only [execOp, ha.ev hx, ha.ev hy, Sem.run_bind, Sem.run_pure, hr, Result.andThen_ok]
    exact hK _ _ _ ⟨w.heap.size, rfl, rfl⟩ (hw.alloc _)

/-- 'len' of a slice. -/
theorem YF.lenSl {T e s len cap : Nat} {ad : Option Addr} {x : Operand} (h : sliceOf P T = some (e, s)) (hx : ev E x = some (.slice ad len cap)) :
    YF P n E w0 H ⟨dst, .call { callee := .builtin .len, args := #[x], argTypes := #[T] }, ty, pos, after, g⟩ (.int .i64 len) :=
  fun a w ha _ => by
    obtain ⟨inf, hu, _, _⟩ := sliceOf_spec h
    rw [Go.BigFrame.execOp_builtin]
    simp [ha.ev hx, builtin, Builtin.len_, run_underlying hu, goInt]

/-- x[:] of an array behind a pointer. -/
theorem YF.sliceArr {T len s b o : Nat} {x : Operand} (h : arrOf P T = some (len, s)) (hx : ev E x = some (.pointer (some ⟨b, o, none⟩))) :
    YF P n E w0 H ⟨dst, .slice T x none none none, ty, pos, after, g⟩ (.slice (some ⟨b, o, none⟩) len len) :=
  fun a w ha _ => by
    obtain ⟨e, inf, hu, he, hs⟩ := arrOf_spec h
    have : (Instr.sliceAt T (.pointer (some ⟨b, o, none⟩)) none none none).run P w = .ok (.slice (some ⟨b, o, none⟩) len len) w := by
      simp [Instr.sliceAt, run_underlying hu, Instr.sureAddr, Instr.sliceBounds, sizeOf, typeInfo, he, addr_add]
    simp [execOp, ha.ev hx, this]

/-- x[lo:hi] of a slice. -/
theorem YF.sliceSl {T e s b o len cap l h' q : Nat} {x y z : Operand} {k k' : IntKind} {lo hi : Int} (h : sliceOf P T = some (e, s)) (hx : ev E x = some (.slice (some ⟨b, o, none⟩) len cap)) (hy : ev E y = some (.int k lo)) (hz : ev E z = some (.int k' hi))
    (hlo : lo = l) (hhi : hi = h') (hb : l ≤ h' ∧ h' ≤ cap ∧ l < cap) (hq : o + l * s = q) :
    YF P n E w0 H ⟨dst, .slice T x (some y) (some z) none, ty, pos, after, g⟩ (.slice (some ⟨b, q, none⟩) (h' - l) (cap - l)) :=
  fun a w ha _ => by
    subst hq; subst hlo; subst hhi
    obtain ⟨inf, hu, he, hs⟩ := sliceOf_spec h
    subst hs
    obtain ⟨h1, h2, h3⟩ := hb
    have h4 : (0 : Int) ≤ (l : Int) ∧ (l : Int) ≤ (h' : Int) := ⟨by omega, by omega⟩
    have h5 : (0 : Int) ≤ (h' : Int) ∧ (h' : Int) ≤ (cap : Int) := ⟨by omega, by omega⟩
    have : (Instr.sliceAt T (.slice (some ⟨b, o, none⟩) len cap) (some (.int k l)) (some (.int k' h')) none).run P w = .ok (.slice (some ⟨b, o + l * inf.size, none⟩) (h' - l) (cap - l)) w := by
      simp [Instr.sliceAt, Instr.slice, run_underlying hu, Instr.sliceBounds, Instr.sliceBound, asIntOf, sizeOf, typeInfo, he, addr_add, h1, h2, Nat.ne_of_gt h3]
    simp [execOp, ha.ev hx, ha.ev hy, ha.ev hz, this]

theorem YF.extract {x : Operand} {vs : Array Value} {i : Nat} {v : Value} (hx : ev E x = some (.tuple vs)) (hv : vs[i]? = some v) : YF P n E w0 H ⟨dst, .extract x i, ty, pos, after, g⟩ v :=
  fun a w ha _ => by simp [execOp, ha.ev hx, Instr.extract, hv]

/-- A cell of an array that is a value. -/
theorem YF.index {T len b : Nat} {x y : Operand} {cs : Array Value} {k : IntKind} {i : Int} {v : Value} (h : arrOf P T = some (len, 1)) (hsc : (match P.underlying T with | some (.array _ e) => scalar P e | _ => false) = true) (hx : ev E x = some (.agg cs)) (hy : ev E y = some (.int k i)) (hi : 0 ≤ i ∧ i < len) (hv : cs[i.toNat]? = some v) (_hb : b = 0) :
    YF P n E w0 H ⟨dst, .index T x y, ty, pos, after, g⟩ v :=
  fun a w ha _ => by
    obtain ⟨e, inf, hu, he, hs⟩ := arrOf_spec h
    rw [hu] at hsc
    have : (Instr.index T (.agg cs) (.int k i)).run P w = .ok v w := by
      simp [Instr.index, run_underlying hu, asIntOf, sizeOf, typeInfo, he, hs, hi, part, run_isAgg_scalar hsc, hv]
    simp [execOp, ha.ev hx, ha.ev hy, this]

theorem YF.makeFunc0 {f : FuncId} {caps : Array Operand} {vs : List Value} (hp : caps.toList.map (ev E) = vs.map some) : YF P n E w0 H ⟨dst, .makeFunc (.func f) #[] caps, ty, pos, after, g⟩ (.func (.func f) #[] vs.toArray) :=
  fun a w ha _ => by
    have he : (caps.map a.eval).toList = vs := by
      have : ∀ (ps : List Operand) (vs : List Value), ps.map (ev E) = vs.map some → ps.map a.eval = vs := by
        intro ps
        induction ps with
        | nil => intro vs h; cases vs <;> simp at h ⊢
        | cons p ps ih =>
          intro vs h
          cases vs with
          | nil => simp at h
          | cons v vs =>
            simp only [List.map_cons, List.cons.injEq] at h ⊢
            exact ⟨ha.ev h.1, ih vs h.2⟩
      simpa using this caps.toList vs hp
    have he' : caps.map a.eval = vs.toArray := by rw [← he]
    simp [execOp, Instr.makeFunc, he']

/-! ## Calls -/
theorem args_of {a : Act} (ha : Agree n E a) : ∀ (ps : List Operand) (vs : List Value), ps.map (ev E) = vs.map some → ps.map a.eval = vs := by
  intro ps
  induction ps with
  | nil => intro vs h; cases vs <;> simp at h ⊢
  | cons p ps ih =>
    intro vs h
    cases vs with
    | nil => simp at h
    | cons v vs =>
      simp only [List.map_cons, List.cons.injEq] at h ⊢
      exact ⟨ha.ev h.1, ih vs h.2⟩

def callable (P : Program) (f : FuncId) : Bool :=
  match P.funcs[f]? with
  | some fn => !(fn.name == "runtime.NumGoroutine") && fn.body.isSome
  | none => false
theorem run_call {f : FuncId} (h : callable P f = true) (args : Array Value) (w : World) : (callFunc f args).run P w = .ok (.enter f args) w := by
  unfold callable at h
  cases hf : P.funcs[f]? with
  | none => simp [hf] at h
  | some fn =>
    simp [hf] at h
    obtain ⟨h1, h2⟩ := h
    obtain ⟨c, hc⟩ := Option.isSome_iff_exists.1 h2
    simp [callFunc, hf, h1, hc]

theorem EF.call {f : FuncId} {args : Array Operand} {ats : Array TypeId} {vs : List Value} {R : Value → Hp → Prop} (hc : callable P f = true) (hv : args.toList.map (ev E) = vs.map some) (h : Ct P f vs.toArray w0 H R) :
    EF P n E w0 H ⟨dst, .call { callee := .value (.func f), args := args, argTypes := ats }, ty, pos, after, g⟩ R :=
  fun a w ha hw K Q hK => by
    have he : args.map a.eval = vs.toArray := by
      have := args_of ha args.toList vs hv
      rw [← Array.toList_map] at this
      rw [← this]
    unfold Oper.wp
    rw [execOp_call_go, he]
    simp only [Array.empty_append, Array.append_empty, run_call hc]
    rw [Oper.upon_enter]
    refine (h w hw).mono ?_
    rintro e w' ⟨v, H', rfl, hR, hw'⟩
    exact hK v H' w' hR hw'

/-- A call through a function value. -/
theorem EF.callv {f : FuncId} {fo : Operand} {caps : Array Value} {args : Array Operand} {ats : Array TypeId} {vs : List Value} {R : Value → Hp → Prop} (hc : callable P f = true) (hf : ev E fo = some (.func (.func f) #[] caps)) (hv : args.toList.map (ev E) = vs.map some) (h : Ct P f (vs.toArray ++ caps) w0 H R) :
    EF P n E w0 H ⟨dst, .call { callee := .value fo, args := args, argTypes := ats }, ty, pos, after, g⟩ R :=
  fun a w ha hw K Q hK => by
    have he : args.map a.eval = vs.toArray := by
      have := args_of ha args.toList vs hv
      rw [← Array.toList_map] at this
      rw [← this]
    unfold Oper.wp
    have hrun : (execOp a.eval ⟨dst, .call { callee := .value fo, args := args, argTypes := ats }, ty, pos, after, g⟩).run P w = .ok (.enter f (vs.toArray ++ caps)) w := by
      simp [execOp, resolve, ha.ev hf, he, Deferred.ofValue, invoke, run_call hc]
    rw [hrun, Oper.upon_enter]
    refine (h w hw).mono ?_
    rintro e w' ⟨v, H', rfl, hR, hw'⟩
    exact hK v H' w' hR hw'

/-! ## The body of a function -/
/-- What is asked where a body ends. -/
def Ends (P : Program) (fn : Func) (w0 : World) (R : Value → Hp → Prop) : Exit → Act → World → Prop :=
  bodyPost P fn fun e w' => ∃ v H', e = .returned v ∧ R v H' ∧ HS w0 H' w'

/-- The slots as a call begins. -/
def mkEnv : List Value → Nat → Env
  | [], _ => []
  | v :: r, i => (i, v) :: mkEnv r (i + 1)
theorem get_mkEnv : ∀ (l : List Value) (i k : Nat), get (mkEnv l i) k = if i ≤ k then l[k - i]? else none
  | [], i, k => by simp [mkEnv, get]
  | v :: r, i, k => by
    rw [mkEnv, get_cons, get_mkEnv r (i + 1) k]
    by_cases h : i = k
    · subst h; simp
    · rw [if_neg h]
      by_cases h' : i + 1 ≤ k
      · rw [if_pos h', if_pos (by omega), show k - i = (k - (i + 1)) + 1 by omega]; simp
      · rw [if_neg h', if_neg (by omega)]
theorem Ct.of_body {f : FuncId} {fn : Func} {c : Code} {args : Array Value} {R : Value → Hp → Prop} (hf : P.funcs[f]? = some fn) (hb : fn.body = some c) (hn : fn.ntmps = n) (hargs : Nat.ble args.toList.length n = true)
    (hE : mkEnv args.toList 0 = E)
    (h : Tr P c (Ends P fn w0 R) n E w0 H) : Ct P f args w0 H R :=
  fun w hw => by
    have hs : args.size ≤ n := by simpa using Nat.le_of_ble_eq_true hargs
    refine calls_of_wp hf hb (h _ w ⟨rfl, by simp [hn]; omega, fun k v hk => ?_⟩ hw)
    rw [← hE, get_mkEnv, if_pos (Nat.zero_le _), Nat.sub_zero] at hk
    have hk' : k < args.size := by simpa using (List.getElem?_eq_some_iff.1 hk).1
    have : args[k]? = some v := by simpa using hk
    simp only [Array.getD_eq_getD_getElem?]
    rw [Array.getElem?_append_left hk', this]; rfl
theorem Ends.tmp {fn : Func} {t : Tmp} {v : Value} {R : Value → Hp → Prop} (hr : fn.results = #[.tmp t]) (hv : get E t = some v) (h : R v H) : ∀ a w, Agree n E a → HS w0 H w → Ends P fn w0 R .ret a w :=
  fun a w ha hw => ⟨ha.defers, v, by rw [results_tmp hr, ha.get t v hv], v, H, rfl, h, hw⟩
theorem Ends.tmp2 {fn : Func} {t t' : Tmp} {v v' : Value} {R : Value → Hp → Prop} (hr : fn.results = #[.tmp t, .tmp t']) (hv : get E t = some v) (hv' : get E t' = some v') (h : R (.tuple #[v, v']) H) : ∀ a w, Agree n E a → HS w0 H w → Ends P fn w0 R .ret a w :=
  fun a w ha hw => ⟨ha.defers, _, by rw [results_tmp2 hr, ha.get t v hv, ha.get t' v' hv'], _, H, rfl, h, hw⟩
theorem Ends.noRes {fn : Func} {R : Value → Hp → Prop} (hr : fn.results = #[]) (h : R (.tuple #[]) H) : ∀ a w, Agree n E a → HS w0 H w → Ends P fn w0 R .normal a w :=
  fun a w ha hw => ⟨ha.defers, _, results_none hr _ _ _, _, H, rfl, h, hw⟩
theorem Ends.noRes_ret {fn : Func} {R : Value → Hp → Prop} (hr : fn.results = #[]) (h : R (.tuple #[]) H) : ∀ a w, Agree n E a → HS w0 H w → Ends P fn w0 R .ret a w :=
  fun a w ha hw => ⟨ha.defers, _, results_none hr _ _ _, _, H, rfl, h, hw⟩
theorem Ends.cell {fn : Func} (i : Nat) {t : Tmp} {T m b : Nat} {c : Array Value} {tt : TypeId} {fr : Nat × Nat} {R : Value → Hp → Prop} (hr : fn.results = #[.cell t T]) (hv : get E t = some (.pointer (some ⟨b, 0, none⟩))) (hs : aggOf P T = some m) (hi : H[i]? = some (b, .cells c tt fr)) (hm : c.size = m) (h : R (.agg c) H) :
    ∀ a w, Agree n E a → HS w0 H w → Ends P fn w0 R .ret a w :=
  fun a w ha hw => ⟨ha.defers, .agg c, by
    obtain ⟨h1, h2⟩ := run_isAgg_agg hs w
    have ht := ha.get t _ hv
    have hl : (loadCells ⟨b, 0, none⟩ m).run P w = .ok c w := by
      have := run_loadCells_list (P := P) w ⟨b, 0, none⟩ c.toList (fun j v hv => by
        rw [addr_add, hw.cell hi]
        simpa using hv)
      simpa [hm] using this
    have ht' : a.tmps[t]?.getD undef = .pointer (some ⟨b, 0, none⟩) := by simpa using ht
    simp [results, hr, ht', asAddr, loadVar, h1, h2, hl], .agg c, H, rfl, h, hw⟩

/-! ## Where a piece of code ends -/
/-- What is asked of exit e. -/
def Arr (Q : Exit → Act → World → Prop) (e : Exit) (n : Nat) (E : Env) (w0 : World) (H : Hp) : Prop :=
  ∀ a w, Agree n E a → HS w0 H w → Q e a w

section
variable {Q K : Exit → Act → World → Prop} {R : Act → World → Prop} {c y : Code} {id id' : Nat} {ops : Array Oper}
theorem Arr.seq (h : Tr P y Q n E w0 H) : Arr (Exit.then (y.wp P Q) K) .normal n E w0 H := h
theorem Arr.meet (h : ∀ a w, Agree n E a → HS w0 H w → R a w) : Arr (Exit.then R K) .normal n E w0 H := h
theorem Arr.seqX (h : Arr K (.exit id) n E w0 H) : Arr (Exit.then R K) (.exit id) n E w0 H := h
theorem Arr.seqR (h : Arr K .ret n E w0 H) : Arr (Exit.then R K) .ret n E w0 H := h
theorem Arr.block (h : Arr K .normal n E w0 H) : Arr (Exit.inBlock id K) .normal n E w0 H := h
theorem Arr.blockE (h : Arr K .normal n E w0 H) : Arr (Exit.inBlock id K) (.exit id) n E w0 H := fun a w ha hw => by
  have := h a w ha hw
  simpa [Exit.inBlock] using this
theorem Arr.blockX (hne : id' ≠ id) (h : Arr K (.exit id') n E w0 H) : Arr (Exit.inBlock id K) (.exit id') n E w0 H := fun a w ha hw => by
  have := h a w ha hw
  simpa [Exit.inBlock, hne] using this
theorem Arr.blockR (h : Arr K .ret n E w0 H) : Arr (Exit.inBlock id K) .ret n E w0 H := h
theorem TL.end (h : Arr Q .normal n E w0 H) : TL P ops Q [] n E w0 H := TL.nil h
theorem TD.end {fuel : Nat} {listed : Array Bool} {HR : Hp} (hr : Region.ready .any ops listed = []) (h : Arr Q .normal n E w0 H) : TD P ops Q fuel listed n E w0 HR H := TD.done hr h
theorem Tr.skipE (h : Arr Q .normal n E w0 H) : Tr P .skip Q n E w0 H := Tr.skip h
theorem Tr.exitE (h : Arr Q (.exit id) n E w0 H) : Tr P (.exit id) Q n E w0 H := Tr.exit h
theorem Tr.retE (h : Arr Q .ret n E w0 H) : Tr P .ret Q n E w0 H := Tr.ret h
/-- What is asked behind a piece is shown once, whatever comes then. -/
theorem Tr.cutN {R : Act → World → Prop} (h : Tr P c (Exit.then R Q) n E w0 H) (hr : ∀ a w, R a w → Q .normal a w) : Tr P c Q n E w0 H :=
  fun a w ha hw => wp_mono (h a w ha hw) fun e a w q => by cases e <;> first | exact hr _ _ q | exact q
theorem Arr.use {e : Exit} {a : Act} {w : World} (ha : Agree n E a) (hw : HS w0 H w) (h : Arr Q e n E w0 H) : Q e a w := h a w ha hw
theorem Tr.use {a : Act} {w : World} (ha : Agree n E a) (hw : HS w0 H w) (h : Tr P c Q n E w0 H) : c.wp P Q a w := h a w ha hw
/-- The heap's list, written out. -/
theorem TL.heap {l : List Oper} (H' : Hp) (he : H = H') (h : TL P ops Q l n E w0 H') : TL P ops Q l n E w0 H := he ▸ h
theorem TD.heap {fuel : Nat} {listed : Array Bool} {HR : Hp} (H' : Hp) (he : H = H') (h : TD P ops Q fuel listed n E w0 HR H') : TD P ops Q fuel listed n E w0 HR H := he ▸ h
theorem TL.store {l : List Oper} (i : Nat) (H' : Hp) {T b o : Nat} {x y : Operand} {c : Array Value} {t : TypeId} {v : Value} {ty : TypeId} {pos : String} {after : Array Edge} (hx : ev E x = some (.pointer (some ⟨b, o, none⟩))) (hy : ev E y = some v) (hi : H[i]? = some (b, .cells c t (0, 0)))
    (hT : (P.info? T).map (·.size) = some 1) (h1 : v.oneCell' = true) (ho : o < c.size) (hH : H.set i (b, .cells (c.setIfInBounds o v) t (0, 0)) = H') (h : TL P ops Q l n E w0 H') :
    TL P ops Q (⟨none, .store T x y, ty, pos, after, none⟩ :: l) n E w0 H :=
  TL.eff0 (EF.store i hx hy hi hT h1 ho) fun v H1 hR => by rw [hR.2, hH]; exact h
theorem TL.storeAgg {l : List Oper} (i : Nat) (H' : Hp) {T b o m : Nat} {x y : Operand} {c vs : Array Value} {t : TypeId} {ty : TypeId} {pos : String} {after : Array Edge} (hx : ev E x = some (.pointer (some ⟨b, o, none⟩))) (hy : ev E y = some (.agg vs)) (hi : H[i]? = some (b, .cells c t (0, 0)))
    (hT : (P.info? T).map (·.size) = some m) (hm : vs.size = m) (h1 : vs.toList.all Value.oneCell' = true) (ho : o + m ≤ c.size) (hH : H.set i (b, .cells (splice c o vs) t (0, 0)) = H') (h : TL P ops Q l n E w0 H') :
    TL P ops Q (⟨none, .store T x y, ty, pos, after, none⟩ :: l) n E w0 H :=
  TL.eff0 (EF.storeAgg i hx hy hi hT hm h1 ho) fun v H1 hR => by rw [hR.2, hH]; exact h
theorem TL.storeAll {l : List Oper} (i : Nat) (H' : Hp) {T b m : Nat} {x y : Operand} {c vs : Array Value} {t : TypeId} {ty : TypeId} {pos : String} {after : Array Edge} (hx : ev E x = some (.pointer (some ⟨b, 0, none⟩))) (hy : ev E y = some (.agg vs)) (hi : H[i]? = some (b, .cells c t (0, 0)))
    (hT : (P.info? T).map (·.size) = some m) (hm : vs.size = m) (hc : c.size = m) (h1 : vs.toList.all Value.oneCell' = true) (hH : H.set i (b, .cells vs t (0, 0)) = H') (h : TL P ops Q l n E w0 H') :
    TL P ops Q (⟨none, .store T x y, ty, pos, after, none⟩ :: l) n E w0 H :=
  TL.eff0 (EF.storeAgg i hx hy hi hT hm h1 (by omega)) fun v H1 hR => by rw [hR.2, splice_all c vs (by omega), hH]; exact h
theorem TL.allocA {l : List Oper} {d T : Nat} {z : Array Value} {ty : TypeId} {pos : String} {after : Array Edge} (hz : zeroOf P T = some (.agg z)) (hd : d < n) (h : ∀ b, TL P ops Q l n ((d, .pointer (some ⟨b, 0, none⟩)) :: E) w0 ((b, .cells z T (0, 0)) :: H)) :
    TL P ops Q (⟨some d, .alloc T, ty, pos, after, none⟩ :: l) n E w0 H :=
  TL.eff (EF.alloc hz) hd fun v H1 hR => by obtain ⟨b, rfl, rfl⟩ := hR; exact h b
theorem TL.alloc {l : List Oper} {d T : Nat} {z : Value} {ty : TypeId} {pos : String} {after : Array Edge} (hz : zeroOf P T = some z) (hd : d < n) (h : ∀ b, TL P ops Q l n ((d, .pointer (some ⟨b, 0, none⟩)) :: E) w0 ((b, .cells z.cells T (0, 0)) :: H)) :
    TL P ops Q (⟨some d, .alloc T, ty, pos, after, none⟩ :: l) n E w0 H :=
  TL.eff (EF.alloc hz) hd fun v H1 hR => by obtain ⟨b, rfl, rfl⟩ := hR; exact h b
theorem TL.box {l : List Oper} {d T : Nat} {x : Operand} {v : Value} {ty : TypeId} {pos : String} {after : Array Edge} (hx : ev E x = some v) (hd : d < n) (h : ∀ b, TL P ops Q l n ((d, .pointer (some ⟨b, 0, none⟩)) :: E) w0 ((b, .cells v.cells T (0, 0)) :: H)) :
    TL P ops Q (⟨some d, .box T x, ty, pos, after, none⟩ :: l) n E w0 H :=
  TL.eff (EF.box hx) hd fun v H1 hR => by obtain ⟨b, rfl, rfl⟩ := hR; exact h b
theorem TL.makeSlice {l : List Oper} {d T e bytes m : Nat} {x y : Operand} {z : Value} {k k' : IntKind} {i c : Int} {ty : TypeId} {pos : String} {after : Array Edge} (hs : sliceOf P T = some (e, 1)) (hb : (P.info? e).map (·.bytes) = some bytes) (hz : zeroOf P e = some z) (hx : ev E x = some (.int k i)) (hy : ev E y = some (.int k' c)) (hl : i = m) (hc : c = m) (hm : bytes * m ≤ 281474976710656) (hm' : m ≤ 281474976710656)
    (hz1 : z.oneCell' = true) (hd : d < n) (h : ∀ b, TL P ops Q l n ((d, .slice (some ⟨b, 0, none⟩) m m) :: E) w0 ((b, .cells (Array.replicate m z) e (0, 0)) :: H)) :
    TL P ops Q (⟨some d, .makeSlice T x y, ty, pos, after, none⟩ :: l) n E w0 H :=
  TL.eff (EF.makeSlice hs hb hx hy hl hc hm hm' hz hz1) hd fun v H1 hR => by obtain ⟨b, rfl, rfl⟩ := hR; exact h b
theorem TL.call {l : List Oper} {d : Nat} {f : FuncId} {args : Array Operand} {ats : Array TypeId} {vs : List Value} {R : Value → Hp → Prop} {ty : TypeId} {pos : String} {after : Array Edge} (hc : callable P f = true) (hv : args.toList.map (ev E) = vs.map some) (hd : d < n) (h : Ct P f vs.toArray w0 H R)
    (hn : ∀ v H', R v H' → TL P ops Q l n ((d, v) :: E) w0 H') : TL P ops Q (⟨some d, .call { callee := .value (.func f), args := args, argTypes := ats }, ty, pos, after, none⟩ :: l) n E w0 H :=
  TL.eff (EF.call hc hv h) hd hn
theorem TL.callv {l : List Oper} {d : Nat} {f : FuncId} {fo : Operand} {caps : Array Value} {args : Array Operand} {ats : Array TypeId} {vs : List Value} {R : Value → Hp → Prop} {ty : TypeId} {pos : String} {after : Array Edge} (hf : ev E fo = some (.func (.func f) #[] caps)) (hc : callable P f = true) (hv : args.toList.map (ev E) = vs.map some) (hd : d < n) (h : Ct P f (vs.toArray ++ caps) w0 H R)
    (hn : ∀ v H', R v H' → TL P ops Q l n ((d, v) :: E) w0 H') : TL P ops Q (⟨some d, .call { callee := .value fo, args := args, argTypes := ats }, ty, pos, after, none⟩ :: l) n E w0 H :=
  TL.eff (EF.callv hc hf hv h) hd hn
end
end En
end Go.Proofs.YtbcjhkncifckiaaDoor
