/- The small proof engine of this claim: what is known of a frame's slots is a list, what is known of the heap is a list of blocks; one rule for each kind of operation. No program is named here. -/
import Derived.WalkKit
import Derived.OrdersHeld
import Derived.Deep.LoopGhost
namespace Go.Proofs.YtbcjhkncifckiaaDoor
open Go Go.RowKit
namespace En

abbrev Env := List (Nat × Value)
abbrev Hp := List (Nat × Obj)

/-- What the list says of a slot. -/
def get : Env → Nat → Option Value
  | [], _ => none
  | (k, v) :: r, d => cond (Nat.beq k d) (some v) (get r d)

/-- What an operand holds. -/
def ev (E : Env) : Operand → Option Value
  | .tmp t => get E t
  | .const v => some v
  | .global g => some (.pointer (some ⟨g, 0, none⟩))
  | .func f => some (.func (.func f) #[] #[])

structure Agree (n : Nat) (E : Env) (a : Act) : Prop where
  defers : a.defers = []
  size : a.tmps.size = n
  get : ∀ k v, get E k = some v → a.tmps.getD k undef = v

theorem get_cons (k : Nat) (v : Value) (r : Env) (d : Nat) : get ((k, v) :: r) d = if k = d then some v else get r d := by
  show cond (Nat.beq k d) _ _ = _
  by_cases h : k = d
  · subst h; simp
  · rw [if_neg h]
    have : Nat.beq k d = false := by
      rw [Bool.eq_false_iff]; intro hb; exact h (Nat.eq_of_beq_eq_true hb)
    rw [this]; rfl

theorem Agree.put {n : Nat} {E : Env} {a : Act} (h : Agree n E a) {d : Nat} (hd : d < n) (v : Value) : Agree n ((d, v) :: E) (a.put (some d) v) := by
  refine ⟨h.defers, by simp [Act.put, h.size], fun k u hk => ?_⟩
  rw [get_cons] at hk
  have hs := h.size
  by_cases e : d = k
  · rw [if_pos e] at hk
    cases hk
    subst e
    simp [Act.put, Array.getD_eq_getD_getElem?, hs, hd]
  · rw [if_neg e] at hk
    have := h.get k u hk
    simpa [Act.put, Array.getD_eq_getD_getElem?, Array.getElem?_setIfInBounds_ne e] using this

theorem Agree.put_none {n : Nat} {E : Env} {a : Act} (h : Agree n E a) (v : Value) : Agree n E (a.put none v) := h

theorem Agree.ev {n : Nat} {E : Env} {a : Act} (h : Agree n E a) {x : Operand} {v : Value} (hx : En.ev E x = some v) : a.eval x = v := by
  cases x with
  | tmp t => exact h.get t v hx
  | const u => simpa [En.ev, Act.eval] using hx
  | global g => simpa [En.ev, Act.eval] using hx
  | func f => simpa [En.ev, Act.eval] using hx

/-- What is known beforehand of fewer slots. -/
theorem Agree.mono {n : Nat} {E F : Env} {a : Act} (h : Agree n E a) (hs : ∀ k v, En.get F k = some v → En.get E k = some v) : Agree n F a :=
  ⟨h.defers, h.size, fun k v hk => h.get k v (hs k v hk)⟩

theorem Agree.nil {n : Nat} {E : Env} {a : Act} (h : Agree n E a) : Agree n [] a := ⟨h.defers, h.size, fun k v hk => by cases hk⟩
theorem Agree.cons {n : Nat} {E F : Env} {a : Act} (h : Agree n E a) {k : Nat} {v : Value} (hk : En.get E k = some v) (hF : Agree n F a) : Agree n ((k, v) :: F) a :=
  ⟨h.defers, h.size, fun j u hj => by
    rw [get_cons] at hj
    by_cases e : k = j
    · rw [if_pos e] at hj; cases hj; subst e; exact h.get k v hk
    · rw [if_neg e] at hj; exact hF.get j u hj⟩

/-- The blocks of the list hold what it says; below the world that the call began in, nothing has changed. -/
structure HS (w0 : World) (H : Hp) (w : World) : Prop where
  below : Below w0.heap.size w0 w
  nodup : (H.map Prod.fst).Nodup
  mem : ∀ p ∈ H, w0.heap.size ≤ p.1 ∧ w.heap[p.1]? = some p.2

theorem HS.nil (w : World) : HS w [] w := ⟨Below.refl _ _, List.nodup_nil, fun _ h => by cases h⟩

theorem HS.at {w0 w : World} {H : Hp} (h : HS w0 H w) {i b : Nat} {o : Obj} (hi : H[i]? = some (b, o)) : w.heap[b]? = some o :=
  (h.mem (b, o) (List.mem_of_getElem? hi)).2

theorem HS.base {w0 w : World} {H : Hp} (h : HS w0 H w) {i b : Nat} {o : Obj} (hi : H[i]? = some (b, o)) : w0.heap.size ≤ b :=
  (h.mem (b, o) (List.mem_of_getElem? hi)).1

theorem HS.drew {w0 w : World} {H : Hp} (h : HS w0 H w) : HS w0 H w.drew := ⟨h.below.drew, h.nodup, h.mem⟩

theorem HS.lt {w0 w : World} {H : Hp} (h : HS w0 H w) {p : Nat × Obj} (hp : p ∈ H) : p.1 < w.heap.size := by
  have := (h.mem p hp).2
  exact (Array.getElem?_eq_some_iff.1 this).1

/-- A new block. -/
theorem HS.alloc {w0 w : World} {H : Hp} (h : HS w0 H w) (o : Obj) : HS w0 ((w.heap.size, o) :: H) (w.alloc o) := by
  refine ⟨h.below.alloc h.below.size o, ?_, fun p hp => ?_⟩
  · rw [List.map_cons, List.nodup_cons]
    refine ⟨fun hm => ?_, h.nodup⟩
    obtain ⟨p, hp, he⟩ := List.mem_map.1 hm
    have := h.lt hp
    simp only at he
    omega
  · rcases List.mem_cons.1 hp with rfl | hp
    · exact ⟨h.below.size, heap_alloc_new w o⟩
    · have := h.mem p hp
      refine ⟨this.1, ?_⟩
      rw [Below.heap_alloc w o _ (h.lt hp)]
      exact this.2

/-- Fewer blocks. -/
theorem HS.mono {w0 w : World} {H G : Hp} (h : HS w0 H w) (hs : G.Sublist H) : HS w0 G w :=
  ⟨h.below, (hs.map Prod.fst).nodup h.nodup, fun p hp => h.mem p (hs.subset hp)⟩

/-- The blocks in another order. -/
theorem HS.perm {w0 w : World} {H G : Hp} (h : HS w0 H w) (hs : G.Perm H) : HS w0 G w :=
  ⟨h.below, ((hs.map Prod.fst).nodup_iff).2 h.nodup, fun p hp => h.mem p (hs.mem_iff.1 hp)⟩

/-- Block number i of the list holds other cells now. -/
theorem HS.set {w0 w : World} {H : Hp} (h : HS w0 H w) {i b : Nat} {c : Array Value} {t : TypeId} {fr : Nat × Nat} (hi : H[i]? = some (b, .cells c t fr)) (c' : Array Value) :
    HS w0 (H.set i (b, .cells c' t fr)) (w.setRow b c') := by
  have hb := h.at hi
  have hge := h.base hi
  have hlt : i < H.length := (List.getElem?_eq_some_iff.1 hi).1
  refine ⟨?_, ?_, fun p hp => ?_⟩
  · refine h.below.trans ⟨rfl, rfl, rfl, by simp, fun k hk => ?_⟩
    exact setRow_other w b k c' (by omega)
  · have : (H.set i (b, Obj.cells c' t fr)).map Prod.fst = H.map Prod.fst := by
      apply List.ext_getElem?
      intro k
      simp only [List.getElem?_map, List.getElem?_set]
      by_cases e : i = k
      · subst e; simp [hlt]
        have := (List.getElem?_eq_some_iff.1 hi).2
        rw [this]
      · simp [e]
    rw [this]; exact h.nodup
  · obtain ⟨k, hk⟩ := List.getElem?_of_mem hp
    rw [List.getElem?_set] at hk
    by_cases e : i = k
    · subst e
      simp [hlt] at hk
      subst hk
      exact ⟨hge, setRow_heap w b c c' t fr hb⟩
    · simp only [if_neg e] at hk
      have hm := h.mem p (List.mem_of_getElem? hk)
      refine ⟨hm.1, ?_⟩
      rw [setRow_other]
      · exact hm.2
      · intro hpb
        have hkl := (List.getElem?_eq_some_iff.1 hk).1
        have hnd := List.pairwise_iff_getElem.1 h.nodup
        have e1 : H[i]'hlt = (b, .cells c t fr) := (List.getElem?_eq_some_iff.1 hi).2
        have e2 : H[k]'hkl = p := (List.getElem?_eq_some_iff.1 hk).2
        rcases Nat.lt_or_gt_of_ne e with hlt' | hlt'
        · refine hnd i k (by simpa using hlt) (by simpa using hkl) hlt' ?_
          simp [e1, e2, hpb]
        · refine hnd k i (by simpa using hkl) (by simpa using hlt) hlt' ?_
          simp [e1, e2, hpb]

/-! ## The yields of operations -/
section
variable {P : Program} {n : Nat} {E : Env} {w0 : World} {H : Hp}

/-- The operation yields v and leaves the world alone. -/
def YF (P : Program) (n : Nat) (E : Env) (w0 : World) (H : Hp) (o : Oper) (v : Value) : Prop :=
  ∀ a w, Agree n E a → HS w0 H w → (execOp a.eval o).run P w = .ok (.value v) w

/-- The operation yields some v and leaves a heap, as R says. -/
def EF (P : Program) (n : Nat) (E : Env) (w0 : World) (H : Hp) (o : Oper) (R : Value → Hp → Prop) : Prop :=
  ∀ a w, Agree n E a → HS w0 H w → ∀ (K : Act → World → Prop) (Q : Exit → Act → World → Prop),
    (∀ v H' w', R v H' → HS w0 H' w' → K (a.put o.dst v) w') → o.wp P a w K Q

theorem YF.ef {o : Oper} {v : Value} (h : YF P n E w0 H o v) : EF P n E w0 H o (fun u H' => u = v ∧ H' = H) := by
  intro a w ha hw K Q hK
  unfold Oper.wp
  rw [h a w ha hw]
  exact hK v H w ⟨rfl, rfl⟩ hw

theorem YF.mono {o : Oper} {v : Value} {H' : Hp} (h : YF P n E w0 H o v) (hs : H.Sublist H') : YF P n E w0 H' o v :=
  fun a w ha hw => h a w ha (hw.mono hs)

/-! ## Code, lists of operations, regions that draw -/
def Tr (P : Program) (c : Code) (Q : Exit → Act → World → Prop) (n : Nat) (E : Env) (w0 : World) (H : Hp) : Prop :=
  ∀ a w, Agree n E a → HS w0 H w → c.wp P Q a w

def TL (P : Program) (ops : Array Oper) (Q : Exit → Act → World → Prop) (l : List Oper) (n : Nat) (E : Env) (w0 : World) (H : Hp) : Prop :=
  ∀ a w, Agree n E a → HS w0 H w → wpList P ops Q l a w

def TD (P : Program) (ops : Array Oper) (Q : Exit → Act → World → Prop) (fuel : Nat) (listed : Array Bool) (n : Nat) (E : Env) (w0 : World) (HR H : Hp) : Prop :=
  ∀ a w, Agree n E a → HS w0 H w → wpAnyH P .any ops Q (HS w0 HR) fuel listed a w

variable {Q : Exit → Act → World → Prop} {ops : Array Oper} {l : List Oper} {c x y : Code}

theorem Tr.seq (h : Tr P x (Exit.then (y.wp P Q) Q) n E w0 H) : Tr P (.seq x y) Q n E w0 H :=
  fun a w ha hw => wp_seq (h a w ha hw)

theorem Tr.skip (h : ∀ a w, Agree n E a → HS w0 H w → Q .normal a w) : Tr P .skip Q n E w0 H :=
  fun a w ha hw => wp_skip (h a w ha hw)

theorem Tr.skip_then {K : Exit → Act → World → Prop} (h : Tr P y Q n E w0 H) : Tr P .skip (Exit.then (y.wp P Q) K) n E w0 H :=
  fun a w ha hw => wp_skip (h a w ha hw)

theorem Tr.exit {id : Nat} (h : ∀ a w, Agree n E a → HS w0 H w → Q (.exit id) a w) : Tr P (.exit id) Q n E w0 H :=
  fun a w ha hw => wp_exit (h a w ha hw)

theorem Tr.ret (h : ∀ a w, Agree n E a → HS w0 H w → Q .ret a w) : Tr P .ret Q n E w0 H :=
  fun a w ha hw => wp_ret (h a w ha hw)

theorem Tr.block {id : Nat} (h : Tr P c (Exit.inBlock id Q) n E w0 H) : Tr P (.block id c) Q n E w0 H :=
  fun a w ha hw => wp_block (h a w ha hw)

theorem Tr.condT {z : Operand} (hz : ev E z = some (.bool true)) (h : Tr P x Q n E w0 H) : Tr P (.cond z x y) Q n E w0 H :=
  fun a w ha hw => wp_cond_true (ha.ev hz) (h a w ha hw)

theorem Tr.condF {z : Operand} (hz : ev E z = some (.bool false)) (h : Tr P y Q n E w0 H) : Tr P (.cond z x y) Q n E w0 H :=
  fun a w ha hw => wp_cond_false (ha.ev hz) (h a w ha hw)

theorem Tr.cond {z : Operand} {t : Bool} (hz : ev E z = some (.bool t)) (hx : t = true → Tr P x Q n E w0 H) (hy : t = false → Tr P y Q n E w0 H) : Tr P (.cond z x y) Q n E w0 H :=
  fun a w ha hw => wp_cond_split (ha.ev hz) (fun h => hx h a w ha hw) (fun h => hy h a w ha hw)

theorem Tr.region {id : Nat} (h : TL P l.toArray Q l n E w0 H) : Tr P (.region id l.toArray false) Q n E w0 H :=
  fun a w ha hw => wp_region_lit (h a w ha hw)

/-- What is asked behind a piece is shown once, and what follows goes from there. -/
theorem Tr.cut {R : Act → World → Prop} (h : Tr P x (Exit.then R Q) n E w0 H) (hr : ∀ a w, R a w → y.wp P Q a w) : Tr P (.seq x y) Q n E w0 H :=
  fun a w ha hw => wp_seq (wp_mono (h a w ha hw) fun e a w q => by cases e <;> first | exact hr _ _ q | exact q)

theorem Tr.mono {Q' : Exit → Act → World → Prop} (h : Tr P c Q n E w0 H) (hq : ∀ e a w, Q e a w → Q' e a w) : Tr P c Q' n E w0 H :=
  fun a w ha hw => wp_mono (h a w ha hw) hq

theorem Tr.loop {I : Nat → Act → World → Prop} (k₀ : Nat) (h₀ : ∀ a w, Agree n E a → HS w0 H w → I k₀ a w)
    (round : ∀ k a w, I k a w → c.wp P (Exit.then (fun a' w' => ∃ k', k' < k ∧ I k' a' w') Q) a w) : Tr P (.loop c) Q n E w0 H :=
  fun a w ha hw => wp_loop_ghost I k₀ (h₀ a w ha hw) round

theorem TL.nil (h : ∀ a w, Agree n E a → HS w0 H w → Q .normal a w) : TL P ops Q [] n E w0 H :=
  fun a w ha hw => wpList_nil (h a w ha hw)

theorem TL.nil_then {K : Exit → Act → World → Prop} (h : Tr P y Q n E w0 H) : TL P ops (Exit.then (y.wp P Q) K) [] n E w0 H :=
  fun a w ha hw => wpList_nil (h a w ha hw)

theorem TL.val {d : Nat} {op : Op} {ty : TypeId} {pos : String} {after : Array Edge} {v : Value} (hy : YF P n E w0 H ⟨some d, op, ty, pos, after, none⟩ v) (hd : d < n)
    (h : TL P ops Q l n ((d, v) :: E) w0 H) : TL P ops Q (⟨some d, op, ty, pos, after, none⟩ :: l) n E w0 H :=
  fun a w ha hw => wpList_plain rfl fun K hK => by
    unfold Oper.wp
    rw [hy a w ha hw]
    exact hK _ _ (h _ _ (ha.put hd v) hw)

theorem TL.eff {d : Nat} {op : Op} {ty : TypeId} {pos : String} {after : Array Edge} {R : Value → Hp → Prop} (hy : EF P n E w0 H ⟨some d, op, ty, pos, after, none⟩ R) (hd : d < n)
    (h : ∀ v H', R v H' → TL P ops Q l n ((d, v) :: E) w0 H') : TL P ops Q (⟨some d, op, ty, pos, after, none⟩ :: l) n E w0 H :=
  fun a w ha hw => wpList_plain rfl fun K hK => hy a w ha hw K Q fun v H' w' hR hw' => hK _ _ (h v H' hR _ _ (ha.put hd v) hw')

theorem TL.eff0 {op : Op} {ty : TypeId} {pos : String} {after : Array Edge} {R : Value → Hp → Prop} (hy : EF P n E w0 H ⟨none, op, ty, pos, after, none⟩ R)
    (h : ∀ v H', R v H' → TL P ops Q l n E w0 H') : TL P ops Q (⟨none, op, ty, pos, after, none⟩ :: l) n E w0 H :=
  fun a w ha hw => wpList_plain rfl fun K hK => hy a w ha hw K Q fun v H' w' hR hw' => hK _ _ (h v H' hR _ _ ha hw')

/-- What a guard asks, by the list. -/
def wants (ops : Array Oper) (E : Env) : Nat × Bool → Option Bool
  | (j, want) => match (ops[j]?).bind (·.dst) with
    | some t => match get E t with
      | some (.bool b) => some (b == want)
      | _ => none
    | none => none

theorem wanted_of {o : Oper} {g : Nat × Bool} {b : Bool} {a : Act} (ha : Agree n E a) (hg : o.guard = some g) (h : wants ops E g = some b) : Region.wanted o (yielded ops a.tmps) = b := by
  obtain ⟨j, want⟩ := g
  unfold wants at h
  simp only at h
  unfold Region.wanted yielded
  rw [hg]
  simp only
  cases ht : (ops[j]?).bind (·.dst) with
  | none => rw [ht] at h; cases h
  | some t =>
    rw [ht] at h
    simp only at h
    cases hv : get E t with
    | none => rw [hv] at h; cases h
    | some v =>
      rw [hv] at h
      have he := ha.get t v hv
      cases v <;> simp only at h <;> first | (cases h; done) | skip
      case bool c =>
        cases h
        have ht' : a.tmps[t]? = some (.bool c) := by
          rw [Array.getD_eq_getD_getElem?] at he
          cases hq : a.tmps[t]? with
          | none => rw [hq] at he; simp [undef] at he
          | some u => rw [hq] at he; simpa using he
        simp [ht']

theorem TL.gval {d : Nat} {op : Op} {ty : TypeId} {pos : String} {after : Array Edge} {g : Nat × Bool} {v : Value} (hw : wants ops E g = some true)
    (hy : YF P n E w0 H ⟨some d, op, ty, pos, after, some g⟩ v) (hd : d < n)
    (h : TL P ops Q l n ((d, v) :: E) w0 H) : TL P ops Q (⟨some d, op, ty, pos, after, some g⟩ :: l) n E w0 H :=
  fun a w ha hh => wpList_step fun K hK => by
    rw [if_pos (wanted_of ha rfl hw)]
    unfold Oper.wp
    rw [hy a w ha hh]
    exact hK _ _ (h _ _ (ha.put hd v) hh)

theorem TL.geff {d : Nat} {op : Op} {ty : TypeId} {pos : String} {after : Array Edge} {g : Nat × Bool} {R : Value → Hp → Prop} (hw : wants ops E g = some true)
    (hy : EF P n E w0 H ⟨some d, op, ty, pos, after, some g⟩ R) (hd : d < n)
    (h : ∀ v H', R v H' → TL P ops Q l n ((d, v) :: E) w0 H') : TL P ops Q (⟨some d, op, ty, pos, after, some g⟩ :: l) n E w0 H :=
  fun a w ha hh => wpList_step fun K hK => by
    rw [if_pos (wanted_of ha rfl hw)]
    exact hy a w ha hh K Q fun v H' w' hR hw' => hK _ _ (h v H' hR _ _ (ha.put hd v) hw')

theorem TL.gno {d : Nat} {op : Op} {ty : TypeId} {pos : String} {after : Array Edge} {g : Nat × Bool} (hw : wants ops E g = some false) (hd : d < n)
    (h : TL P ops Q l n ((d, undef) :: E) w0 H) : TL P ops Q (⟨some d, op, ty, pos, after, some g⟩ :: l) n E w0 H :=
  fun a w ha hh => wpList_step fun K hK => by
    rw [if_neg (by rw [wanted_of ha rfl hw]; simp)]
    exact hK _ _ (h _ _ (ha.put hd _) hh)

/-! ### Regions that draw their order -/
theorem Tr.draw {id : Nat} (HR : Hp) (hm : P.follows .mixedOrders = true) (h : TD P ops Q ops.size (Array.replicate ops.size false) n E w0 HR H) : Tr P (.region id ops true) Q n E w0 H :=
  fun a w ha hw => wp_region_held (S := HS w0 HR) hm (h a _ ha hw.drew)

/-- The blocks that are held are told by a function of the list. -/
theorem Tr.drawE {id : Nat} (HR : Hp) (f : Hp → Hp) (_he : f H = HR) (hm : P.follows .mixedOrders = true) (h : TD P ops Q ops.size (Array.replicate ops.size false) n E w0 HR H) : Tr P (.region id ops true) Q n E w0 H :=
  Tr.draw HR hm h

theorem TD.done {fuel : Nat} {listed : Array Bool} {HR : Hp} (hr : Region.ready .any ops listed = []) (h : ∀ a w, Agree n E a → HS w0 H w → Q .normal a w) : TD P ops Q fuel listed n E w0 HR H :=
  fun a w ha hw => wpAnyH_done hr (h a w ha hw) fuel

theorem TD.done_then {fuel : Nat} {listed : Array Bool} {HR : Hp} {K : Exit → Act → World → Prop} (hr : Region.ready .any ops listed = []) (h : Tr P y Q n E w0 H) : TD P ops (Exit.then (y.wp P Q) K) fuel listed n E w0 HR H :=
  fun a w ha hw => wpAnyH_done hr (h a w ha hw) fuel

theorem TD.take {fuel : Nat} {listed : Array Bool} {HR : Hp} (i : Nat) {d : Nat} {op : Op} {ty : TypeId} {pos : String} {after : Array Edge} {v : Value}
    (ho : ops[i]? = some ⟨some d, op, ty, pos, after, none⟩) (hns : Region.noSelect ops = true) (hf : Region.free .any ops listed i = true) (hr : (Region.ready .any ops listed).contains i = true)
    (hQ : ∀ c a w, Q (.panic c) (Act.put a (some d) v) w → Q (.panic c) a w) (hsub : HR.Sublist H) (hy : YF P n E w0 HR ⟨some d, op, ty, pos, after, none⟩ v) (hd : d < n)
    (h : TD P ops Q fuel (listed.setIfInBounds i true) n ((d, v) :: E) w0 HR H) : TD P ops Q (fuel + 1) listed n E w0 HR H :=
  fun a w ha hw => wpAnyH_take ho hns hf hr hQ (.inl ⟨rfl, fun w' hw' => hy a w' ha hw'⟩) (hw.mono hsub) (h _ _ (ha.put hd v) hw)

theorem TD.gtake {fuel : Nat} {listed : Array Bool} {HR : Hp} (i : Nat) {d : Nat} {op : Op} {ty : TypeId} {pos : String} {after : Array Edge} {g : Nat × Bool} {v : Value}
    (ho : ops[i]? = some ⟨some d, op, ty, pos, after, some g⟩) (hns : Region.noSelect ops = true) (hf : Region.free .any ops listed i = true) (hr : (Region.ready .any ops listed).contains i = true)
    (hQ : ∀ c a w, Q (.panic c) (Act.put a (some d) v) w → Q (.panic c) a w) (hsub : HR.Sublist H) (hg : wants ops E g = some true) (hy : YF P n E w0 HR ⟨some d, op, ty, pos, after, some g⟩ v) (hd : d < n)
    (h : TD P ops Q fuel (listed.setIfInBounds i true) n ((d, v) :: E) w0 HR H) : TD P ops Q (fuel + 1) listed n E w0 HR H :=
  fun a w ha hw => wpAnyH_take ho hns hf hr hQ (.inl ⟨wanted_of ha rfl hg, fun w' hw' => hy a w' ha hw'⟩) (hw.mono hsub) (h _ _ (ha.put hd v) hw)

theorem TD.gno {fuel : Nat} {listed : Array Bool} {HR : Hp} (i : Nat) {d : Nat} {op : Op} {ty : TypeId} {pos : String} {after : Array Edge} {g : Nat × Bool}
    (ho : ops[i]? = some ⟨some d, op, ty, pos, after, some g⟩) (hns : Region.noSelect ops = true) (hf : Region.free .any ops listed i = true) (hr : (Region.ready .any ops listed).contains i = true)
    (hQ : ∀ c a w, Q (.panic c) (Act.put a (some d) undef) w → Q (.panic c) a w) (hsub : HR.Sublist H) (hg : wants ops E g = some false) (hd : d < n)
    (h : TD P ops Q fuel (listed.setIfInBounds i true) n ((d, undef) :: E) w0 HR H) : TD P ops Q (fuel + 1) listed n E w0 HR H :=
  fun a w ha hw => wpAnyH_take ho hns hf hr hQ (.inr ⟨wanted_of ha rfl hg, rfl⟩) (hw.mono hsub) (h _ _ (ha.put hd _) hw)

/-- Operation i alone may come up now; it is carried out. -/
theorem TD.eff {fuel : Nat} {listed : Array Bool} {HR : Hp} (i : Nat) {d : Nat} {op : Op} {ty : TypeId} {pos : String} {after : Array Edge} {R : Value → Hp → Prop}
    (ho : ops[i]? = some ⟨some d, op, ty, pos, after, none⟩) (hr : Region.ready .any ops listed = [i]) (hy : EF P n E w0 H ⟨some d, op, ty, pos, after, none⟩ R) (hd : d < n)
    (hsub : ∀ v H', R v H' → HR.Sublist H')
    (h : ∀ v H', R v H' → TD P ops Q fuel (listed.setIfInBounds i true) n ((d, v) :: E) w0 HR H') : TD P ops Q (fuel + 1) listed n E w0 HR H := by
  intro a w ha hw
  refine wpAnyH_all hr (by simp) fun j hj => ?_
  rw [List.mem_singleton] at hj
  subst hj
  unfold wpOp
  rw [ho]
  simp only [Region.wanted, if_true]
  refine .inl (hy a w ha hw _ Q fun v H' w' hR hw' => ⟨hw'.mono (hsub v H' hR), h v H' hR _ _ (ha.put hd v) hw'⟩)

theorem TD.eff0 {fuel : Nat} {listed : Array Bool} {HR : Hp} (i : Nat) {op : Op} {ty : TypeId} {pos : String} {after : Array Edge} {R : Value → Hp → Prop}
    (ho : ops[i]? = some ⟨none, op, ty, pos, after, none⟩) (hr : Region.ready .any ops listed = [i]) (hy : EF P n E w0 H ⟨none, op, ty, pos, after, none⟩ R)
    (hsub : ∀ v H', R v H' → HR.Sublist H')
    (h : ∀ v H', R v H' → TD P ops Q fuel (listed.setIfInBounds i true) n E w0 HR H') : TD P ops Q (fuel + 1) listed n E w0 HR H := by
  intro a w ha hw
  refine wpAnyH_all hr (by simp) fun j hj => ?_
  rw [List.mem_singleton] at hj
  subst hj
  unfold wpOp
  rw [ho]
  simp only [Region.wanted, if_true]
  refine .inl (hy a w ha hw _ Q fun v H' w' hR hw' => ⟨hw'.mono (hsub v H' hR), h v H' hR _ _ ha hw'⟩)

/-- Operation i is carried out now. -/
def TO (P : Program) (ops : Array Oper) (Q : Exit → Act → World → Prop) (fuel : Nat) (listed : Array Bool) (n : Nat) (E : Env) (w0 : World) (HR H : Hp) (i : Nat) : Prop :=
  ∀ a w, Agree n E a → HS w0 H w → wpOp P ops Q i (fun a' w' => HS w0 HR w' ∧ wpAnyH P .any ops Q (HS w0 HR) fuel (listed.setIfInBounds i true) a' w') a w
theorem TD.two {fuel : Nat} {listed : Array Bool} {HR : Hp} (i j : Nat) (hr : Region.ready .any ops listed = [i, j]) (hi : TO P ops Q fuel listed n E w0 HR H i) (hj : TO P ops Q fuel listed n E w0 HR H j) : TD P ops Q (fuel + 1) listed n E w0 HR H := by
  intro a w ha hw
  refine wpAnyH_all hr (by simp) fun k hk => ?_
  rcases List.mem_cons.1 hk with rfl | hk
  · exact hi a w ha hw
  · rcases List.mem_cons.1 hk with rfl | hk
    · exact hj a w ha hw
    · cases hk
theorem TD.three {fuel : Nat} {listed : Array Bool} {HR : Hp} (i j k : Nat) (hr : Region.ready .any ops listed = [i, j, k]) (hi : TO P ops Q fuel listed n E w0 HR H i) (hj : TO P ops Q fuel listed n E w0 HR H j) (hk : TO P ops Q fuel listed n E w0 HR H k) : TD P ops Q (fuel + 1) listed n E w0 HR H := by
  intro a w ha hw
  refine wpAnyH_all hr (by simp) fun m hm => ?_
  rcases List.mem_cons.1 hm with rfl | hm
  · exact hi a w ha hw
  · rcases List.mem_cons.1 hm with rfl | hm
    · exact hj a w ha hw
    · rcases List.mem_cons.1 hm with rfl | hm
      · exact hk a w ha hw
      · cases hm
theorem TO.eff {fuel : Nat} {listed : Array Bool} {HR : Hp} (i : Nat) {d : Nat} {op : Op} {ty : TypeId} {pos : String} {after : Array Edge} {R : Value → Hp → Prop}
    (ho : ops[i]? = some ⟨some d, op, ty, pos, after, none⟩) (hy : EF P n E w0 H ⟨some d, op, ty, pos, after, none⟩ R) (hd : d < n)
    (hsub : ∀ v H', R v H' → HR.Sublist H')
    (h : ∀ v H', R v H' → TD P ops Q fuel (listed.setIfInBounds i true) n ((d, v) :: E) w0 HR H') : TO P ops Q fuel listed n E w0 HR H i := by
  intro a w ha hw
  unfold wpOp
  rw [ho]
  simp only [Region.wanted, if_true]
  refine .inl (hy a w ha hw _ Q fun v H' w' hR hw' => ⟨hw'.mono (hsub v H' hR), h v H' hR _ _ (ha.put hd v) hw'⟩)
theorem TO.eff0 {fuel : Nat} {listed : Array Bool} {HR : Hp} (i : Nat) {op : Op} {ty : TypeId} {pos : String} {after : Array Edge} {R : Value → Hp → Prop}
    (ho : ops[i]? = some ⟨none, op, ty, pos, after, none⟩) (hy : EF P n E w0 H ⟨none, op, ty, pos, after, none⟩ R)
    (hsub : ∀ v H', R v H' → HR.Sublist H')
    (h : ∀ v H', R v H' → TD P ops Q fuel (listed.setIfInBounds i true) n E w0 HR H') : TO P ops Q fuel listed n E w0 HR H i := by
  intro a w ha hw
  unfold wpOp
  rw [ho]
  simp only [Region.wanted, if_true]
  refine .inl (hy a w ha hw _ Q fun v H' w' hR hw' => ⟨hw'.mono (hsub v H' hR), h v H' hR _ _ ha hw'⟩)

/-- From here on other blocks are known to stay as they are. -/
theorem wpAnyH_mono {P : Program} {md : Region.Mode} {ops : Array Oper} {Q : Exit → Act → World → Prop} {S S' : World → Prop} (hs : ∀ w, S' w → S w) : ∀ (fuel : Nat) (listed : Array Bool) (a : Act) (w : World),
    wpAnyH P md ops Q S' fuel listed a w → wpAnyH P md ops Q S fuel listed a w
  | 0, _, _, _, h => h
  | fuel + 1, _, _, _, h => ⟨h.1, fun i hi => wpOp_mono (fun a' w' h' => ⟨hs w' h'.1, wpAnyH_mono hs fuel _ a' w' h'.2⟩) (h.2 i hi)⟩

theorem TD.keep {fuel : Nat} {listed : Array Bool} {HR : Hp} (HR' : Hp) (hs : HR.Sublist HR') (h : TD P ops Q fuel listed n E w0 HR' H) : TD P ops Q fuel listed n E w0 HR H :=
  fun a w ha hw => wpAnyH_mono (fun _ hw' => hw'.mono hs) _ _ _ _ (h a w ha hw)

/-! ### Calls -/
/-- The contract of a call: what it yields and what heap it leaves. -/
def Ct (P : Program) (f : FuncId) (args : Array Value) (w0 : World) (H : Hp) (R : Value → Hp → Prop) : Prop :=
  ∀ w, HS w0 H w → Calls P f args w fun e w' => ∃ v H', e = .returned v ∧ R v H' ∧ HS w0 H' w'

theorem Ct.mono {f : FuncId} {args : Array Value} {R R' : Value → Hp → Prop} (h : Ct P f args w0 H R) (hr : ∀ v H', R v H' → R' v H') : Ct P f args w0 H R' :=
  fun w hw => (h w hw).mono fun _ _ ⟨v, H', he, hR, hw'⟩ => ⟨v, H', he, hr v H' hR, hw'⟩

theorem EF.mono {o : Oper} {R R' : Value → Hp → Prop} (h : EF P n E w0 H o R) (hr : ∀ v H', R v H' → R' v H') : EF P n E w0 H o R' :=
  fun a w ha hw K Q hK => h a w ha hw K Q fun v H' w' hR hw' => hK v H' w' (hr v H' hR) hw'

end
end En
end Go.Proofs.YtbcjhkncifckiaaDoor
