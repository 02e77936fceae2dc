/- Rows of cells told by a function, and what is kept of the numbers of a frame while it is made. No program is named here. -/
import Derived.Test.YtbcjhkncifckiaaDoorOps2
namespace Go.Proofs.YtbcjhkncifckiaaDoor
open Go Go.RowKit Go.Proofs En
set_option maxRecDepth 100000

/-- n cells, told by a function. -/
def va (n : Nat) (f : Nat → Value) : Array Value := ((List.range n).map f).toArray
theorem va_size (n : Nat) (f : Nat → Value) : (va n f).size = n := by simp [va]
theorem va_get? (n : Nat) (f : Nat → Value) (k : Nat) : (va n f)[k]? = if k < n then some (f k) else none := by
  by_cases h : k < n
  · rw [if_pos h]; simp [va, h]
  · rw [if_neg h]; simp [va]; omega
theorem va_get {n : Nat} {f : Nat → Value} {k : Nat} {v : Value} (h : k < n) (hv : f k = v) : (va n f)[k]? = some v := by
  rw [va_get?, if_pos h, hv]
theorem va_ext {n m : Nat} {f g : Nat → Value} (hn : n = m) (h : ∀ k, k < n → f k = g k) : va n f = va m g := by
  subst hn
  apply Array.ext_getElem?
  intro k
  rw [va_get?, va_get?]
  by_cases hk : k < n
  · rw [if_pos hk, if_pos hk, h k hk]
  · rw [if_neg hk, if_neg hk]
theorem va_of (c : Array Value) : c = va c.size (fun k => c.getD k undef) := by
  apply Array.ext_getElem?
  intro k
  rw [va_get?]
  by_cases h : k < c.size
  · rw [if_pos h]; simp [h]
  · rw [if_neg h]; simp; omega
theorem va_set {n : Nat} {f : Nat → Value} {k : Nat} {v : Value} : (va n f).setIfInBounds k v = va n (fun j => if j = k then v else f j) := by
  apply Array.ext_getElem?
  intro j
  rw [Array.getElem?_setIfInBounds, va_get?, va_get?, va_size]
  by_cases h : k = j
  · subst h
    by_cases h' : k < n <;> simp [h']
  · rw [if_neg h, if_neg (Ne.symm h)]
theorem va_extract {n a b : Nat} {f : Nat → Value} (hb : b ≤ n) : (va n f).extract a b = va (b - a) (fun j => f (a + j)) := by
  apply Array.ext_getElem?
  intro j
  rw [Array.getElem?_extract, va_get?, va_get?, va_size]
  by_cases h : j < b - a
  · rw [if_pos h, if_pos (by omega), if_pos (by omega)]
  · rw [if_neg h, if_neg (by omega)]
theorem va_splice {n o m : Nat} {f g : Nat → Value} (h : o + m ≤ n) : splice (va n f) o (va m g) = va n (fun j => if o ≤ j ∧ j < o + m then g (j - o) else f j) := by
  apply Array.ext_getElem?
  intro j
  rw [splice_get _ _ _ (by rw [va_size, va_size]; omega), va_get?, va_get?, va_get?, va_size]
  by_cases h1 : o ≤ j ∧ j < o + m
  · rw [if_pos h1, if_pos (by omega), if_pos (by omega), if_pos h1]
  · rw [if_neg h1]
    by_cases h2 : j < n
    · rw [if_pos h2, if_pos h2, if_neg h1]
    · rw [if_neg h2, if_neg h2]
theorem va_one {n : Nat} {f : Nat → Value} (h : ∀ k, k < n → (f k).oneCell' = true) : (va n f).toList.all Value.oneCell' = true := by
  rw [List.all_eq_true]
  intro v hv
  obtain ⟨k, hk, rfl⟩ := List.mem_map.1 (show v ∈ (List.range n).map f by simpa [va] using hv)
  exact h k (List.mem_range.1 hk)
theorem va_mem {n : Nat} {f : Nat → Value} (h : ∀ k, k < n → (f k).oneCell' = true) : ∀ u ∈ (va n f).toList, u.oneCell' = true := by
  have := va_one h
  rwa [List.all_eq_true] at this
theorem va_replicate (n : Nat) (z : Value) : Array.replicate n z = va n (fun _ => z) := by
  apply Array.ext_getElem?
  intro j
  rw [va_get?, Array.getElem?_replicate]
attribute [irreducible] va

/-- A cell changed. -/
def upd {α : Type} (x : Nat → α) (q : Nat) (v : α) : Nat → α := fun j => if j = q then v else x j
theorem upd_at {α : Type} (x : Nat → α) (q : Nat) (v : α) : upd x q v q = v := by simp [upd]
theorem upd_ne {α : Type} (x : Nat → α) {q j : Nat} (v : α) (h : j ≠ q) : upd x q v j = x j := by simp [upd, h]

/-- The cells of a frame: 337 numbers and four slices. -/
def fr (x : Nat → Int) (y : Nat → Value) : Nat → Value := fun q => if q < 337 then .int .i64 (x q) else y (q - 337)
/-- The cells of side information. -/
def sd (x : Nat → Int) : Nat → Value := fun q => .int .i64 (x q)
/-- The cells of main data. -/
def mn (x : Nat → Int) (y : Nat → Value) : Nat → Value := fun q => if q < 244 then .int .i64 (x q) else y (q - 244)

theorem fr_int {x : Nat → Int} {y : Nat → Value} {q : Nat} (h : q < 337) : (va 341 (fr x y))[q]? = some (.int .i64 (x q)) :=
  va_get (by omega) (by simp [fr, h])
theorem sd_int {x : Nat → Int} {q : Nat} (h : q < 86) : (va 86 (sd x))[q]? = some (.int .i64 (x q)) := va_get h rfl
theorem fr_head {x : Nat → Int} {y : Nat → Value} : (va 341 (fr x y)).extract 0 (0 + 7) = va 7 (sd x) := by
  rw [va_extract (by omega)]
  exact va_ext rfl fun k hk => by simp [fr, sd]; omega
theorem fr_side {x : Nat → Int} {y : Nat → Value} : (va 341 (fr x y)).extract 7 (7 + 86) = va 86 (sd fun q => x (7 + q)) := by
  rw [va_extract (by omega)]
  exact va_ext rfl fun k hk => by simp [fr, sd]; omega
theorem fr_main {x : Nat → Int} {y : Nat → Value} : (va 341 (fr x y)).extract 93 (93 + 248) = va 248 (mn (fun q => x (93 + q)) y) := by
  rw [va_extract (by omega)]
  refine va_ext rfl fun k hk => ?_
  simp only [fr, mn]
  by_cases h : k < 244
  · rw [if_pos (by omega), if_pos h]
  · rw [if_neg (by omega), if_neg h, show 93 + k - 337 = k - 244 by omega]

/-- Floats. -/
def fl (k : FloatKind) (x : Nat → Nat) : Nat → Value := fun q => .float k (x q)
theorem fl_set {n : Nat} {k : FloatKind} {x : Nat → Nat} {q r : Nat} : (va n (fl k x)).setIfInBounds q (.float k r) = va n (fl k (upd x q r)) := by
  rw [va_set]
  refine va_ext rfl fun j _ => ?_
  unfold fl upd
  by_cases e : j = q
  · rw [if_pos e, if_pos e]
  · rw [if_neg e, if_neg e]
/-- Bytes that are read. -/
def I8s (w : World) (ad : Option Addr) (n : Nat) : Prop := n = 0 ∨ ∃ b o, ad = some ⟨b, o, none⟩ ∧ ∀ q, q < n → ∃ z, w.cell? ⟨b, o + q, none⟩ = some (.int .i8 z) ∧ -128 ≤ z ∧ z ≤ 127
/-- Words that are read. -/
def U32s (w : World) (ad : Option Addr) (n : Nat) : Prop := n = 0 ∨ ∃ b o, ad = some ⟨b, o, none⟩ ∧ ∀ q, q < n → ∃ z, w.cell? ⟨b, o + q, none⟩ = some (.int .u32 z) ∧ 0 ≤ z ∧ z ≤ 4294967295
/-- A number of a table. -/
def intsIn (cs : Array Value) (lo hi : Int) : Bool := cs.toList.all fun v => match v with | .int .i64 x => decide (lo ≤ x) && decide (x ≤ hi) | _ => false
theorem ints_get {cs : Array Value} (lo hi : Int) (h : intsIn cs lo hi = true) (i : Nat) (hi' : i < cs.size) : ∃ x, cs[i]? = some (.int .i64 x) ∧ lo ≤ x ∧ x ≤ hi := by
  unfold intsIn at h
  rw [List.all_eq_true] at h
  have hm : cs[i] ∈ cs.toList := by simp
  have := h _ hm
  rw [Array.getElem?_eq_getElem hi']
  generalize cs[i] = v at this
  split at this
  · rename_i x
    rw [Bool.and_eq_true, decide_eq_true_iff, decide_eq_true_iff] at this
    exact ⟨x, rfl, this⟩
  · cases this

/-- Seven numbers. -/
def seven (a b c d e f g : Int) : Nat → Int := fun q => match q with | 0 => a | 1 => b | 2 => c | 3 => d | 4 => e | 5 => f | _ => g
theorem va_seven (a b c d e f g : Int) : (#[.int .i64 a, .int .i64 b, .int .i64 c, .int .i64 d, .int .i64 e, .int .i64 f, .int .i64 g] : Array Value) = va 7 (sd (seven a b c d e f g)) := by
  unfold va; rfl
theorem pow_small (a : Int) (h : 0 ≤ a ∧ a ≤ 4) : ∃ m, IntKind.i64.wrap (1 * 2 ^ (min a.toNat IntKind.i64.bits)) = m ∧ 1 ≤ m ∧ m ≤ 16 := by
  rcases (show a = 0 ∨ a = 1 ∨ a = 2 ∨ a = 3 ∨ a = 4 by omega) with rfl | rfl | rfl | rfl | rfl
  · exact ⟨1, by decide, by decide, by decide⟩
  · exact ⟨2, by decide, by decide, by decide⟩
  · exact ⟨4, by decide, by decide, by decide⟩
  · exact ⟨8, by decide, by decide, by decide⟩
  · exact ⟨16, by decide, by decide, by decide⟩
theorem shr_some (a : Int) (s : Nat) (h : 0 ≤ a) : ∃ r, a.fdiv (2 ^ s) = r ∧ 0 ≤ r ∧ r ≤ a := by
  refine ⟨_, rfl, ?_⟩
  rw [fdiv_pow]
  exact ⟨Int.ediv_nonneg h (Int.le_of_lt (Int.pow_pos (by decide))), Int.ediv_le_self _ h⟩

/-! ## What is kept of a frame's numbers -/
/-- How great a number of side information may be. -/
def lim (q : Nat) : Int :=
  if 21 ≤ q ∧ q < 25 then 29 else if 29 ≤ q ∧ q < 33 then 15 else if 33 ≤ q ∧ q < 37 then 1 else if 37 ≤ q ∧ q < 41 then 3 else if 41 ≤ q ∧ q < 45 then 1
  else if 45 ≤ q ∧ q < 57 then 7 else if 69 ≤ q ∧ q < 73 then 11 else if 73 ≤ q ∧ q < 77 then 20 else if 89 ≤ q ∧ q < 93 then 78 else 1000
/-- What is so of a frame's numbers at each time. -/
structure FI (h : Nat → Int) (x : Nat → Int) : Prop where
  head : ∀ q, q < 7 → x q = h q
  in' : ∀ q, 7 ≤ q → q < 93 → 0 ≤ x q ∧ x q ≤ lim q
  sw : ∀ q, 33 ≤ q → q < 37 → x q = 0 → x (q + 4) = 0
theorem FI.upd {h x : Nat → Int} (hx : FI h x) {q : Nat} {v : Int} (h7 : 7 ≤ q) (hv : q < 93 → 0 ≤ v ∧ v ≤ lim q) (hs : 33 ≤ q ∧ q < 37 → v = 1) (hb : 37 ≤ q ∧ q < 41 → x (q - 4) = 1) : FI h (YtbcjhkncifckiaaDoor.upd x q v) := by
  refine ⟨fun j hj => ?_, fun j h1 h2 => ?_, fun j h1 h2 h3 => ?_⟩
  · rw [upd_ne _ _ (by omega)]; exact hx.head j hj
  · by_cases e : j = q
    · subst e; rw [upd_at]; exact hv h2
    · rw [upd_ne _ _ e]; exact hx.in' j h1 h2
  · by_cases e : j = q
    · subst e; rw [upd_at] at h3; have := hs ⟨h1, h2⟩; omega
    · rw [upd_ne _ _ e] at h3
      by_cases e' : j + 4 = q
      · have := hb ⟨by omega, by omega⟩
        rw [show q - 4 = j by omega] at this
        omega
      · rw [upd_ne _ _ e']; exact hx.sw j h1 h2 h3
theorem FI.big {h x : Nat → Int} (hx : FI h x) (q : Nat) (h1 : 21 ≤ q ∧ q < 25) : 0 ≤ x q ∧ x q ≤ 29 := by
  have := hx.in' q (by omega) (by omega); unfold lim at this; rw [if_pos (by omega)] at this; exact this
theorem FI.compress {h x : Nat → Int} (hx : FI h x) (q : Nat) (h1 : 29 ≤ q ∧ q < 33) : 0 ≤ x q ∧ x q ≤ 15 := by
  have := hx.in' q (by omega) (by omega); unfold lim at this; rw [if_neg (by omega), if_pos (by omega)] at this; exact this
theorem FI.switch {h x : Nat → Int} (hx : FI h x) (q : Nat) (h1 : 33 ≤ q ∧ q < 37) : 0 ≤ x q ∧ x q ≤ 1 := by
  have := hx.in' q (by omega) (by omega); unfold lim at this; rw [if_neg (by omega), if_neg (by omega), if_pos (by omega)] at this; exact this
theorem FI.block {h x : Nat → Int} (hx : FI h x) (q : Nat) (h1 : 37 ≤ q ∧ q < 41) : 0 ≤ x q ∧ x q ≤ 3 := by
  have := hx.in' q (by omega) (by omega); unfold lim at this; rw [if_neg (by omega), if_neg (by omega), if_neg (by omega), if_pos (by omega)] at this; exact this
theorem FI.mixed {h x : Nat → Int} (hx : FI h x) (q : Nat) (h1 : 41 ≤ q ∧ q < 45) : 0 ≤ x q ∧ x q ≤ 1 := by
  have := hx.in' q (by omega) (by omega); unfold lim at this; rw [if_neg (by omega), if_neg (by omega), if_neg (by omega), if_neg (by omega), if_pos (by omega)] at this; exact this
theorem FI.table {h x : Nat → Int} (hx : FI h x) (q : Nat) (h1 : 45 ≤ q ∧ q < 57) : 0 ≤ x q ∧ x q ≤ 7 := by
  have := hx.in' q (by omega) (by omega); unfold lim at this; rw [if_neg (by omega), if_neg (by omega), if_neg (by omega), if_neg (by omega), if_neg (by omega), if_pos (by omega)] at this; exact this
theorem FI.region0 {h x : Nat → Int} (hx : FI h x) (q : Nat) (h1 : 69 ≤ q ∧ q < 73) : 0 ≤ x q ∧ x q ≤ 11 := by
  have := hx.in' q (by omega) (by omega); unfold lim at this; rw [if_neg (by omega), if_neg (by omega), if_neg (by omega), if_neg (by omega), if_neg (by omega), if_neg (by omega), if_pos (by omega)] at this; exact this
theorem FI.region1 {h x : Nat → Int} (hx : FI h x) (q : Nat) (h1 : 73 ≤ q ∧ q < 77) : 0 ≤ x q ∧ x q ≤ 20 := by
  have := hx.in' q (by omega) (by omega); unfold lim at this; rw [if_neg (by omega), if_neg (by omega), if_neg (by omega), if_neg (by omega), if_neg (by omega), if_neg (by omega), if_neg (by omega), if_pos (by omega)] at this; exact this
theorem FI.count {h x : Nat → Int} (hx : FI h x) (q : Nat) (h1 : 89 ≤ q ∧ q < 93) : 0 ≤ x q ∧ x q ≤ 78 := by
  have := hx.in' q (by omega) (by omega); unfold lim at this; rw [if_neg (by omega), if_neg (by omega), if_neg (by omega), if_neg (by omega), if_neg (by omega), if_neg (by omega), if_neg (by omega), if_neg (by omega), if_pos (by omega)] at this; exact this
/-- A number fits a cell of side information. -/
theorem lim_of {q : Nat} {v : Int} (h0 : 0 ≤ v) (h1 : v ≤ 1000) (h : (21 ≤ q ∧ q < 25 → v ≤ 29) ∧ (29 ≤ q ∧ q < 33 → v ≤ 15) ∧ (33 ≤ q ∧ q < 37 → v ≤ 1) ∧ (37 ≤ q ∧ q < 41 → v ≤ 3) ∧ (41 ≤ q ∧ q < 45 → v ≤ 1) ∧ (45 ≤ q ∧ q < 57 → v ≤ 7) ∧ (69 ≤ q ∧ q < 73 → v ≤ 11) ∧ (73 ≤ q ∧ q < 77 → v ≤ 20) ∧ (89 ≤ q ∧ q < 93 → v ≤ 78)) : 0 ≤ v ∧ v ≤ lim q := by
  refine ⟨h0, ?_⟩
  unfold lim
  repeat' split
  all_goals omega

/-- One cell. -/
theorem va_one1 (f : Nat → Value) : va 1 f = #[f 0] := by unfold va; rfl
/-- A struct's parts are laid, one behind the other. -/
theorem fill_pre (place : Nat → Option (Nat × Nat)) {n i o m e : Nat} {f g : Nat → Value} {v : Value} (rest : List (Nat × Value)) (hp : place i = some (o, m)) (hv : v.cells = va m (fun j => f (o + j))) (hle : o + m ≤ n) (he : o + m = e) :
    Instr.fill place (va n (fun q => if q < o then f q else g q)) ((i, v) :: rest) = Instr.fill place (va n (fun q => if q < e then f q else g q)) rest := by
  subst he
  rw [fill_cons place _ i o m v rest hp (by rw [hv, va_size]) (by rw [va_size]; exact hle), hv, va_splice hle]
  congr 1
  refine va_ext rfl fun q _ => ?_
  by_cases h1 : o ≤ q ∧ q < o + m
  · rw [if_pos h1, if_pos h1.2, show o + (q - o) = q by omega]
  · rw [if_neg h1]
    by_cases h2 : q < o
    · rw [if_pos h2, if_pos (by omega)]
    · rw [if_neg h2, if_neg (by omega)]
/-- The lines that a slice holds. -/
def LL (H : Hp) (v : Value) (l : Nat → Value) : Prop := (v = .slice none 0 0 ∧ ∀ k, k < 576 → l k = .float .f32 0) ∨ ∃ (j b o cap : Nat) (cs : Array Value) (t : TypeId) (fr : Nat × Nat), v = .slice (some ⟨b, o, none⟩) 576 cap ∧ H[j]? = some (b, Obj.cells cs t fr) ∧ (∀ k, k < 576 → cs[o + k]? = some (l k)) ∧ ∀ k, k < 576 → (l k).oneCell' = true
theorem LL.cons {H : Hp} {v : Value} {l : Nat → Value} (h : LL H v l) (p : Nat × Obj) : LL (p :: H) v l := by
  rcases h with h | ⟨j, b, o, cap, cs, t, fr, h1, h2, h3, h4⟩
  · exact .inl h
  · exact .inr ⟨j + 1, b, o, cap, cs, t, fr, h1, h2, h3, h4⟩
theorem LL.mono {H H' : Hp} {v : Value} {l : Nat → Value} (h : LL H v l) (hs : ∀ p ∈ H, p ∈ H') : LL H' v l := by
  rcases h with h | ⟨j, b, o, cap, cs, t, fr, h1, h2, h3, h4⟩
  · exact .inl h
  · obtain ⟨j', hj'⟩ := List.getElem?_of_mem (hs _ (List.mem_of_getElem? h2))
    exact .inr ⟨j', b, o, cap, cs, t, fr, h1, hj', h3, h4⟩
theorem LL.one {H : Hp} {v : Value} {l : Nat → Value} (h : LL H v l) (k : Nat) (hk : k < 576) : (l k).oneCell' = true := by
  rcases h with ⟨_, h⟩ | ⟨_, _, _, _, _, _, _, _, _, _, h⟩
  · rw [h k hk]; rfl
  · exact h k hk
theorem LL.row {H : Hp} {b : Nat} {l : Nat → Value} {t : TypeId} {fr : Nat × Nat} (hb : (b, Obj.cells (va 576 l) t fr) ∈ H) (h1 : ∀ k, k < 576 → (l k).oneCell' = true) : LL H (.slice (some ⟨b, 0, none⟩) 576 576) l := by
  obtain ⟨j, hj⟩ := List.getElem?_of_mem hb
  exact .inr ⟨j, b, 0, 576, _, t, fr, rfl, hj, fun k hk => by rw [Nat.zero_add]; exact va_get hk rfl, h1⟩
/-- Main data with the lines of the first so many. -/
def mdk (x : Nat → Int) (ls : Nat → Nat → Value) (n : Nat) : Nat → Value := fun q => if q < 244 then .int .i64 (x q) else if q < 244 + 576 * n then ls ((q - 244) / 576) ((q - 244) % 576) else .float .f32 0
theorem mdk_next {x : Nat → Int} {ls : Nat → Nat → Value} {n o : Nat} (hn : n < 4) (ho : o = 244 + 576 * n) : va 2548 (fun q => if o ≤ q ∧ q < o + 576 then ls n (q - o) else mdk x ls n q) = va 2548 (mdk x ls (n + 1)) := by
  refine va_ext rfl fun q hq => ?_
  unfold mdk
  by_cases h1 : o ≤ q ∧ q < o + 576
  · rw [if_pos h1, if_neg (by omega), if_pos (by omega), show (q - 244) / 576 = n by omega, show (q - 244) % 576 = q - o by omega]
  · rw [if_neg h1]
    by_cases h2 : q < 244
    · rw [if_pos h2, if_pos h2]
    · rw [if_neg h2, if_neg h2]
      by_cases h3 : q < 244 + 576 * n
      · rw [if_pos h3, if_pos (by omega)]
      · rw [if_neg h3, if_neg (by omega)]
theorem mdk_line {x : Nat → Int} {ls : Nat → Nat → Value} {i k : Nat} (hi : i < 4) (hk : k < 576) : mdk x ls 4 (244 + 576 * i + k) = ls i k := by
  unfold mdk
  rw [if_neg (by omega), if_pos (by omega), show (244 + 576 * i + k - 244) / 576 = i by omega, show (244 + 576 * i + k - 244) % 576 = k by omega]
theorem mdk_one {x : Nat → Int} {ls : Nat → Nat → Value} {n : Nat} (h : ∀ i, i < 4 → ∀ k, k < 576 → (ls i k).oneCell' = true) (hn : n ≤ 4) (q : Nat) (hq : q < 2548) : (mdk x ls n q).oneCell' = true := by
  unfold mdk
  split
  · rfl
  · split
    · exact h _ (by omega) _ (by omega)
    · rfl
/-- A frame's cells. -/
def ff (w : Int) (si : Option Addr) (bm : Nat) : Nat → Value := fun q => if q = 0 then .int .u32 w else if q = 1 then .pointer si else if q = 2 then .pointer (some ⟨bm, 0, none⟩) else if q = 3 then .pointer none else .float .f32 0
/-- What is so of a frame's four slices of lines. -/
def LO (L : Hp) (v : Value) : Prop := v = .slice none 0 0 ∨ ∃ b l t, v = .slice (some ⟨b, 0, none⟩) 576 576 ∧ (b, Obj.cells (va 576 l) t (0, 0)) ∈ L ∧ ∀ k, k < 576 → (l k).oneCell' = true
theorem LO.mono {L L' : Hp} {v : Value} (h : LO L v) (hs : ∀ p ∈ L, p ∈ L') : LO L' v := by
  rcases h with h | ⟨b, l, t, h1, h2, h3⟩
  · exact .inl h
  · exact .inr ⟨b, l, t, h1, hs _ h2, h3⟩
theorem LO.one {L : Hp} {v : Value} (h : LO L v) : v.oneCell' = true := by
  rcases h with rfl | ⟨b, l, t, rfl, _, _⟩ <;> rfl

section
variable {P : Program} {n : Nat} {E : Env} {w0 : World} {H : Hp} {Q : Exit → Act → World → Prop} {ops : Array Oper} {l : List Oper}
theorem set_self' {α : Type} {l : List α} {i : Nat} {a : α} (h : l[i]? = some a) : l.set i a = l := by
  apply List.ext_getElem?
  intro k
  rw [List.getElem?_set]
  by_cases e : i = k
  · subst e
    rw [if_pos rfl, if_pos (List.getElem?_eq_some_iff.1 h).1, h]
  · rw [if_neg e]
theorem fr_set {x : Nat → Int} {y : Nat → Value} {q : Nat} {v : Int} (h : q < 337) : (va 341 (fr x y)).setIfInBounds q (.int .i64 v) = va 341 (fr (upd x q v) y) := by
  rw [va_set]
  refine va_ext rfl fun k hk => ?_
  unfold fr upd
  by_cases e : k = q
  · subst e; rw [if_pos rfl, if_pos h, if_pos rfl]
  · rw [if_neg e]
    by_cases hk : k < 337
    · rw [if_pos hk, if_pos hk, if_neg e]
    · rw [if_neg hk, if_neg hk]
theorem fr_setL {x : Nat → Int} {y : Nat → Value} {q : Nat} {v : Value} (h : 337 ≤ q) : (va 341 (fr x y)).setIfInBounds q v = va 341 (fr x (upd y (q - 337) v)) := by
  rw [va_set]
  refine va_ext rfl fun k hk => ?_
  unfold fr upd
  by_cases e : k = q
  · subst e; rw [if_pos rfl, if_neg (by omega), if_pos rfl]
  · rw [if_neg e]
    by_cases hk : k < 337
    · rw [if_pos hk, if_pos hk]
    · rw [if_neg hk, if_neg hk, if_neg (by omega)]
theorem TL.storeV (i : Nat) (H' : Hp) {T b o : Nat} {x y : Operand} {c c' : Array Value} {t : TypeId} {v : Value} {ty : TypeId} {pos : String} {after : Array Edge} (hx : ev E x = some (.pointer (some ⟨b, o, none⟩))) (hy : ev E y = some v) (hi : H[i]? = some (b, .cells c t (0, 0)))
    (hT : (P.info? T).map (·.size) = some 1) (h1 : v.oneCell' = true) (ho : o < c.size) (hc : c.setIfInBounds o v = c') (hH : H.set i (b, .cells c' t (0, 0)) = H') (h : TL P ops Q l n E w0 H') :
    TL P ops Q (⟨none, .store T x y, ty, pos, after, none⟩ :: l) n E w0 H :=
  TL.store i H' hx hy hi hT h1 ho (by rw [hc]; exact hH) h
/-- Lines are copied. -/
theorem EF.copyLL (i : Nat) {T T' e b o dl dc m : Nat} {x y : Operand} {f : Nat → Value} {t : TypeId} {v : Value} {g : Nat → Value} {dst : Option Tmp} {ty : TypeId} {pos : String} {after : Array Edge} {gd : Option (Nat × Bool)} (h : sliceOf P T = some (e, 1))
    (hx : ev E x = some (.slice (some ⟨b, o, none⟩) dl dc)) (hi : H[i]? = some (b, .cells (va m f) t (0, 0))) (hy : ev E y = some v) (hl : LL H v g) (hd : dl = 576) (hfit : o + 576 ≤ m) (hz : ∀ k, k < 576 → f (o + k) = .float .f32 0) :
    EF P n E w0 H ⟨dst, .call { callee := .builtin .copy, args := #[x, y], argTypes := #[T, T'] }, ty, pos, after, gd⟩ (fun _ H' => H' = H.set i (b, .cells (va m (fun q => if o ≤ q ∧ q < o + 576 then g (q - o) else f q)) t (0, 0))) := by
  rcases hl with ⟨rfl, hg⟩ | ⟨j, b', o', cap, cs, t', fr', rfl, hj, hcs, h1⟩
  · refine (EF.copyNil h hx hy).mono fun u H' hu => ?_
    rw [hu.2]
    have : va m (fun q => if o ≤ q ∧ q < o + 576 then g (q - o) else f q) = va m f := by
      refine va_ext rfl fun q _ => ?_
      by_cases hq : o ≤ q ∧ q < o + 576
      · rw [if_pos hq, hg _ (by omega), ← hz (q - o) (by omega), show o + (q - o) = q by omega]
      · rw [if_neg hq]
    rw [this]
    exact (set_self' hi).symm
  · have hsz : o' + 576 ≤ cs.size := by
      have := (Array.getElem?_eq_some_iff.1 (hcs 575 (by decide))).1
      omega
    have hex : cs.extract o' (o' + 576) = va 576 g := by
      apply Array.ext_getElem?
      intro k
      rw [Array.getElem?_extract, va_get?]
      by_cases hk : k < 576
      · rw [if_pos hk, if_pos (by omega), hcs k hk]
      · rw [if_neg hk, if_neg (by omega)]
    refine (EF.copy i j h hx hi hy hj (by omega) hsz (by rw [va_size]; exact hfit) (by rw [hex]; exact va_mem h1)).mono fun u H' hu => ?_
    rw [hu.2, hex]
    congr 3
    rw [va_splice (by omega)]
/-- A number is stored in the frame. -/
theorem EF.storeF (i : Nat) {h : Nat → Int} {T b q : Nat} {x : Nat → Int} {y : Nat → Value} {p o : Operand} {t : TypeId} {v : Int} {dst : Option Tmp} {ty : TypeId} {pos : String} {after : Array Edge} {g : Option (Nat × Bool)}
    (hp : ev E p = some (.pointer (some ⟨b, q, none⟩))) (ho : ev E o = some (.int .i64 v)) (hi : H[i]? = some (b, .cells (va 341 (fr x y)) t (0, 0))) (hT : (P.info? T).map (·.size) = some 1) (hx : FI h x) (hq : 7 ≤ q ∧ q < 337)
    (hv : q < 93 → 0 ≤ v ∧ v ≤ lim q) (hs : 33 ≤ q ∧ q < 37 → v = 1) (hb : 37 ≤ q ∧ q < 41 → x (q - 4) = 1) :
    EF P n E w0 H ⟨dst, .store T p o, ty, pos, after, g⟩ (fun _ H' => ∃ x', FI h x' ∧ x' q = v ∧ (∀ j, j ≠ q → x' j = x j) ∧ H' = H.set i (b, .cells (va 341 (fr x' y)) t (0, 0))) :=
  (EF.store i hp ho hi hT rfl (by rw [va_size]; omega)).mono fun u H' hu => ⟨_, hx.upd hq.1 hv hs hb, upd_at _ _ _, fun j hj => upd_ne _ _ hj, by rw [hu.2, fr_set hq.2]⟩
end
end Go.Proofs.YtbcjhkncifckiaaDoor
