/-
  The operations that only read: what each yields.
-/
import Derived.Test.YtchhjooifjcnkaaKCore
import Derived.WalkKit
namespace Go.Proofs.Ytchhjooifjcnkaa.K
open Go

/-- The program's type facts, by instances: found by the type's number. -/
class Und (P : Program) (t : TypeId) (D : outParam TypeDesc) : Prop where
  out : P.underlying t = some D
class Siz (P : Program) (t : TypeId) (n : outParam Nat) : Prop where
  out : ∀ w, (sizeOf t).run P w = .ok n w
class Zer (P : Program) (t : TypeId) (z : outParam Value) : Prop where
  out : ∀ w, (zeroValue t).run P w = .ok z w
class Agg (P : Program) (t : TypeId) (b : outParam Bool) : Prop where
  out : ∀ w, (isAgg t).run P w = .ok b w
class Inf (P : Program) (t : TypeId) (i : outParam TypeInfo) : Prop where
  out : ∀ w, (typeInfo t).run P w = .ok i w

/-- The i-th field of a struct type: its type and its first cell. -/
class Fld (P : Program) (t : TypeId) (i : Nat) (ft : outParam TypeId) (fo : outParam Nat) : Prop where
  out : ∃ fs f, P.underlying t = some (.struct fs) ∧ fs[i]? = some f ∧ f.type = ft ∧ f.offset = fo
theorem und {P : Program} (t : TypeId) {D : TypeDesc} [i : Und P t D] (w : World) : (underlying t).run P w = .ok D w := run_underlying i.out w
theorem siz {P : Program} (t : TypeId) {D : Nat} [i : Siz P t D] (w : World) : (sizeOf t).run P w = .ok D w := i.out w
theorem zer {P : Program} (t : TypeId) {D : Value} [i : Zer P t D] (w : World) : (zeroValue t).run P w = .ok D w := i.out w
theorem agg {P : Program} (t : TypeId) {D : Bool} [i : Agg P t D] (w : World) : (isAgg t).run P w = .ok D w := i.out w
theorem inf {P : Program} (t : TypeId) {D : TypeInfo} [i : Inf P t D] (w : World) : (typeInfo t).run P w = .ok D w := i.out w

abbrev bs (l : List UInt8) : Value := .string ⟨l.toArray⟩

/-- An operation that only reads: its value, in every world with this memory. -/
structure Pu (P : Program) (ρ : List Value) (o : Oper) (h : Array Obj) (v : Value) : Prop where
  out : ∀ w, w.heap = h → (execOp (ev ρ) o).run P w = .ok (.value v) w

theorem Pu.ex {P : Program} {ρ : List Value} {o : Oper} {h : Array Obj} {v : Value} (hp : Pu P ρ o h v) : Ex P ρ o h v h :=
  ⟨fun _ w hw => ⟨_, w, hp.out w hw.1, hw, .inl rfl⟩⟩

def cell (h : Array Obj) (a : Addr) : Option Value :=
  match h[a.block]? with
  | some (.cells c _ _) => if a.spot.isSome then none else c[a.off]?
  | _ => none

theorem cell_eq (w : World) (a : Addr) : w.cell? a = cell w.heap a := rfl

section
variable {P : Program} {E : Env} {ops : List Oper} {K : List Value → Array Obj → Prop} {rest : List Oper} {ρ ρ' : List Value} {o : Oper} {h h' : Array Obj} {v : Value} {d : Option Tmp} {T ty U : TypeId} {p : String} {af : Array Edge} {g : Option (Nat × Bool)} {x y c : Operand}

theorem lw_pu (hg : Wan ops ρ o) (hx : Pu P ρ o h v) (hs : setD ρ o.dst v = ρ') (hk : LW P E ops K rest ρ' h) : LW P E ops K (o :: rest) ρ h := lw_wanted hg.out hx.ex hs hk

/-! moves -/
theorem pu_move (hx : ev ρ x = v) : Pu P ρ ⟨d, .move x, ty, p, af, g⟩ h v := ⟨fun w _ => by simp [execOp, hx]⟩
theorem pu_assign (hx : ev ρ x = v) : Pu P ρ ⟨d, .assign x, ty, p, af, g⟩ h v := ⟨fun w _ => by simp [execOp, hx]⟩
theorem pu_pick_t (hc : ev ρ c = .bool true) (hx : ev ρ x = v) : Pu P ρ ⟨d, .pick c x y, ty, p, af, g⟩ h v := ⟨fun w _ => by simp [execOp, hc, hx, asBool]⟩
theorem pu_pick_f (hc : ev ρ c = .bool false) (hy : ev ρ y = v) : Pu P ρ ⟨d, .pick c x y, ty, p, af, g⟩ h v := ⟨fun w _ => by simp [execOp, hc, hy, asBool]⟩

/-! integers -/
variable {k : IntKind} {a b : Int}
theorem beq_dec {α : Type} [BEq α] [LawfulBEq α] [DecidableEq α] (a b : α) : (a == b) = decide (a = b) := by
  by_cases h : a = b <;> simp [h]
theorem guard_int (op : BinOp) (v2 : Value) (w : World) : (eqGuard op T x y (.int k a) v2).run P w = .ok () w := by
  unfold eqGuard
  split <;> simp
theorem guard_bool (op : BinOp) (t : Bool) (v2 : Value) (w : World) : (eqGuard op T x y (.bool t) v2).run P w = .ok () w := by
  unfold eqGuard
  split <;> simp
theorem guard_str (op : BinOp) (s : ByteArray) (v2 : Value) (w : World) : (eqGuard op T x y (.string s) v2).run P w = .ok () w := by
  unfold eqGuard
  split <;> simp
theorem guard_ptr (op : BinOp) (q : Option Addr) (v2 : Value) (w : World) : (eqGuard op T x y (.pointer q) v2).run P w = .ok () w := by
  unfold eqGuard
  split <;> simp
theorem pu_add (hx : ev ρ x = .int k a) (hy : ev ρ y = .int k b) : Pu P ρ ⟨d, .binOp .add T x y U, ty, p, af, g⟩ h (.int k (k.wrap (a + b))) := ⟨fun w _ => by
  simp [execOp, guard_int, hx, hy, binOp, Op.intArith]⟩
theorem pu_sub (hx : ev ρ x = .int k a) (hy : ev ρ y = .int k b) : Pu P ρ ⟨d, .binOp .sub T x y U, ty, p, af, g⟩ h (.int k (k.wrap (a - b))) := ⟨fun w _ => by
  simp [execOp, guard_int, hx, hy, binOp, Op.intArith]⟩
theorem pu_mul (hx : ev ρ x = .int k a) (hy : ev ρ y = .int k b) : Pu P ρ ⟨d, .binOp .mul T x y U, ty, p, af, g⟩ h (.int k (k.wrap (a * b))) := ⟨fun w _ => by
  simp [execOp, guard_int, hx, hy, binOp, Op.intArith]⟩
theorem wrap_in (a : Int) (h1 : -9223372036854775808 ≤ a) (h2 : a ≤ 9223372036854775807) : IntKind.wrap .i64 a = a := by
  simp only [IntKind.wrap, IntKind.signed, IntKind.bits]
  simp
  omega
theorem pu_addi (hx : ev ρ x = .int .i64 a) (hy : ev ρ y = .int .i64 b) (h1 : -9223372036854775808 ≤ a + b) (h2 : a + b ≤ 9223372036854775807) : Pu P ρ ⟨d, .binOp .add T x y U, ty, p, af, g⟩ h (.int .i64 (a + b)) := by
  have := pu_add (P := P) (h := h) (d := d) (T := T) (U := U) (ty := ty) (p := p) (af := af) (g := g) hx hy
  rwa [wrap_in _ h1 h2] at this
theorem pu_subi (hx : ev ρ x = .int .i64 a) (hy : ev ρ y = .int .i64 b) (h1 : -9223372036854775808 ≤ a - b) (h2 : a - b ≤ 9223372036854775807) : Pu P ρ ⟨d, .binOp .sub T x y U, ty, p, af, g⟩ h (.int .i64 (a - b)) := by
  have := pu_sub (P := P) (h := h) (d := d) (T := T) (U := U) (ty := ty) (p := p) (af := af) (g := g) hx hy
  rwa [wrap_in _ h1 h2] at this
theorem pu_muli (hx : ev ρ x = .int .i64 a) (hy : ev ρ y = .int .i64 b) (h1 : -9223372036854775808 ≤ a * b) (h2 : a * b ≤ 9223372036854775807) : Pu P ρ ⟨d, .binOp .mul T x y U, ty, p, af, g⟩ h (.int .i64 (a * b)) := by
  have := pu_mul (P := P) (h := h) (d := d) (T := T) (U := U) (ty := ty) (p := p) (af := af) (g := g) hx hy
  rwa [wrap_in _ h1 h2] at this
/-- Sums and differences of counters stay casts of naturals. -/
theorem pu_addn {m n : Nat} (hx : ev ρ x = .int .i64 (m : Int)) (hy : ev ρ y = .int .i64 (n : Int)) (h2 : m + n ≤ 9223372036854775807) : Pu P ρ ⟨d, .binOp .add T x y U, ty, p, af, g⟩ h (.int .i64 ((m + n : Nat) : Int)) := by
  have := pu_addi (P := P) (h := h) (d := d) (T := T) (U := U) (ty := ty) (p := p) (af := af) (g := g) hx hy (by omega) (by omega)
  simpa using this
theorem pu_subn {m n : Nat} (hx : ev ρ x = .int .i64 (m : Int)) (hy : ev ρ y = .int .i64 (n : Int)) (h1 : n ≤ m) (h2 : m ≤ 9223372036854775807) : Pu P ρ ⟨d, .binOp .sub T x y U, ty, p, af, g⟩ h (.int .i64 ((m - n : Nat) : Int)) := by
  have := pu_subi (P := P) (h := h) (d := d) (T := T) (U := U) (ty := ty) (p := p) (af := af) (g := g) hx hy (by omega) (by omega)
  rwa [show (m : Int) - n = ((m - n : Nat) : Int) by omega] at this

theorem pu_eql (hx : ev ρ x = .int k a) (hy : ev ρ y = .int k b) : Pu P ρ ⟨d, .binOp .eql T x y U, ty, p, af, g⟩ h (.bool (decide (a = b))) := ⟨fun w _ => by
  simp [execOp, guard_int, hx, hy, binOp, Op.intCmp, beq_dec]⟩
theorem pu_neq (hx : ev ρ x = .int k a) (hy : ev ρ y = .int k b) : Pu P ρ ⟨d, .binOp .neq T x y U, ty, p, af, g⟩ h (.bool (decide (a ≠ b))) := ⟨fun w _ => by
  simp only [execOp, Sem.run_bind, guard_int, hx, hy, binOp, Op.intCmp, Result.andThen_ok]
  simp [bne, beq_dec]⟩
theorem pu_lss (hx : ev ρ x = .int k a) (hy : ev ρ y = .int k b) : Pu P ρ ⟨d, .binOp .lss T x y U, ty, p, af, g⟩ h (.bool (decide (a < b))) := ⟨fun w _ => by
  simp [execOp, guard_int, hx, hy, binOp, Op.intCmp]⟩
theorem pu_leq (hx : ev ρ x = .int k a) (hy : ev ρ y = .int k b) : Pu P ρ ⟨d, .binOp .leq T x y U, ty, p, af, g⟩ h (.bool (decide (a ≤ b))) := ⟨fun w _ => by
  simp [execOp, guard_int, hx, hy, binOp, Op.intCmp]⟩
theorem pu_gtr (hx : ev ρ x = .int k a) (hy : ev ρ y = .int k b) : Pu P ρ ⟨d, .binOp .gtr T x y U, ty, p, af, g⟩ h (.bool (decide (b < a))) := ⟨fun w _ => by
  simp [execOp, guard_int, hx, hy, binOp, Op.intCmp]⟩
theorem pu_geq (hx : ev ρ x = .int k a) (hy : ev ρ y = .int k b) : Pu P ρ ⟨d, .binOp .geq T x y U, ty, p, af, g⟩ h (.bool (decide (b ≤ a))) := ⟨fun w _ => by
  simp [execOp, guard_int, hx, hy, binOp, Op.intCmp]⟩
theorem pu_and (hx : ev ρ x = .int k a) (hy : ev ρ y = .int k b) : Pu P ρ ⟨d, .binOp .and T x y U, ty, p, af, g⟩ h (.int k (k.wrap (((a % 2 ^ k.bits).toNat &&& (b % 2 ^ k.bits).toNat : Nat) : Int))) := ⟨fun w _ => by
  simp [execOp, guard_int, hx, hy, binOp, Op.intBits]⟩
theorem pu_or (hx : ev ρ x = .int k a) (hy : ev ρ y = .int k b) : Pu P ρ ⟨d, .binOp .or T x y U, ty, p, af, g⟩ h (.int k (k.wrap (((a % 2 ^ k.bits).toNat ||| (b % 2 ^ k.bits).toNat : Nat) : Int))) := ⟨fun w _ => by
  simp [execOp, guard_int, hx, hy, binOp, Op.intBits]⟩

/-! comparisons that are decided -/
theorem pu_true {q : Prop} [Decidable q] (hp : Pu P ρ o h (.bool (decide q))) (hq : q) : Pu P ρ o h (.bool true) := by rw [decide_eq_true hq] at hp; exact hp
theorem pu_false {q : Prop} [Decidable q] (hp : Pu P ρ o h (.bool (decide q))) (hq : ¬ q) : Pu P ρ o h (.bool false) := by rw [decide_eq_false hq] at hp; exact hp

/-! bools -/
theorem pu_not {t : Bool} (hx : ev ρ x = .bool t) : Pu P ρ ⟨d, .unOp .not T x, ty, p, af, g⟩ h (.bool (!t)) := ⟨fun w _ => by
  simp [execOp, hx, Op.unary]⟩
theorem pu_notd {q : Prop} [Decidable q] (hx : ev ρ x = .bool (decide q)) : Pu P ρ ⟨d, .unOp .not T x, ty, p, af, g⟩ h (.bool (decide (¬ q))) := ⟨fun w _ => by
  simp [execOp, hx, Op.unary]⟩
theorem run_eq_bool [i : Und P T .bool] (s t : Bool) (w : World) : (Op.equal T (.bool s) (.bool t)).run P w = .ok (s == t) w := by
  unfold Op.equal Op.maxDepth
  exact run_equalIn_bool' w 9999 T s t i.out
theorem pu_eqb {s t : Bool} [Und P T .bool] (hx : ev ρ x = .bool s) (hy : ev ρ y = .bool t) : Pu P ρ ⟨d, .binOp .eql T x y U, ty, p, af, g⟩ h (.bool (decide (s = t))) := ⟨fun w _ => by
  simp [execOp, guard_bool, hx, hy, binOp, run_eq_bool, beq_dec]⟩
theorem pu_neqb {s t : Bool} [Und P T .bool] (hx : ev ρ x = .bool s) (hy : ev ρ y = .bool t) : Pu P ρ ⟨d, .binOp .neq T x y U, ty, p, af, g⟩ h (.bool (decide (s ≠ t))) := ⟨fun w _ => by
  simp [execOp, guard_bool, hx, hy, binOp, run_eq_bool, beq_dec]⟩

/-! strings -/
variable {l m : List UInt8}
theorem pu_eqs (hx : ev ρ x = bs l) (hy : ev ρ y = bs m) : Pu P ρ ⟨d, .binOp .eql T x y U, ty, p, af, g⟩ h (.bool (decide (l = m))) := ⟨fun w _ => by
  simp [execOp, guard_str, hx, hy, binOp_string_eql, beq_dec]⟩
theorem pu_neqs (hx : ev ρ x = bs l) (hy : ev ρ y = bs m) : Pu P ρ ⟨d, .binOp .neq T x y U, ty, p, af, g⟩ h (.bool (decide (l ≠ m))) := ⟨fun w _ => by
  simp [execOp, guard_str, hx, hy, binOp_string_neq, beq_dec]⟩
theorem size_mk (l : List UInt8) : (ByteArray.mk l.toArray).size = l.length := by simp [ByteArray.size]
theorem append_mk (l m : List UInt8) : ByteArray.mk l.toArray ++ ByteArray.mk m.toArray = ByteArray.mk (l ++ m).toArray := by
  apply ByteArray.ext
  simp
theorem pu_adds (hx : ev ρ x = bs l) (hy : ev ρ y = bs m) (hl : l.length + m.length ≤ 9223372036854775807) : Pu P ρ ⟨d, .binOp .add T x y U, ty, p, af, g⟩ h (bs (l ++ m)) := ⟨fun w _ => by
  simp only [execOp, Sem.run_bind, guard_str, hx, hy, binOp, Op.stringOp, size_mk, append_mk, Result.andThen_ok]
  have : ¬ (IntKind.max .i64 < ((l.length + m.length : Nat) : Int)) := by simp [IntKind.max, IntKind.signed, IntKind.bits]; omega
  simp only [gt_iff_lt, this, if_false]
  simp⟩
theorem pu_index {n : Nat} [Und P T .string] (hx : ev ρ x = bs l) (hy : ev ρ y = .int k (n : Int)) (hn : n < l.length) : Pu P ρ ⟨d, .index T x y, ty, p, af, g⟩ h (.int .u8 (((l.getD n 0).toNat : Nat) : Int)) := ⟨fun w _ => by
  have e : (ByteArray.mk l.toArray)[n]? = some (l.getD n 0) := by
    rw [getElem?_pos (ByteArray.mk l.toArray) n (by rw [size_mk]; exact hn)]
    simp [ByteArray.getElem_eq_getElem_data, hn]
  simp [execOp, hx, hy, Instr.index, asIntOf, und T w, e]⟩
theorem pu_lens [Und P T .string] {ta : Array TypeId} {ta' : TypeId} (hx : ev ρ x = bs l) (hT : ta = #[T]) : Pu P ρ ⟨d, .call ⟨.builtin .len, #[x], ta⟩, ta', p, af, g⟩ h (.int .i64 (l.length : Int)) := ⟨fun w _ => by
  subst hT
  simp [execOp, resolve, hx, invoke, builtin, Builtin.len_, und T w, goInt, size_mk]⟩
theorem pu_lensl {e : TypeId} {q : Option Addr} {n cp : Nat} [Und P T (.slice e)] {ta : Array TypeId} {ta' : TypeId} (hx : ev ρ x = .slice q n cp) (hT : ta = #[T]) : Pu P ρ ⟨d, .call ⟨.builtin .len, #[x], ta⟩, ta', p, af, g⟩ h (.int .i64 (n : Int)) := ⟨fun w _ => by
  subst hT
  simp [execOp, resolve, hx, invoke, builtin, Builtin.len_, und T w, goInt]⟩
theorem pu_min {ta : Array TypeId} {ta' : TypeId} (hx : ev ρ x = .int k a) (hy : ev ρ y = .int k b) : Pu P ρ ⟨d, .call ⟨.builtin .min, #[x, y], ta⟩, ta', p, af, g⟩ h (.int k (if b < a then b else a)) := ⟨fun w _ => by
  simp [execOp, resolve, hx, hy, invoke, builtin, Builtin.min_, Builtin.min2]⟩
theorem pu_max {ta : Array TypeId} {ta' : TypeId} (hx : ev ρ x = .int k a) (hy : ev ρ y = .int k b) : Pu P ρ ⟨d, .call ⟨.builtin .max, #[x, y], ta⟩, ta', p, af, g⟩ h (.int k (if a < b then b else a)) := ⟨fun w _ => by
  simp [execOp, resolve, hx, hy, invoke, builtin, Builtin.max_, Builtin.max2]⟩

/-! tuples -/
theorem pu_extract {vs : Array Value} {i : Nat} (hx : ev ρ x = .tuple vs) (hi : vs[i]? = some v) : Pu P ρ ⟨d, .extract x i, ty, p, af, g⟩ h v := ⟨fun w _ => by
  simp [execOp, hx, Instr.extract, hi]⟩

/-! addresses -/
variable {B off : Nat}
theorem add_at (B off n : Nat) : (⟨B, off, none⟩ : Addr).add n = ⟨B, off + n, none⟩ := by
  unfold Addr.add
  by_cases hn : n = 0 <;> simp [hn]
theorem pu_nilCheck_p {q : Addr} (hx : ev ρ x = .pointer (some q)) : Pu P ρ ⟨d, .nilCheck x, ty, p, af, g⟩ h (.pointer (some q)) := ⟨fun w _ => by
  simp [execOp, hx]⟩
theorem pu_indexAddr {e : TypeId} {n len cp sz : Nat} [Und P T (.slice e)] [Siz P e sz] (hx : ev ρ x = .slice (some ⟨B, off, none⟩) len cp) (hy : ev ρ y = .int k (n : Int)) (hn : n < len) : Pu P ρ ⟨d, .indexAddr T x y, ty, p, af, g⟩ h (.pointer (some ⟨B, off + n * sz, none⟩)) := ⟨fun w _ => by
  simp [execOp, hx, hy, Instr.indexAt, asIntOf, und T w, siz e w, hn, add_at]⟩
theorem pu_indexAddr_arr {e : TypeId} {n len sz : Nat} [Und P T (.array len e)] [Siz P e sz] (hx : ev ρ x = .pointer (some ⟨B, off, none⟩)) (hy : ev ρ y = .int k (n : Int)) (hn : n < len) : Pu P ρ ⟨d, .indexAddr T x y, ty, p, af, g⟩ h (.pointer (some ⟨B, off + n * sz, none⟩)) := ⟨fun w _ => by
  simp [execOp, hx, hy, Instr.indexAt, asIntOf, und T w, siz e w, hn, add_at, Instr.sureAddr]⟩
theorem pu_fieldAddr {i sz ft fo : Nat} [F : Fld P T i ft fo] (hx : ev ρ x = .pointer (some ⟨B, off, none⟩)) (hz : ∀ w, (sizeOf ft).run P w = .ok (sz + 1) w) : Pu P ρ ⟨d, .fieldAddr T x i, ty, p, af, g⟩ h (.pointer (some ⟨B, off + fo, none⟩)) := ⟨fun w _ => by
  obtain ⟨fs, f, hu, hf, rfl, rfl⟩ := F.out
  simp [execOp, hx, Instr.fieldAt, run_underlying hu, hf, Instr.sureAddr, fieldPlace, hz, add_at]⟩
theorem pu_load [Agg P T false] {q : Addr} (hx : ev ρ x = .pointer (some q)) (hc : cell h q = some v) : Pu P ρ ⟨d, .load T x, ty, p, af, g⟩ h v := ⟨fun w hw => by
  subst hw
  simp [execOp, hx, Instr.loadAt, Instr.sureAddr, loadVar, agg T w, cell_eq, hc]⟩
/-- n cells from an address on. -/
def cellsFrom (h : Array Obj) (B : Nat) : Nat → List Value → Prop
  | _, [] => True
  | off, c :: cs => cell h ⟨B, off, none⟩ = some c ∧ cellsFrom h B (off + 1) cs
theorem run_loadCellsFrom (w : World) (B off : Nat) : ∀ (cs : List Value) (i : Nat) (acc : Array Value), cellsFrom w.heap B (off + i) cs → (loadCellsFrom ⟨B, off, none⟩ i cs.length acc).run P w = .ok (acc ++ cs.toArray) w
  | [], i, acc, _ => by simp [loadCellsFrom]
  | c :: cs, i, acc, hc => by
    simp only [List.length_cons, loadCellsFrom, Sem.run_bind, add_at, run_load, cell_eq, hc.1, Result.andThen_ok]
    rw [run_loadCellsFrom w B off cs (i + 1) (acc.push c) hc.2]
    simp
theorem pu_loadAgg [Agg P T true] {n : Nat} {cs : List Value} [Siz P T n] (hx : ev ρ x = .pointer (some ⟨B, off, none⟩)) (hn : cs.length = n) (hc : cellsFrom h B off cs) : Pu P ρ ⟨d, .load T x, ty, p, af, g⟩ h (.agg cs.toArray) := ⟨fun w hw => by
  subst hw
  subst hn
  have := run_loadCellsFrom (P := P) w B off cs 0 #[] (by simpa using hc)
  simp [execOp, hx, Instr.loadAt, Instr.sureAddr, loadVar, agg T w, siz T w, loadCells, this]⟩
end
end Go.Proofs.Ytchhjooifjcnkaa.K
