/-
  Division, conversions of numbers, and addresses compared with each other.
-/
import Derived.Test.YtchhjooifjcnkaaKArg
import Derived.LaidEql
namespace Go.Proofs.Ytchhjooifjcnkaa.K
open Go

section
variable {P : Program} {E : Env} {ops : List Oper} {ρ ρ' : List Value} {h : Array Obj} {d : Option Tmp} {T ty U S D e : TypeId} {p : String} {af : Array Edge} {g : Option (Nat × Bool)} {x y z : Operand} {k k' k0 : IntKind} {a b : Int}
theorem pu_rem (hx : ev ρ x = .int k a) (hy : ev ρ y = .int k b) (hb : b ≠ 0) : Pu P ρ ⟨d, .binOp .rem T x y U, ty, p, af, g⟩ h (.int k (a.tmod b)) := ⟨fun w _ => by
  simp [execOp, guard_int, hx, hy, binOp, Op.intDiv, hb]⟩
theorem pu_remn {m n : Nat} (hx : ev ρ x = .int k (m : Int)) (hy : ev ρ y = .int k (n : Int)) (hn : 0 < n) : Pu P ρ ⟨d, .binOp .rem T x y U, ty, p, af, g⟩ h (.int k ((m % n : Nat) : Int)) := by
  have := pu_rem (P := P) (h := h) (d := d) (T := T) (U := U) (ty := ty) (p := p) (af := af) (g := g) hx hy (by omega)
  rwa [show ((m : Int).tmod (n : Int)) = ((m % n : Nat) : Int) by exact rfl] at this
theorem pu_quo (hx : ev ρ x = .int .i64 a) (hy : ev ρ y = .int .i64 b) (hb : b ≠ 0) (h1 : -9223372036854775808 ≤ a.tdiv b) (h2 : a.tdiv b ≤ 9223372036854775807) : Pu P ρ ⟨d, .binOp .quo T x y U, ty, p, af, g⟩ h (.int .i64 (a.tdiv b)) := ⟨fun w _ => by
  simp [execOp, guard_int, hx, hy, binOp, Op.intDiv, hb, wrap_in _ h1 h2]⟩
theorem tdiv_abs (a b : Int) : (a.tdiv b).natAbs ≤ a.natAbs := by
  rw [Int.natAbs_tdiv]
  exact Nat.div_le_self _ _
theorem tdiv_lo {a b : Int} (h1 : -9223372036854775807 ≤ a) (h2 : a ≤ 9223372036854775807) : -9223372036854775808 ≤ a.tdiv b := by
  have := tdiv_abs a b
  omega
theorem tdiv_hi {a b : Int} (h1 : -9223372036854775807 ≤ a) (h2 : a ≤ 9223372036854775807) : a.tdiv b ≤ 9223372036854775807 := by
  have := tdiv_abs a b
  omega
theorem pu_conv [Und P S (.int k0)] [Und P D (.int k)] (hx : ev ρ x = .int k' a) (ha : k.wrap a = b) : Pu P ρ ⟨d, .convert S D x, ty, p, af, g⟩ h (.int k b) := ⟨fun w _ => by
  simp [execOp, convert, hx, und S w, und D w, Conv.intToInt, ha]⟩
theorem wrap_n64 {n : Nat} (hn : n < 2 ^ 62) : IntKind.wrap .i64 (n : Int) = (n : Int) := wrap_in _ (by omega) (by omega)
theorem pu_andn {m n : Nat} (hx : ev ρ x = .int .i64 (m : Int)) (hy : ev ρ y = .int .i64 (n : Int)) (hm : m < 2 ^ 62) (hn : n < 2 ^ 62) : Pu P ρ ⟨d, .binOp .and T x y U, ty, p, af, g⟩ h (.int .i64 ((m &&& n : Nat) : Int)) := by
  have := pu_and (P := P) (h := h) (d := d) (T := T) (U := U) (ty := ty) (p := p) (af := af) (g := g) hx hy
  have e1 : ((m : Int) % 2 ^ IntKind.bits .i64).toNat = m := by simp [IntKind.bits]; omega
  have e2 : ((n : Int) % 2 ^ IntKind.bits .i64).toNat = n := by simp [IntKind.bits]; omega
  rw [e1, e2, wrap_n64 (Nat.lt_of_le_of_lt Nat.and_le_left hm)] at this
  exact this
theorem equal_pp {n : Nat} [Und P T (.pointer e)] [Siz P e n] (hn : n ≠ 0) {a b : Nat} {ca cb : List Value} {ta tb : TypeId} (w : World) (ha : w.heap[a]? = some (.cells ca.toArray ta (0, 0))) (hb : w.heap[b]? = some (.cells cb.toArray tb (0, 0))) : (Op.equal T (.pointer (some ⟨a, 0, none⟩)) (.pointer (some ⟨b, 0, none⟩))).run P w = .ok (decide (a = b)) w := by
  unfold Op.equal Op.maxDepth Op.equalIn
  simp only [Sem.run_bind, und T w, Result.andThen_ok, siz e w, ne_eq, hn, not_false_eq_true, if_true]
  by_cases hab : a = b
  · subst hab
    simp [run_sameAddr_same]
  · rw [run_sameAddr_other w (a := ⟨a, 0, none⟩) (b := ⟨b, 0, none⟩) (by intro h; cases h; exact hab rfl) ha hb]
    simp [hab]
theorem pu_eql_pp {n : Nat} [Und P T (.pointer e)] [Siz P e n] {a b : Nat} {ca cb : List Value} {ta tb : TypeId} (hx : ev ρ x = .pointer (some ⟨a, 0, none⟩)) (hy : ev ρ y = .pointer (some ⟨b, 0, none⟩)) (ha : h[a]? = some (.cells ca.toArray ta (0, 0))) (hb : h[b]? = some (.cells cb.toArray tb (0, 0))) (hn : n ≠ 0) : Pu P ρ ⟨d, .binOp .eql T x y U, ty, p, af, g⟩ h (.bool (decide (a = b))) := ⟨fun w hw => by
  subst hw
  simp [execOp, guard_ptr, hx, hy, binOp, equal_pp (P := P) (T := T) (e := e) hn w ha hb]⟩
theorem pu_neq_pp {n : Nat} [Und P T (.pointer e)] [Siz P e n] {a b : Nat} {ca cb : List Value} {ta tb : TypeId} (hx : ev ρ x = .pointer (some ⟨a, 0, none⟩)) (hy : ev ρ y = .pointer (some ⟨b, 0, none⟩)) (ha : h[a]? = some (.cells ca.toArray ta (0, 0))) (hb : h[b]? = some (.cells cb.toArray tb (0, 0))) (hn : n ≠ 0) : Pu P ρ ⟨d, .binOp .neq T x y U, ty, p, af, g⟩ h (.bool (decide (a ≠ b))) := ⟨fun w hw => by
  subst hw
  simp [execOp, guard_ptr, hx, hy, binOp, equal_pp (P := P) (T := T) (e := e) hn w ha hb]⟩
end
end Go.Proofs.Ytchhjooifjcnkaa.K
