/-
  make of a slice whose elements are of one cell.
-/
import Derived.Test.YtchhjooifjcnkaaKMore
namespace Go.Proofs.Ytchhjooifjcnkaa.K
open Go

section
variable {P : Program} {E : Env} {ops : List Oper} {K : List Value → Array Obj → Prop} {rest : List Oper} {ρ : List Value} {h0 h : Array Obj} {M L : List Blk} {d : Option Tmp} {T ty e : TypeId} {p : String} {af : Array Edge} {g : Option (Nat × Bool)} {x y : Operand} {i : TypeInfo} {zv : Value} {n : Nat}
theorem flat_rep (z : Value) : ∀ n : Nat, (List.replicate n [z]).flatten = List.replicate n z
  | 0 => rfl
  | n + 1 => by rw [List.replicate_succ, List.flatten_cons, flat_rep z n, List.replicate_succ]; rfl
theorem zero_rep (z : Value) (n : Nat) : (Array.range n).map (fun x => ([z][x % 1]?).getD default) = Array.replicate n z := by
  apply Array.ext
  · simp
  · intro i h1 h2
    simp [Nat.mod_one]
theorem ex_makeSlice [Und P T (.slice e)] [Siz P e 1] [Inf P e i] [Zer P e zv] (hz : zv.cells = #[zv]) (hx : ev ρ x = .int .i64 (n : Int)) (hy : ev ρ y = .int .i64 (n : Int)) (hb : i.bytes ≤ 300) (hn : n ≤ 2 ^ 20) : Ex P ρ ⟨d, .makeSlice T x y, ty, p, af, g⟩ h (.slice (some ⟨h.size, 0, none⟩) n n) (h.push (.cells (List.replicate n zv).toArray e (0, 0))) := ⟨fun E w hw => by
  have hw1 : IntKind.wrap .i64 (n : Int) = (n : Int) := wrap_n64 (by omega)
  have h2 : (i.bytes : Int) * (n : Int) ≤ 2 ^ 48 := by
    have := Nat.mul_le_mul hb hn
    have h3 : ((i.bytes * n : Nat) : Int) ≤ ((300 * 2 ^ 20 : Nat) : Int) := by exact_mod_cast this
    rw [Int.natCast_mul] at h3
    omega
  have hcap : ¬ (281474976710656 < (i.bytes : Int) * (n : Int)) := by omega
  have hwh : w.heap = h := hw.1
  have hneg : ¬ ((n : Int) < 0) := by omega
  refine ⟨.value (.slice (some ⟨w.heap.size, 0, none⟩) n n), { w with heap := w.heap.push (.cells (List.replicate n zv).toArray e (0, 0)) }, ?_, by rw [← hwh]; exact ⟨rfl, hw.2.1, hw.2.2.1, hw.2.2.2⟩, .inl (by rw [hwh])⟩
  simp only [execOp, Instr.makeSlice, hx, hy]
  rcases Nat.eq_zero_or_pos n with h0 | h0
  · subst h0
    have hw0 : IntKind.wrap .i64 0 = 0 := by rfl
    simp [und T w, siz e w, fun w => inf (P := P) e w, asInt, asIntOf, hw0, askRoom, newRow]
    exact congrArg (fun a => w.alloc (Obj.cells a e)) (Array.ext' (by simp))
  · simp [und T w, siz e w, fun w => inf (P := P) e w, fun w => zer (P := P) e w, asInt, asIntOf, hw1, askRoom, hcap, hneg, newRow, hz, show n ≠ 0 by omega]
    exact congrArg (fun a => w.alloc (Obj.cells a e)) (zero_rep zv n)⟩
theorem lw_makeSlice [Und P T (.slice e)] [Siz P e 1] [Inf P e i] [Zer P e zv] (hw : Wan ops ρ ⟨d, .makeSlice T x y, ty, p, af, g⟩) (hz : zv.cells = #[zv]) (hx : ev ρ x = .int .i64 (n : Int)) (hy : ev ρ y = .int .i64 (n : Int)) (hb : i.bytes ≤ 300) (hn : n ≤ 2 ^ 20) (hm : Mem h0 h M L)
    (hk : ∀ q Lv h, SlO 1 e q n n Lv (List.replicate n [zv]) → Mem h0 h M (L ++ Lv) → LW P E ops K rest (setD ρ d (.slice q n n)) h) : LW P E ops K (⟨d, .makeSlice T x y, ty, p, af, g⟩ :: rest) ρ h :=
  lw_ex hw (ex_makeSlice hz hx hy hb hn) rfl (hk _ [(h.size, List.replicate n zv, BT.c e)] _ ⟨.inr ⟨h.size, n, n, [], rfl, by rw [flat_rep, List.append_nil], by rw [flat_rep]; simp, by rw [flat_rep]; simp, Nat.le_refl _⟩, by simp, fun r hr => by rw [(List.mem_replicate.1 hr).2]; rfl⟩ ((hm.push _ e).perm (List.perm_append_comm (l₁ := L) (l₂ := [_]))))
end
end Go.Proofs.Ytchhjooifjcnkaa.K
