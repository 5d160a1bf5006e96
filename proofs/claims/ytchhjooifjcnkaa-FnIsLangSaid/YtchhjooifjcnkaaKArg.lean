/-
  What an argument that is a slice reads as: rows of cells.
-/
import Derived.Test.YtchhjooifjcnkaaKSlice
import Derived.WideShapes
namespace Go.Proofs.Ytchhjooifjcnkaa.K
open Go Go.WideShapes

theorem rows_exist {α : Type} (R : Nat → α → Prop) : ∀ (n : Nat), (∀ i, i < n → ∃ a, R i a) → ∃ l : List α, l.length = n ∧ ∀ i a, l[i]? = some a → R i a
  | 0, _ => ⟨[], rfl, fun i a h => by simp at h⟩
  | n + 1, h => by
    obtain ⟨l, h1, h2⟩ := rows_exist R n (fun i hi => h i (by omega))
    obtain ⟨a, ha⟩ := h n (by omega)
    refine ⟨l ++ [a], by simp [h1], fun i b hb => ?_⟩
    rcases Nat.lt_or_ge i l.length with h3 | h3
    · rw [List.getElem?_append_left h3] at hb
      exact h2 i b hb
    · rw [List.getElem?_append_right h3] at hb
      have h4 : i - l.length = 0 := by
        have := (List.getElem?_eq_some_iff.1 hb).1
        simp at this
        omega
      rw [h4] at hb
      simp at hb
      subst hb
      have : i = n := by omega
      subst this
      exact ha

section
variable {H : Type} {enc : TypeId × Value → H} {P : Program} {w : World} {base b0 sz : Nat} {spare : Nat → Bool} {held : Bool} {t e : TypeId} {v : Value} {d : DataW H} {ps : List MemPlace}
/-- A slice whose elements read as values of a type that is written as rows. -/
theorem slice_trod {α : Type} {fuel : Nat} {cs : List Value} {x : DataW H × List MemPlace} (f : α → List Value) (ok : α → Prop) (hu : P.underlying t = some (.slice e)) (hc : P.cellsOf e = sz) (hsz : 0 < sz) (hd : DataW.trod enc P w base spare held fuel t cs = some x)
    (hel : ∀ (fuel : Nat) (ys : List Value) (y : DataW H × List MemPlace), ys.length = sz → DataW.trod enc P w base spare held fuel e ys = some y → ∃ a, ys = f a ∧ ok a) : ∃ (xs : List α) (q : Option Addr) (cp : Nat), cs = [.slice q xs.length cp] ∧ xs.length ≤ maxLen ∧ (∀ a ∈ xs, ok a) ∧ SlR w.heap sz q (xs.map f) := by
  obtain ⟨fu, hs⟩ := rd_slice hu hd
  rcases hs with rfl | ⟨a, len, cap, rfl, h1, h2, h3⟩
  · exact ⟨[], none, 0, rfl, Nat.zero_le _, by simp, SlR.nil _ _ _⟩
  · rw [hc] at h3
    obtain ⟨xs, hl, hx⟩ := rows_exist (fun i (x : α) => ok x ∧ (some a = some ⟨blk (some a), offs (some a), none⟩ ∧ cellsFrom w.heap (blk (some a)) (offs (some a) + i * sz) (f x))) len (fun i hi => by
      obtain ⟨ys, y, hy1, hy2⟩ := h3 i hi
      obtain ⟨zs, z, hz1, hz2⟩ := h3 0 (by omega)
      obtain ⟨g1, g2, g3⟩ := slice_at hsz ⟨zs, hz1⟩ hy1
      obtain ⟨x, rfl, hok⟩ := hel fu ys y g2 hy2
      exact ⟨x, hok, g1, g3⟩)
    refine ⟨xs, some a, cap, by rw [hl], by omega, fun x hxm => ?_, fun i r hr => ?_⟩
    · obtain ⟨i, hi⟩ := List.mem_iff_getElem?.1 hxm
      exact (hx i x hi).1
    · rw [List.getElem?_map] at hr
      cases hxi : xs[i]? with
      | none => rw [hxi] at hr; cases hr
      | some x =>
        rw [hxi] at hr
        cases hr
        exact (hx i x hxi).2
theorem slice_arg {α : Type} (f : α → List Value) (ok : α → Prop) (hu : P.underlying t = some (.slice e)) (hc : P.cellsOf e = sz) (hsz : 0 < sz) (hval : Value.okWide P w .any b0 t v) (hd : DataW.Trod enc P w base spare held t v d ps)
    (hel : ∀ (fuel : Nat) (ys : List Value) (y : DataW H × List MemPlace), ys.length = sz → DataW.trod enc P w base spare held fuel e ys = some y → ∃ a, ys = f a ∧ ok a) : ∃ (xs : List α) (q : Option Addr) (cp : Nat), v = .slice q xs.length cp ∧ xs.length ≤ maxLen ∧ (∀ a ∈ xs, ok a) ∧ SlR w.heap sz q (xs.map f) := by
  obtain ⟨q0, len0, cap0, rfl⟩ := okWide_slice hu hval
  obtain ⟨fuel, hf⟩ := hd
  obtain ⟨xs, q, cp, h1, h2⟩ := slice_trod f ok hu hc hsz hf hel
  simp [Value.cells] at h1
  obtain ⟨rfl, rfl, rfl⟩ := h1
  exact ⟨xs, _, _, rfl, h2⟩
/-- A struct of two texts. -/
theorem struct_ss {f0 f1 : Field} {fuel : Nat} {ys : List Value} {y : DataW H × List MemPlace} (hu : P.underlying t = some (.struct #[f0, f1])) (hc : P.cellsOf t = 2) (o0 : f0.offset = 0) (o1 : f1.offset = 1) (u0 : P.underlying f0.type = some .string) (u1 : P.underlying f1.type = some .string) (c0 : P.cellsOf f0.type = 1) (c1 : P.cellsOf f1.type = 1)
    (h : DataW.trod enc P w base spare held fuel t ys = some y) : ∃ a : List UInt8 × List UInt8, ys = [bs a.1, bs a.2] ∧ a.1.length ≤ maxLen ∧ a.2.length ≤ maxLen := by
  obtain ⟨fu, h1, h2⟩ := rd_struct hu h
  rw [hc] at h1
  match ys, h1 with
  | [x, z], _ =>
    obtain ⟨y0, hy0⟩ := h2 f0 (by simp)
    obtain ⟨y1, hy1⟩ := h2 f1 (by simp)
    rw [o0, c0] at hy0
    rw [o1, c1] at hy1
    obtain ⟨l0, hl0, hm0⟩ := rd_string u0 hy0
    obtain ⟨l1, hl1, hm1⟩ := rd_string u1 hy1
    simp at hl0 hl1
    exact ⟨(l0, l1), by rw [hl0, hl1], hm0, hm1⟩
end
end Go.Proofs.Ytchhjooifjcnkaa.K
