/-
  What an argument's reading tells of the memory: numbers, texts, structs, arrays and slices of these.
-/
import Derived.Test.YtchhjooifjcnkaaKLaw
import Derived.Test.YtchhjooifjcnkaaKAgg
import Derived.ChangeArms
namespace Go.Proofs.Ytchhjooifjcnkaa.K
open Go

theorem mapM_some {α β : Type} {f : α → Option β} : ∀ {l : List α} {ys : List β}, l.mapM f = some ys → ∀ a ∈ l, ∃ y, f a = some y
  | [], _, _, a, ha => by cases ha
  | b :: l, ys, h, a, ha => by
    rw [List.mapM_cons] at h
    cases hb : f b with
    | none => rw [hb] at h; cases h
    | some y =>
      rw [hb] at h
      cases hl : l.mapM f with
      | none => rw [hl] at h; cases h
      | some zs =>
        rcases List.mem_cons.1 ha with rfl | ha
        · exact ⟨y, hb⟩
        · exact mapM_some hl a ha
theorem mapM_get {α β : Type} {f : α → Option β} : ∀ {l : List α} {ys : List β}, l.mapM f = some ys → ys.length = l.length ∧ ∀ i (hi : i < l.length) (hi' : i < ys.length), f l[i] = some ys[i]
  | [], ys, h => by
    rw [List.mapM_nil] at h
    cases h
    exact ⟨rfl, fun i hi => absurd hi (by simp)⟩
  | b :: l, ys, h => by
    rw [List.mapM_cons] at h
    cases hb : f b with
    | none => rw [hb] at h; cases h
    | some y =>
      rw [hb] at h
      cases hl : l.mapM f with
      | none => rw [hl] at h; cases h
      | some zs =>
        rw [hl] at h
        cases h
        obtain ⟨h1, h2⟩ := mapM_get hl
        refine ⟨by simp [h1], fun i hi hi' => ?_⟩
        match i with
        | 0 => exact hb
        | i + 1 => exact h2 i (by simpa using hi) (by simpa using hi')

/-- A slice's block and offset. -/
def blk (q : Option Addr) : Nat := (q.map (·.block)).getD 0
def offs (q : Option Addr) : Nat := (q.map (·.off)).getD 0
theorem cellsFrom_iff {h : Array Obj} {B : Nat} : ∀ {cs : List Value} {off : Nat}, cellsFrom h B off cs ↔ ∀ i v, cs[i]? = some v → cell h ⟨B, off + i, none⟩ = some v
  | [], off => by simp [cellsFrom]
  | c :: cs, off => by
    simp only [cellsFrom]
    rw [cellsFrom_iff]
    constructor
    · rintro ⟨h1, h2⟩ i v hv
      match i with
      | 0 => simp at hv; subst hv; simpa using h1
      | i + 1 => simp at hv; rw [show off + (i + 1) = off + 1 + i by omega]; exact h2 i v hv
    · intro h
      exact ⟨by simpa using h 0 c (by simp), fun i v hv => by rw [show off + 1 + i = off + (i + 1) by omega]; exact h (i + 1) v (by simpa using hv)⟩
theorem cells_of {w : World} {base n : Nat} {a : Addr} {ys : List Value} (h : w.cells? base a n = some ys) : ys.length = n ∧ ∀ i v, ys[i]? = some v → w.cell? (a.add i) = some v := by
  unfold World.cells? at h
  split at h
  · obtain ⟨h1, h2⟩ := mapM_get h
    simp at h1
    refine ⟨h1, fun i v hv => ?_⟩
    obtain ⟨hi, hv'⟩ := List.getElem?_eq_some_iff.1 hv
    have := h2 i (by simp; omega) hi
    rw [hv'] at this
    simpa using this
  · cases h
/-- What a slice's elements' cells tell: where they lie. -/
theorem slice_at {w : World} {base sz i : Nat} {a : Addr} {ys : List Value} (hsz : 0 < sz) (h0 : ∃ zs, w.cells? base (a.add (0 * sz)) sz = some zs) (h : w.cells? base (a.add (i * sz)) sz = some ys) : some a = some ⟨blk (some a), offs (some a), none⟩ ∧ ys.length = sz ∧ cellsFrom w.heap (blk (some a)) (offs (some a) + i * sz) ys := by
  obtain ⟨zs, h0⟩ := h0
  obtain ⟨hl0, hc0⟩ := cells_of h0
  have hz : ∃ v, zs[0]? = some v := ⟨zs[0], by simp⟩
  obtain ⟨v, hv⟩ := hz
  have hcell := hc0 0 v hv
  have hspot : a.spot = none := by
    simp only [Nat.zero_mul, Addr.add, if_true] at hcell
    unfold World.cell? at hcell
    split at hcell
    · cases hs : a.spot with
      | none => rfl
      | some s => rw [hs] at hcell; simp at hcell
    · cases hcell
  have ha : a = ⟨blk (some a), offs (some a), none⟩ := by
    cases a
    simp [blk, offs] at *
    exact hspot
  obtain ⟨hl, hc⟩ := cells_of h
  refine ⟨congrArg some ha, hl, cellsFrom_iff.2 fun j u hu => ?_⟩
  have := hc j u hu
  rw [ha, add_at, add_at] at this
  exact this

section
variable {H : Type} {enc : TypeId × Value → H} {P : Program} {w : World} {base : Nat} {spare : Nat → Bool} {held : Bool} {t e : TypeId} {fuel : Nat} {cs : List Value} {x : DataW H × List MemPlace}

theorem rd_int {k : IntKind} (hu : P.underlying t = some (.int k)) (h : DataW.trod enc P w base spare held fuel t cs = some x) : ∃ n, cs = [.int k n] ∧ (Lit.int k n).wf = true := by
  cases fuel with
  | zero => simp [DataW.trod] at h
  | succ n =>
    unfold DataW.trod at h
    rw [hu] at h
    split at h <;> simp_all
theorem wf_i64 {n : Int} (h : (Lit.int .i64 n).wf = true) : -9223372036854775808 ≤ n ∧ n ≤ 9223372036854775807 := by
  simp [Lit.wf, IntKind.min, IntKind.max, IntKind.signed, IntKind.bits] at h
  omega
theorem rd_string (hu : P.underlying t = some .string) (h : DataW.trod enc P w base spare held fuel t cs = some x) : ∃ l : List UInt8, cs = [bs l] ∧ l.length ≤ maxLen := by
  obtain ⟨s, rfl, _, h3⟩ := DataW.trod_string hu h
  refine ⟨s.data.toList, rfl, ?_⟩
  rw [Array.length_toList]
  exact h3
theorem rd_struct {fs : Array Field} (hu : P.underlying t = some (.struct fs)) (h : DataW.trod enc P w base spare held fuel t cs = some x) : ∃ fuel', cs.length = P.cellsOf t ∧ ∀ f ∈ fs.toList, ∃ y, DataW.trod enc P w base spare held fuel' f.type ((cs.drop f.offset).take (P.cellsOf f.type)) = some y := by
  cases fuel with
  | zero => simp [DataW.trod] at h
  | succ n =>
    refine ⟨n, ?_⟩
    unfold DataW.trod at h
    rw [hu] at h
    split at h <;> try (simp_all; done)
    rename_i fs' cs' he
    simp only [Option.some.injEq, TypeDesc.struct.injEq] at he
    subst he
    split at h
    · rename_i hl
      refine ⟨hl, fun f hf => ?_⟩
      rw [Option.map_eq_some_iff] at h
      obtain ⟨xs, hxs, _⟩ := h
      exact mapM_some hxs f hf
    · simp at h
theorem rd_array {n : Nat} (hu : P.underlying t = some (.array n e)) (h : DataW.trod enc P w base spare held fuel t cs = some x) : ∃ fuel', cs.length = P.cellsOf t ∧ ∀ i, i < n → ∃ y, DataW.trod enc P w base spare held fuel' e ((cs.drop (i * P.cellsOf e)).take (P.cellsOf e)) = some y := by
  cases fuel with
  | zero => simp [DataW.trod] at h
  | succ m =>
    refine ⟨m, ?_⟩
    unfold DataW.trod at h
    rw [hu] at h
    split at h <;> try (simp_all; done)
    rename_i n' e' cs' he
    simp only [Option.some.injEq, TypeDesc.array.injEq] at he
    obtain ⟨rfl, rfl⟩ := he
    split at h
    · rename_i hl
      refine ⟨hl, fun i hi => ?_⟩
      rw [Option.map_eq_some_iff] at h
      obtain ⟨xs, hxs, _⟩ := h
      exact mapM_some hxs i (by simpa using hi)
    · simp at h
theorem rd_slice (hu : P.underlying t = some (.slice e)) (h : DataW.trod enc P w base spare held fuel t cs = some x) : ∃ fuel', cs = [.slice none 0 0] ∨ ∃ a len cap, cs = [.slice (some a) len cap] ∧ len ≤ cap ∧ cap ≤ maxLen ∧ ∀ i, i < len → ∃ ys y, w.cells? base (a.add (i * P.cellsOf e)) (P.cellsOf e) = some ys ∧ DataW.trod enc P w base spare held fuel' e ys = some y := by
  rcases DataW.trod_slice hu h with ⟨rfl, _⟩ | ⟨a, len, cap, elems, rest, n, rfl, rfl, _, _, h1, h2, h3, h4, _⟩
  · exact ⟨0, .inl rfl⟩
  · refine ⟨n, .inr ⟨a, len, cap, rfl, h1, h2, fun i hi => ?_⟩⟩
    have := h4 i hi
    rw [List.getElem?_eq_getElem (by omega)] at this
    obtain ⟨ys, hy1, hy2⟩ := Option.bind_eq_some_iff.1 this
    exact ⟨ys, _, hy1, hy2⟩
end
end Go.Proofs.Ytchhjooifjcnkaa.K
