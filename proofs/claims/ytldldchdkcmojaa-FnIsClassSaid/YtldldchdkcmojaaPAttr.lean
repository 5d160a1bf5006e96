/-
  Attributes of nodes. Plain facts.
-/
import Derived.Test.YtldldchdkcmojaaPKids
import Derived.Test.YtldldchdkcmojaaPGrow
set_option linter.unusedVariables false
set_option linter.unusedSimpArgs false
namespace Go.Proofs.Ytldldchdkcmojaa.V
open Go

theorem rc_attrs {t : List Node} {i : Nat} {v : Node} (hv : t[i]? = some v) (h3 : v.kind = 3) {a e : Nat} : (rc t a e i).attrs = v.attrs.map hattr := by
  simp [rc, bs0, hv, base, h3]
/-- What an attribute of a name says: the first one. -/
def attrV (l : List Attr) (k : List UInt8) : Option (List UInt8) := (l.find? fun a => decide (a.key = k)).map (·.val)
theorem attr_eq (n : Node) (k : List UInt8) (h : n.attrs.length ≤ 2147483647) : m_spec_Attr (n, k) = some (match attrV n.attrs k with | some v => (v, true) | none => ([], false)) := by
  simp only [m_spec_Attr]
  have key : ∀ m i, n.attrs.length - i = m → i ≤ n.attrs.length → loopO m_spec_Attr_0 (k, n, (i : Int)) = some (match attrV (n.attrs.drop i) k with | some v => .inr (v, true) | none => .inl ()) := by
    intro m
    induction m with
    | zero =>
      intro i hm hi
      refine loopO_out ?_
      simp only [m_spec_Attr_0, cond_dec]
      rw [if_neg (by omega), List.drop_of_length_le (by omega)]
      rfl
    | succ m ih =>
      intro i hm hi
      obtain ⟨a, ha⟩ := get_lt (l := n.attrs) (k := i) (by omega)
      have hd : n.attrs.drop i = a :: n.attrs.drop (i + 1) := by
        obtain ⟨h1, h2⟩ := List.getElem?_eq_some_iff.1 ha
        rw [← h2]
        exact List.drop_eq_getElem_cons h1
      have hA : attrV (n.attrs.drop i) k = if a.key = k then some a.val else attrV (n.attrs.drop (i + 1)) k := by
        rw [hd]
        unfold attrV
        by_cases e : a.key = k
        · rw [if_pos e]; simp [e]
        · rw [if_neg e]; simp [e]
      by_cases e : a.key = k
      · refine loopO_out ?_
        simp only [m_spec_Attr_0, cond_dec, atI_nat]
        rw [if_pos (by omega), ha, bind_some, if_pos e, hA, if_pos e]
        rfl
      · have step : m_spec_Attr_0 (k, n, (i : Int)) = some (.nx (k, n, ((i + 1 : Nat) : Int))) := by
          simp only [m_spec_Attr_0, cond_dec, atI_nat]
          rw [if_pos (by omega), ha, bind_some, if_neg e, w64 (by omega) (by omega)]
          rfl
        rw [loopO_nx step, ih (i + 1) (by omega) (by omega), hA, if_neg e]
  have h0 := key n.attrs.length 0 (by omega) (Nat.zero_le _)
  rw [List.drop_zero] at h0
  rw [show loopO m_spec_Attr_0 (k, { kind := n.kind, tag := n.tag, text := n.text, attrs := n.attrs, size := n.size }, (0 : Int)) = _ from h0, bind_some]
  cases attrV n.attrs k <;> rfl
/-- With each key once, any attribute of a name is the first one. -/
theorem attr_any {l : List Attr} (hU : UA l) (k : List UInt8) (f : List UInt8 → Bool) : (l.any fun a => decide (a.key = k) && f a.val) = match attrV l k with | some v => f v | none => false := by
  unfold attrV
  cases hf : l.find? (fun a => decide (a.key = k)) with
  | none =>
    simp only [Option.map_none]
    rw [List.any_eq_false]
    intro a ha
    have := List.find?_eq_none.1 hf a ha
    simp only [decide_eq_true_eq] at this
    simp [this]
  | some b =>
    simp only [Option.map_some]
    have h1 := List.find?_some hf
    simp only [decide_eq_true_eq] at h1
    have h2 := List.mem_of_find?_eq_some hf
    obtain ⟨j, hj⟩ := List.mem_iff_getElem?.1 h2
    rw [Bool.eq_iff_iff, List.any_eq_true]
    constructor
    · rintro ⟨a, ha, h3⟩
      simp only [Bool.and_eq_true, decide_eq_true_eq] at h3
      obtain ⟨i, hi⟩ := List.mem_iff_getElem?.1 ha
      have : i = j := by
        rcases Nat.lt_trichotomy i j with h | h | h
        · exact absurd (h3.1.trans h1.symm) (hU.uq j i b a h hj hi)
        · exact h
        · exact absurd (h1.trans h3.1.symm) (hU.uq i j a b h hi hj)
      subst this
      rw [hi] at hj
      cases hj
      exact h3.2
    · intro h
      exact ⟨b, h2, by simp [h1, h]⟩
end Go.Proofs.Ytldldchdkcmojaa.V
