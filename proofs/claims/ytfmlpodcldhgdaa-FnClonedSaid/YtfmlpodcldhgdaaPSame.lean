/-
  A tree is the same as itself. Plain facts.
-/
import Derived.Test.YtfmlpodcldhgdaaPStore
import Derived.Test.YtfmlpodcldhgdaaSpecL
set_option linter.unusedVariables false
set_option linter.unusedSimpArgs false
namespace Go.Proofs.Ytfmlpodcldhgdaa.V
open Go

theorem sameNode_refl (v : Node) (ha : v.attrs.length ≤ 1000000) : m_spec_sameNode (v, v) = some true := by
  have key : ∀ d j, v.attrs.length - j = d → j ≤ v.attrs.length → loopO m_spec_sameNode_0 (v, v, (j : Int)) = some (.inl ()) := by
    intro d
    induction d with
    | zero =>
      intro j hd hj
      refine loopO_out ?_
      simp only [m_spec_sameNode_0, cond_dec]
      rw [if_neg (by omega)]
    | succ d ih =>
      intro j hd hj
      obtain ⟨a, hA⟩ := get_lt (l := v.attrs) (k := j) (by omega)
      have step : m_spec_sameNode_0 (v, v, (j : Int)) = some (.nx (v, v, ((j + 1 : Nat) : Int))) := by
        simp only [m_spec_sameNode_0, cond_dec, atI_nat, hA, bind_some]
        rw [if_pos (by omega)]
        simp only [and_self, decide_true, Bool.not_true, cond_false]
        rw [w64 (by omega) (by omega)]
        rfl
      rw [loopO_nx step]
      exact ih (j + 1) (by omega) (by omega)
  have h := key v.attrs.length 0 (by omega) (Nat.zero_le _)
  have h' : loopO m_spec_sameNode_0 (v, v, (0 : Int)) = some (.inl ()) := h
  simp only [m_spec_sameNode, ne_eq, not_true, decide_false, cond_false]
  rw [h']
  rfl
theorem sameTree_refl (l : List Node) (hl : l.length ≤ 1000000) (ha : ∀ (i : Nat) (v : Node), l[i]? = some v → v.attrs.length ≤ 1000000) : m_spec_SameTree (l, l) = some true := by
  have key : ∀ d j, l.length - j = d → j ≤ l.length → loopO m_spec_SameTree_0 (l, l, (j : Int)) = some (.inl ()) := by
    intro d
    induction d with
    | zero =>
      intro j hd hj
      refine loopO_out ?_
      simp only [m_spec_SameTree_0, cond_dec]
      rw [if_neg (by omega)]
    | succ d ih =>
      intro j hd hj
      obtain ⟨v, hv⟩ := get_lt (l := l) (k := j) (by omega)
      have step : m_spec_SameTree_0 (l, l, (j : Int)) = some (.nx (l, l, ((j + 1 : Nat) : Int))) := by
        simp only [m_spec_SameTree_0, cond_dec, atI_nat, hv, bind_some]
        rw [if_pos (by omega)]
        have := sameNode_refl v (ha j v hv)
        rw [this]
        simp only [bind_some, Bool.not_true, cond_false]
        rw [w64 (by omega) (by omega)]
        rfl
      rw [loopO_nx step]
      exact ih (j + 1) (by omega) (by omega)
  have h := key l.length 0 (by omega) (Nat.zero_le _)
  have h' : loopO m_spec_SameTree_0 (l, l, (0 : Int)) = some (.inl ()) := h
  simp only [m_spec_SameTree, ne_eq, not_true, decide_false, cond_false]
  rw [h', bind_some]
  rfl
theorem sub_eq {t : List Node} (hR : RT t) {x : Nat} (hx : x < t.length) : m_spec_Sub (t, (x : Int)) = some ((t.drop x).take (sz t x)) := by
  obtain ⟨v, hv, hsz, _, hle⟩ := hR.lam.ok x (Nat.zero_le _) hx
  have hlen := hR.len
  simp only [m_spec_Sub, atI_nat, hv, bind_some]
  rw [hsz, w64 (by omega) (by omega)]
  have : subL t (x : Int) ((x : Int) + (sz t x : Int)) = some ((t.take (x + sz t x)).drop x) := by
    unfold subL
    rw [if_pos (by omega)]
    congr 2
  rw [this, bind_some, List.drop_take]
  congr 2
  omega
end Go.Proofs.Ytfmlpodcldhgdaa.V
