/-
  Elements among a node's kids. Plain facts.
-/
import Derived.Test.YtldldchdkcmojaaPRight
set_option linter.unusedVariables false
set_option linter.unusedSimpArgs false
namespace Go.Proofs.Ytldldchdkcmojaa.V
open Go

def kindN (t : List Node) (i : Nat) : Int := match t[i]? with
  | some v => v.kind
  | none => 0
theorem kind_some {t : List Node} {i : Nat} {v : Node} (h : t[i]? = some v) : kindN t i = v.kind := by simp [kindN, h]
/-- The places of a node's kids that are elements. -/
def elems (t : List Node) (a : Nat) : List Nat := (kidsN t a).filter fun c => kindN t c == 3
theorem Elements_eq (t : List Node) (ht : t.length ≤ 1000000) {a lo hi : Nat} (hL : Lam t lo hi) (h1 : lo ≤ a) (h2 : a < hi) (hhi : hi ≤ t.length) : m_spec_Elements (t, (a : Int)) = some ((elems t a).map Int.ofNat) := by
  simp only [m_spec_Elements]
  rw [Kids_eq t ht hL h1 h2 hhi, bind_some]
  have hlen : (kidsN t a).length ≤ 1000000 := by
    have := kidsF_len (t := t) (f := sz t a) (k := a + 1) (hi := a + sz t a)
    obtain ⟨v, _, _, _, h⟩ := hL.ok a h1 h2
    unfold kidsN; omega
  have key : ∀ m k, (kidsN t a).length - k = m → k ≤ (kidsN t a).length → loopO m_spec_Elements_0 (t, (((kidsN t a).take k).filter fun c => kindN t c == 3).map Int.ofNat, (kidsN t a).map Int.ofNat, (k : Int)) = some ((elems t a).map Int.ofNat) := by
    intro m
    induction m with
    | zero =>
      intro k hm hk
      refine loopO_out ?_
      simp only [m_spec_Elements_0, cond_dec, List.length_map]
      rw [if_neg (by omega), List.take_of_length_le (by omega)]
      rfl
    | succ m ih =>
      intro k hm hk
      obtain ⟨c, hc⟩ := get_lt (l := kidsN t a) (k := k) (by omega)
      have hcm := kids_mem hL h1 h2 (List.mem_of_getElem? hc)
      obtain ⟨v, hv, _, _, h5⟩ := hL.ok a h1 h2
      obtain ⟨u, hu⟩ := get_lt (l := t) (k := c) (by omega)
      have e1 : ((kidsN t a).map Int.ofNat)[k]? = some (c : Int) := by rw [List.getElem?_map, hc]; rfl
      have e2 : atI t (c : Int) = some u := by rw [atI_nat, hu]
      have e3 : ((((kidsN t a).take k).filter fun c => kindN t c == 3).map Int.ofNat).length ≤ 1000000 := by
        rw [List.length_map]
        have := List.length_filter_le (fun c => kindN t c == 3) ((kidsN t a).take k)
        have := List.length_take_le k (kidsN t a)
        omega
      have step : m_spec_Elements_0 (t, (((kidsN t a).take k).filter fun c => kindN t c == 3).map Int.ofNat, (kidsN t a).map Int.ofNat, (k : Int)) = some (.nx (t, (((kidsN t a).take (k + 1)).filter fun c => kindN t c == 3).map Int.ofNat, (kidsN t a).map Int.ofNat, ((k + 1 : Nat) : Int))) := by
        simp only [m_spec_Elements_0, cond_dec, atI_nat, Int.toNat_natCast, List.length_map]
        rw [if_pos (by omega), e1]
        simp only [bind_some]
        rw [e2]
        simp only [bind_some]
        rw [List.take_add_one, hc, w64 (n := (k : Int) + 1) (by omega) (by omega)]
        by_cases h3 : u.kind = 3
        · rw [if_pos h3, appL_some (by simp only [List.length_singleton]; omega)]
          simp [List.filter_append, kind_some hu, h3]
        · rw [if_neg h3]
          have : (u.kind == 3) = false := by simpa using h3
          simp [List.filter_append, kind_some hu, this]
      rw [loopO_nx step]
      exact ih (k + 1) (by omega) (by omega)
  rw [show loopO m_spec_Elements_0 (t, [], (kidsN t a).map Int.ofNat, (0 : Int)) = _ from key _ 0 rfl (Nat.zero_le _), bind_some]
end Go.Proofs.Ytldldchdkcmojaa.V
