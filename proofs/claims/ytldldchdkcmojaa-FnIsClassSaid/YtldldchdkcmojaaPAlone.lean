/-
  An element and one simple selector: what the reference is asked, when it is sure. Plain facts.
-/
import Derived.Test.YtldldchdkcmojaaPElem
import Derived.Test.YtldldchdkcmojaaSpecC
set_option linter.unusedVariables false
set_option linter.unusedSimpArgs false
namespace Go.Proofs.Ytldldchdkcmojaa.V
open Go

theorem within_eq (t : List Node) (at_ : Int) : m_laws_within (t, at_) = some (decide (0 ≤ at_ ∧ at_ < t.length)) := by
  simp only [m_laws_within, cond_dec]
  split
  · rename_i h; simp [h]
  · rename_i h; simp [h]

/-! texts -/
theorem picks1 (x : Sel) (hx : x.size = 1) : m_spec_Picks ([x], (0 : Int)) = some [] := by
  simp only [m_spec_Picks]
  rw [w64 (by omega) (by omega), loopO_out (b := ([] : List Int)) (by
    simp only [m_spec_Picks_0, cond_dec, atI_zero]
    rw [show [x][0]? = some x from rfl, bind_some, hx, w64 (by omega) (by omega), if_neg (by omega)])]
  rfl
theorem matches1 (t : List Node) (a : Nat) (v : Node) (x : Sel) (hx : x.size = 1) (hk : x.kind < 18) (hv : t[a]? = some v) (h3 : v.kind = 3) : m_spec_Matches (t, (a : Int), [x], (0 : Int)) = m_spec_simple (t, (a : Int), x) := by
  simp only [m_spec_Matches, cond_dec, atI_nat, atI_zero, hv, bind_some, picks1 x hx]
  have h0 : [x][0]? = some x := rfl
  rw [if_neg (by omega)]
  simp only [h0, bind_some]
  rw [if_neg (by omega), if_neg (by omega), if_neg (by omega), if_neg (by omega), if_neg (by omega), if_neg (by omega)]
  cases m_spec_simple (t, (a : Int), x) <;> rfl
theorem alone1 (t : List Node) (hf : fits1 t = true) (at_ : Int) (x : Sel) (hx : x.size = 1) (hk : x.kind < 18) (hb : ∃ b, m_spec_RightSimple x = some b) (hs : ∀ (a : Nat) (v : Node), m_spec_RightSimple x = some true → RT t → t[a]? = some v → v.kind = 3 → ∃ r, m_spec_simple (t, (a : Int), x) = some r) :
    ∃ w s, m_laws_alone (t, at_, x) = some (w, s) ∧ (s = true → RT t ∧ m_spec_RightSimple x = some true ∧ ∃ (a : Nat) (v : Node) (r : Int), at_ = a ∧ t[a]? = some v ∧ v.kind = 3 ∧ m_spec_simple (t, (a : Int), x) = some r ∧ w = decide (r = 1) ∧ r ≠ 2) := by
  obtain ⟨b, hR, hRT⟩ := Right_ex t hf
  simp only [m_laws_alone, hR, bind_some, not_cond]
  cases b
  · exact ⟨_, _, rfl, fun h => by cases h⟩
  · rw [if_pos rfl]
    have hRT := hRT rfl
    by_cases hw : 0 ≤ at_ ∧ at_ < t.length
    · rw [within_eq, decide_eq_true hw, bind_some, if_pos rfl]
      obtain ⟨a, rfl⟩ := Int.eq_ofNat_of_zero_le hw.1
      obtain ⟨v, hv⟩ := get_lt (l := t) (k := a) (by omega)
      rw [atI_nat, hv]
      simp only [bind_some, cond_dec]
      by_cases h3 : v.kind ≠ 3
      · rw [if_pos h3]; exact ⟨_, _, rfl, fun h => by cases h⟩
      · rw [if_neg h3]
        have h3 : v.kind = 3 := by omega
        obtain ⟨b, hb⟩ := hb
        have ex : ({ kind := x.kind, op := x.op, key := x.key, val := x.val, a := x.a, b := x.b, flag := x.flag, size := (1 : Int) } : Sel) = x := by rw [← hx]
        rw [ex, hb, bind_some]
        cases b
        · exact ⟨_, _, rfl, fun h => by cases h⟩
        · rw [if_pos rfl, matches1 t a v x hx hk hv h3]
          obtain ⟨r, hr⟩ := hs a v hb hRT hv h3
          rw [hr, bind_some]
          exact ⟨_, _, rfl, fun h => ⟨hRT, rfl, a, v, r, rfl, hv, h3, hr, rfl, of_decide_eq_true h⟩⟩
    · rw [within_eq, decide_eq_false hw]
      exact ⟨_, _, rfl, fun h => by cases h⟩
end Go.Proofs.Ytldldchdkcmojaa.V
