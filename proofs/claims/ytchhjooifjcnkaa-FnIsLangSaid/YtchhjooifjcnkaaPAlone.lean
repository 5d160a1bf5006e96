/-
  An element and one simple selector: what the reference is asked, when it is sure. Plain facts.
-/
import Derived.Test.YtchhjooifjcnkaaPRight
namespace Go.Proofs.Ytchhjooifjcnkaa.V
open Go

def kindN (t : List Node) (i : Nat) : Int := match t[i]? with
  | some v => v.kind
  | none => 0
theorem kind_some {t : List Node} {i : Nat} {v : Node} (h : t[i]? = some v) : kindN t i = v.kind := by simp [kindN, h]
/-- The places of a node's kids that are elements. -/
def elems (t : List Node) (a : Nat) : List Nat := (kidsN t a).filter fun c => kindN t c == 3
theorem Elements_eq (t : List Node) (ht : t.length ≤ 1000000) {a lo hi : Nat} (hL : Lam t lo hi) (h1 : lo ≤ a) (h2 : a < hi) (hhi : hi ≤ t.length) : m_spec_Elements (t, (a : Int)) = some ((elems t a).map Int.ofNat) := by
  simp only [m_spec_Elements]
  rw [Kids_eq t ht hL h1 h2 hhi, bind_some]
  have hlen : (kidsN t a).length ≤ 1000000 := by
    have := kidsF_len (t := t) (f := sz t a) (k := a + 1) (hi := a + sz t a)
    obtain ⟨v, _, _, _, h⟩ := hL.ok a h1 h2
    unfold kidsN; omega
  have key : ∀ m k, (kidsN t a).length - k = m → k ≤ (kidsN t a).length → loopO m_spec_Elements_0 (t, (((kidsN t a).take k).filter fun c => kindN t c == 3).map Int.ofNat, (kidsN t a).map Int.ofNat, (k : Int)) = some ((elems t a).map Int.ofNat) := by
    intro m
    induction m with
    | zero =>
      intro k hm hk
      refine loopO_out ?_
      simp only [m_spec_Elements_0, cond_dec, List.length_map]
      rw [if_neg (by omega), List.take_of_length_le (by omega)]
      rfl
    | succ m ih =>
      intro k hm hk
      obtain ⟨c, hc⟩ := get_lt (l := kidsN t a) (k := k) (by omega)
      have hcm := kids_mem hL h1 h2 (List.mem_of_getElem? hc)
      obtain ⟨v, hv, _, _, h5⟩ := hL.ok a h1 h2
      obtain ⟨u, hu⟩ := get_lt (l := t) (k := c) (by omega)
      have e1 : ((kidsN t a).map Int.ofNat)[k]? = some (c : Int) := by rw [List.getElem?_map, hc]; rfl
      have e2 : atI t (c : Int) = some u := by rw [atI_nat, hu]
      have e3 : ((((kidsN t a).take k).filter fun c => kindN t c == 3).map Int.ofNat).length ≤ 1000000 := by
        rw [List.length_map]
        have := List.length_filter_le (fun c => kindN t c == 3) ((kidsN t a).take k)
        have := List.length_take_le k (kidsN t a)
        omega
      have step : m_spec_Elements_0 (t, (((kidsN t a).take k).filter fun c => kindN t c == 3).map Int.ofNat, (kidsN t a).map Int.ofNat, (k : Int)) = some (.nx (t, (((kidsN t a).take (k + 1)).filter fun c => kindN t c == 3).map Int.ofNat, (kidsN t a).map Int.ofNat, ((k + 1 : Nat) : Int))) := by
        simp only [m_spec_Elements_0, cond_dec, atI_nat, Int.toNat_natCast, List.length_map]
        rw [if_pos (by omega), e1]
        simp only [bind_some]
        rw [e2]
        simp only [bind_some]
        rw [List.take_add_one, hc, w64 (n := (k : Int) + 1) (by omega) (by omega)]
        by_cases h3 : u.kind = 3
        · rw [if_pos h3, appL_some (by simp only [List.length_singleton]; omega)]
          simp [List.filter_append, kind_some hu, h3]
        · rw [if_neg h3]
          have : (u.kind == 3) = false := by simpa using h3
          simp [List.filter_append, kind_some hu, this]
      rw [loopO_nx step]
      exact ih (k + 1) (by omega) (by omega)
  rw [show loopO m_spec_Elements_0 (t, [], (kidsN t a).map Int.ofNat, (0 : Int)) = _ from key _ 0 rfl (Nat.zero_le _), bind_some]
theorem picks1 (x : Sel) (hx : x.size = 1) : m_spec_Picks ([x], (0 : Int)) = some [] := by
  simp only [m_spec_Picks]
  rw [w64 (by omega) (by omega), loopO_out (b := ([] : List Int)) (by
    simp only [m_spec_Picks_0, cond_dec, atI_zero]
    rw [show [x][0]? = some x from rfl, bind_some, hx, w64 (by omega) (by omega), if_neg (by omega)])]
  rfl
theorem matches1 (t : List Node) (a : Nat) (v : Node) (x : Sel) (hx : x.size = 1) (hk : x.kind < 18) (hv : t[a]? = some v) (h3 : v.kind = 3) : m_spec_Matches (t, (a : Int), [x], (0 : Int)) = m_spec_simple (t, (a : Int), x) := by
  simp only [m_spec_Matches, cond_dec, atI_nat, atI_zero, hv, bind_some, picks1 x hx]
  have h0 : [x][0]? = some x := rfl
  rw [if_neg (by omega)]
  simp only [h0, bind_some]
  rw [if_neg (by omega), if_neg (by omega), if_neg (by omega), if_neg (by omega), if_neg (by omega), if_neg (by omega)]
  cases m_spec_simple (t, (a : Int), x) <;> rfl
theorem alone1 (t : List Node) (hf : fits1 t = true) (at_ : Int) (x : Sel) (hx : x.size = 1) (hk : x.kind < 18) (hb : ∃ b, m_spec_RightSimple x = some b) (hs : ∀ (a : Nat) (v : Node), m_spec_RightSimple x = some true → RT t → t[a]? = some v → v.kind = 3 → ∃ r, m_spec_simple (t, (a : Int), x) = some r) :
    ∃ w s, m_laws_alone (t, at_, x) = some (w, s) ∧ (s = true → RT t ∧ m_spec_RightSimple x = some true ∧ ∃ (a : Nat) (v : Node) (r : Int), at_ = a ∧ t[a]? = some v ∧ v.kind = 3 ∧ m_spec_simple (t, (a : Int), x) = some r ∧ w = decide (r = 1) ∧ r ≠ 2) := by
  obtain ⟨b, hR, hRT⟩ := Right_ex t hf
  simp only [m_laws_alone, hR, bind_some, not_cond]
  cases b
  · exact ⟨_, _, rfl, fun h => by cases h⟩
  · rw [if_pos rfl]
    have hRT := hRT rfl
    by_cases hw : 0 ≤ at_ ∧ at_ < t.length
    · rw [within_eq, decide_eq_true hw, bind_some, if_pos rfl]
      obtain ⟨a, rfl⟩ := Int.eq_ofNat_of_zero_le hw.1
      obtain ⟨v, hv⟩ := get_lt (l := t) (k := a) (by omega)
      rw [atI_nat, hv]
      simp only [bind_some, cond_dec]
      by_cases h3 : v.kind ≠ 3
      · rw [if_pos h3]; exact ⟨_, _, rfl, fun h => by cases h⟩
      · rw [if_neg h3]
        have h3 : v.kind = 3 := by omega
        obtain ⟨b, hb⟩ := hb
        have ex : ({ kind := x.kind, op := x.op, key := x.key, val := x.val, a := x.a, b := x.b, flag := x.flag, size := (1 : Int) } : Sel) = x := by rw [← hx]
        rw [ex, hb, bind_some]
        cases b
        · exact ⟨_, _, rfl, fun h => by cases h⟩
        · rw [if_pos rfl, matches1 t a v x hx hk hv h3]
          obtain ⟨r, hr⟩ := hs a v hb hRT hv h3
          rw [hr, bind_some]
          exact ⟨_, _, rfl, fun h => ⟨hRT, rfl, a, v, r, rfl, hv, h3, hr, rfl, of_decide_eq_true h⟩⟩
    · rw [within_eq, decide_eq_false hw]
      exact ⟨_, _, rfl, fun h => by cases h⟩
end Go.Proofs.Ytchhjooifjcnkaa.V
