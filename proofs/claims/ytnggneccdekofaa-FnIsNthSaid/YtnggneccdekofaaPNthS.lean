/-
  What the reference counts: an element among the elements with its parent. Plain facts.
-/
import Derived.Test.YtnggneccdekofaaPKids
import Derived.Test.YtnggneccdekofaaSpecC
namespace Go.Proofs.Ytnggneccdekofaa.V
open Go

/-- A number is reached. -/
def Rch (a b m : Int) : Prop := ∃ k : Nat, k ≤ 1200 ∧ a * (k : Int) + b = m
theorem mul_bd {a : Int} {k : Nat} (ha : -1000 ≤ a ∧ a ≤ 1000) (hk : k ≤ 1200) : -1200000 ≤ a * (k : Int) ∧ a * (k : Int) ≤ 1200000 := by
  have h1 : -1000 * (k : Int) ≤ a * (k : Int) := Int.mul_le_mul_of_nonneg_right ha.1 (by omega)
  have h2 : a * (k : Int) ≤ 1000 * (k : Int) := Int.mul_le_mul_of_nonneg_right ha.2 (by omega)
  omega
theorem reached_eq (a b m : Int) (ha : -1000 ≤ a ∧ a ≤ 1000) (hb : -1000 ≤ b ∧ b ≤ 1000) : ∃ r, m_spec_Reached (a, b, m) = some r ∧ (r = true ↔ Rch a b m) := by
  simp only [m_spec_Reached]
  obtain ⟨y, hy, hQ⟩ := loopO_rule (body := m_spec_Reached_0) (fun x => ∃ k : Nat, x = (a, b, m, (k : Int)) ∧ k ≤ 1201 ∧ ∀ j : Nat, j < k → a * (j : Int) + b ≠ m) (fun _ y => (y = .inl PUnit.unit ∧ ¬ Rch a b m) ∨ (y = .inr true ∧ Rch a b m)) (fun x => (1201 - x.2.2.2).toNat) (fun x hx => by
    obtain ⟨k, rfl, hk, hn⟩ := hx
    simp only [m_spec_Reached_0, cond_dec]
    by_cases h : (k : Int) ≤ 1200
    · have hm := mul_bd ha (k := k) (by omega)
      rw [if_pos h, w64 (n := a * (k : Int)) (by omega) (by omega), w64 (n := a * (k : Int) + b) (by omega) (by omega), w64 (n := (k : Int) + 1) (by omega) (by omega)]
      by_cases e : a * (k : Int) + b = m
      · rw [if_pos e]
        exact .inl ⟨_, rfl, .inr ⟨rfl, k, by omega, e⟩⟩
      · rw [if_neg e]
        refine .inr ⟨_, rfl, ⟨k + 1, rfl, by omega, fun j hj => ?_⟩, by simp only; omega, fun _ h => h⟩
        by_cases e2 : j = k
        · subst e2; exact e
        · exact hn j (by omega)
    · rw [if_neg h]
      exact .inl ⟨_, rfl, .inl ⟨rfl, fun ⟨j, h1, h2⟩ => hn j (by omega) h2⟩⟩) (a, b, m, (0 : Int)) ⟨0, rfl, by omega, fun j hj => by omega⟩
  rw [hy, bind_some]
  rcases hQ with ⟨rfl, h⟩ | ⟨rfl, h⟩
  · exact ⟨false, rfl, by simp [h]⟩
  · exact ⟨true, rfl, by simp [h]⟩
/-- A number is hit. -/
def Hit (a b m : Int) : Prop := if a = 0 then m = b else (m - b).tmod a = 0 ∧ 0 ≤ (m - b).tdiv a
theorem tdiv_abs' (a b : Int) : (a.tdiv b).natAbs ≤ a.natAbs := by
  rw [Int.natAbs_tdiv]
  exact Nat.div_le_self _ _
theorem hit_rch {a b m : Int} (hb : -1000 ≤ b ∧ b ≤ 1000) (hm : 0 ≤ m ∧ m ≤ 200) : Hit a b m ↔ Rch a b m := by
  unfold Hit Rch
  split
  · rename_i h
    subst h
    exact ⟨fun h => ⟨0, by omega, by omega⟩, fun ⟨k, _, h⟩ => by omega⟩
  · rename_i h
    constructor
    · rintro ⟨h1, h2⟩
      have h3 := tdiv_abs' (m - b) a
      refine ⟨((m - b).tdiv a).toNat, by omega, ?_⟩
      rw [Int.toNat_of_nonneg h2]
      have h4 := Int.mul_tdiv_add_tmod (m - b) a
      rw [h1] at h4
      omega
    · rintro ⟨k, hk, h1⟩
      have h2 : m - b = a * k := by omega
      rw [h2]
      exact ⟨Int.mul_tmod_right _ _, by rw [Int.mul_tdiv_cancel_left _ h]; omega⟩
def tagN (t : List Node) (i : Nat) : List UInt8 := match t[i]? with
  | some v => v.tag
  | none => []
theorem tag_some {t : List Node} {i : Nat} {v : Node} (h : t[i]? = some v) : tagN t i = v.tag := by simp [tagN, h]
/-- One that is counted: of its name, if that is asked for, and from the one end or the other. -/
def okN (t : List Node) (a : Nat) (ty la : Bool) (c : Nat) : Bool := (!ty || tagN t c == tagN t a) && (if la then decide (a ≤ c) else decide (c ≤ a))
def numN (t : List Node) (a p : Nat) (ty la : Bool) : Nat := ((elems t p).filter (okN t a ty la)).length
theorem elems_mem {t : List Node} {p c : Nat} (h : c ∈ elems t p) : c ∈ kidsN t p ∧ kindN t c = 3 := by
  simpa [elems] using h
theorem counted_eq (t : List Node) (hR : RT t) {a p : Nat} (ha : a < t.length) (hp : par t a = some p) (h3 : kindN t p = 3) (A B f : Int) :
    m_spec_counted (t, (a : Int), A, B, f) = (m_spec_Reached (A, B, (numN t a p (decide (andI .i64 f 2 ≠ 0)) (decide (andI .i64 f 1 ≠ 0)) : Int))).bind m_spec_truth := by
  have hlen := hR.len
  have hpp := par_some hp
  have hplt : p < t.length := by omega
  obtain ⟨u, hu⟩ := get_lt hplt
  obtain ⟨v, hv⟩ := get_lt ha
  have hpk : u.kind = 3 := by rw [← kind_some hu]; exact h3
  simp only [m_spec_counted, Parent_eq t (by omega) hR.lam ha (Nat.le_refl _), parI, hp, bind_some, cond_dec, atI_nat, hu]
  rw [if_neg (by omega), if_neg (by omega), Elements_eq t (by omega) hR.lam (Nat.zero_le _) hplt (Nat.le_refl _), bind_some]
  have hel : (elems t p).length ≤ 200 := by
    have h1 := List.length_filter_le (fun c => kindN t c == 3) (kidsN t p)
    have h2 := kidsF_len (t := t) (f := sz t p) (k := p + 1) (hi := p + sz t p)
    obtain ⟨_, _, _, _, h⟩ := hR.lam.ok p (Nat.zero_le _) hplt
    unfold elems kidsN at *
    omega
  have key : ∀ m k, (elems t p).length - k = m → k ≤ (elems t p).length → loopO m_spec_counted_0 (t, (a : Int), A, B, f, (elems t p).map Int.ofNat, ((((elems t p).take k).filter (okN t a (decide (andI .i64 f 2 ≠ 0)) (decide (andI .i64 f 1 ≠ 0)))).length : Int), (k : Int)) = some (A, B, (numN t a p (decide (andI .i64 f 2 ≠ 0)) (decide (andI .i64 f 1 ≠ 0)) : Int)) := by
    intro m
    induction m with
    | zero =>
      intro k hm hk
      refine loopO_out ?_
      simp only [m_spec_counted_0, cond_dec, List.length_map]
      rw [if_neg (by omega), List.take_of_length_le (by omega)]
      rfl
    | succ m ih =>
      intro k hm hk
      obtain ⟨c, hc⟩ := get_lt (l := elems t p) (k := k) (by omega)
      have hcm := kids_mem hR.lam (Nat.zero_le _) hplt (elems_mem (List.mem_of_getElem? hc)).1
      obtain ⟨_, _, _, _, h5⟩ := hR.lam.ok p (Nat.zero_le _) hplt
      obtain ⟨w, hw⟩ := get_lt (l := t) (k := c) (by omega)
      have e1 : ((elems t p).map Int.ofNat)[k]? = some (c : Int) := by rw [List.getElem?_map, hc]; rfl
      have hn : (((elems t p).take k).filter (okN t a (decide (andI .i64 f 2 ≠ 0)) (decide (andI .i64 f 1 ≠ 0)))).length ≤ 1000 := by
        have h1 := List.length_filter_le (okN t a (decide (andI .i64 f 2 ≠ 0)) (decide (andI .i64 f 1 ≠ 0))) ((elems t p).take k)
        have h2 := List.length_take_le k (elems t p)
        omega
      have step : m_spec_counted_0 (t, (a : Int), A, B, f, (elems t p).map Int.ofNat, ((((elems t p).take k).filter (okN t a (decide (andI .i64 f 2 ≠ 0)) (decide (andI .i64 f 1 ≠ 0)))).length : Int), (k : Int)) = some (.nx (t, (a : Int), A, B, f, (elems t p).map Int.ofNat, ((((elems t p).take (k + 1)).filter (okN t a (decide (andI .i64 f 2 ≠ 0)) (decide (andI .i64 f 1 ≠ 0)))).length : Int), ((k + 1 : Nat) : Int))) := by
        rw [List.take_add_one, hc, List.filter_append, List.length_append]
        generalize (((elems t p).take k).filter (okN t a (decide (andI .i64 f 2 ≠ 0)) (decide (andI .i64 f 1 ≠ 0)))).length = n at hn
        simp only [m_spec_counted_0, cond_dec, atI_nat, Int.toNat_natCast, List.length_map]
        rw [if_pos (by omega), e1]
        simp only [bind_some, atI_nat, hw, hv]
        rw [w64 (n := (k : Int) + 1) (by omega) (by omega), w64 (n := (n : Int) + 1) (by omega) (by omega)]
        by_cases h2 : andI .i64 f 2 = 0 <;> by_cases h1 : andI .i64 f 1 = 0 <;> by_cases hca : c ≤ a <;> by_cases hac : a ≤ c <;> by_cases ht : w.tag = v.tag <;>
          simp [okN, tag_some hw, tag_some hv, h1, h2, hca, hac, ht, Int.ofNat_le, Option.toList, List.filter_cons]
      rw [loopO_nx step]
      exact ih (k + 1) (by omega) (by omega)
  rw [show loopO m_spec_counted_0 (t, (a : Int), A, B, f, (elems t p).map Int.ofNat, (0 : Int), (0 : Int)) = _ from key _ 0 rfl (Nat.zero_le _), bind_some]
  simp only
  cases m_spec_Reached (A, B, (numN t a p (decide (andI .i64 f 2 ≠ 0)) (decide (andI .i64 f 1 ≠ 0)) : Int)) with
  | none => rfl
  | some r => cases r <;> rfl
theorem rightNth (a b f : Int) : ∃ r, m_spec_RightSimple ⟨6, 0, [], [], a, b, f, 1⟩ = some r ∧ (r = true → -1000 ≤ a ∧ a ≤ 1000 ∧ -1000 ≤ b ∧ b ≤ 1000) := by
  obtain ⟨p, hp⟩ := plain_ex [] (by simp)
  by_cases h1 : a < -1000
  · refine ⟨false, ?_, fun h => by cases h⟩
    cases p <;> simp [m_spec_RightSimple, m_spec_bareSel, hp, h1]
  by_cases h2 : 1000 < a
  · refine ⟨false, ?_, fun h => by cases h⟩
    cases p <;> simp [m_spec_RightSimple, m_spec_bareSel, hp, h1, h2]
  by_cases h3 : b < -1000
  · refine ⟨false, ?_, fun h => by cases h⟩
    cases p <;> simp [m_spec_RightSimple, m_spec_bareSel, hp, h1, h2, h3]
  by_cases h4 : 1000 < b
  · refine ⟨false, ?_, fun h => by cases h⟩
    cases p <;> simp [m_spec_RightSimple, m_spec_bareSel, hp, h1, h2, h3, h4]
  suffices h : ∃ r, m_spec_RightSimple ⟨6, 0, [], [], a, b, f, 1⟩ = some r by
    obtain ⟨r, h⟩ := h
    exact ⟨r, h, fun _ => by omega⟩
  cases p
  · exact ⟨false, by simp [m_spec_RightSimple, m_spec_bareSel, hp]⟩
  · by_cases ha : a = 0 <;> by_cases f1 : 0 ≤ f <;> by_cases f2 : f ≤ 3 <;> simp [m_spec_RightSimple, m_spec_bareSel, hp, h1, h2, h3, h4, m_spec_wordy, ha, f1, f2]
theorem simple6 (t : List Node) (a : Nat) (v : Node) (hv : t[a]? = some v) (A B f : Int) : m_spec_simple (t, (a : Int), ⟨6, 0, [], [], A, B, f, 1⟩) = m_spec_counted (t, (a : Int), A, B, f) := by
  simp only [m_spec_simple, cond_dec, atI_nat, hv, bind_some]
  simp
  try cases m_spec_counted (t, (a : Int), A, B, f) <;> rfl
end Go.Proofs.Ytnggneccdekofaa.V
