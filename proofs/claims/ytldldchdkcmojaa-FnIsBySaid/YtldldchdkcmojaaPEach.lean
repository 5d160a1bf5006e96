/-
  FnEachBreak and FnIsBy. Plain facts.
-/
import Derived.Test.YtldldchdkcmojaaPPlaces
import Derived.Test.YtldldchdkcmojaaLwEach
set_option linter.unusedVariables false
set_option linter.unusedSimpArgs false
namespace Go.Proofs.Ytldldchdkcmojaa.V
open Go

theorem answered_eq (a : List Bool) (i : Nat) : m_laws_answered7 (a, (i : Int)) = some (a.getD i false) := by
  simp only [m_laws_answered7, cond_dec, atI_nat]
  split
  · rename_i h
    obtain ⟨v, hv⟩ := get_lt (l := a) (k := i) (by omega)
    rw [hv, bind_some, List.getD_eq_getElem?_getD, hv]; rfl
  · rename_i h
    rw [List.getD_eq_getElem?_getD, List.getElem?_eq_none (by omega)]; rfl
theorem yes_eq (a : List Bool) (i : Nat) : m_impl_yes (a, (i : Int)) = some (a.getD i false) := by
  simp only [m_impl_yes, cond_dec, atI_nat]
  split
  · rename_i h
    obtain ⟨v, hv⟩ := get_lt (l := a) (k := i) (by omega)
    rw [hv, bind_some, List.getD_eq_getElem?_getD, hv]; rfl
  · rename_i h
    rw [List.getD_eq_getElem?_getD, List.getElem?_eq_none (by omega)]; rfl
theorem asked_ex (t : List Node) (l : List Int) (a : List Bool) (hf : fits1 t = true) (hl : l.length ≤ 2147483647) : ∃ b, m_laws_asked7 (t, l, a) = some b ∧ (b = true → RT t ∧ Asc t l) := by
  obtain ⟨b1, h1, g1⟩ := Right_ex t hf
  obtain ⟨b2, h2, g2⟩ := order_ex t l hl
  simp only [m_laws_asked7, h1, h2, bind_some]
  cases b1
  · exact ⟨_, rfl, fun h => by cases h⟩
  · cases b2
    · exact ⟨_, rfl, fun h => by cases h⟩
    · exact ⟨_, rfl, fun _ => ⟨g1 rfl, g2 rfl⟩⟩
section
variable {t : List Node} {l : List Int} {a : List Bool}
theorem subL_take {n : Nat} (hn : n ≤ l.length) : subL l 0 (n : Int) = some (l.take n) := by
  simp only [subL]
  rw [if_pos (by omega)]
  simp
theorem place1 (hR : RT t) (hA : Asc t l) {k : Nat} {v : Int} (hv : l[k]? = some v) : m_impl_placesOf (ptrs t, [some v.toNat]) = some [v] := by
  have h1 := hR.len
  have h := placesOf_eq t (by omega) [v] (by simp) (fun w hw => by
    simp at hw; subst hw; exact hA.bd k _ hv)
  exact h
theorem takeS {k : Nat} {v : Int} (hv : l[k]? = some v) : l.take k ++ [v] = l.take (k + 1) := by
  rw [List.take_add_one, hv]; rfl
/-! EachBreak -/
theorem each_n (hl : l.length ≤ 1000000) : ∃ n : Nat, loopO m_laws_FnEachBreak_0 (t, l, a, 0) = some (t, l, a, (n : Int)) ∧ n ≤ l.length ∧ (∀ k, k + 1 < n → a.getD k false = true) ∧ (n = l.length ∨ ∃ j, n = j + 1 ∧ a.getD j false = false) := by
  obtain ⟨y, h, q⟩ := loopO_rule (body := m_laws_FnEachBreak_0) (fun x => ∃ k : Nat, x = (t, l, a, (k : Int)) ∧ k ≤ l.length ∧ ∀ i, i + 1 < k → a.getD i false = true) (fun _ y => ∃ n : Nat, y = (t, l, a, (n : Int)) ∧ n ≤ l.length ∧ (∀ k, k + 1 < n → a.getD k false = true) ∧ (n = l.length ∨ ∃ j, n = j + 1 ∧ a.getD j false = false)) (fun x => ((l.length : Int) - x.2.2.2).toNat) (fun x hx => by
    obtain ⟨k, rfl, hk, h1⟩ := hx
    simp only [m_laws_FnEachBreak_0, cond_dec]
    split
    · rename_i h2
      rw [w64 (n := (k : Int) + 1) (by omega) (by omega)]
      split
      · rename_i h3
        have : k = 0 := by omega
        subst this
        exact .inr ⟨_, rfl, ⟨0 + 1, rfl, by omega, fun i hi => by omega⟩, by simp only; omega, fun _ h => h⟩
      · rename_i h3
        obtain ⟨j, rfl⟩ : ∃ j, k = j + 1 := ⟨k - 1, by omega⟩
        have e : IntKind.wrap .i64 (((j + 1 : Nat) : Int) - 1) = (j : Int) := by rw [w64 (by omega) (by omega)]; omega
        rw [e, answered_eq, bind_some]
        cases hj : a.getD j false with
        | true =>
          refine .inr ⟨_, rfl, ⟨j + 1 + 1, rfl, by omega, fun i hi => ?_⟩, by simp only; omega, fun _ h => h⟩
          by_cases e : i = j
          · subst e; exact hj
          · exact h1 i (by omega)
        | false => exact .inl ⟨_, rfl, j + 1, rfl, hk, h1, .inr ⟨j, rfl, hj⟩⟩
    · exact .inl ⟨_, rfl, k, rfl, hk, h1, .inl (by omega)⟩) (t, l, a, (0 : Int)) ⟨0, rfl, Nat.zero_le _, fun i hi => by omega⟩
  obtain ⟨n, rfl, h1, h2, h3⟩ := q
  exact ⟨n, h, h1, h2, h3⟩
theorem each_eq (hR : RT t) (hA : Asc t l) {n : Nat} (h1 : n ≤ l.length) (h2 : ∀ k, k + 1 < n → a.getD k false = true) (h3 : n = l.length ∨ ∃ j, n = j + 1 ∧ a.getD j false = false) : m_goquery_Selection_EachWithBreak (pts l, ((), ptrs t, a), []) = some (pts l, (), l.take n) := by
  have hl1 := hR.len
  have hl2 := hA.len
  simp only [m_goquery_Selection_EachWithBreak, pts_len]
  have key : ∀ m k, n - k = m → k ≤ n → (k = n → n = l.length) → ∃ y, loopO m_goquery_Selection_EachWithBreak_0 (pts l, ((), ptrs t, a), pts l, (l.length : Int), (k : Int), l.take k) = some y ∧ selim (fun (y : List (Option Nat) × (PUnit × List (Option Nat) × List Bool) × List Int) => some (y.1, (), y.2.2)) (fun (y : (PUnit × List (Option Nat) × List Bool) × List (Option Nat) × List Int) => some (y.2.1, (), y.2.2)) y = some (pts l, (), l.take n) := by
    intro m
    induction m with
    | zero =>
      intro k hm hk he
      have hkn : k = n := by omega
      have := he hkn
      subst hkn
      refine ⟨.inl (pts l, ((), ptrs t, a), l.take k), loopO_out ?_, rfl⟩
      simp only [m_goquery_Selection_EachWithBreak_0, cond_dec]
      rw [if_neg (by omega)]
    | succ m ih =>
      intro k hm hk he
      obtain ⟨v, hv⟩ := get_lt (l := l) (k := k) (by omega)
      have step : m_goquery_Selection_EachWithBreak_0 (pts l, ((), ptrs t, a), pts l, (l.length : Int), (k : Int), l.take k) = some (if a.getD k false then .nx (pts l, ((), ptrs t, a), pts l, (l.length : Int), ((k + 1 : Nat) : Int), l.take (k + 1)) else .out (.inr (((), ptrs t, a), pts l, l.take (k + 1)))) := by
        simp only [m_goquery_Selection_EachWithBreak_0, cond_dec, atI_nat]
        rw [if_pos (by omega), pts_get, hv]
        simp only [Option.map_some, bind_some, m_goquery_newSingleSelection, m_impl_EachBreakOf_1, place1 hR hA hv]
        rw [appL_some (by simp; omega), bind_some, yes_eq, bind_some, takeS hv, w64 (by omega) (by omega)]
        simp only [bind_some]
        cases a.getD k false <;> rfl
      cases hy : a.getD k false with
      | true =>
        rw [hy] at step
        have hn : k + 1 = n → n = l.length := fun e => by
          rcases h3 with h3 | ⟨j, rfl, hj⟩
          · exact h3
          · have : k = j := by omega
            subst this; rw [hy] at hj; cases hj
        obtain ⟨y, g1, g2⟩ := ih (k + 1) (by omega) (by omega) hn
        exact ⟨y, by rw [loopO_nx step]; exact g1, g2⟩
      | false =>
        rw [hy] at step
        have hn : n = k + 1 := by
          apply Decidable.byContradiction
          intro hne
          have := h2 k (by omega)
          rw [hy] at this; cases this
        subst hn
        exact ⟨_, loopO_out step, rfl⟩
  obtain ⟨y, g1, g2⟩ := key n 0 (by omega) (Nat.zero_le _) (fun e => by
    rcases h3 with h3 | ⟨j, rfl, _⟩
    · exact h3
    · omega)
  rw [show loopO m_goquery_Selection_EachWithBreak_0 (pts l, ((), ptrs t, a), pts l, (l.length : Int), (0 : Int), []) = some y from g1, bind_some]
  exact g2
theorem each_f (t : List Node) (l : List Int) (a : List Bool) : m_impl_EachBreakOf_f (t, l, a) = (m_impl_EachBreakOf (t, l, a, [])).map fun r => (r.1, r.2.1) := rfl
end
theorem fn_eachBreak (t : List Node) (l : List Int) (a : List Bool) : m_laws_FnEachBreak (t, l, a) = some true := by
  simp only [m_laws_FnEachBreak, zz1, bind_some, not_cond, cond_dec]
  cases hf : fits1 t
  · rfl
  · rw [if_pos rfl]
    split
    · rfl
    · split
      · rfl
      · rename_i hl ha
        obtain ⟨b, hs, hS⟩ := asked_ex t l a hf (by omega)
        rw [hs, bind_some]
        cases b
        · rfl
        · rw [if_pos rfl]
          obtain ⟨hR, hA⟩ := hS rfl
          have h1 := hR.len
          have h2 := hA.len
          obtain ⟨n, g1, g2, g3, g4⟩ := each_n (t := t) (l := l) (a := a) (by omega)
          rw [g1, bind_some]
          simp only
          rw [each_f]
          simp only [m_impl_EachBreakOf, chosen_eq t l hf hR hA, bind_some, Bool.not_true, cond_false, each_eq hR hA g2 g3 g4, Option.map_some, cond_true]
          rw [subL_take g2, bind_some, sameList_refl _ (by rw [List.length_take]; omega), bind_some]
/-! IsBy -/
section
variable {t : List Node} {l : List Int} {a : List Bool}
theorem isby_n (hl : l.length ≤ 1000000) : ∃ n : Nat, loopO m_laws_FnIsBy_0 (t, l, a, 0) = some (t, l, a, (n : Int)) ∧ n ≤ l.length ∧ (∀ k, k < n → a.getD k false = false) ∧ (n = l.length ∨ a.getD n false = true) := by
  obtain ⟨y, h, q⟩ := loopO_rule (body := m_laws_FnIsBy_0) (fun x => ∃ k : Nat, x = (t, l, a, (k : Int)) ∧ k ≤ l.length ∧ ∀ i, i < k → a.getD i false = false) (fun _ y => ∃ n : Nat, y = (t, l, a, (n : Int)) ∧ n ≤ l.length ∧ (∀ k, k < n → a.getD k false = false) ∧ (n = l.length ∨ a.getD n false = true)) (fun x => ((l.length : Int) - x.2.2.2).toNat) (fun x hx => by
    obtain ⟨k, rfl, hk, h1⟩ := hx
    simp only [m_laws_FnIsBy_0, cond_dec]
    split
    · rename_i h2
      rw [w64 (n := (k : Int) + 1) (by omega) (by omega), answered_eq, bind_some]
      cases hj : a.getD k false with
      | false =>
        refine .inr ⟨_, rfl, ⟨k + 1, rfl, by omega, fun i hi => ?_⟩, by simp only; omega, fun _ h => h⟩
        by_cases e : i = k
        · subst e; exact hj
        · exact h1 i (by omega)
      | true => exact .inl ⟨_, rfl, k, rfl, hk, h1, .inr hj⟩
    · exact .inl ⟨_, rfl, k, rfl, hk, h1, .inl (by omega)⟩) (t, l, a, (0 : Int)) ⟨0, rfl, Nat.zero_le _, fun i hi => by omega⟩
  obtain ⟨n, rfl, h1, h2, h3⟩ := q
  exact ⟨n, h, h1, h2, h3⟩
theorem isby_eq (hR : RT t) (hA : Asc t l) {n : Nat} (h1 : n ≤ l.length) (h2 : ∀ k, k < n → a.getD k false = false) (h3 : n = l.length ∨ a.getD n false = true) : m_goquery_Selection_IsFunction (pts l, ((), ptrs t, a), []) = some (decide (n < l.length), (), l.take (n + 1)) := by
  have hl1 := hR.len
  have hl2 := hA.len
  simp only [m_goquery_Selection_IsFunction, pts_len]
  have key : ∀ m k, n - k = m → k ≤ n → ∃ y, loopO m_goquery_Selection_IsFunction_0 (pts l, ((), ptrs t, a), pts l, (l.length : Int), (k : Int), l.take k) = some y ∧ selim (fun (y : (PUnit × List (Option Nat) × List Bool) × List Int) => some (false, (), y.2)) (fun (y : (PUnit × List (Option Nat) × List Bool) × Bool × List Int) => some (y.2.1, (), y.2.2)) y = some (decide (n < l.length), (), l.take (n + 1)) := by
    intro m
    have step : ∀ (k : Nat) (v : Int), l[k]? = some v → m_goquery_Selection_IsFunction_0 (pts l, ((), ptrs t, a), pts l, (l.length : Int), (k : Int), l.take k) = some (if a.getD k false then .out (.inr (((), ptrs t, a), true, l.take (k + 1))) else .nx (pts l, ((), ptrs t, a), pts l, (l.length : Int), ((k + 1 : Nat) : Int), l.take (k + 1))) := fun k v hv => by
      have hk := (List.getElem?_eq_some_iff.1 hv).1
      simp only [m_goquery_Selection_IsFunction_0, cond_dec, atI_nat]
      rw [if_pos (by omega), pts_get, hv]
      simp only [Option.map_some, bind_some, m_goquery_newSingleSelection, m_impl_IsBy_1, place1 hR hA hv]
      rw [appL_some (by simp; omega), bind_some, yes_eq, bind_some, takeS hv, w64 (by omega) (by omega)]
      simp only [bind_some]
      cases a.getD k false <;> rfl
    induction m with
    | zero =>
      intro k hm hk
      have hkn : k = n := by omega
      subst hkn
      by_cases hkl : k = l.length
      · refine ⟨.inl (((), ptrs t, a), l.take k), loopO_out ?_, ?_⟩
        · simp only [m_goquery_Selection_IsFunction_0, cond_dec]
          rw [if_neg (by omega)]
        · rw [selim_l, decide_eq_false (by omega), List.take_of_length_le (by omega), List.take_of_length_le (by omega)]
      · obtain ⟨v, hv⟩ := get_lt (l := l) (k := k) (by omega)
        have h := step k v hv
        rcases h3 with h3 | h3
        · exact absurd h3 hkl
        · rw [h3] at h
          refine ⟨_, loopO_out h, ?_⟩
          rw [selim_r, decide_eq_true (by omega)]
    | succ m ih =>
      intro k hm hk
      obtain ⟨v, hv⟩ := get_lt (l := l) (k := k) (by omega)
      have h := step k v hv
      rw [h2 k (by omega)] at h
      obtain ⟨y, g1, g2⟩ := ih (k + 1) (by omega) (by omega)
      exact ⟨y, by rw [loopO_nx h]; exact g1, g2⟩
  obtain ⟨y, g1, g2⟩ := key n 0 (by omega) (Nat.zero_le _)
  rw [show loopO m_goquery_Selection_IsFunction_0 (pts l, ((), ptrs t, a), pts l, (l.length : Int), (0 : Int), []) = some y from g1, bind_some]
  exact g2
theorem isby_f (t : List Node) (l : List Int) (a : List Bool) : m_impl_IsBy_f (t, l, a) = (m_impl_IsBy (t, l, a, [])).map fun r => (r.1, r.2.1, r.2.2.1) := rfl
end
theorem fn_isBy (t : List Node) (l : List Int) (a : List Bool) : m_laws_FnIsBy (t, l, a) = some true := by
  simp only [m_laws_FnIsBy, zz1, bind_some, not_cond, cond_dec]
  cases hf : fits1 t
  · rfl
  · rw [if_pos rfl]
    split
    · rfl
    · split
      · rfl
      · rename_i hl ha
        obtain ⟨b, hs, hS⟩ := asked_ex t l a hf (by omega)
        rw [hs, bind_some]
        cases b
        · rfl
        · rw [if_pos rfl]
          obtain ⟨hR, hA⟩ := hS rfl
          have h1 := hR.len
          have h2 := hA.len
          obtain ⟨n, g1, g2, g3, g4⟩ := isby_n (t := t) (l := l) (a := a) (by omega)
          rw [g1, bind_some]
          simp only
          rw [isby_f]
          simp only [m_impl_IsBy, chosen_eq t l hf hR hA, bind_some, Bool.not_true, cond_false, isby_eq hR hA g2 g3 g4, Option.map_some, cond_true]
          have e : decide (((n : Nat) : Int) < (l.length : Int)) = decide (n < l.length) := by rw [decide_eq_decide]; omega
          rw [e]
          simp only [BEq.rfl, cond_true]
          rw [w64 (by omega) (by omega), if_pos (by rw [List.length_take]; split <;> omega), if_pos (by rw [List.length_take]; omega), subL_take (by rw [List.length_take]; omega), bind_some]
          have e2 : l.take (l.take (n + 1)).length = l.take (n + 1) := by rw [List.length_take, List.take_eq_take_iff]; omega
          rw [e2, sameList_refl _ (by rw [List.length_take]; omega), bind_some]
end Go.Proofs.Ytldldchdkcmojaa.V
