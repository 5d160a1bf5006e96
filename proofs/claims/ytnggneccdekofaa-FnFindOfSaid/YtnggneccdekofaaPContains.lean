/-
  FnIndexOf's and FnContains' models answer true. Plain facts.
-/
import Derived.Test.YtnggneccdekofaaPSel
import Derived.Test.YtnggneccdekofaaLwSel
namespace Go.Proofs.Ytnggneccdekofaa.V
open Go

theorem selection_ex (t : List Node) (l : List Int) (hf : fits1 t = true) (hl : l.length ≤ 2147483647) : ∃ b, m_laws_selection (t, l) = some b ∧ (b = true → RT t ∧ Asc t l) := by
  obtain ⟨b, hR, hRT⟩ := Right_ex t hf
  simp only [m_laws_selection, hR, bind_some, not_cond]
  cases b
  · exact ⟨_, rfl, fun h => by cases h⟩
  · rw [if_pos rfl]
    have hRT := hRT rfl
    obtain ⟨b, hO, hAsc⟩ := order_ex t l hl
    rw [hO, bind_some]
    cases b
    · exact ⟨_, rfl, fun h => by cases h⟩
    · rw [if_pos rfl]
      have hA := hAsc rfl
      have h1 := hRT.len
      obtain ⟨y, hy, _⟩ := loopO_up (body := m_laws_selection_0) (st := fun k => (t, l, (k : Int))) l.length (fun _ => True) (fun k hk => by
        simp only [m_laws_selection_0, cond_dec, atI_nat]
        split
        · obtain ⟨v, hv⟩ := get_lt (l := l) (k := k) (by omega)
          obtain ⟨b1, b2⟩ := hA.bd k v hv
          obtain ⟨a, rfl⟩ := Int.eq_ofNat_of_zero_le b1
          obtain ⟨u, hu⟩ := get_lt (l := t) (k := a) (by omega)
          rw [hv, bind_some, atI_nat, hu, bind_some, w64 (by omega) (by omega)]
          split
          · exact .inl ⟨_, rfl, trivial⟩
          · exact .inr ⟨by omega, rfl⟩
        · exact .inl ⟨_, rfl, trivial⟩) 0 (Nat.zero_le _)
      rw [show loopO m_laws_selection_0 (t, l, (0 : Int)) = some y from hy, bind_some]
      cases y with
      | inl u => exact ⟨_, rfl, fun _ => ⟨hRT, hA⟩⟩
      | inr b => exact ⟨_, rfl, fun _ => ⟨hRT, hA⟩⟩
theorem pts_mem {t : List Node} {l : List Int} (hA : Asc t l) {a : Nat} : some a ∈ pts l ↔ ∃ i : Nat, l[i]? = some (a : Int) := by
  constructor
  · intro h
    obtain ⟨i, hi⟩ := List.mem_iff_getElem?.1 h
    rw [pts_get] at hi
    cases hv : l[i]? with
    | none => rw [hv] at hi; cases hi
    | some v =>
      rw [hv] at hi
      have := (hA.bd i v hv).1
      simp at hi
      exact ⟨i, by rw [hv]; congr 1; omega⟩
  · rintro ⟨i, hi⟩
    exact List.mem_iff_getElem?.2 ⟨i, by rw [pts_get, hi]; rfl⟩
theorem pts_pos {t : List Node} {l : List Int} (hA : Asc t l) {a i : Nat} (h : l[i]? = some (a : Int)) : pos (pts l) (some a) = (i : Int) := by
  refine pos_some (by rw [pts_get, h]; rfl) fun j hj => ?_
  rw [pts_get]
  cases hv : l[j]? with
  | none => simp
  | some v =>
    have h1 := hA.lt hj hv h
    have h2 := (hA.bd j v hv).1
    simp
    omega
theorem indexf (t : List Node) (l : List Int) (i : Int) : m_impl_IndexOf_f (t, l, i) = (m_impl_IndexOf (t, l, i, [])).map fun r => (r.1, r.2.1) := rfl
theorem index_eq (t : List Node) (l : List Int) (a : Nat) (hf : fits1 t = true) (hR : RT t) (hA : Asc t l) (ha : a < t.length) : m_impl_IndexOf_f (t, l, (a : Int)) = some (pos (pts l) (some a), true) := by
  have h1 := hR.len
  have h2 := hA.len
  rw [indexf]
  simp only [m_impl_IndexOf, chosen_eq t l hf hR hA, bind_some, Bool.not_true, cond_false, cond_dec, ptrs_len, atI_nat]
  rw [if_neg (by omega), if_neg (by omega), ptrs_get ha]
  simp only [bind_some, m_goquery_Selection_IndexOfNode, indexIn_eq (pts l) a (by rw [pts_len]; omega)]
  rfl
theorem fn_indexOf (t : List Node) (l : List Int) (at_ : Int) : m_laws_FnIndexOf (t, l, at_) = some true := by
  simp only [m_laws_FnIndexOf, zz1, bind_some, not_cond, cond_dec]
  cases hf : fits1 t
  · rfl
  · rw [if_pos rfl]
    split
    · rfl
    · rename_i hl
      obtain ⟨b, hs, hS⟩ := selection_ex t l hf (by omega)
      rw [hs, bind_some]
      cases b
      · rfl
      · rw [if_pos rfl]
        obtain ⟨hR, hA⟩ := hS rfl
        have h1 := hR.len
        have h2 := hA.len
        rw [within_eq, bind_some]
        by_cases hw : 0 ≤ at_ ∧ at_ < t.length
        · rw [decide_eq_true hw, if_pos rfl]
          obtain ⟨a, rfl⟩ := Int.eq_ofNat_of_zero_le hw.1
          obtain ⟨y, hy, w, rfl, hyw⟩ := loopO_rule (body := m_laws_FnIndexOf_0) (fun x => ∃ (w : Int) (k : Nat), x = (t, l, (a : Int), w, (k : Int)) ∧ k ≤ l.length ∧ ((w = -1 ∧ ∀ i : Nat, i < k → l[i]? ≠ some (a : Int)) ∨ ∃ i : Nat, l[i]? = some (a : Int) ∧ w = (i : Int))) (fun _ y => ∃ w : Int, y = (t, l, (a : Int), w) ∧ ((w = -1 ∧ ∀ i : Nat, l[i]? ≠ some (a : Int)) ∨ ∃ i : Nat, l[i]? = some (a : Int) ∧ w = (i : Int))) (fun x => ((l.length : Int) - x.2.2.2.2).toNat) (fun x hx => by
            obtain ⟨w, k, rfl, hk, hw⟩ := hx
            simp only [m_laws_FnIndexOf_0, cond_dec, atI_nat]
            split
            · obtain ⟨v, hv⟩ := get_lt (l := l) (k := k) (by omega)
              rw [hv, bind_some, w64 (by omega) (by omega)]
              split
              · rename_i hva
                subst hva
                exact .inr ⟨_, rfl, ⟨(k : Int), k + 1, rfl, by omega, .inr ⟨k, hv, rfl⟩⟩, by simp only; omega, fun _ h => h⟩
              · rename_i hva
                refine .inr ⟨_, rfl, ⟨w, k + 1, rfl, by omega, ?_⟩, by simp only; omega, fun _ h => h⟩
                rcases hw with ⟨h3, h4⟩ | h3
                · refine .inl ⟨h3, fun i hi e => ?_⟩
                  by_cases e2 : i = k
                  · subst e2; rw [hv] at e; cases e; exact hva rfl
                  · exact h4 i (by omega) e
                · exact .inr h3
            · refine .inl ⟨_, rfl, w, rfl, ?_⟩
              rcases hw with ⟨h3, h4⟩ | h3
              · refine .inl ⟨h3, fun i e => h4 i ?_ e⟩
                have := (List.getElem?_eq_some_iff.1 e).1
                omega
              · exact .inr h3) (t, l, (a : Int), (-1 : Int), (0 : Int)) ⟨-1, 0, rfl, Nat.zero_le _, .inl ⟨rfl, fun i hi => by omega⟩⟩
          rw [hy, bind_some]
          simp only
          rw [index_eq t l a hf hR hA (by omega), bind_some]
          simp only [cond_true]
          congr 1
          rw [decide_eq_true_eq]
          rcases hyw with ⟨h3, h4⟩ | ⟨i, h3, h4⟩
          · rw [h3]
            refine pos_none fun hm => ?_
            obtain ⟨i, hi⟩ := (pts_mem hA).1 hm
            exact h4 i hi
          · rw [h4]; exact pts_pos hA h3
        · rw [decide_eq_false hw]
          rfl

/-! beneath -/
/-- A node is beneath another one. -/
def Un (t : List Node) (a c : Nat) : Prop := c < a ∧ a < c + sz t c
instance {t : List Node} {a c : Nat} : Decidable (Un t a c) := inferInstanceAs (Decidable (_ ∧ _))
theorem un_par {t : List Node} (hR : RT t) {b p c : Nat} (hb : b < t.length) (hp : par t b = some p) (hc : c ≠ p) : Un t b c ↔ Un t p c := by
  obtain ⟨h1, h2, h3⟩ := par_some hp
  constructor
  · rintro ⟨g1, g2⟩
    rcases Nat.lt_or_ge c p with h4 | h4
    · exact ⟨h4, by omega⟩
    · exact absurd g2 (h3 c (by omega) g1)
  · rintro ⟨g1, g2⟩
    have := hR.lam.nest c p (Nat.zero_le _) (by omega) g1 g2
    exact ⟨by omega, by omega⟩
theorem nodeContains_eq (t : List Node) (hR : RT t) (c a : Nat) (ha : a < t.length) : m_goquery_nodeContains (some c, some a, store t) = some (decide (Un t a c)) := by
  have key : ∀ n b, b < n → b < t.length → loopO m_goquery_nodeContains_0 (some c, (if b = 0 then none else par t b), store t) = some (if Un t b c then .inr (true, store t) else .inl (store t)) := by
    intro n
    induction n with
    | zero => intro b hb; omega
    | succ n ih =>
      intro b hbn hb
      have hpar0 : par t 0 = none := rfl
      have e : (if b = 0 then none else par t b) = par t b := by
        by_cases h0 : b = 0
        · subst h0; rfl
        · rw [if_neg h0]
      rw [e]
      cases hp : par t b with
      | none =>
        have hno : ¬ Un t b c := fun h => parF_none hp c h.1 h.2
        rw [if_neg hno]
        exact loopO_out (by simp only [m_goquery_nodeContains_0, Option.isNone_none, Bool.not_true, cond_false])
      | some p =>
        obtain ⟨h1, h2, h3⟩ := par_some hp
        by_cases hc : c = p
        · subst hc
          rw [if_pos ⟨h1, h2⟩]
          refine loopO_out ?_
          simp only [m_goquery_nodeContains_0, Option.isNone_some, Bool.not_false, cond_true, cond_dec, if_true]
        · have step : m_goquery_nodeContains_0 (some c, some p, store t) = some (.nx (some c, (if p = 0 then none else par t p), store t)) := by
            simp only [m_goquery_nodeContains_0, Option.isNone_some, Bool.not_false, cond_true, cond_dec]
            rw [if_neg (by intro e; cases e; exact hc rfl)]
            simp only [bind_some, store_get (show p < t.length by omega)]
            rfl
          rw [loopO_nx step, ih p (by omega) (by omega)]
          simp only [un_par hR hb hp hc]
  simp only [m_goquery_nodeContains, bind_some, store_get ha]
  have hpar : (rc t 0 t.length a).par = if a = 0 then none else par t a := rfl
  rw [hpar, key (a + 1) a (by omega) ha, bind_some]
  by_cases h : Un t a c
  · rw [if_pos h, decide_eq_true h]; rfl
  · rw [if_neg h, decide_eq_false h]; rfl
/-- A node is beneath one of some. -/
def UnL (t : List Node) (a : Nat) (l : List Int) : Bool := l.any fun v => decide (Un t a v.toNat)
theorem sliceContains_eq (t : List Node) (hR : RT t) (l : List Int) (hA : l.length ≤ 2147483647) (a : Nat) (ha : a < t.length) : m_goquery_sliceContains (pts l, some a, store t) = some (UnL t a l) := by
  simp only [m_goquery_sliceContains, pts_len]
  have h := loop_all (body := m_goquery_sliceContains_0) l (fun v => !decide (Un t a v.toNat)) (fun k => (some a, pts l, (l.length : Int), (k : Int), store t)) (.inl (store t)) (.inr (true, store t)) (fun k v hv => by
    have hk := (List.getElem?_eq_some_iff.1 hv).1
    simp only [m_goquery_sliceContains_0, cond_dec, atI_nat, pts_get]
    rw [if_pos (by omega), hv]
    simp only [Option.map_some, bind_some]
    rw [nodeContains_eq t hR _ a ha, bind_some, w64 (by omega) (by omega)]
    by_cases hu : Un t a v.toNat
    · rw [decide_eq_true hu]; rfl
    · rw [decide_eq_false hu]; rfl) (by
    simp only [m_goquery_sliceContains_0, cond_dec]
    rw [if_neg (by omega)]) 0 (Nat.zero_le _)
  rw [show loopO m_goquery_sliceContains_0 (some a, pts l, (l.length : Int), (0 : Int), store t) = _ from h, bind_some, List.drop_zero]
  have e : (l.all fun v => !decide (Un t a v.toNat)) = !UnL t a l := by simp [UnL, List.all_eq_not_any_not]
  rw [e]
  cases UnL t a l <;> rfl
theorem containsf (t : List Node) (l : List Int) (i : Int) : m_impl_Contains_f (t, l, i) = (m_impl_Contains (t, l, i, [])).map fun r => (r.1, r.2.1) := rfl
theorem contains_eq (t : List Node) (l : List Int) (a : Nat) (hf : fits1 t = true) (hR : RT t) (hA : Asc t l) (ha : a < t.length) : m_impl_Contains_f (t, l, (a : Int)) = some (UnL t a l, true) := by
  have h1 := hR.len
  have h2 := hA.len
  rw [containsf]
  simp only [m_impl_Contains, chosen_eq t l hf hR hA, bind_some, Bool.not_true, cond_false, cond_dec, ptrs_len, atI_nat]
  rw [if_neg (by omega), if_neg (by omega), ptrs_get ha]
  simp only [bind_some, m_goquery_Selection_Contains, sliceContains_eq t hR l (by omega) a ha]
  rfl
theorem under_eq (t : List Node) (hR : RT t) (a c : Nat) (hc : c < t.length) : m_spec_under (t, (a : Int), (c : Int)) = some (decide (Un t a c)) := by
  obtain ⟨v, hv, hvs, _, h4⟩ := hR.lam.ok c (Nat.zero_le _) hc
  have h1 := hR.len
  simp only [m_spec_under, cond_dec, atI_nat, hv, bind_some]
  split
  · rw [hvs, w64 (by omega) (by omega)]
    congr 1
    rw [decide_eq_decide]
    unfold Un
    omega
  · rw [decide_eq_false]
    unfold Un
    omega
theorem in_nil (v : Int) : m_spec_in ([], v) = some false := by
  simp only [m_spec_in]
  rw [loopO_out (b := .inl ()) (by simp [m_spec_in_0])]
  rfl
theorem beneath1 (t : List Node) (hR : RT t) (l : List Int) (hA : Asc t l) (a : Nat) (ha : a < t.length) : m_spec_Beneath (t, l, [(a : Int)]) = some (if UnL t a l then [(a : Int)] else []) := by
  have h1 := hR.len
  have h2 := hA.len
  simp only [m_spec_Beneath]
  -- the inner loop
  have inner : ∀ m k (b : Bool), l.length - k = m → k ≤ l.length → loopO m_spec_Beneath_0_0 (t, l, [(a : Int)], [], (0 : Int), b, (k : Int)) = some (t, l, [(a : Int)], [], (0 : Int), b || (l.drop k).any fun v => decide (Un t a v.toNat)) := by
    intro m
    induction m with
    | zero =>
      intro k b hm hk
      have : k = l.length := by omega
      subst this
      refine loopO_out ?_
      simp only [m_spec_Beneath_0_0, cond_dec]
      rw [if_neg (by omega)]
      simp
    | succ m ih =>
      intro k b hm hk
      obtain ⟨v, hv⟩ := get_lt (l := l) (k := k) (by omega)
      obtain ⟨b1, b2⟩ := hA.bd k v hv
      obtain ⟨c, rfl⟩ := Int.eq_ofNat_of_zero_le b1
      have hd : l.drop k = (c : Int) :: l.drop (k + 1) := by
        obtain ⟨g1, g2⟩ := List.getElem?_eq_some_iff.1 hv
        rw [← g2]
        exact List.drop_eq_getElem_cons g1
      have step : m_spec_Beneath_0_0 (t, l, [(a : Int)], [], (0 : Int), b, (k : Int)) = some (.nx (t, l, [(a : Int)], [], (0 : Int), b || decide (Un t a c), ((k + 1 : Nat) : Int))) := by
        simp only [m_spec_Beneath_0_0, cond_dec, atI_nat, atI_zero]
        rw [if_pos (by omega), w64 (by omega) (by omega)]
        cases b
        · simp only [cond_false, List.getElem?_cons_zero, bind_some, hv]
          rw [under_eq t hR a c (by omega), bind_some]
          rfl
        · rfl
      rw [loopO_nx step, ih (k + 1) _ (by omega) (by omega), hd, List.any_cons]
      simp [Bool.or_assoc]
  have hin := inner l.length 0 false (by omega) (Nat.zero_le _)
  simp only [List.drop_zero, Bool.false_or] at hin
  have hin' : loopO m_spec_Beneath_0_0 (t, l, [(a : Int)], [], (0 : Int), false, (0 : Int)) = some (t, l, [(a : Int)], [], (0 : Int), UnL t a l) := hin
  have fin : ∀ acc : List Int, loopO m_spec_Beneath_0 (t, l, [(a : Int)], acc, (1 : Int)) = some acc := fun acc => by
    refine loopO_out ?_
    simp only [m_spec_Beneath_0, cond_dec, List.length_singleton]
    rw [if_neg (by omega)]
  have step : m_spec_Beneath_0 (t, l, [(a : Int)], [], (0 : Int)) = some (.nx (t, l, [(a : Int)], (if UnL t a l then [(a : Int)] else []), (1 : Int))) := by
    simp only [m_spec_Beneath_0, cond_dec, List.length_singleton]
    rw [if_pos (by omega), hin', bind_some]
    simp only [atI_zero, List.getElem?_cons_zero, bind_some]
    cases UnL t a l
    · rfl
    · rw [in_nil]
      simp only [bind_some, cond_true, Bool.not_false, cond_false]
      rw [appL_some (by simp), bind_some]
      rfl
  rw [loopO_nx step, fin, bind_some]
theorem fn_contains (t : List Node) (l : List Int) (at_ : Int) : m_laws_FnContains (t, l, at_) = some true := by
  simp only [m_laws_FnContains, zz1, bind_some, not_cond, cond_dec]
  cases hf : fits1 t
  · rfl
  · rw [if_pos rfl]
    split
    · rfl
    · rename_i hl
      obtain ⟨b, hs, hS⟩ := selection_ex t l hf (by omega)
      rw [hs, bind_some]
      cases b
      · rfl
      · rw [if_pos rfl]
        obtain ⟨hR, hA⟩ := hS rfl
        rw [within_eq, bind_some]
        by_cases hw : 0 ≤ at_ ∧ at_ < t.length
        · rw [decide_eq_true hw, if_pos rfl]
          obtain ⟨a, rfl⟩ := Int.eq_ofNat_of_zero_le hw.1
          rw [contains_eq t l a hf hR hA (by omega), bind_some]
          simp only [cond_true]
          rw [beneath1 t hR l hA a (by omega), bind_some]
          cases UnL t a l <;> rfl
        · rw [decide_eq_false hw]
          rfl
end Go.Proofs.Ytnggneccdekofaa.V
