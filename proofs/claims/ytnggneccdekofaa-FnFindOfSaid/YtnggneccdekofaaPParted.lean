/-
  FnParted's model answers true. Plain facts.
-/
import Derived.Test.YtnggneccdekofaaPContains
namespace Go.Proofs.Ytnggneccdekofaa.V
open Go

theorem in_eq (l : List Int) (v : Int) (hl : l.length ≤ 2147483647) : m_spec_in (l, v) = some (decide (v ∈ l)) := by
  simp only [m_spec_in]
  have h := loop_all (body := m_spec_in_0) l (fun x => !decide (x = v)) (fun k => (l, v, (k : Int))) (.inl ()) (.inr true) (fun k u hu => by
    have hk := (List.getElem?_eq_some_iff.1 hu).1
    simp only [m_spec_in_0, cond_dec, atI_nat]
    rw [if_pos (by omega), hu, bind_some, w64 (by omega) (by omega)]
    by_cases e : u = v
    · rw [if_pos e, decide_eq_true e]; rfl
    · rw [if_neg e, decide_eq_false e]; rfl) (by
    simp only [m_spec_in_0, cond_dec]
    rw [if_neg (by omega)]) 0 (Nat.zero_le _)
  rw [show loopO m_spec_in_0 (l, v, (0 : Int)) = _ from h, bind_some, List.drop_zero]
  have e : (l.all fun x => !decide (x = v)) = !decide (v ∈ l) := by
    rw [Bool.eq_iff_iff]
    simp only [List.all_eq_true, Bool.not_eq_true', decide_eq_false_iff_not]
    constructor
    · intro h hv; exact h v hv rfl
    · intro h x hx e; exact h (e ▸ hx)
  rw [e]
  cases decide (v ∈ l) <;> rfl
theorem sameList_refl (l : List Int) (hl : l.length ≤ 2147483647) : m_spec_SameList (l, l) = some true := by
  simp only [m_spec_SameList, cond_dec]
  rw [if_neg (by simp)]
  have h := loop_all (body := m_spec_SameList_0) l (fun _ => true) (fun k => (l, l, (k : Int))) (.inl ()) (.inr false) (fun k u hu => by
    have hk := (List.getElem?_eq_some_iff.1 hu).1
    simp only [m_spec_SameList_0, cond_dec, atI_nat]
    rw [if_pos (by omega), hu]
    simp only [bind_some]
    rw [if_neg (by simp), w64 (by omega) (by omega)]
    rfl) (by
    simp only [m_spec_SameList_0, cond_dec]
    rw [if_neg (by omega)]) 0 (Nat.zero_le _)
  rw [show loopO m_spec_SameList_0 (l, l, (0 : Int)) = _ from h, bind_some]
  simp [selim_l]
theorem sameSet_true (a b : List Int) (ha : a.length ≤ 2147483647) (hb : b.length ≤ 2147483647) (h : ∀ v, v ∈ a ↔ v ∈ b) : m_spec_SameSet (a, b) = some true := by
  simp only [m_spec_SameSet]
  have h1 := loop_all (body := m_spec_SameSet_0) a (fun _ => true) (fun k => (a, b, (k : Int))) (.inl (a, b)) (.inr false) (fun k u hu => by
    have hk := (List.getElem?_eq_some_iff.1 hu).1
    simp only [m_spec_SameSet_0, cond_dec, atI_nat]
    rw [if_pos (by omega), hu]
    simp only [bind_some]
    rw [in_eq b u hb, bind_some, decide_eq_true ((h u).1 (List.mem_of_getElem? hu)), w64 (by omega) (by omega)]
    rfl) (by
    simp only [m_spec_SameSet_0, cond_dec]
    rw [if_neg (by omega)]) 0 (Nat.zero_le _)
  have h2 := loop_all (body := m_spec_SameSet_1) b (fun _ => true) (fun k => (a, b, (k : Int))) (.inl ()) (.inr false) (fun k u hu => by
    have hk := (List.getElem?_eq_some_iff.1 hu).1
    simp only [m_spec_SameSet_1, cond_dec, atI_nat]
    rw [if_pos (by omega), hu]
    simp only [bind_some]
    rw [in_eq a u ha, bind_some, decide_eq_true ((h u).2 (List.mem_of_getElem? hu)), w64 (by omega) (by omega)]
    rfl) (by
    simp only [m_spec_SameSet_1, cond_dec]
    rw [if_neg (by omega)]) 0 (Nat.zero_le _)
  have e : ∀ l : List Int, ((l.drop 0).all fun _ => true) = true := fun l => by simp
  rw [e] at h1 h2
  rw [show loopO m_spec_SameSet_0 (a, b, (0 : Int)) = _ from h1, bind_some]
  simp only [if_true, selim_l]
  rw [show loopO m_spec_SameSet_1 (a, b, (0 : Int)) = _ from h2, bind_some]
  rfl
/-- What filtering by nodes keeps. -/
def keepP (w : List Int) (keep : Bool) (v : Int) : Bool := decide (some v.toNat ∈ pts w) == keep
theorem winnow_eq (l w : List Int) (keep : Bool) (h : l.length + w.length < 1000) : m_goquery_winnowNodes (pts l, pts w, keep) = some (pts (l.filter (keepP w keep))) := by
  simp only [m_goquery_winnowNodes, cond_dec, pts_len]
  rw [w64 (by omega) (by omega), if_pos (by omega)]
  have key : ∀ m k, l.length - k = m → k ≤ l.length → loopO m_goquery_winnowNodes_0 (pts w, keep, pts ((l.take k).filter (keepP w keep)), pts l, (l.length : Int), (k : Int)) = some (pts (l.filter (keepP w keep))) := by
    intro m
    induction m with
    | zero =>
      intro k hm hk
      refine loopO_out ?_
      simp only [m_goquery_winnowNodes_0, cond_dec]
      rw [if_neg (by omega), List.take_of_length_le (by omega)]
    | succ m ih =>
      intro k hm hk
      obtain ⟨v, hv⟩ := get_lt (l := l) (k := k) (by omega)
      have hlen : (pts ((l.take k).filter (keepP w keep))).length ≤ 1000 := by
        rw [pts_len]
        have := List.length_filter_le (keepP w keep) (l.take k)
        have := List.length_take_le k l
        omega
      have step : m_goquery_winnowNodes_0 (pts w, keep, pts ((l.take k).filter (keepP w keep)), pts l, (l.length : Int), (k : Int)) = some (.nx (pts w, keep, pts ((l.take (k + 1)).filter (keepP w keep)), pts l, (l.length : Int), ((k + 1 : Nat) : Int))) := by
        simp only [m_goquery_winnowNodes_0, cond_dec, atI_nat]
        rw [if_pos (by omega), pts_get, hv]
        simp only [Option.map_some, bind_some]
        rw [isIn_eq _ _ (by rw [pts_len]; omega), bind_some, w64 (by omega) (by omega), List.take_add_one, hv]
        have e : (decide (some v.toNat ∈ pts w) == keep) = keepP w keep v := rfl
        rw [e]
        cases hp : keepP w keep v with
        | false =>
          simp [List.filter_append, hp]
        | true =>
          rw [appL_some (by simp only [List.length_singleton]; omega)]
          simp [List.filter_append, hp, pts]
      rw [loopO_nx step]
      exact ih (k + 1) (by omega) (by omega)
  rw [show loopO m_goquery_winnowNodes_0 (pts w, keep, [], pts l, (l.length : Int), (0 : Int)) = _ from key l.length 0 (by omega) (Nat.zero_le _), bind_some]
theorem placesOf_eq (t : List Node) (ht : t.length ≤ 1000000) (l : List Int) (hl : l.length ≤ 1000000) (h : ∀ v ∈ l, 0 ≤ v ∧ v < t.length) : m_impl_placesOf (ptrs t, pts l) = some l := by
  simp only [m_impl_placesOf, pts_len]
  have key : ∀ m k, l.length - k = m → k ≤ l.length → loopO m_impl_placesOf_0 (ptrs t, l.take k, pts l, (l.length : Int), (k : Int)) = some l := by
    intro m
    induction m with
    | zero =>
      intro k hm hk
      refine loopO_out ?_
      simp only [m_impl_placesOf_0, cond_dec]
      rw [if_neg (by omega), List.take_of_length_le (by omega)]
    | succ m ih =>
      intro k hm hk
      obtain ⟨v, hv⟩ := get_lt (l := l) (k := k) (by omega)
      obtain ⟨b1, b2⟩ := h v (List.mem_of_getElem? hv)
      obtain ⟨a, rfl⟩ := Int.eq_ofNat_of_zero_le b1
      have step : m_impl_placesOf_0 (ptrs t, l.take k, pts l, (l.length : Int), (k : Int)) = some (.nx (ptrs t, l.take (k + 1), pts l, (l.length : Int), ((k + 1 : Nat) : Int))) := by
        simp only [m_impl_placesOf_0, cond_dec, atI_nat]
        rw [if_pos (by omega), pts_get, hv]
        simp only [Option.map_some, bind_some, Int.toNat_natCast]
        rw [placeOf_eq _ _ (by rw [ptrs_len]; omega), bind_some, pos_ptrs (by omega), appL_some (by simp; omega), bind_some, w64 (by omega) (by omega), List.take_add_one, hv]
        rfl
      rw [loopO_nx step]
      exact ih (k + 1) (by omega) (by omega)
  rw [show loopO m_impl_placesOf_0 (ptrs t, [], pts l, (l.length : Int), (0 : Int)) = _ from key l.length 0 (by omega) (Nat.zero_le _), bind_some]
theorem filterf (t : List Node) (l w : List Int) : m_impl_FilterOf_f (t, l, w) = (m_impl_FilterOf (t, l, w, [])).map fun r => (r.1, r.2.1) := rfl
theorem notf (t : List Node) (l w : List Int) : m_impl_NotOf_f (t, l, w) = (m_impl_NotOf (t, l, w, [])).map fun r => (r.1, r.2.1) := rfl
theorem keep_mem {t : List Node} {l w : List Int} (hA : Asc t l) (hw : ∀ v ∈ w, 0 ≤ v) (keep : Bool) : l.filter (keepP w keep) = l.filter fun v => decide (v ∈ w) == keep := by
  refine List.filter_congr fun v hv => ?_
  obtain ⟨i, hi⟩ := List.mem_iff_getElem?.1 hv
  have h0 := (hA.bd i v hi).1
  unfold keepP
  have : (some v.toNat ∈ pts w) ↔ v ∈ w := by
    unfold pts
    rw [List.mem_map]
    constructor
    · rintro ⟨u, hu, e⟩
      have := hw u hu
      have e2 : u = v := by simp at e; omega
      exact e2 ▸ hu
    · intro h; exact ⟨v, h, rfl⟩
  simp only [this]
theorem filter_both (t : List Node) (l w : List Int) (hf : fits1 t = true) (hR : RT t) (hA : Asc t l) (hw : ∀ v ∈ w, 0 ≤ v ∧ v < t.length) (hwl : w.length ≤ 500) :
    m_impl_FilterOf_f (t, l, w) = some (l.filter fun v => decide (v ∈ w) == true, true) ∧ m_impl_NotOf_f (t, l, w) = some (l.filter fun v => decide (v ∈ w) == false, true) := by
  have h1 := hR.len
  have h2 := hA.len
  have hth := these_eq t w (by omega) fun i v hv => hw v (List.mem_of_getElem? hv)
  have hpl : ∀ keep : Bool, m_impl_placesOf (ptrs t, pts (l.filter (keepP w keep))) = some (l.filter fun v => decide (v ∈ w) == keep) := fun keep => by
    rw [placesOf_eq t (by omega) _ (by have := List.length_filter_le (keepP w keep) l; omega) (fun v hv => by
      have := (List.mem_filter.1 hv).1
      obtain ⟨i, hi⟩ := List.mem_iff_getElem?.1 this
      exact hA.bd i v hi), keep_mem hA fun v hv => (hw v hv).1]
  constructor
  · rw [filterf]
    simp only [m_impl_FilterOf, chosen_eq t l hf hR hA, bind_some, hth, Bool.not_true, cond_false, m_goquery_Selection_FilterNodes, winnow_eq l w true (by omega), m_goquery_pushStack, hpl]
    rfl
  · rw [notf]
    simp only [m_impl_NotOf, chosen_eq t l hf hR hA, bind_some, hth, Bool.not_true, cond_false, m_goquery_Selection_NotNodes, winnow_eq l w false (by omega), m_goquery_pushStack, hpl]
    rfl
theorem part_len (l : List Int) (p : Int → Bool) : (l.filter fun v => p v == true).length + (l.filter fun v => p v == false).length = l.length := by
  induction l with
  | nil => rfl
  | cons v l ih =>
    cases hp : p v <;> simp [List.filter_cons, hp] at ih ⊢ <;> omega
theorem some_ex2 (t : List Node) (l w : List Int) (hf : fits1 t = true) (hl : l.length ≤ 2147483647) (hw : w.length ≤ 2147483647) : ∃ b, m_laws_some (t, l, w) = some b ∧ (b = true → RT t ∧ Asc t l ∧ Asc t w) := by
  simp only [m_laws_some]
  obtain ⟨b, h1, h2⟩ := selection_ex t l hf hl
  obtain ⟨c, h3, h4⟩ := selection_ex t w hf hw
  rw [h1, bind_some, h3]
  cases b
  · exact ⟨_, rfl, fun h => by cases h⟩
  · cases c
    · exact ⟨_, rfl, fun h => by cases h⟩
    · exact ⟨_, rfl, fun _ => ⟨(h2 rfl).1, (h2 rfl).2, (h4 rfl).2⟩⟩
theorem fn_parted (t : List Node) (l w : List Int) : m_laws_FnParted (t, l, w) = some true := by
  simp only [m_laws_FnParted, zz1, bind_some, not_cond, cond_dec]
  cases hf : fits1 t
  · rfl
  · rw [if_pos rfl]
    split
    · rfl
    · split
      · rfl
      · rename_i hl hwl
        obtain ⟨b, hs, hS⟩ := some_ex2 t l w hf (by omega) (by omega)
        rw [hs, bind_some]
        cases b
        · rfl
        · rw [if_pos rfl]
          obtain ⟨hR, hA, hW⟩ := hS rfl
          have h1 := hR.len
          have h2 := hA.len
          have h3 := hW.len
          have hwv : ∀ v ∈ w, 0 ≤ v ∧ v < t.length := fun v hv => by
            obtain ⟨i, hi⟩ := List.mem_iff_getElem?.1 hv
            exact hW.bd i v hi
          obtain ⟨f1, f2⟩ := filter_both t l w hf hR hA hwv (by omega)
          have hlen := part_len l fun v => decide (v ∈ w)
          have hb : ∀ v ∈ (l.filter fun v => decide (v ∈ w) == false), 0 ≤ v ∧ v < t.length := fun v hv => by
            obtain ⟨i, hi⟩ := List.mem_iff_getElem?.1 (List.mem_filter.1 hv).1
            exact hA.bd i v hi
          obtain ⟨_, f3⟩ := filter_both t l (l.filter fun v => decide (v ∈ w) == false) hf hR hA hb (by omega)
          have e : (l.filter fun v => decide (v ∈ (l.filter fun v => decide (v ∈ w) == false)) == false) = l.filter fun v => decide (v ∈ w) == true := by
            refine List.filter_congr fun v hv => ?_
            by_cases hvw : v ∈ w <;> simp [List.mem_filter, hv, hvw]
          rw [e] at f3
          rw [f1, bind_some]
          simp only
          rw [f2, bind_some]
          simp only
          rw [f3, bind_some]
          simp only [cond_true]
          rw [appL_some (by simp only [List.length_nil]; omega), bind_some, appL_some (by simp only [List.nil_append]; omega), bind_some, List.nil_append]
          rw [if_pos (by rw [List.length_append]; omega), sameSet_true _ _ (by rw [List.length_append]; omega) (by omega) (fun v => by
            rw [List.mem_append, List.mem_filter, List.mem_filter]
            constructor
            · rintro (⟨h, _⟩ | ⟨h, _⟩) <;> exact h
            · intro h
              by_cases hvw : v ∈ w
              · exact .inl ⟨h, by simp [hvw]⟩
              · exact .inr ⟨h, by simp [hvw]⟩), bind_some]
          simp only [cond_true]
          rw [sameList_refl _ (by omega), bind_some]
end Go.Proofs.Ytnggneccdekofaa.V
