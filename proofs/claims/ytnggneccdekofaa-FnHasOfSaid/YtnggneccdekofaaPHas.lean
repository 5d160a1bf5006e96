/-
  FnHasOf's model answers true. Plain facts.
-/
import Derived.Test.YtnggneccdekofaaPParted
import Derived.Test.YtnggneccdekofaaLwHas
namespace Go.Proofs.Ytnggneccdekofaa.V
open Go

/-- A node stands over one of some. -/
def OvL (t : List Node) (w : List Int) (v : Int) : Bool := w.any fun x => decide (Un t x.toNat v.toNat)
theorem has_eq (t : List Node) (hR : RT t) (l w : List Int) (hl : l.length ≤ 1000) (hwl : w.length ≤ 1000) (hw : ∀ v ∈ w, 0 ≤ v ∧ v < t.length) : m_goquery_Selection_HasNodes (pts l, pts w, store t) = some (pts (l.filter (OvL t w)), store t) := by
  simp only [m_goquery_Selection_HasNodes, pts_len]
  have inner : ∀ (acc : List (Option Nat)) (v : Int) (i : Int), acc.length ≤ 1000000 → ∀ m j, w.length - j = m → j ≤ w.length → loopO m_goquery_Selection_HasNodes_0_0 (pts l, pts w, acc, some v.toNat, pts l, (l.length : Int), i, pts w, (w.length : Int), (j : Int), store t) = some (pts l, pts w, (if (w.drop j).any fun x => decide (Un t x.toNat v.toNat) then acc ++ [some v.toNat] else acc), pts l, (l.length : Int), i, store t) := by
    intro acc v i hacc m
    induction m with
    | zero =>
      intro j hm hj
      have : j = w.length := by omega
      subst this
      refine loopO_out ?_
      simp only [m_goquery_Selection_HasNodes_0_0, cond_dec]
      rw [if_neg (by omega)]
      simp
    | succ m ih =>
      intro j hm hj
      obtain ⟨x, hx⟩ := get_lt (l := w) (k := j) (by omega)
      obtain ⟨b1, b2⟩ := hw x (List.mem_of_getElem? hx)
      have hd : w.drop j = x :: w.drop (j + 1) := by
        obtain ⟨g1, g2⟩ := List.getElem?_eq_some_iff.1 hx
        rw [← g2]
        exact List.drop_eq_getElem_cons g1
      rw [hd, List.any_cons]
      by_cases hu : Un t x.toNat v.toNat
      · refine loopO_out ?_
        simp only [m_goquery_Selection_HasNodes_0_0, cond_dec, atI_nat, pts_get]
        rw [if_pos (by omega), hx]
        simp only [Option.map_some, bind_some]
        rw [nodeContains_eq t hR _ _ (by omega), bind_some, decide_eq_true hu]
        simp only [cond_true]
        rw [appL_some (by simp only [List.length_singleton]; omega)]
        simp
      · have step : m_goquery_Selection_HasNodes_0_0 (pts l, pts w, acc, some v.toNat, pts l, (l.length : Int), i, pts w, (w.length : Int), (j : Int), store t) = some (.nx (pts l, pts w, acc, some v.toNat, pts l, (l.length : Int), i, pts w, (w.length : Int), ((j + 1 : Nat) : Int), store t)) := by
          simp only [m_goquery_Selection_HasNodes_0_0, cond_dec, atI_nat, pts_get]
          rw [if_pos (by omega), hx]
          simp only [Option.map_some, bind_some]
          rw [nodeContains_eq t hR _ _ (by omega), bind_some, decide_eq_false hu]
          simp only [cond_false]
          rw [w64 (by omega) (by omega)]
          rfl
        rw [loopO_nx step, ih (j + 1) (by omega) (by omega), decide_eq_false hu, Bool.false_or]
  have key : ∀ m k, l.length - k = m → k ≤ l.length → loopO m_goquery_Selection_HasNodes_0 (pts l, pts w, pts ((l.take k).filter (OvL t w)), pts l, (l.length : Int), (k : Int), store t) = some (pts l, pts (l.filter (OvL t w)), store t) := by
    intro m
    induction m with
    | zero =>
      intro k hm hk
      refine loopO_out ?_
      simp only [m_goquery_Selection_HasNodes_0, cond_dec]
      rw [if_neg (by omega), List.take_of_length_le (by omega)]
    | succ m ih =>
      intro k hm hk
      obtain ⟨v, hv⟩ := get_lt (l := l) (k := k) (by omega)
      have hlen : (pts ((l.take k).filter (OvL t w))).length ≤ 1000000 := by
        rw [pts_len]
        have := List.length_filter_le (OvL t w) (l.take k)
        have := List.length_take_le k l
        omega
      have step : m_goquery_Selection_HasNodes_0 (pts l, pts w, pts ((l.take k).filter (OvL t w)), pts l, (l.length : Int), (k : Int), store t) = some (.nx (pts l, pts w, pts ((l.take (k + 1)).filter (OvL t w)), pts l, (l.length : Int), ((k + 1 : Nat) : Int), store t)) := by
        simp only [m_goquery_Selection_HasNodes_0, cond_dec, atI_nat, pts_get, pts_len]
        rw [if_pos (by omega), hv]
        simp only [Option.map_some, bind_some]
        rw [show loopO m_goquery_Selection_HasNodes_0_0 (pts l, pts w, pts ((l.take k).filter (OvL t w)), some v.toNat, pts l, (l.length : Int), (k : Int), pts w, (w.length : Int), (0 : Int), store t) = _ from inner _ v _ hlen _ 0 rfl (Nat.zero_le _), bind_some]
        simp only [List.drop_zero]
        rw [w64 (by omega) (by omega), List.take_add_one, hv]
        have e : (w.any fun x => decide (Un t x.toNat v.toNat)) = OvL t w v := rfl
        rw [e]
        cases hp : OvL t w v with
        | false => simp [List.filter_append, hp]
        | true => simp [List.filter_append, hp, pts]
      rw [loopO_nx step]
      exact ih (k + 1) (by omega) (by omega)
  rw [show loopO m_goquery_Selection_HasNodes_0 (pts l, pts w, [], pts l, (l.length : Int), (0 : Int), store t) = _ from key _ 0 rfl (Nat.zero_le _), bind_some]
  simp only [m_goquery_pushStack, bind_some]
theorem over_eq (t : List Node) (hR : RT t) (l w : List Int) (hl : l.length ≤ 1000) (hwl : w.length ≤ 1000) (hlv : ∀ v ∈ l, 0 ≤ v ∧ v < t.length) (hw : ∀ v ∈ w, 0 ≤ v ∧ v < t.length) : m_spec_Over (t, l, w) = some (l.filter (OvL t w)) := by
  simp only [m_spec_Over]
  have inner : ∀ (acc : List Int) (k : Nat) (v : Int), l[k]? = some v → ∀ m j (b : Bool), w.length - j = m → j ≤ w.length → loopO m_spec_Over_0_0 (t, l, w, acc, (k : Int), b, (j : Int)) = some (t, l, w, acc, (k : Int), b || (w.drop j).any fun x => decide (Un t x.toNat v.toNat)) := by
    intro acc k v hv m
    induction m with
    | zero =>
      intro j b hm hj
      have : j = w.length := by omega
      subst this
      refine loopO_out ?_
      simp only [m_spec_Over_0_0, cond_dec]
      rw [if_neg (by omega)]
      simp
    | succ m ih =>
      intro j b hm hj
      obtain ⟨x, hx⟩ := get_lt (l := w) (k := j) (by omega)
      obtain ⟨b1, b2⟩ := hw x (List.mem_of_getElem? hx)
      obtain ⟨c1, c2⟩ := hlv v (List.mem_of_getElem? hv)
      obtain ⟨x, rfl⟩ := Int.eq_ofNat_of_zero_le b1
      obtain ⟨v, rfl⟩ := Int.eq_ofNat_of_zero_le c1
      have hd : w.drop j = (x : Int) :: w.drop (j + 1) := by
        obtain ⟨g1, g2⟩ := List.getElem?_eq_some_iff.1 hx
        rw [← g2]
        exact List.drop_eq_getElem_cons g1
      have step : m_spec_Over_0_0 (t, l, w, acc, (k : Int), b, (j : Int)) = some (.nx (t, l, w, acc, (k : Int), b || decide (Un t x v), ((j + 1 : Nat) : Int))) := by
        simp only [m_spec_Over_0_0, cond_dec, atI_nat]
        rw [if_pos (by omega), w64 (by omega) (by omega)]
        cases b
        · simp only [cond_false, hx, hv, bind_some]
          rw [under_eq t hR x v (by omega), bind_some]
          rfl
        · rfl
      rw [loopO_nx step, ih (j + 1) _ (by omega) (by omega), hd, List.any_cons]
      simp [Bool.or_assoc]
  have key : ∀ m k, l.length - k = m → k ≤ l.length → loopO m_spec_Over_0 (t, l, w, (l.take k).filter (OvL t w), (k : Int)) = some (l.filter (OvL t w)) := by
    intro m
    induction m with
    | zero =>
      intro k hm hk
      refine loopO_out ?_
      simp only [m_spec_Over_0, cond_dec]
      rw [if_neg (by omega), List.take_of_length_le (by omega)]
    | succ m ih =>
      intro k hm hk
      obtain ⟨v, hv⟩ := get_lt (l := l) (k := k) (by omega)
      have hlen : ((l.take k).filter (OvL t w)).length ≤ 1000000 := by
        have := List.length_filter_le (OvL t w) (l.take k)
        have := List.length_take_le k l
        omega
      have step : m_spec_Over_0 (t, l, w, (l.take k).filter (OvL t w), (k : Int)) = some (.nx (t, l, w, (l.take (k + 1)).filter (OvL t w), ((k + 1 : Nat) : Int))) := by
        simp only [m_spec_Over_0, cond_dec]
        rw [if_pos (by omega), show loopO m_spec_Over_0_0 (t, l, w, (l.take k).filter (OvL t w), (k : Int), false, (0 : Int)) = _ from inner _ k v hv _ 0 false rfl (Nat.zero_le _), bind_some]
        simp only [List.drop_zero, Bool.false_or, atI_nat]
        rw [w64 (by omega) (by omega), List.take_add_one, hv]
        have e : (w.any fun x => decide (Un t x.toNat v.toNat)) = OvL t w v := rfl
        rw [e]
        cases hp : OvL t w v with
        | false => simp [List.filter_append, hp]
        | true =>
          simp only [cond_true, bind_some]
          rw [appL_some (by simp only [List.length_singleton]; omega)]
          simp [List.filter_append, hp]
      rw [loopO_nx step]
      exact ih (k + 1) (by omega) (by omega)
  rw [show loopO m_spec_Over_0 (t, l, w, [], (0 : Int)) = _ from key _ 0 rfl (Nat.zero_le _), bind_some]
theorem hasf (t : List Node) (l w : List Int) : m_impl_HasOf_f (t, l, w) = (m_impl_HasOf (t, l, w, [])).map fun r => (r.1, r.2.1) := rfl
theorem hasOf_eq (t : List Node) (l w : List Int) (hf : fits1 t = true) (hR : RT t) (hA : Asc t l) (hW : Asc t w) : m_impl_HasOf_f (t, l, w) = some (l.filter (OvL t w), true) := by
  have h1 := hR.len
  have h2 := hA.len
  have h3 := hW.len
  have hw : ∀ v ∈ w, 0 ≤ v ∧ v < t.length := fun v hv => by
    obtain ⟨i, hi⟩ := List.mem_iff_getElem?.1 hv
    exact hW.bd i v hi
  have hth := these_eq t w (by omega) fun i v hv => hw v (List.mem_of_getElem? hv)
  have hpl : m_impl_placesOf (ptrs t, pts (l.filter (OvL t w))) = some (l.filter (OvL t w)) :=
    placesOf_eq t (by omega) _ (by have := List.length_filter_le (OvL t w) l; omega) (fun v hv => by
      have := (List.mem_filter.1 hv).1
      obtain ⟨i, hi⟩ := List.mem_iff_getElem?.1 this
      exact hA.bd i v hi)
  rw [hasf]
  simp only [m_impl_HasOf, chosen_eq t l hf hR hA, bind_some, hth, Bool.not_true, cond_false, has_eq t hR l w (by omega) (by omega) hw, hpl]
  rfl
theorem fn_hasOf (t : List Node) (l w : List Int) : m_laws_FnHasOf (t, l, w) = some true := by
  simp only [m_laws_FnHasOf, zz1, bind_some, not_cond, cond_dec]
  cases hf : fits1 t
  · rfl
  · rw [if_pos rfl]
    split
    · rfl
    · split
      · rfl
      · rename_i hl hwl
        obtain ⟨b, hs, hS⟩ := some_ex2 t l w hf (by omega) (by omega)
        rw [hs, bind_some]
        cases b
        · rfl
        · rw [if_pos rfl]
          obtain ⟨hR, hA, hW⟩ := hS rfl
          have h1 := hR.len
          have h2 := hA.len
          have h3 := hW.len
          rw [hasOf_eq t l w hf hR hA hW, bind_some]
          simp only [cond_true]
          rw [over_eq t hR l w (by omega) (by omega) (fun v hv => by
            obtain ⟨i, hi⟩ := List.mem_iff_getElem?.1 hv
            exact hA.bd i v hi) (fun v hv => by
            obtain ⟨i, hi⟩ := List.mem_iff_getElem?.1 hv
            exact hW.bd i v hi), bind_some, sameList_refl _ (by have := List.length_filter_le (OvL t w) l; omega), bind_some]
end Go.Proofs.Ytnggneccdekofaa.V
