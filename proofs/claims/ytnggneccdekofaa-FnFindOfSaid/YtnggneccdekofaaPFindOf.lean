/-
  FnFindOf's model answers true. Plain facts.
-/
import Derived.Test.YtnggneccdekofaaPMapN
import Derived.Test.YtnggneccdekofaaLwFind
namespace Go.Proofs.Ytnggneccdekofaa.V
open Go

/-- A node, if it is beneath one of some. -/
def fdG (t : List Node) (l : List Int) (v : Option Nat) : List (Option Nat) := bif UnL t (v.getD 0) l then [v] else []
theorem findClo (t : List Node) (hR : RT t) (l : List Int) (hl : l.length ≤ 1000) (i : Int) (a : Nat) (ha : a < t.length) : m_goquery_Selection_FindNodes_1 (i, some a, pts l, store t) = some (fdG t l (some a)) := by
  simp only [m_goquery_Selection_FindNodes_1]
  rw [sliceContains_eq t hR l (by omega) a ha, bind_some]
  unfold fdG
  simp only [Option.getD_some]
  cases UnL t a l <;> rfl
theorem flat_fd (t : List Node) (l w : List Int) : (pts w).flatMap (fdG t l) = pts (w.filter fun v => UnL t v.toNat l) := by
  induction w with
  | nil => rfl
  | cons v w ih =>
    have e : pts (v :: w) = some v.toNat :: pts w := rfl
    rw [e, List.flatMap_cons, ih, List.filter_cons]
    unfold fdG
    simp only [Option.getD_some]
    cases h : UnL t v.toNat l <;> rfl
theorem asc_nodup {t : List Node} {w : List Int} (hW : Asc t w) : w.Nodup := by
  rw [List.Nodup, List.pairwise_iff_getElem]
  intro i j hi hj hij e
  have := hW.lt hij (List.getElem?_eq_getElem hi) (List.getElem?_eq_getElem hj)
  omega
theorem pts_nodup {t : List Node} {w : List Int} (hW : Asc t w) : (pts w).Nodup := by
  rw [List.Nodup, List.pairwise_iff_getElem]
  intro i j hi hj hij e
  rw [pts_len] at hi hj
  have h0 := (hW.bd i _ (List.getElem?_eq_getElem hi)).1
  have := hW.lt hij (List.getElem?_eq_getElem hi) (List.getElem?_eq_getElem hj)
  simp [pts] at e
  omega
theorem pts_sub (w : List Int) (p : Int → Bool) : (pts (w.filter p)).Sublist (pts w) := (List.filter_sublist).map _
theorem find_eq (t : List Node) (hR : RT t) (l w : List Int) (hl : l.length ≤ 200) (hW : Asc t w) : m_goquery_Selection_FindNodes (pts l, pts w, store t) = some (pts (w.filter fun v => UnL t v.toNat l), store t) := by
  have h1 := hR.len
  have h2 := hW.len
  have hfl := flat_fd t l w
  have hlen : ((pts w).flatMap (fdG t l)).length ≤ 200 := by
    rw [hfl, pts_len]
    have := List.length_filter_le (fun v => UnL t v.toNat l) w
    omega
  have hget : ∀ (k : Nat) (v : Option Nat), (pts w)[k]? = some v → ∃ a : Nat, v = some a ∧ a < t.length := fun k v hv => by
    rw [pts_get] at hv
    cases hx : w[k]? with
    | none => rw [hx] at hv; cases hv
    | some x =>
      rw [hx] at hv
      cases hv
      obtain ⟨b1, b2⟩ := hW.bd k x hx
      exact ⟨x.toNat, rfl, by omega⟩
  have hres : m_goquery_mapNodes_find (pts w, pts l, store t) = some (pts (w.filter fun v => UnL t v.toNat l)) := by
    simp only [m_goquery_mapNodes_find, cond_dec]
    by_cases h0 : ((pts w).length : Int) = 0
    · rw [if_pos h0]
      have : w = [] := by rw [pts_len] at h0; exact List.eq_nil_of_length_eq_zero (by omega)
      subst this
      rfl
    · rw [if_neg h0]
      by_cases h01 : ((pts w).length : Int) = 1
      · rw [if_pos h01]
        obtain ⟨v, hv⟩ := get_lt (l := pts w) (k := 0) (by omega)
        obtain ⟨a, rfl, ha⟩ := hget 0 v hv
        rw [atI_zero, hv, bind_some, findClo t hR l (by omega) 0 a ha, bind_some, ← hfl]
        have e : pts w = [some a] := by
          match hp : pts w, h01, hv with
          | [x], _, hv => simp at hv; rw [hv]
        rw [e]
        simp
      · rw [if_neg h01]
        have := mapLoop (body := m_goquery_mapNodes_find_0) (pts w) (fdG t l) (fun k acc s => (pts l, acc, s, pts w, ((pts w).length : Int), (k : Int), store t)) (fun acc => (acc, store t)) (by omega) (fun k v acc s hv ht hb => by
          have hk := (List.getElem?_eq_some_iff.1 hv).1
          obtain ⟨a, rfl, ha⟩ := hget k v hv
          simp only [m_goquery_mapNodes_find_0, cond_dec, atI_nat]
          rw [if_pos (by omega), hv, bind_some, findClo t hR l (by omega) _ a ha, bind_some, w64 (by rw [pts_len] at hk; omega) (by rw [pts_len] at hk; omega)]
          by_cases hg : (0 : Int) < ((fdG t l (some a)).length : Int)
          · rw [if_pos hg]
            obtain ⟨s', e1, e2⟩ := awd_eq acc (fdG t l (some a)) s ht hb
            rw [e1, bind_some]
            exact ⟨s', rfl, e2⟩
          · rw [if_neg hg]
            have : fdG t l (some a) = [] := List.eq_nil_of_length_eq_zero (by omega)
            rw [this, addAll_nil]
            exact ⟨s, rfl, ht⟩) (fun acc s => by
          simp only [m_goquery_mapNodes_find_0, cond_dec]
          rw [if_neg (by omega)])
        rw [show loopO m_goquery_mapNodes_find_0 (pts l, [], [], pts w, ((pts w).length : Int), (0 : Int), store t) = _ from this, bind_some, hfl, addAll_once ((pts_nodup hW).sublist (pts_sub w _))]
  simp only [m_goquery_Selection_FindNodes, hres, bind_some, m_goquery_pushStack]
theorem findf (t : List Node) (l w : List Int) : m_impl_FindOf_f (t, l, w) = (m_impl_FindOf (t, l, w, [])).map fun r => (r.1, r.2.1) := rfl
theorem findOf_eq (t : List Node) (l w : List Int) (hf : fits1 t = true) (hR : RT t) (hA : Asc t l) (hW : Asc t w) : m_impl_FindOf_f (t, l, w) = some (w.filter fun v => UnL t v.toNat l, true) := by
  have h1 := hR.len
  have h2 := hA.len
  have h3 := hW.len
  have hw : ∀ v ∈ w, 0 ≤ v ∧ v < t.length := fun v hv => by
    obtain ⟨i, hi⟩ := List.mem_iff_getElem?.1 hv
    exact hW.bd i v hi
  have hth := these_eq t w (by omega) fun i v hv => hw v (List.mem_of_getElem? hv)
  have hpl : m_impl_placesOf (ptrs t, pts (w.filter fun v => UnL t v.toNat l)) = some (w.filter fun v => UnL t v.toNat l) :=
    placesOf_eq t (by omega) _ (by have := List.length_filter_le (fun v => UnL t v.toNat l) w; omega) (fun v hv => hw v (List.mem_filter.1 hv).1)
  rw [findf]
  simp only [m_impl_FindOf, chosen_eq t l hf hR hA, bind_some, hth, Bool.not_true, cond_false, find_eq t hR l w (by omega) hW, hpl]
  rfl
theorem beneath_eq (t : List Node) (hR : RT t) (l w : List Int) (hA : Asc t l) (hW : Asc t w) : m_spec_Beneath (t, l, w) = some (w.filter fun v => UnL t v.toNat l) := by
  have h1 := hR.len
  have h2 := hA.len
  have h3 := hW.len
  have hn := asc_nodup hW
  simp only [m_spec_Beneath]
  have inner : ∀ (acc : List Int) (k : Nat) (a : Nat), w[k]? = some (a : Int) → ∀ m j (b : Bool), l.length - j = m → j ≤ l.length → loopO m_spec_Beneath_0_0 (t, l, w, acc, (k : Int), b, (j : Int)) = some (t, l, w, acc, (k : Int), b || (l.drop j).any fun v => decide (Un t a v.toNat)) := by
    intro acc k a ha m
    induction m with
    | zero =>
      intro j b hm hj
      have : j = l.length := by omega
      subst this
      refine loopO_out ?_
      simp only [m_spec_Beneath_0_0, cond_dec]
      rw [if_neg (by omega)]
      simp
    | succ m ih =>
      intro j b hm hj
      obtain ⟨x, hx⟩ := get_lt (l := l) (k := j) (by omega)
      obtain ⟨b1, b2⟩ := hA.bd j x hx
      obtain ⟨x, rfl⟩ := Int.eq_ofNat_of_zero_le b1
      have hd : l.drop j = (x : Int) :: l.drop (j + 1) := by
        obtain ⟨g1, g2⟩ := List.getElem?_eq_some_iff.1 hx
        rw [← g2]
        exact List.drop_eq_getElem_cons g1
      have step : m_spec_Beneath_0_0 (t, l, w, acc, (k : Int), b, (j : Int)) = some (.nx (t, l, w, acc, (k : Int), b || decide (Un t a x), ((j + 1 : Nat) : Int))) := by
        simp only [m_spec_Beneath_0_0, cond_dec, atI_nat]
        rw [if_pos (by omega), w64 (by omega) (by omega)]
        cases b
        · simp only [cond_false, hx, ha, bind_some]
          rw [under_eq t hR a x (by omega), bind_some]
          rfl
        · rfl
      rw [loopO_nx step, ih (j + 1) _ (by omega) (by omega), hd, List.any_cons]
      simp [Bool.or_assoc]
  have key : ∀ m k, w.length - k = m → k ≤ w.length → loopO m_spec_Beneath_0 (t, l, w, (w.take k).filter (fun v => UnL t v.toNat l), (k : Int)) = some (w.filter fun v => UnL t v.toNat l) := by
    intro m
    induction m with
    | zero =>
      intro k hm hk
      refine loopO_out ?_
      simp only [m_spec_Beneath_0, cond_dec]
      rw [if_neg (by omega), List.take_of_length_le (by omega)]
    | succ m ih =>
      intro k hm hk
      obtain ⟨v, hv⟩ := get_lt (l := w) (k := k) (by omega)
      obtain ⟨b1, b2⟩ := hW.bd k v hv
      obtain ⟨a, rfl⟩ := Int.eq_ofNat_of_zero_le b1
      have hlen : ((w.take k).filter fun v => UnL t v.toNat l).length ≤ 1000000 := by
        have := List.length_filter_le (fun v => UnL t v.toNat l) (w.take k)
        have := List.length_take_le k w
        omega
      have hnin : (a : Int) ∉ (w.take k).filter fun v => UnL t v.toNat l := fun hm => by
        have h4 := (List.mem_filter.1 hm).1
        obtain ⟨i, hi⟩ := List.mem_iff_getElem?.1 h4
        rw [List.getElem?_take] at hi
        split at hi
        · rename_i hik
          have := hW.lt hik hi hv
          omega
        · cases hi
      have step : m_spec_Beneath_0 (t, l, w, (w.take k).filter (fun v => UnL t v.toNat l), (k : Int)) = some (.nx (t, l, w, (w.take (k + 1)).filter (fun v => UnL t v.toNat l), ((k + 1 : Nat) : Int))) := by
        simp only [m_spec_Beneath_0, cond_dec]
        rw [if_pos (by omega), show loopO m_spec_Beneath_0_0 (t, l, w, (w.take k).filter (fun v => UnL t v.toNat l), (k : Int), false, (0 : Int)) = _ from inner _ k a hv _ 0 false rfl (Nat.zero_le _), bind_some]
        simp only [List.drop_zero, Bool.false_or, atI_nat, hv, bind_some]
        rw [w64 (by omega) (by omega), List.take_add_one, hv, List.filter_append]
        have e : (l.any fun v => decide (Un t a v.toNat)) = UnL t a l := rfl
        rw [e]
        cases hp : UnL t a l with
        | false => simp [List.filter_cons, hp]
        | true =>
          simp only [cond_true]
          rw [in_eq _ _ (Nat.le_trans hlen (by decide)), bind_some, decide_eq_false hnin]
          simp only [Bool.not_false, cond_true]
          rw [appL_some (Nat.le_trans (Nat.add_le_add_right hlen 1) (by decide))]
          simp [List.filter_cons, hp]
      rw [loopO_nx step]
      exact ih (k + 1) (by omega) (by omega)
  rw [show loopO m_spec_Beneath_0 (t, l, w, [], (0 : Int)) = _ from key _ 0 rfl (Nat.zero_le _), bind_some]
theorem fn_findOf (t : List Node) (l w : List Int) : m_laws_FnFindOf (t, l, w) = some true := by
  simp only [m_laws_FnFindOf, zz1, bind_some, not_cond, cond_dec]
  cases hf : fits1 t
  · rfl
  · rw [if_pos rfl]
    split
    · rfl
    · split
      · rfl
      · rename_i hl hwl
        obtain ⟨b, hs, hS⟩ := some_ex2 t l w hf (by omega) (by omega)
        rw [hs, bind_some]
        cases b
        · rfl
        · rw [if_pos rfl]
          obtain ⟨hR, hA, hW⟩ := hS rfl
          have h1 := hR.len
          have h3 := hW.len
          have h4 := List.length_filter_le (fun v => UnL t v.toNat l) w
          rw [findOf_eq t l w hf hR hA hW, bind_some]
          simp only
          rw [beneath_eq t hR l w hA hW, bind_some]
          simp only [cond_true, if_true]
          rw [sameSet_true _ _ (by omega) (by omega) (fun v => Iff.rfl), bind_some]
end Go.Proofs.Ytnggneccdekofaa.V
