/-
  FnGet's and FnIndexOf's models answer true. Plain facts.
-/
import Derived.Test.YtnggneccdekofaaPSel
import Derived.Test.YtnggneccdekofaaLwSel
namespace Go.Proofs.Ytnggneccdekofaa.V
open Go

theorem getf (t : List Node) (l : List Int) (i : Int) : m_impl_GetOf_f (t, l, i) = (m_impl_GetOf (t, l, i, [])).map fun r => (r.1, r.2.1) := rfl
theorem get_out (t : List Node) (l : List Int) (i : Int) (hf : fits1 t = true) (hR : RT t) (hO : Asc t l) (h : (l.length : Int) ≤ i ∨ i < -(l.length : Int)) : m_impl_GetOf_f (t, l, i) = some (0, false) := by
  have h1 := hR.len
  have h2 := hO.len
  rw [getf]
  simp only [m_impl_GetOf, chosen_eq t l hf hR hO, bind_some, Bool.not_true, cond_false, m_goquery_Selection_Length, cond_dec, pts_len]
  rw [w64 (n := (0 : Int) - (l.length : Int)) (by omega) (by omega)]
  split
  · rfl
  · rw [if_pos (by omega)]
    rfl
theorem get_in (t : List Node) (l : List Int) (i v : Int) (k : Nat) (hf : fits1 t = true) (hR : RT t) (hO : Asc t l) (hk : (k : Int) = if i < 0 then i + l.length else i) (hv : l[k]? = some v) : m_impl_GetOf_f (t, l, i) = some (v, true) := by
  have h1 := hR.len
  have h2 := hO.len
  have h3 := (List.getElem?_eq_some_iff.1 hv).1
  obtain ⟨b1, b2⟩ := hO.bd k v hv
  obtain ⟨a, rfl⟩ := Int.eq_ofNat_of_zero_le b1
  have hp : (pts l)[k]? = some (some a) := by rw [pts_get, hv]; rfl
  rw [getf]
  simp only [m_impl_GetOf, chosen_eq t l hf hR hO, bind_some, Bool.not_true, cond_false, m_goquery_Selection_Length, cond_dec, pts_len]
  rw [w64 (n := (0 : Int) - (l.length : Int)) (by omega) (by omega)]
  have hge : m_goquery_Selection_Get (pts l, i) = some (some a) := by
    simp only [m_goquery_Selection_Get, cond_dec, pts_len]
    by_cases hi : i < 0
    · rw [if_pos hi] at hk
      rw [if_pos hi, w64 (by omega) (by omega), ← hk, atI_nat, hp]
      rfl
    · rw [if_neg hi] at hk
      rw [if_neg hi, ← hk, atI_nat, hp]
      rfl
  have hir : ¬ (l.length : Int) ≤ i ∧ ¬ i < 0 - (l.length : Int) := by
    by_cases hi : i < 0
    · rw [if_pos hi] at hk; omega
    · rw [if_neg hi] at hk; omega
  rw [if_neg hir.1, if_neg hir.2, hge, bind_some, placeOf_eq _ _ (by rw [ptrs_len]; omega), bind_some, pos_ptrs (by omega)]
  rfl
theorem asc0 {t : List Node} (h : 0 < t.length) : Asc t [(0 : Int)] := ⟨fun i v hv => by
  match i, hv with
  | 0, hv => simp at hv; subst hv; omega
  | i + 1, hv => simp at hv, fun i v w hv hw => by simp at hw⟩
theorem fn_get (t : List Node) (l : List Int) (i : Int) (hw : (Lit.int .i64 i).wf = true) : m_laws_FnGet (t, l, i) = some true := by
  obtain ⟨w1, w2⟩ := K.wf_i64 hw
  simp only [m_laws_FnGet, zz1, bind_some, not_cond, cond_dec]
  cases hf : fits1 t
  · rfl
  · rw [if_pos rfl]
    split
    · rfl
    · rename_i hl
      obtain ⟨b, hR, hRT⟩ := Right_ex t hf
      rw [hR, bind_some]
      cases b
      · rfl
      · rw [if_pos rfl]
        have hRT := hRT rfl
        obtain ⟨b, hO, hAsc⟩ := order_ex t l (by omega)
        rw [hO, bind_some]
        cases b
        · rfl
        · rw [if_pos rfl]
          have hA := hAsc rfl
          have h1 := hRT.len
          have h2 := hA.len
          have h0 : m_impl_GetOf_f (t, [(0 : Int)], (0 : Int)) = some (0, true) := get_in t _ 0 0 0 hf hRT (asc0 hRT.pos) (by simp) rfl
          by_cases hi : i < 0
          · rw [if_pos hi, w64 (n := (l.length : Int) + i) (by omega) (by omega)]
            by_cases hn : (l.length : Int) + i < 0
            · rw [get_out t l i hf hRT hA (.inr (by omega)), bind_some, if_pos hn, h0]
              rfl
            · obtain ⟨k, hk⟩ := Int.eq_ofNat_of_zero_le (show 0 ≤ (l.length : Int) + i by omega)
              obtain ⟨v, hv⟩ := get_lt (l := l) (k := k) (by omega)
              rw [get_in t l i v k hf hRT hA (by rw [if_pos hi]; omega) hv, bind_some, if_neg hn, if_neg (by omega), hk, atI_nat, hv]
              simp [bind_some]
          · rw [if_neg hi]
            by_cases hn : (l.length : Int) ≤ i
            · rw [get_out t l i hf hRT hA (.inl hn), bind_some]
              rw [if_neg hi, if_pos hn, h0]
              rfl
            · obtain ⟨k, rfl⟩ := Int.eq_ofNat_of_zero_le (show 0 ≤ i by omega)
              obtain ⟨v, hv⟩ := get_lt (l := l) (k := k) (by omega)
              rw [get_in t l k v k hf hRT hA (by rw [if_neg hi]) hv, bind_some, if_neg hi, if_neg hn, atI_nat, hv]
              simp [bind_some]
end Go.Proofs.Ytnggneccdekofaa.V
