/-
  Lists of places, where nothing asks what is in them. Plain facts.
-/
import Derived.Test.YtldldchdkcmojaaPSel
set_option linter.unusedVariables false
set_option linter.unusedSimpArgs false
namespace Go.Proofs.Ytldldchdkcmojaa.V
open Go

theorem sameList_refl (l : List Int) (hl : l.length ≤ 2147483647) : m_spec_SameList (l, l) = some true := by
  simp only [m_spec_SameList, cond_dec]
  rw [if_neg (by simp)]
  have h := loop_all (body := m_spec_SameList_0) l (fun _ => true) (fun k => (l, l, (k : Int))) (.inl ()) (.inr false) (fun k u hu => by
    have hk := (List.getElem?_eq_some_iff.1 hu).1
    simp only [m_spec_SameList_0, cond_dec, atI_nat]
    rw [if_pos (by omega), hu]
    simp only [bind_some]
    rw [if_neg (by simp), w64 (by omega) (by omega)]
    rfl) (by
    simp only [m_spec_SameList_0, cond_dec]
    rw [if_neg (by omega)]) 0 (Nat.zero_le _)
  rw [show loopO m_spec_SameList_0 (l, l, (0 : Int)) = _ from h, bind_some]
  simp [selim_l]
theorem placesOf_eq (t : List Node) (ht : t.length ≤ 1000000) (l : List Int) (hl : l.length ≤ 1000000) (h : ∀ v ∈ l, 0 ≤ v ∧ v < t.length) : m_impl_placesOf (ptrs t, pts l) = some l := by
  simp only [m_impl_placesOf, pts_len]
  have key : ∀ m k, l.length - k = m → k ≤ l.length → loopO m_impl_placesOf_0 (ptrs t, l.take k, pts l, (l.length : Int), (k : Int)) = some l := by
    intro m
    induction m with
    | zero =>
      intro k hm hk
      refine loopO_out ?_
      simp only [m_impl_placesOf_0, cond_dec]
      rw [if_neg (by omega), List.take_of_length_le (by omega)]
    | succ m ih =>
      intro k hm hk
      obtain ⟨v, hv⟩ := get_lt (l := l) (k := k) (by omega)
      obtain ⟨b1, b2⟩ := h v (List.mem_of_getElem? hv)
      obtain ⟨a, rfl⟩ := Int.eq_ofNat_of_zero_le b1
      have step : m_impl_placesOf_0 (ptrs t, l.take k, pts l, (l.length : Int), (k : Int)) = some (.nx (ptrs t, l.take (k + 1), pts l, (l.length : Int), ((k + 1 : Nat) : Int))) := by
        simp only [m_impl_placesOf_0, cond_dec, atI_nat]
        rw [if_pos (by omega), pts_get, hv]
        simp only [Option.map_some, bind_some, Int.toNat_natCast]
        rw [placeOf_eq _ _ (by rw [ptrs_len]; omega), bind_some, pos_ptrs (by omega), appL_some (by simp; omega), bind_some, w64 (by omega) (by omega), List.take_add_one, hv]
        rfl
      rw [loopO_nx step]
      exact ih (k + 1) (by omega) (by omega)
  rw [show loopO m_impl_placesOf_0 (ptrs t, [], pts l, (l.length : Int), (0 : Int)) = _ from key l.length 0 (by omega) (Nat.zero_le _), bind_some]
end Go.Proofs.Ytldldchdkcmojaa.V
