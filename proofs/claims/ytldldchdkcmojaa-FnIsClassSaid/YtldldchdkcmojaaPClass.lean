/-
  FnIsClass's model answers true. Plain facts.
-/
import Derived.Test.YtldldchdkcmojaaPAttr
import Derived.Test.YtldldchdkcmojaaPInc
import Derived.Test.YtldldchdkcmojaaPAlone
import Derived.Test.YtldldchdkcmojaaLwClass
set_option linter.unusedVariables false
set_option linter.unusedSimpArgs false
namespace Go.Proofs.Ytldldchdkcmojaa.V
open Go

/-- The text class. -/
def classK : List UInt8 := [(99 : UInt8), (108 : UInt8), (97 : UInt8), (115 : UInt8), (115 : UInt8)]
theorem classClo (v c : List UInt8) (hc : c ≠ []) (hv : v.length ≤ 2147483647) : m_cascadia_classSelector_Match_1 (v, c) = some (decide (c ∈ pcs v)) := by
  simp only [m_cascadia_classSelector_Match_1]
  rw [include_plain c v hc hv, bind_some]
theorem matchC (t : List Node) (hf : fits1 t = true) (hR : RT t) (cl : List UInt8) (hcl : cl ≠ []) {a : Nat} {v : Node} (hv : t[a]? = some v) (h3 : v.kind = 3) : m_cascadia_matchAttribute_class (some a, classK, cl, store t) = some (match attrV v.attrs classK with | some w => decide (cl ∈ pcs w) | none => false) := by
  have ha := (List.getElem?_eq_some_iff.1 hv).1
  obtain ⟨_, _, hfa⟩ := fits_node hf hv
  simp only [m_cascadia_matchAttribute_class, bind_some, store_get ha, cond_dec]
  rw [if_neg (by simp [(rc_el hR hv).2 h3]), rc_attrs hv h3]
  have hU := (hR.node a v hv).k5 h3
  have hlen := hU.len
  have hl := loop_all (body := m_cascadia_matchAttribute_class_0) v.attrs (fun x => !(decide (x.key = classK) && decide (cl ∈ pcs x.val))) (fun k => (classK, cl, v.attrs.map hattr, ((v.attrs.map hattr).length : Int), (k : Int), store t)) (.inl (store t)) (.inr (true, store t)) (fun k x hx => by
    have hk := (List.getElem?_eq_some_iff.1 hx).1
    simp only [m_cascadia_matchAttribute_class_0, cond_dec, atI_nat]
    rw [if_pos (by simp; omega), List.getElem?_map, hx]
    simp only [Option.map_some, bind_some, hattr]
    rw [w64 (by omega) (by omega)]
    by_cases e : x.key = classK
    · rw [if_pos e, classClo _ _ hcl (fits_attr hfa hx).2, bind_some, decide_eq_true e, Bool.true_and]
      cases decide (cl ∈ pcs x.val) <;> rfl
    · rw [if_neg e, decide_eq_false e]
      rfl) (by
    simp only [m_cascadia_matchAttribute_class_0, cond_dec]
    rw [if_neg (by simp)]) 0 (Nat.zero_le _)
  rw [show loopO m_cascadia_matchAttribute_class_0 (classK, cl, v.attrs.map hattr, ((v.attrs.map hattr).length : Int), (0 : Int), store t) = _ from hl, bind_some, List.drop_zero]
  have e : (v.attrs.all fun x => !(decide (x.key = classK) && decide (cl ∈ pcs x.val))) = !(v.attrs.any fun x => decide (x.key = classK) && decide (cl ∈ pcs x.val)) := by simp [List.all_eq_not_any_not]
  rw [e, attr_any hU classK (fun w => decide (cl ∈ pcs w))]
  cases attrV v.attrs classK with
  | none => rfl
  | some w => cases hw : decide (cl ∈ pcs w) <;> simp [hw, selim_l, selim_r]
theorem attrV_len {l : List Attr} (h : fits3 l = true) {k w : List UInt8} (hw : attrV l k = some w) : w.length ≤ 2147483647 := by
  unfold attrV at hw
  cases hfi : l.find? (fun a => decide (a.key = k)) with
  | none => rw [hfi] at hw; cases hw
  | some z =>
    rw [hfi] at hw
    cases hw
    obtain ⟨j, hj⟩ := List.mem_iff_getElem?.1 (List.mem_of_find?_eq_some hfi)
    exact (fits_attr h hj).2
theorem simple3 (t : List Node) (hf : fits1 t = true) {a : Nat} {v : Node} (hv : t[a]? = some v) (x : Sel) (hk : x.kind = 3) (hx : x.val ≠ []) : m_spec_simple (t, (a : Int), x) = some (if (match attrV v.attrs classK with | some w => decide (x.val ∈ pcs w) | none => false) then 1 else 0) := by
  obtain ⟨_, _, hfa⟩ := fits_node hf hv
  have hal : v.attrs.length ≤ 2147483647 := by simp only [fits3, Bool.and_eq_true, decide_eq_true_eq] at hfa; exact hfa.1
  simp only [m_spec_simple, cond_dec, atI_nat, hv, bind_some]
  rw [if_neg (by omega), if_neg (by omega), if_pos hk, show m_spec_Attr (_, [(99 : UInt8), (108 : UInt8), (97 : UInt8), (115 : UInt8), (115 : UInt8)]) = _ from attr_eq v classK hal, bind_some]
  cases hA : attrV v.attrs classK with
  | none =>
    simp only
    rw [word_eq [] x.val (by simp) hx]
    simp [m_spec_truth, pcs, hx, bind_some]
  | some w =>
    simp only
    rw [word_eq w x.val (attrV_len hfa hA) hx]
    by_cases h : x.val ∈ pcs w <;> simp [h, m_spec_truth, bind_some]
theorem bare3 (c : List UInt8) (hc : c.length ≤ 2147483647) : ∃ b, m_spec_RightSimple ⟨3, 0, [], c, 0, 0, 0, 1⟩ = some b ∧ (b = true → c ≠ []) := by
  obtain ⟨p, hp⟩ := plain_ex c hc
  simp only [m_spec_RightSimple, m_spec_bareSel, cond_dec, Int.reduceLT, Int.reduceLE, Int.reduceEq, Int.reduceNeg, if_true, if_false, hp, words_eq c hc, bind_some]
  by_cases h1 : 100 < (c.length : Int)
  · rw [if_pos h1]; exact ⟨_, rfl, fun h => by cases h⟩
  · rw [if_neg h1]
    cases p
    · exact ⟨_, rfl, fun h => by cases h⟩
    · simp only [Bool.not_true, cond_false, bind_some]
      by_cases h2 : ((wordsL c).length : Int) = 1
      · rw [if_pos h2]
        have hne : c ≠ [] := fun e => by subst e; simp [wordsL, pcs] at h2
        obtain ⟨w, hw⟩ := get_lt (l := wordsL c) (k := 0) (by omega)
        rw [show atI (wordsL c) (0 : Int) = some w from by rw [atI_zero, hw]]
        simp only [bind_some, Int.toNat_zero, hw]
        split
        · exact ⟨_, rfl, fun _ => hne⟩
        · exact ⟨_, rfl, fun _ => hne⟩
      · rw [if_neg h2]
        exact ⟨_, rfl, fun h => by cases h⟩
theorem fn_isClass (t : List Node) (at_ : Int) (cl : List UInt8) : ∃ S, m_laws_FnIsClass (t, at_, cl, []) = some (true, S) := by
  simp only [m_laws_FnIsClass, zz1, bind_some, not_cond, cond_dec]
  cases hf : fits1 t
  · exact ⟨_, rfl⟩
  · rw [if_pos rfl]
    by_cases hcl : 2147483647 < (cl.length : Int)
    · rw [if_pos hcl]; exact ⟨_, rfl⟩
    · rw [if_neg hcl]
      have hal : ∀ y : Sel, m_laws_alone (t, at_, y) = m_laws_alone (t, at_, { y with size := 1 }) := fun y => by simp only [m_laws_alone]
      rw [hal]
      obtain ⟨b, hb, hbc⟩ := bare3 cl (by omega)
      obtain ⟨w, s, h1, h2⟩ := alone1 t hf at_ ⟨3, 0, [], cl, 0, 0, 0, 1⟩ rfl (by simp) ⟨b, hb⟩ (fun a v hr hR hv _ => by
        rw [hb] at hr
        exact ⟨_, simple3 t hf hv _ rfl (hbc (by simpa using hr))⟩)
      rw [h1, bind_some]
      cases s
      · exact ⟨_, rfl⟩
      · rw [if_pos rfl]
        obtain ⟨hR, hr, a, v, r, rfl, hv, h3, hs, hw, h5⟩ := h2 rfl
        rw [hb] at hr
        have hne : cl ≠ [] := hbc (by simpa using hr)
        have hlt := (List.getElem?_eq_some_iff.1 hv).1
        rw [simple3 t hf hv _ rfl hne] at hs
        refine ⟨store t, ?_⟩
        simp only [m_impl_IsClass, grown_eq t hf hR, bind_some, Bool.not_true, cond_false, cond_dec, atI_nat, Int.toNat_natCast, ptrs_len]
        rw [if_neg (by omega), if_neg (by omega), ptrs_get hlt]
        simp only [bind_some, m_cascadia_IsClass, m_cascadia_classSelector_Match]
        rw [show m_cascadia_matchAttribute_class (some a, [(99 : UInt8), (108 : UInt8), (97 : UInt8), (115 : UInt8), (115 : UInt8)], cl, store t) = _ from matchC t hf hR cl hne hv h3]
        simp only [bind_some, cond_true, hw]
        cases hs
        cases (match attrV v.attrs classK with | some w => decide (cl ∈ pcs w) | none => false) <;> rfl
end Go.Proofs.Ytldldchdkcmojaa.V
