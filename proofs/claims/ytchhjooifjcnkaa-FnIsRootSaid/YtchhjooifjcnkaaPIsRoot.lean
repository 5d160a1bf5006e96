/-
  FnIsRoot's model answers true. Plain facts.
-/
import Derived.Test.YtchhjooifjcnkaaPAlone
import Derived.Test.YtchhjooifjcnkaaPGrow
import Derived.Test.YtchhjooifjcnkaaLwRoot
namespace Go.Proofs.Ytchhjooifjcnkaa.V
open Go

theorem base_ty (v : Node) : (base v).ty = if v.kind = 1 then 2 else if v.kind = 2 then 5 else if v.kind = 4 then 1 else if v.kind = 5 then 4 else 3 := by
  unfold base
  repeat' split
  all_goals rfl
theorem rc_ty {t : List Node} {a e i : Nat} {v : Node} (hv : t[i]? = some v) : (rc t a e i).ty = (base v).ty := by simp [rc, bs0, hv]
theorem simple9 (t : List Node) (hR : RT t) {a : Nat} {v : Node} (hv : t[a]? = some v) (x : Sel) (hk : x.kind = 9) : m_spec_simple (t, (a : Int), x) = some (if parI t a ≠ 0 then 0 else if (1 : Int) < ((elems t 0).map Int.ofNat).length then 2 else 1) := by
  have hlt := (List.getElem?_eq_some_iff.1 hv).1
  have := hR.len
  simp only [m_spec_simple, cond_dec, atI_nat, hv, bind_some]
  rw [if_neg (by omega), if_neg (by omega), if_neg (by omega), if_neg (by omega), if_neg (by omega), if_neg (by omega), if_neg (by omega), if_neg (by omega), if_pos hk, Parent_eq t (by omega) hR.lam hlt (Nat.le_refl _), bind_some, show m_spec_Elements (t, (0 : Int)) = _ from Elements_eq t (by omega) (a := 0) hR.lam (Nat.le_refl _) hR.pos (Nat.le_refl _)]
  simp only [bind_some]
  split
  · rfl
  · split <;> rfl
theorem fn_isRoot (t : List Node) (at_ : Int) : ∃ S, m_laws_FnIsRoot (t, at_, []) = some (true, S) := by
  simp only [m_laws_FnIsRoot, zz1, bind_some, not_cond]
  cases hf : fits1 t
  · exact ⟨_, rfl⟩
  · rw [if_pos rfl]
    have hal : ∀ y : Sel, y.kind = 9 → m_laws_alone (t, at_, y) = m_laws_alone (t, at_, { y with size := 1 }) := fun y _ => by simp only [m_laws_alone]
    rw [hal _ rfl]
    obtain ⟨b, hb⟩ := plain_ex [] (by simp)
    obtain ⟨w, s, h1, h2⟩ := alone1 t hf at_ ⟨9, 0, [], [], 0, 0, 0, 1⟩ rfl (by simp) (by
      simp [m_spec_RightSimple, m_spec_bareSel, hb, m_spec_wordy]
      cases b <;> exact some_ex _) (fun a v _ hR hv _ => by
      exact ⟨_, simple9 t hR hv _ rfl⟩)
    rw [h1, bind_some]
    cases s
    · exact ⟨_, rfl⟩
    · rw [if_pos rfl]
      obtain ⟨hR, _, a, v, r, rfl, hv, h3, hr, hw, h5⟩ := h2 rfl
      have hlt := (List.getElem?_eq_some_iff.1 hv).1
      have hlen := hR.len
      have ha0 : a ≠ 0 := fun e => by
        subst e
        obtain ⟨u, hu, hk⟩ := hR.k0
        rw [hv] at hu; cases hu; omega
      have hL0 : Lam t 0 (0 + sz t 0) := by rw [hR.root, Nat.zero_add]; exact hR.lam
      obtain ⟨p, hp, _, hpa⟩ := par_in hL0 (i := a) (by omega) (by rw [hR.root]; omega)
      obtain ⟨u, hu⟩ := get_lt (l := t) (k := p) (by omega)
      have hty : (base v).ty = 3 := by rw [base_ty]; simp [h3]
      -- the reference
      have hparI : parI t a = (p : Int) := by simp [parI, hp]
      have hw2 : w = decide (p = 0) := by
        rw [simple9 t hR hv _ rfl, hparI] at hr
        rw [hw]
        split at hr
        · cases hr
          have : p ≠ 0 := by omega
          simp [this]
        · have : p = 0 := by omega
          subst this
          split at hr
          · cases hr; omega
          · cases hr; rfl
      -- the package
      simp only [m_impl_IsRoot, grown_eq t hf hR, bind_some, Bool.not_true, cond_false, cond_dec, atI_nat, Int.toNat_natCast, ptrs_len]
      rw [if_neg (by omega), if_neg (by omega), ptrs_get hlt]
      simp only [bind_some, m_cascadia_IsRoot, m_cascadia_rootPseudoClassSelector_Match, store_get hlt, cond_dec]
      rw [rc_ty hv, hty, if_neg (by omega)]
      have hpar : (rc t 0 t.length a).par = some p := by simp [rc, ha0, hp]
      rw [hpar]
      simp only [Option.isNone_some, cond_false, bind_some, store_get (show p < t.length by omega), rc_ty hu, base_ty]
      refine ⟨store t, ?_⟩
      rw [hw2]
      have hk1 := (hR.node p u hu).k1
      obtain ⟨z, hz, hzk⟩ := hR.k0
      by_cases hp0 : p = 0
      · subst hp0
        rw [hu] at hz; cases hz
        simp [hzk]
      · have : u.kind ≠ 1 := fun e => hp0 (hk1 e)
        have h2 : ¬ (if u.kind = 1 then (2 : Int) else if u.kind = 2 then 5 else if u.kind = 4 then 1 else if u.kind = 5 then 4 else 3) = 2 := by
          rw [if_neg this]
          repeat' split
          all_goals omega
        rw [decide_eq_false h2, decide_eq_false hp0]
        rfl
end Go.Proofs.Ytchhjooifjcnkaa.V
