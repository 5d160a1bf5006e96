/-
  FnIsNth's model answers true: the join. Plain facts.
-/
import Derived.Test.YtnggneccdekofaaPNthI
namespace Go.Proofs.Ytnggneccdekofaa.V
open Go

section
variable {t : List Node} {a p j : Nat} {v : Node}
theorem num_eq (h : At t a p j v) (ty la : Bool) : numN t a p ty la = if la = true then cL t a ty p j else cF t a ty p (j + 1) := by
  cases la with
  | true => rw [if_pos rfl]; exact num_last h.L ty h.hj
  | false => rw [if_neg (by simp)]; exact num_first h.L ty h.hj
theorem nthMatch_eq (h : At t a p j v) (A B : Int) (hA : A ≠ 0) (hB : -1000 ≤ B ∧ B ≤ 1000) (la ty : Bool) : ∃ r, m_cascadia_nthChildMatch (A, B, la, ty, some a, store t) = some r ∧ (r = true ↔ Hit A B (numN t a p ty la : Int)) := by
  have hl := h.lt
  have hlen := h.len
  have hF := cF_le t a ty p (kidsN t p).length
  have hF1 := cF_le t a ty p (j + 1)
  have hsum := cF_cL t a ty p j
  have hFs := h.F ty
  have hn := num_eq h ty la
  simp only [m_cascadia_nthChildMatch, bind_some, store_get hl.2, cond_dec, h.head.1, h.head.2, Option.isNone_some, cond_false, store_get (show p < t.length by omega), kid_fst h.L h.e]
  rw [if_neg (by simp), loop3 h A B la ty, bind_some]
  simp only
  rw [if_neg (by omega), if_neg hA, if_neg hA]
  have fin : ∀ m : Int, m = (numN t a p ty la : Int) → ∃ r, ((remI (m - B) A).bind fun n => if n = 0 then (divI .i64 (m - B) A).bind fun n => some (decide (0 ≤ n)) else some false) = some r ∧ (r = true ↔ Hit A B (numN t a p ty la : Int)) := by
    rintro m rfl
    unfold Hit remI divI
    rw [if_neg hA, if_neg hA, if_neg hA, bind_some]
    have hm : (numN t a p ty la : Int) ≤ 200 := by rw [hn]; split <;> omega
    have hd := tdiv_abs' ((numN t a p ty la : Int) - B) A
    rw [w64 (by omega) (by omega)]
    by_cases h1 : ((numN t a p ty la : Int) - B).tmod A = 0
    · rw [if_pos h1, bind_some]
      exact ⟨_, rfl, by rw [decide_eq_true_iff]; exact ⟨fun h => ⟨h1, h⟩, fun h => h.2⟩⟩
    · rw [if_neg h1]
      exact ⟨_, rfl, ⟨fun h => (by cases h), fun h => absurd h.1 h1⟩⟩
  cases la with
  | true =>
    rw [if_pos rfl] at hn
    simp only [if_true, cond_true]
    have hmono := cF_mono (t := t) (a := a) (ty := ty) (p := p) (show j + 1 ≤ (kidsN t p).length by have := (List.getElem?_eq_some_iff.1 h.hj).1; omega)
    rw [w64 (n := (cF t a ty p (kidsN t p).length : Int) - (cF t a ty p (j + 1) : Int)) (by omega) (by omega), w64 (n := (cF t a ty p (kidsN t p).length : Int) - (cF t a ty p (j + 1) : Int) + 1) (by omega) (by omega), w64 (n := (cF t a ty p (kidsN t p).length : Int) - (cF t a ty p (j + 1) : Int) + 1 - B) (by omega) (by omega)]
    exact fin _ (by rw [hn]; omega)
  | false =>
    rw [if_neg (by simp)] at hn
    simp only [cond_false]
    rw [w64 (n := (cF t a ty p (j + 1) : Int) - B) (by omega) (by omega)]
    exact fin _ (by rw [hn])
theorem match_eq (h : At t a p j v) (A B : Int) (hB : -1000 ≤ B ∧ B ≤ 1000) (la ty : Bool) : ∃ r, m_cascadia_nthPseudoClassSelector_Match ((A, B, la, ty), some a, store t) = some r ∧ (r = true ↔ Hit A B (numN t a p ty la : Int)) := by
  simp only [m_cascadia_nthPseudoClassSelector_Match, cond_dec]
  have hn := num_eq h ty la
  by_cases hA : A = 0
  · subst hA
    rw [if_pos rfl]
    unfold Hit
    rw [if_pos rfl, hn]
    cases la with
    | true =>
      simp only [cond_true, simpleLast_eq h, bind_some]
      exact ⟨_, rfl, by rw [if_pos trivial]; exact decide_eq_true_iff⟩
    | false =>
      simp only [cond_false, simpleNth_eq h, bind_some]
      exact ⟨_, rfl, by rw [if_neg (by simp)]; exact decide_eq_true_iff⟩
  · rw [if_neg hA]
    obtain ⟨r, h1, h2⟩ := nthMatch_eq h A B hA hB la ty
    rw [h1, bind_some]
    exact ⟨r, rfl, h2⟩
end
theorem counted_open (t : List Node) (hR : RT t) {a p : Nat} (ha : a < t.length) (hp : par t a = some p) (h3 : kindN t p ≠ 3) (A B f : Int) : m_spec_counted (t, (a : Int), A, B, f) = some 2 := by
  have hlen := hR.len
  have hpp := par_some hp
  obtain ⟨u, hu⟩ := get_lt (show p < t.length by omega)
  have hpk : u.kind ≠ 3 := by rw [← kind_some hu]; exact h3
  simp only [m_spec_counted, Parent_eq t (by omega) hR.lam ha (Nat.le_refl _), parI, hp, bind_some, cond_dec, atI_nat, hu]
  rw [if_neg (by omega), if_pos hpk]
theorem has_par {t : List Node} (hR : RT t) {a : Nat} {v : Node} (hv : t[a]? = some v) (h3 : v.kind = 3) : ∃ p, par t a = some p := by
  have hlt := (List.getElem?_eq_some_iff.1 hv).1
  have ha0 : a ≠ 0 := fun e => by
    subst e
    obtain ⟨u, hu, hk⟩ := hR.k0
    rw [hv] at hu; cases hu; omega
  have hL0 : Lam t 0 (0 + sz t 0) := by rw [hR.root, Nat.zero_add]; exact hR.lam
  obtain ⟨p, hp, _, _⟩ := par_in hL0 (i := a) (by omega) (by rw [hR.root]; omega)
  exact ⟨p, hp⟩
theorem isNthf (t : List Node) (i a b f : Int) : m_impl_IsNth_f (t, i, a, b, f) = (m_impl_IsNth (t, i, a, b, f, [])).map fun r => (r.1, r.2.1) := rfl
theorem fn_isNth (t : List Node) (at_ a b f : Int) : m_laws_FnIsNth (t, at_, a, b, f) = some true := by
  simp only [m_laws_FnIsNth, zz1, bind_some, not_cond]
  cases hf : fits1 t
  · rfl
  · rw [if_pos rfl, show remI f 4 = some (f.tmod 4) from if_neg (by decide)]
    simp only [bind_some]
    generalize IntKind.wrap .i64 (f.tmod 4) = g
    have hal : ∀ y : Sel, m_laws_alone (t, at_, y) = m_laws_alone (t, at_, { y with size := 1 }) := fun y => by simp only [m_laws_alone]
    rw [hal]
    obtain ⟨rr, hrr, hbd⟩ := rightNth a b g
    obtain ⟨w, s, h1, h2⟩ := alone1 t hf at_ ⟨6, 0, [], [], a, b, g, 1⟩ rfl (by simp) ⟨rr, hrr⟩ (fun x v hs hR hv h3 => by
      rw [hrr] at hs
      have hbd := hbd (Option.some.inj hs)
      rw [simple6 t x v hv]
      obtain ⟨p, hp⟩ := has_par hR hv h3
      have hlt := (List.getElem?_eq_some_iff.1 hv).1
      by_cases hpk : kindN t p = 3
      · rw [counted_eq t hR hlt hp hpk]
        obtain ⟨r, hr, _⟩ := reached_eq a b (numN t x p (decide (andI .i64 g 2 ≠ 0)) (decide (andI .i64 g 1 ≠ 0)) : Int) ⟨hbd.1, hbd.2.1⟩ ⟨hbd.2.2.1, hbd.2.2.2⟩
        rw [hr, bind_some]
        cases r <;> exact ⟨_, rfl⟩
      · exact ⟨_, counted_open t hR hlt hp hpk a b g⟩)
    rw [h1, bind_some]
    cases s
    · rfl
    · rw [if_pos rfl]
      obtain ⟨hR, hs, x, v, r, rfl, hv, h3, hr, hw, h5⟩ := h2 rfl
      rw [hrr] at hs
      have hbd := hbd (Option.some.inj hs)
      have hlt := (List.getElem?_eq_some_iff.1 hv).1
      obtain ⟨p, hp⟩ := has_par hR hv h3
      rw [simple6 t x v hv] at hr
      have hpk : kindN t p = 3 := by
        by_cases hpk : kindN t p = 3
        · exact hpk
        · rw [counted_open t hR hlt hp hpk] at hr
          exact absurd (Option.some.inj hr).symm h5
      have hpp := par_some hp
      have hL : Lam t p (p + sz t p) := hR.lam.sub (Nat.zero_le _) (by omega)
      obtain ⟨j, hj⟩ := List.mem_iff_getElem?.1 (kids_in hL hp)
      have hAt : At t x p j v := ⟨hR, hv, h3, hp, hj⟩
      rw [counted_eq t hR hlt hp hpk] at hr
      obtain ⟨r1, hr1, hR1⟩ := reached_eq a b (numN t x p (decide (andI .i64 g 2 ≠ 0)) (decide (andI .i64 g 1 ≠ 0)) : Int) ⟨hbd.1, hbd.2.1⟩ ⟨hbd.2.2.1, hbd.2.2.2⟩
      rw [hr1, bind_some] at hr
      obtain ⟨r2, hr2, hR2⟩ := match_eq hAt a b ⟨hbd.2.2.1, hbd.2.2.2⟩ (decide (andI .i64 g 1 ≠ 0)) (decide (andI .i64 g 2 ≠ 0))
      have hnum : numN t x p (decide (andI .i64 g 2 ≠ 0)) (decide (andI .i64 g 1 ≠ 0)) ≤ 200 := by
        rw [num_eq hAt]
        have := hAt.len
        have := cF_le t x (decide (andI .i64 g 2 ≠ 0)) p (j + 1)
        have := cL_le t x (decide (andI .i64 g 2 ≠ 0)) p j
        split <;> omega
      rw [hit_rch ⟨hbd.2.2.1, hbd.2.2.2⟩ ⟨by omega, by omega⟩, ← hR1] at hR2
      have e12 : r2 = r1 := by rw [Bool.eq_iff_iff]; exact hR2
      have hw2 : w = r1 := by
        rw [hw]
        cases r1 <;> (cases hr; rfl)
      rw [isNthf]
      simp only [m_impl_IsNth, grown_eq t hf hR, bind_some, Bool.not_true, cond_false, cond_dec, atI_nat, Int.toNat_natCast, ptrs_len]
      rw [if_neg (by omega), if_neg (by omega), ptrs_get hlt]
      simp only [bind_some, m_cascadia_IsNth, hr2, Option.map_some]
      rw [e12, hw2]
      cases r1 <;> rfl
end Go.Proofs.Ytnggneccdekofaa.V
