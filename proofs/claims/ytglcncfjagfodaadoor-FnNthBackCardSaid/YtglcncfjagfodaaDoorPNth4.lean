/-
  FnNthBack: the law. Plain facts.
-/
import Derived.Test.YtglcncfjagfodaaDoorPNth3
set_option linter.unusedVariables false
set_option linter.unusedSimpArgs false
namespace Go.Proofs.YtglcncfjagfodaaDoor.V
open Go

theorem at_mid (p q : List UInt8) (c : UInt8) : (p ++ c :: q)[p.length]? = some c := by simp
theorem digs_head (n : Nat) (hn : n < 100000) : ∃ c l, digs n = c :: l ∧ 48 ≤ c.toNat ∧ c.toNat ≤ 57 := by
  have h1 := digs_len 5 n (by omega)
  have h2 := digs_dig 5 n (by omega)
  cases hd : digs n with
  | nil => rw [hd] at h1; simp at h1
  | cons c l => exact ⟨c, l, rfl, h2 c (by rw [hd]; simp)⟩
theorem b4_eq (p : List UInt8) (b aV dp : Int) (ac : Bool) (hb : b.natAbs < 100000) (hp : p.length ≤ 50) :
    m_cascadia_parser_parseNth_b4 ((p ++ sg b :: (digs b.natAbs ++ [41]), (p.length : Int), dp, ac), aV, ((sg b).toNat : Int)) = some ((p ++ sg b :: (digs b.natAbs ++ [41]), ((p.length + 1 + (digs b.natAbs).length : Nat) : Int), dp, ac), aV, b, false) := by
  have e : p ++ sg b :: (digs b.natAbs ++ [41]) = (p ++ [sg b]) ++ digs b.natAbs ++ [41] := by simp
  have hl := digs_len 5 b.natAbs (by omega)
  obtain ⟨c, l, hcl, hc1, hc2⟩ := digs_head b.natAbs hb
  have hint := int_eq (p ++ [sg b]) [41] b.natAbs hb (by simp; omega) (fun c hc => by simp at hc; subst hc; decide) dp ac
  have hskip := skip_eq (p ++ sg b :: (digs b.natAbs ++ [41])) (p.length + 1) c (by simp; omega) (by rw [e, hcl]; simp) (.inl hc1) dp ac
  rw [← e] at hint
  have hpl : (p ++ [sg b]).length = p.length + 1 := by simp
  rw [hpl] at hint
  have ew : IntKind.wrap .i64 ((p.length : Int) + 1) = ((p.length + 1 : Nat) : Int) := by rw [w64 (by omega) (by omega)]; omega
  generalize hS : p ++ sg b :: (digs b.natAbs ++ [41]) = S at hint hskip ⊢
  by_cases h : b < 0
  · have hs : ((sg b).toNat : Int) = 45 := by rw [sg, if_pos h]; rfl
    rw [hs]
    have : m_cascadia_parser_parseNth_b4 ((S, (p.length : Int), dp, ac), aV, 45) = Option.bind (m_cascadia_parser_skipWhitespace (S, IntKind.wrap .i64 ((p.length : Int) + 1), dp, ac)) fun r => Option.bind (m_cascadia_parser_parseInteger (r.2.1, r.2.2.1, r.2.2.2.1, r.2.2.2.2)) fun r => cond (!!r.2.1) (some ((r.2.2.1, r.2.2.2.1, r.2.2.2.2.1, r.2.2.2.2.2), 0, 0, r.2.1)) (some ((r.2.2.1, r.2.2.2.1, r.2.2.2.2.1, r.2.2.2.2.2), aV, IntKind.wrap .i64 (0 - r.1), false)) := rfl
    rw [this, ew, hskip, bind_some]
    simp only
    rw [hint, bind_some]
    simp only [Bool.not_false, Bool.not_true, cond_false]
    rw [w64 (by omega) (by omega), show (0 : Int) - (b.natAbs : Int) = b by omega]
  · have hs : ((sg b).toNat : Int) = 43 := by rw [sg, if_neg h]; rfl
    rw [hs]
    have : m_cascadia_parser_parseNth_b4 ((S, (p.length : Int), dp, ac), aV, 43) = Option.bind (m_cascadia_parser_skipWhitespace (S, IntKind.wrap .i64 ((p.length : Int) + 1), dp, ac)) fun r => Option.bind (m_cascadia_parser_parseInteger (r.2.1, r.2.2.1, r.2.2.2.1, r.2.2.2.2)) fun r => cond (!!r.2.1) (some ((r.2.2.1, r.2.2.2.1, r.2.2.2.2.1, r.2.2.2.2.2), 0, 0, r.2.1)) (some ((r.2.2.1, r.2.2.2.1, r.2.2.2.2.1, r.2.2.2.2.2), aV, r.1, false)) := rfl
    rw [this, ew, hskip, bind_some]
    simp only
    rw [hint, bind_some]
    simp only [Bool.not_false, Bool.not_true, cond_false]
    rw [show (b.natAbs : Int) = b by omega]
theorem b3_eq (s : List UInt8) (i : Nat) (aV dp : Int) (ac : Bool) (c : UInt8) (hc : c = 110 ∨ c = 78) (hi : i ≤ 1000) : m_cascadia_parser_parseNth_b3 ((s, (i : Int), dp, ac), aV, (c.toNat : Int)) = some (Sum.inl ((s, ((i + 1 : Nat) : Int), dp, ac), aV)) := by
  have ew : IntKind.wrap .i64 ((i : Int) + 1) = ((i + 1 : Nat) : Int) := by rw [w64 (by omega) (by omega)]; omega
  rcases hc with rfl | rfl
  · have : m_cascadia_parser_parseNth_b3 ((s, (i : Int), dp, ac), aV, 110) = some (Sum.inl ((s, IntKind.wrap .i64 ((i : Int) + 1), dp, ac), aV)) := rfl
    rw [ew] at this
    exact this
  · have : m_cascadia_parser_parseNth_b3 ((s, (i : Int), dp, ac), aV, 78) = some (Sum.inl ((s, IntKind.wrap .i64 ((i : Int) + 1), dp, ac), aV)) := rfl
    rw [ew] at this
    exact this
theorem nth_eq (nc : UInt8) (hnc : nc = 110 ∨ nc = 78) (a b : Int) (ha : a.natAbs < 100000) (hb : b.natAbs < 100000) : m_cascadia_parser_parseNth (Wn nc a b ++ [41], 0, 0, false) = some (a, b, false, Wn nc a b ++ [41], ((Wn nc a b).length : Int), 0, false) := by
  have la := digs_len 5 a.natAbs (by omega)
  have lb := digs_len 5 b.natAbs (by omega)
  have lsg : (sgn a).length ≤ 1 := by unfold sgn; split <;> simp
  obtain ⟨ca, ta, hca, ca1, ca2⟩ := digs_head a.natAbs ha
  have hnd : ¬ (48 ≤ nc.toNat ∧ nc.toNat ≤ 57) := by rcases hnc with rfl | rfl <;> decide
  have eS : Wn nc a b ++ [41] = sgn a ++ digs a.natAbs ++ (nc :: sg b :: (digs b.natAbs ++ [41])) := by simp [Wn]
  have hlenW : (Wn nc a b).length = (sgn a).length + (digs a.natAbs).length + 1 + 1 + (digs b.natAbs).length := by simp [Wn]; omega
  have hint := int_eq (sgn a) (nc :: sg b :: (digs b.natAbs ++ [41])) a.natAbs ha (by simp; omega) (fun c hc => by simp at hc; subst hc; exact hnd) 0 false
  have hcn : (Wn nc a b ++ [41])[(sgn a).length + (digs a.natAbs).length]? = some nc := by
    have := at_mid (sgn a ++ digs a.natAbs) (sg b :: (digs b.natAbs ++ [41])) nc
    rw [List.length_append] at this
    rw [eS]; exact this
  have eS2 : Wn nc a b ++ [41] = (sgn a ++ digs a.natAbs ++ [nc]) ++ sg b :: (digs b.natAbs ++ [41]) := by simp [Wn]
  have hp2 : (sgn a ++ digs a.natAbs ++ [nc]).length = (sgn a).length + (digs a.natAbs).length + 1 := by simp; omega
  have hcs : (Wn nc a b ++ [41])[(sgn a).length + (digs a.natAbs).length + 1]? = some (sg b) := by
    have := at_mid (sgn a ++ digs a.natAbs ++ [nc]) (digs b.natAbs ++ [41]) (sg b)
    rw [hp2] at this
    rw [eS2]; exact this
  have hskip := skip_eq (Wn nc a b ++ [41]) ((sgn a).length + (digs a.natAbs).length + 1) (sg b) (by simp; omega) hcs (.inr (by unfold sg; split; exact .inr rfl; exact .inl rfl)) 0 false
  have hb4 := fun aV => b4_eq (sgn a ++ digs a.natAbs ++ [nc]) b aV 0 false hb (by omega)
  rw [← eS2, hp2] at hb4
  have hb3 := fun aV => b3_eq (Wn nc a b ++ [41]) ((sgn a).length + (digs a.natAbs).length) aV 0 false nc hnc (by omega)
  have hfirst : (Wn nc a b ++ [41])[(sgn a).length]? = some ca := by
    rw [eS, hca, List.append_assoc]
    simp
  rw [← eS] at hint
  have hLS : (Wn nc a b ++ [41]).length = (Wn nc a b).length + 1 := by simp
  have hend : ((sgn a).length + (digs a.natAbs).length + 1 + 1 + (digs b.natAbs).length : Nat) = (Wn nc a b).length := hlenW.symm
  rw [hend] at hb4
  generalize hS : Wn nc a b ++ [41] = S at *
  by_cases h : a < 0
  · have hs1 : sgn a = [45] := by unfold sgn; rw [if_pos h]
    have h0 : S[0]? = some 45 := by rw [← hS]; simp [Wn, hs1]
    have hb0 : m_cascadia_parser_parseNth_b0 ((S, 0, 0, false), (((45 : UInt8).toNat : Nat) : Int)) = some (Sum.inl (S, 1, 0, false)) := rfl
    rw [hs1] at hint hcn hskip hb4 hb3 hfirst hcs hlenW
    simp only [List.length_singleton] at hint hcn hskip hb4 hb3 hfirst hcs hlenW
    have hb2 := b2_digit S 1 0 false ca.toNat ⟨ca1, ca2⟩
    have hint' : m_cascadia_parser_parseInteger (S, 1, 0, false) = some ((a.natAbs : Int), false, S, ((1 + (digs a.natAbs).length : Nat) : Int), 0, false) := hint
    rw [hint', bind_some] at hb2
    simp only [Bool.not_false, Bool.not_true, cond_false] at hb2
    rw [w64 (by omega) (by omega), show (0 : Int) - (a.natAbs : Int) = a by omega] at hb2
    have e1 : atI S (1 : Int) = some ca := by rw [show (1 : Int) = ((1 : Nat) : Int) from rfl, atI_nat]; exact hfirst
    simp only [m_cascadia_parser_parseNth, cond_dec, atI_zero, h0, bind_some]
    rw [if_neg (by omega), hb0, bind_some, selim_l]
    simp only [e1, bind_some]
    rw [if_neg (by omega), hb2, bind_some, selim_r, selim_r, selim_l]
    simp only [atI_nat, hcn, bind_some]
    rw [if_neg (by omega), hb3, bind_some, selim_l]
    simp only
    rw [hskip, bind_some]
    simp only [atI_nat, hcs, bind_some]
    rw [if_neg (by omega), hb4, bind_some]
  · have hs1 : sgn a = [] := by unfold sgn; rw [if_neg h]
    rw [hs1] at hint hcn hskip hb4 hb3 hfirst hcs hlenW
    simp only [List.length_nil, Nat.zero_add] at hint hcn hskip hb4 hb3 hfirst hcs hlenW
    have hb0 := b0_digit S 0 0 false ca.toNat ⟨ca1, ca2⟩
    have hb1 := b1_digit S 0 0 false ca.toNat ⟨ca1, ca2⟩
    have hint' : m_cascadia_parser_parseInteger (S, 0, 0, false) = some ((a.natAbs : Int), false, S, (((digs a.natAbs).length : Nat) : Int), 0, false) := hint
    rw [hint', bind_some] at hb1
    simp only [Bool.not_false, Bool.not_true, cond_false] at hb1
    rw [show (a.natAbs : Int) = a by omega] at hb1
    simp only [m_cascadia_parser_parseNth, cond_dec, atI_zero, hfirst, bind_some]
    rw [if_neg (by omega), hb0, bind_some, selim_r, selim_l]
    simp only [atI_zero, hfirst, bind_some]
    rw [if_neg (by omega), hb1, bind_some, selim_r, selim_r, selim_l]
    simp only [atI_nat, hcn, bind_some]
    rw [if_neg (by omega), hb3, bind_some, selim_l]
    simp only
    rw [hskip, bind_some]
    simp only [atI_nat, hcs, bind_some]
    rw [if_neg (by omega), hb4, bind_some]
theorem up_digs (n : Nat) (hn : n < 100000) : (digs n).map upB = digs n := by
  have h := digs_dig 5 n (by omega)
  generalize digs n = l at h
  induction l with
  | nil => rfl
  | cons c l ih =>
    have hc := h c (by simp)
    rw [List.map_cons, ih (fun d hd => h d (List.mem_cons_of_mem _ hd)), upB, if_neg (by omega)]
theorem up_W (a b : Int) (ha : a.natAbs < 100000) (hb : b.natAbs < 100000) : (Wn 110 a b).map upB = Wn 78 a b := by
  have h1 : (sgn a).map upB = sgn a := by unfold sgn; split <;> rfl
  have h2 : upB (sg b) = sg b := by unfold sg; split <;> rfl
  have h3 : upB 110 = 78 := by decide
  simp only [Wn, List.map_append, List.map_cons, List.map_nil, up_digs _ ha, up_digs _ hb, h1, h2, h3]
theorem readNth_eq (nc : UInt8) (hnc : nc = 110 ∨ nc = 78) (a b : Int) (ha : a.natAbs < 100000) (hb : b.natAbs < 100000) : m_impl_ReadNth (Wn nc a b ++ [41]) = some (a, b, ((Wn nc a b).length : Int), true) := by
  simp only [m_impl_ReadNth, m_cascadia_ReadNth, nth_eq nc hnc a b ha hb, bind_some]
  rfl
theorem fn_nthBack (a b : Int) (up : Bool) : m_laws_FnNthBack (a, b, up) = some true := by
  simp only [m_laws_FnNthBack, cond_dec]
  split
  · rfl
  · split
    · rfl
    · split
      · rfl
      · split
        · rfl
        · have ha : a.natAbs < 100000 := by omega
          have hb : b.natAbs < 100000 := by omega
          have la := digs_len 5 a.natAbs (by omega)
          have lb := digs_len 5 b.natAbs (by omega)
          have lW : ∀ nc, (Wn nc a b).length ≤ 20 := fun nc => by
            have : (sgn a).length ≤ 1 := by unfold sgn; split <;> simp
            simp [Wn]
            omega
          have l1 := lW 110
          have l2 := lW 78
          rw [counted_eq a b ha hb, bind_some]
          cases up with
          | true =>
            simp only [cond_true]
            rw [upper_eq _ (by omega), up_W a b ha hb, bind_some, cat_some (by simp; omega), bind_some, readNth_eq 78 (.inr rfl) a b ha hb, bind_some]
            simp
          | false =>
            simp only [cond_false]
            rw [cat_some (by simp; omega), bind_some, readNth_eq 110 (.inl rfl) a b ha hb, bind_some]
            simp
end Go.Proofs.YtglcncfjagfodaaDoor.V
