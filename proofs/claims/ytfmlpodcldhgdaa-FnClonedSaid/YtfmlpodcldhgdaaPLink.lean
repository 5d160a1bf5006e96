/-
  Links between nodes are made and undone: AppendChild, InsertBefore, RemoveChild. Plain facts.
-/
import Derived.Test.YtfmlpodcldhgdaaPForest
import Derived.Test.YtfmlpodcldhgdaaImplA
import Derived.Test.YtfmlpodcldhgdaaImplK
set_option linter.unusedVariables false
set_option linter.unusedSimpArgs false
namespace Go.Proofs.Ytfmlpodcldhgdaa.V
open Go

section
variable {F G : Fo} {L : Nat → HN} {p c : Nat} {A B : List Nat}
theorem remove_eq (h : Sp F G p c A B) : m_html_Node_RemoveChild (some p, some c, (F.st L)) = some (G.st L) := by
  have hG : (G.st L) = tab F.m (G.mk1 L) := by rw [h.g]; rfl
  have hpc := h.pc
  have hcp := Ne.symm hpc
  have fc := h.f_c (L := L)
  have fp := h.f_p (L := L)
  rw [hG]
  rcases List.eq_nil_or_concat A with rfl | ⟨A', a, rfl⟩
  · cases B with
    | nil =>
      have e1 : (F.mk1 L p).fst = some c := fp.1
      have e2 : (F.mk1 L p).lst = some c := fp.2
      simp only [m_html_Node_RemoveChild, bind_some, Fo.st, tab_get h.hp, tab_get h.hc, tab_set h.hp, tab_set h.hc, fc, upd, e1, e2, hpc, hcp, if_true, if_false, decide_true, cond_true, cond_false, Option.isNone_none, Option.isNone_some, Bool.not_true, Bool.not_false, List.head?_nil, List.getLast?_nil]
      refine congrArg some (tab_ext fun j hj => ?_)
      by_cases g1 : j = c
      · subst g1; simp only [upd, h.at_c, if_true, if_false, hpc, hcp]
      by_cases g2 : j = p
      · subst g2; simp only [upd, h.at_p, if_true, if_false, hpc, hcp]; rfl
      simp only [upd, if_neg g1, if_neg g2]
      exact (h.other g1 g2 (by simp) (by simp)).symm
    | cons b B =>
      obtain ⟨_, hbm, hbp, hbc⟩ := h.kid (j := b) (.inr (by simp))
      have hpb := Ne.symm hbp
      have hcb := Ne.symm hbc
      have e1 : (F.mk1 L p).fst = some c := fp.1
      have e2 : (F.mk1 L p).lst ≠ some c := by
        rw [fp.2, List.getLast?_cons_cons]
        intro e
        exact h.cB (List.mem_of_getLast? e)
      have fb := h.f_b (L := L)
      simp only [m_html_Node_RemoveChild, bind_some, Fo.st, tab_get h.hp, tab_get h.hc, tab_get hbm, tab_set h.hp, tab_set h.hc, tab_set hbm, fc, upd, e1, e2, hpc, hcp, hbp, hbc, hpb, hcb, if_true, if_false, decide_true, decide_false, cond_true, cond_false, Option.isNone_none, Option.isNone_some, Bool.not_true, Bool.not_false, List.head?_nil, List.getLast?_nil, List.head?_cons]
      refine congrArg some (tab_ext fun j hj => ?_)
      by_cases g1 : j = c
      · subst g1; simp only [upd, h.at_c, if_true, if_false, hpc, hcp, hbc, hcb]
      by_cases g2 : j = p
      · subst g2; simp only [upd, h.at_p, if_true, if_false, hpc, hcp, hbp, hpb, fp.2]; rfl
      by_cases g3 : j = b
      · subst g3; simp only [upd, h.at_b, if_true, if_false, hbp, hbc, List.getLast?_nil]
      simp only [upd, if_neg g1, if_neg g2, if_neg g3]
      exact (h.other g1 g2 (by simp) (by simpa using Ne.symm g3)).symm
  · have hA := h.kid (j := a) (.inl (by simp))
    simp only [List.concat_eq_append] at h fc fp hA
    obtain ⟨_, ham, hap, hac⟩ := hA
    have hpa := Ne.symm hap
    have hca := Ne.symm hac
    have e1 : (F.mk1 L p).fst ≠ some c := by
      rw [fp.1]
      intro e
      refine h.cA ?_
      cases A' with
      | nil => simp at e; simp [e]
      | cons x A' => simp at e; simp [e]
    have e3 : (A' ++ [a]).getLast? = some a := by simp
    have fa := h.f_a (L := L)
    cases B with
    | nil =>
      have e2 : (F.mk1 L p).lst = some c := fp.2
      rw [e3] at fc
      simp only [m_html_Node_RemoveChild, bind_some, Fo.st, tab_get h.hp, tab_get h.hc, tab_get ham, tab_set h.hp, tab_set h.hc, tab_set ham, fc, upd, e1, e2, e3, hpc, hcp, hap, hac, hpa, hca, if_true, if_false, decide_true, decide_false, cond_true, cond_false, Option.isNone_none, Option.isNone_some, Bool.not_true, Bool.not_false, List.head?_nil, List.getLast?_nil, List.head?_cons]
      refine congrArg some (tab_ext fun j hj => ?_)
      by_cases g1 : j = c
      · subst g1; simp only [upd, h.at_c, if_true, if_false, hpc, hcp, hac, hca]
      by_cases g2 : j = p
      · subst g2; simp only [upd, h.at_p, if_true, if_false, hpc, hcp, hap, hpa, fp.1, List.append_nil, e3]
        cases A' <;> rfl
      by_cases g3 : j = a
      · subst g3; simp only [upd, h.at_a, if_true, if_false, hap, hac, List.head?_nil]
      simp only [upd, if_neg g1, if_neg g2, if_neg g3]
      exact (h.other g1 g2 (by simpa using Ne.symm g3) (by simp)).symm
    | cons b B =>
      obtain ⟨_, hbm, hbp, hbc⟩ := h.kid (j := b) (.inr (by simp))
      have hpb := Ne.symm hbp
      have hcb := Ne.symm hbc
      have hab : a ≠ b := fun e => h.AB (j := a) (by simp) (by simp [e])
      have hba := Ne.symm hab
      have e2 : (F.mk1 L p).lst ≠ some c := by
        rw [fp.2, List.getLast?_cons_cons]
        intro e
        exact h.cB (List.mem_of_getLast? e)
      have fb := h.f_b (L := L)
      rw [e3] at fc
      simp only [m_html_Node_RemoveChild, bind_some, Fo.st, tab_get h.hp, tab_get h.hc, tab_get ham, tab_get hbm, tab_set h.hp, tab_set h.hc, tab_set ham, tab_set hbm, fc, upd, e1, e2, e3, hpc, hcp, hap, hac, hpa, hca, hbp, hbc, hpb, hcb, hab, hba, if_true, if_false, decide_true, decide_false, cond_true, cond_false, Option.isNone_none, Option.isNone_some, Bool.not_true, Bool.not_false, List.head?_nil, List.getLast?_nil, List.head?_cons]
      refine congrArg some (tab_ext fun j hj => ?_)
      by_cases g1 : j = c
      · subst g1; simp only [upd, h.at_c, if_true, if_false, hpc, hcp, hac, hca, hbc, hcb]
      by_cases g2 : j = p
      · subst g2
        simp only [upd, h.at_p, if_true, if_false, hpc, hcp, hap, hpa, hbp, hpb]
        have q1 : (A' ++ [a] ++ b :: B).head? = (F.mk1 L j).fst := by rw [fp.1]; cases A' <;> rfl
        have q2 : (A' ++ [a] ++ b :: B).getLast? = (F.mk1 L j).lst := by
          rw [fp.2, List.getLast?_cons_cons, List.getLast?_append]
          cases hB : (b :: B).getLast? with
          | none => simp at hB
          | some x => rfl
        rw [q1, q2]
      by_cases g3 : j = a
      · subst g3; simp only [upd, h.at_a, if_true, if_false, hap, hac, hab, List.head?_cons]
      by_cases g4 : j = b
      · subst g4; simp only [upd, h.at_b, if_true, if_false, hbp, hbc, hba, e3]
      simp only [upd, if_neg g1, if_neg g2, if_neg g3, if_neg g4]
      exact (h.other g1 g2 (by simpa using Ne.symm g3) (by simpa using Ne.symm g4)).symm
theorem insert_eq (h : Sp F G p c A B) : m_html_Node_InsertBefore (some p, some c, B.head?, (G.st L)) = some (F.st L) := by
  have hG : (G.st L) = tab F.m (G.mk1 L) := by rw [h.g]; rfl
  have hpc := h.pc
  have hcp := Ne.symm hpc
  have fc := h.f_c (L := L)
  have fp := h.f_p (L := L)
  have gc := h.at_c (L := L)
  have gp := h.at_p (L := L)
  have hF : (F.st L) = tab F.m (F.mk1 L) := rfl
  rw [hG, hF]
  rcases List.eq_nil_or_concat A with rfl | ⟨A', a, rfl⟩
  · cases B with
    | nil =>
      simp only [List.append_nil, List.nil_append, List.head?_nil, List.getLast?_nil] at gp
      simp only [m_html_Node_InsertBefore, bind_some, tab_get h.hp, tab_get h.hc, tab_set h.hp, tab_set h.hc, gc, gp, upd, hpc, hcp, if_true, if_false, cond_true, cond_false, Option.isNone_none, Option.isNone_some, Bool.not_true, Bool.not_false, List.head?_nil, List.getLast?_nil]
      refine congrArg some (tab_ext fun j hj => ?_)
      by_cases g1 : j = c
      · subst g1; simp only [upd, fc, if_true, if_false, hpc, hcp, List.getLast?_nil, List.head?_nil]
      by_cases g2 : j = p
      · subst g2; simp only [upd, if_true, if_false, hpc, hcp]
        have q1 : some c = (F.mk1 L j).fst := by rw [fp.1]; rfl
        have q2 : some c = (F.mk1 L j).lst := by rw [fp.2]; rfl
        rw (occs := .pos [1]) [q1]
        rw (occs := .pos [1]) [q2]
      simp only [upd, if_neg g1, if_neg g2]
      exact (h.other g1 g2 (by simp) (by simp))
    | cons b B =>
      obtain ⟨_, hbm, hbp, hbc⟩ := h.kid (j := b) (.inr (by simp))
      have hpb := Ne.symm hbp
      have hcb := Ne.symm hbc
      have gb := h.at_b (L := L)
      simp only [List.nil_append, List.head?_cons, List.getLast?_nil] at gp gb
      simp only [m_html_Node_InsertBefore, bind_some, tab_get h.hp, tab_get h.hc, tab_get hbm, tab_set h.hp, tab_set h.hc, tab_set hbm, gc, gp, gb, upd, hpc, hcp, hbp, hbc, hpb, hcb, if_true, if_false, cond_true, cond_false, Option.isNone_none, Option.isNone_some, Bool.not_true, Bool.not_false, List.head?_cons, List.getLast?_nil]
      refine congrArg some (tab_ext fun j hj => ?_)
      by_cases g1 : j = c
      · subst g1; simp only [upd, fc, if_true, if_false, hpc, hcp, hbc, hcb, List.getLast?_nil, List.head?_cons]
      by_cases g2 : j = p
      · subst g2; simp only [upd, if_true, if_false, hpc, hcp, hbp, hpb]
        have q1 : some c = (F.mk1 L j).fst := by rw [fp.1]; rfl
        have q2 : (b :: B).getLast? = (F.mk1 L j).lst := by rw [fp.2, List.getLast?_cons_cons]
        rw [q1, q2]
      by_cases g3 : j = b
      · subst g3; simp only [upd, if_true, if_false, hbp, hbc]
        rw [← h.f_b]
      simp only [upd, if_neg g1, if_neg g2, if_neg g3]
      exact (h.other g1 g2 (by simp) (by simpa using Ne.symm g3))
  · have hA := h.kid (j := a) (.inl (by simp))
    simp only [List.concat_eq_append] at h fc fp hA gc gp
    obtain ⟨_, ham, hap, hac⟩ := hA
    have hpa := Ne.symm hap
    have hca := Ne.symm hac
    have e3 : (A' ++ [a]).getLast? = some a := by simp
    have q1 : ∀ B : List Nat, (A' ++ [a] ++ B).head? = (F.mk1 L p).fst := fun B => by rw [fp.1]; cases A' <;> rfl
    have ga := h.at_a (L := L)
    cases B with
    | nil =>
      simp only [List.append_nil, e3, List.head?_nil] at gp ga
      simp only [m_html_Node_InsertBefore, bind_some, tab_get h.hp, tab_get h.hc, tab_get ham, tab_set h.hp, tab_set h.hc, tab_set ham, gc, gp, ga, upd, e3, hpc, hcp, hap, hac, hpa, hca, if_true, if_false, cond_true, cond_false, Option.isNone_none, Option.isNone_some, Bool.not_true, Bool.not_false, List.head?_nil]
      refine congrArg some (tab_ext fun j hj => ?_)
      by_cases g1 : j = c
      · subst g1; simp only [upd, fc, if_true, if_false, hpc, hcp, hac, hca, e3, List.head?_nil]
      by_cases g2 : j = p
      · subst g2; simp only [upd, if_true, if_false, hpc, hcp, hap, hpa]
        have q2 : some c = (F.mk1 L j).lst := by rw [fp.2]; rfl
        have q3 := q1 []
        rw [List.append_nil] at q3
        rw [q3, q2]
      by_cases g3 : j = a
      · subst g3; simp only [upd, if_true, if_false, hap, hac]
        rw [← h.f_a]
      simp only [upd, if_neg g1, if_neg g2, if_neg g3]
      exact (h.other g1 g2 (by simpa using Ne.symm g3) (by simp))
    | cons b B =>
      obtain ⟨_, hbm, hbp, hbc⟩ := h.kid (j := b) (.inr (by simp))
      have hpb := Ne.symm hbp
      have hcb := Ne.symm hbc
      have hab : a ≠ b := fun e => h.AB (j := a) (by simp) (by simp [e])
      have hba := Ne.symm hab
      have gb := h.at_b (L := L)
      simp only [e3, List.head?_cons] at ga gb
      simp only [m_html_Node_InsertBefore, bind_some, tab_get h.hp, tab_get h.hc, tab_get ham, tab_get hbm, tab_set h.hp, tab_set h.hc, tab_set ham, tab_set hbm, gc, gp, ga, gb, upd, e3, hpc, hcp, hap, hac, hpa, hca, hbp, hbc, hpb, hcb, hab, hba, if_true, if_false, cond_true, cond_false, Option.isNone_none, Option.isNone_some, Bool.not_true, Bool.not_false, List.head?_cons]
      refine congrArg some (tab_ext fun j hj => ?_)
      by_cases g1 : j = c
      · subst g1; simp only [upd, fc, if_true, if_false, hpc, hcp, hac, hca, hbc, hcb, e3, List.head?_cons]
      by_cases g2 : j = p
      · subst g2
        simp only [upd, gp, if_true, if_false, hpc, hcp, hap, hpa, hbp, hpb]
        have q2 : (A' ++ [a] ++ b :: B).getLast? = (F.mk1 L j).lst := by
          rw [fp.2, List.getLast?_cons_cons, List.getLast?_append]
          cases hB : (b :: B).getLast? with
          | none => simp at hB
          | some x => rfl
        rw [q1, q2]
      by_cases g3 : j = a
      · subst g3; simp only [upd, if_true, if_false, hap, hac, hab]
        rw [← h.f_a]
      by_cases g4 : j = b
      · subst g4; simp only [upd, if_true, if_false, hbp, hbc, hba]
        rw [← h.f_b]
      simp only [upd, if_neg g1, if_neg g2, if_neg g3, if_neg g4]
      exact (h.other g1 g2 (by simpa using Ne.symm g3) (by simpa using Ne.symm g4))
theorem append_eq (h : Sp F G p c A []) : m_html_Node_AppendChild (some p, some c, (G.st L)) = some (F.st L) := by
  have hG : (G.st L) = tab F.m (G.mk1 L) := by rw [h.g]; rfl
  have hpc := h.pc
  have hcp := Ne.symm hpc
  have fc := h.f_c (L := L)
  have fp := h.f_p (L := L)
  have gc := h.at_c (L := L)
  have gp := h.at_p (L := L)
  have hF : (F.st L) = tab F.m (F.mk1 L) := rfl
  rw [hG, hF]
  rcases List.eq_nil_or_concat A with rfl | ⟨A', a, rfl⟩
  · simp only [List.append_nil, List.head?_nil, List.getLast?_nil] at gp
    simp only [m_html_Node_AppendChild, bind_some, tab_get h.hp, tab_get h.hc, tab_set h.hp, tab_set h.hc, gc, gp, upd, hpc, hcp, if_true, if_false, cond_true, cond_false, Option.isNone_none, Option.isNone_some, Bool.not_true, Bool.not_false]
    refine congrArg some (tab_ext fun j hj => ?_)
    by_cases g1 : j = c
    · subst g1; simp only [upd, fc, if_true, if_false, hpc, hcp, List.getLast?_nil, List.head?_nil]
    by_cases g2 : j = p
    · subst g2; simp only [upd, if_true, if_false, hpc, hcp]
      have q1 : some c = (F.mk1 L j).fst := by rw [fp.1]; rfl
      have q2 : some c = (F.mk1 L j).lst := by rw [fp.2]; rfl
      rw (occs := .pos [1]) [q1]
      rw (occs := .pos [1]) [q2]
    simp only [upd, if_neg g1, if_neg g2]
    exact (h.other g1 g2 (by simp) (by simp))
  · have hA := h.kid (j := a) (.inl (by simp))
    simp only [List.concat_eq_append] at h fc fp hA gc gp
    obtain ⟨_, ham, hap, hac⟩ := hA
    have hpa := Ne.symm hap
    have hca := Ne.symm hac
    have e3 : (A' ++ [a]).getLast? = some a := by simp
    have q1 : (A' ++ [a]).head? = (F.mk1 L p).fst := by rw [fp.1]; cases A' <;> rfl
    have ga := h.at_a (L := L)
    simp only [List.append_nil, e3, List.head?_nil] at gp ga
    simp only [m_html_Node_AppendChild, bind_some, tab_get h.hp, tab_get h.hc, tab_get ham, tab_set h.hp, tab_set h.hc, tab_set ham, gc, gp, ga, upd, e3, hpc, hcp, hap, hac, hpa, hca, if_true, if_false, cond_true, cond_false, Option.isNone_none, Option.isNone_some, Bool.not_true, Bool.not_false, List.head?_nil]
    refine congrArg some (tab_ext fun j hj => ?_)
    by_cases g1 : j = c
    · subst g1; simp only [upd, fc, if_true, if_false, hpc, hcp, hac, hca, e3, List.head?_nil]
    by_cases g2 : j = p
    · subst g2; simp only [upd, if_true, if_false, hpc, hcp, hap, hpa]
      have q2 : some c = (F.mk1 L j).lst := by rw [fp.2]; rfl
      rw [q1, q2]
    by_cases g3 : j = a
    · subst g3; simp only [upd, if_true, if_false, hap, hac]
      rw [← h.f_a]
    simp only [upd, if_neg g1, if_neg g2, if_neg g3]
    exact (h.other g1 g2 (by simpa using Ne.symm g3) (by simp))
end
end Go.Proofs.Ytfmlpodcldhgdaa.V
