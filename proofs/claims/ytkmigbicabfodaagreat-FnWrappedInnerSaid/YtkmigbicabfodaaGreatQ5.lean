/-
  Plain facts and an evaluator for what a law needs.
-/
import Derived.Test.YtkmigbicabfodaaGreatQ4
set_option linter.unusedVariables false
set_option linter.unusedSimpArgs false
namespace Go.Proofs.YtkmigbicabfodaaGreat.V
open Go
section
variable {F G:Fo} {L:Nat→HN} {p c:Nat} {A B:List Nat}
theorem remove_eq (h:Sp F G p c A B):m_html_Node_RemoveChild (some p,some c,(F.st L))=some (G.st L):=by
 have hG:(G.st L)=tab F.m (G.mk1 L):=by rw [h.g]; rfl
 have hpc:=h.pc
 have hcp:=Ne.symm hpc
 have fc:=h.f_c (L:=L)
 have fp:=h.f_p (L:=L)
 rw [hG]
 rcases List.eq_nil_or_concat A with rfl | ⟨A',a,rfl⟩
 ·cases B with
  | nil =>
   have e1:(F.mk1 L p).fst=some c:=fp.1
   have e2:(F.mk1 L p).lst=some c:=fp.2
   simp only [m_html_Node_RemoveChild,bind_some,Fo.st,tab_get h.hp,tab_get h.hc,tab_set h.hp,tab_set h.hc,fc,upd,e1,e2,hpc,hcp,if_true,if_false,decide_true,cond_true,cond_false,Option.isNone_none,Option.isNone_some,Bool.not_true,Bool.not_false,List.head?_nil,List.getLast?_nil]
   refine congrArg some (tab_ext fun j hj=>?_)
   by_cases g1:j=c
   ·subst g1; simp only [upd,h.at_c,if_true,if_false,hpc,hcp]
   by_cases g2:j=p
   ·subst g2; simp only [upd,h.at_p,if_true,if_false,hpc,hcp]; rfl
   simp only [upd,if_neg g1,if_neg g2]
   exact (h.other g1 g2 (by simp) (by simp)).symm
  | cons b B =>
   obtain ⟨_,hbm,hbp,hbc⟩:=h.kid (j:=b) (.inr (by simp))
   have hpb:=Ne.symm hbp
   have hcb:=Ne.symm hbc
   have e1:(F.mk1 L p).fst=some c:=fp.1
   have e2:(F.mk1 L p).lst≠some c:=by
    rw [fp.2,List.getLast?_cons_cons]
    intro e
    exact h.cB (List.mem_of_getLast? e)
   have fb:=h.f_b (L:=L)
   simp only [m_html_Node_RemoveChild,bind_some,Fo.st,tab_get h.hp,tab_get h.hc,tab_get hbm,tab_set h.hp,tab_set h.hc,tab_set hbm,fc,upd,e1,e2,hpc,hcp,hbp,hbc,hpb,hcb,if_true,if_false,decide_true,decide_false,cond_true,cond_false,Option.isNone_none,Option.isNone_some,Bool.not_true,Bool.not_false,List.head?_nil,List.getLast?_nil,List.head?_cons]
   refine congrArg some (tab_ext fun j hj=>?_)
   by_cases g1:j=c
   ·subst g1; simp only [upd,h.at_c,if_true,if_false,hpc,hcp,hbc,hcb]
   by_cases g2:j=p
   ·subst g2; simp only [upd,h.at_p,if_true,if_false,hpc,hcp,hbp,hpb,fp.2]; rfl
   by_cases g3:j=b
   ·subst g3; simp only [upd,h.at_b,if_true,if_false,hbp,hbc,List.getLast?_nil]
   simp only [upd,if_neg g1,if_neg g2,if_neg g3]
   exact (h.other g1 g2 (by simp) (by simpa using Ne.symm g3)).symm
 ·have hA:=h.kid (j:=a) (.inl (by simp))
  simp only [List.concat_eq_append] at h fc fp hA
  obtain ⟨_,ham,hap,hac⟩:=hA
  have hpa:=Ne.symm hap
  have hca:=Ne.symm hac
  have e1:(F.mk1 L p).fst≠some c:=by
   rw [fp.1]
   intro e
   refine h.cA ?_
   cases A' with
   | nil=>simp at e; simp [e]
   | cons x A'=>simp at e; simp [e]
  have e3:(A'++[a]).getLast?=some a:=by simp
  have fa:=h.f_a (L:=L)
  cases B with
  | nil =>
   have e2:(F.mk1 L p).lst=some c:=fp.2
   rw [e3] at fc
   simp only [m_html_Node_RemoveChild,bind_some,Fo.st,tab_get h.hp,tab_get h.hc,tab_get ham,tab_set h.hp,tab_set h.hc,tab_set ham,fc,upd,e1,e2,e3,hpc,hcp,hap,hac,hpa,hca,if_true,if_false,decide_true,decide_false,cond_true,cond_false,Option.isNone_none,Option.isNone_some,Bool.not_true,Bool.not_false,List.head?_nil,List.getLast?_nil,List.head?_cons]
   refine congrArg some (tab_ext fun j hj=>?_)
   by_cases g1:j=c
   ·subst g1; simp only [upd,h.at_c,if_true,if_false,hpc,hcp,hac,hca]
   by_cases g2:j=p
   ·subst g2; simp only [upd,h.at_p,if_true,if_false,hpc,hcp,hap,hpa,fp.1,List.append_nil,e3]
    cases A' <;> rfl
   by_cases g3:j=a
   ·subst g3; simp only [upd,h.at_a,if_true,if_false,hap,hac,List.head?_nil]
   simp only [upd,if_neg g1,if_neg g2,if_neg g3]
   exact (h.other g1 g2 (by simpa using Ne.symm g3) (by simp)).symm
  | cons b B =>
   obtain ⟨_,hbm,hbp,hbc⟩:=h.kid (j:=b) (.inr (by simp))
   have hpb:=Ne.symm hbp
   have hcb:=Ne.symm hbc
   have hab:a≠b:=fun e=>h.AB (j:=a) (by simp) (by simp [e])
   have hba:=Ne.symm hab
   have e2:(F.mk1 L p).lst≠some c:=by
    rw [fp.2,List.getLast?_cons_cons]
    intro e
    exact h.cB (List.mem_of_getLast? e)
   have fb:=h.f_b (L:=L)
   rw [e3] at fc
   simp only [m_html_Node_RemoveChild,bind_some,Fo.st,tab_get h.hp,tab_get h.hc,tab_get ham,tab_get hbm,tab_set h.hp,tab_set h.hc,tab_set ham,tab_set hbm,fc,upd,e1,e2,e3,hpc,hcp,hap,hac,hpa,hca,hbp,hbc,hpb,hcb,hab,hba,if_true,if_false,decide_true,decide_false,cond_true,cond_false,Option.isNone_none,Option.isNone_some,Bool.not_true,Bool.not_false,List.head?_nil,List.getLast?_nil,List.head?_cons]
   refine congrArg some (tab_ext fun j hj=>?_)
   by_cases g1:j=c
   ·subst g1; simp only [upd,h.at_c,if_true,if_false,hpc,hcp,hac,hca,hbc,hcb]
   by_cases g2:j=p
   ·subst g2
    simp only [upd,h.at_p,if_true,if_false,hpc,hcp,hap,hpa,hbp,hpb]
    have q1:(A'++[a]++b::B).head?=(F.mk1 L j).fst:=by rw [fp.1]; cases A' <;> rfl
    have q2:(A'++[a]++b::B).getLast?=(F.mk1 L j).lst:=by
     rw [fp.2,List.getLast?_cons_cons,List.getLast?_append]
     cases hB:(b::B).getLast? with
     | none=>simp at hB
     | some x=>rfl
    rw [q1,q2]
   by_cases g3:j=a
   ·subst g3; simp only [upd,h.at_a,if_true,if_false,hap,hac,hab,List.head?_cons]
   by_cases g4:j=b
   ·subst g4; simp only [upd,h.at_b,if_true,if_false,hbp,hbc,hba,e3]
   simp only [upd,if_neg g1,if_neg g2,if_neg g3,if_neg g4]
   exact (h.other g1 g2 (by simpa using Ne.symm g3) (by simpa using Ne.symm g4)).symm
theorem insert_eq (h:Sp F G p c A B):m_html_Node_InsertBefore (some p,some c,B.head?,(G.st L))=some (F.st L):=by
 have hG:(G.st L)=tab F.m (G.mk1 L):=by rw [h.g]; rfl
 have hpc:=h.pc
 have hcp:=Ne.symm hpc
 have fc:=h.f_c (L:=L)
 have fp:=h.f_p (L:=L)
 have gc:=h.at_c (L:=L)
 have gp:=h.at_p (L:=L)
 have hF:(F.st L)=tab F.m (F.mk1 L):=rfl
 rw [hG,hF]
 rcases List.eq_nil_or_concat A with rfl | ⟨A',a,rfl⟩
 ·cases B with
  | nil =>
   simp only [List.append_nil,List.nil_append,List.head?_nil,List.getLast?_nil] at gp
   simp only [m_html_Node_InsertBefore,bind_some,tab_get h.hp,tab_get h.hc,tab_set h.hp,tab_set h.hc,gc,gp,upd,hpc,hcp,if_true,if_false,cond_true,cond_false,Option.isNone_none,Option.isNone_some,Bool.not_true,Bool.not_false,List.head?_nil,List.getLast?_nil]
   refine congrArg some (tab_ext fun j hj=>?_)
   by_cases g1:j=c
   ·subst g1; simp only [upd,fc,if_true,if_false,hpc,hcp,List.getLast?_nil,List.head?_nil]
   by_cases g2:j=p
   ·subst g2; simp only [upd,if_true,if_false,hpc,hcp]
    have q1:some c=(F.mk1 L j).fst:=by rw [fp.1]; rfl
    have q2:some c=(F.mk1 L j).lst:=by rw [fp.2]; rfl
    rw (occs := .pos [1]) [q1]
    rw (occs := .pos [1]) [q2]
   simp only [upd,if_neg g1,if_neg g2]
   exact (h.other g1 g2 (by simp) (by simp))
  | cons b B =>
   obtain ⟨_,hbm,hbp,hbc⟩:=h.kid (j:=b) (.inr (by simp))
   have hpb:=Ne.symm hbp
   have hcb:=Ne.symm hbc
   have gb:=h.at_b (L:=L)
   simp only [List.nil_append,List.head?_cons,List.getLast?_nil] at gp gb
   simp only [m_html_Node_InsertBefore,bind_some,tab_get h.hp,tab_get h.hc,tab_get hbm,tab_set h.hp,tab_set h.hc,tab_set hbm,gc,gp,gb,upd,hpc,hcp,hbp,hbc,hpb,hcb,if_true,if_false,cond_true,cond_false,Option.isNone_none,Option.isNone_some,Bool.not_true,Bool.not_false,List.head?_cons,List.getLast?_nil]
   refine congrArg some (tab_ext fun j hj=>?_)
   by_cases g1:j=c
   ·subst g1; simp only [upd,fc,if_true,if_false,hpc,hcp,hbc,hcb,List.getLast?_nil,List.head?_cons]
   by_cases g2:j=p
   ·subst g2; simp only [upd,if_true,if_false,hpc,hcp,hbp,hpb]
    have q1:some c=(F.mk1 L j).fst:=by rw [fp.1]; rfl
    have q2:(b::B).getLast?=(F.mk1 L j).lst:=by rw [fp.2,List.getLast?_cons_cons]
    rw [q1,q2]
   by_cases g3:j=b
   ·subst g3; simp only [upd,if_true,if_false,hbp,hbc]
    rw [← h.f_b]
   simp only [upd,if_neg g1,if_neg g2,if_neg g3]
   exact (h.other g1 g2 (by simp) (by simpa using Ne.symm g3))
 ·have hA:=h.kid (j:=a) (.inl (by simp))
  simp only [List.concat_eq_append] at h fc fp hA gc gp
  obtain ⟨_,ham,hap,hac⟩:=hA
  have hpa:=Ne.symm hap
  have hca:=Ne.symm hac
  have e3:(A'++[a]).getLast?=some a:=by simp
  have q1:∀ B:List Nat,(A'++[a]++B).head?=(F.mk1 L p).fst:=fun B=>by rw [fp.1]; cases A' <;> rfl
  have ga:=h.at_a (L:=L)
  cases B with
  | nil =>
   simp only [List.append_nil,e3,List.head?_nil] at gp ga
   simp only [m_html_Node_InsertBefore,bind_some,tab_get h.hp,tab_get h.hc,tab_get ham,tab_set h.hp,tab_set h.hc,tab_set ham,gc,gp,ga,upd,e3,hpc,hcp,hap,hac,hpa,hca,if_true,if_false,cond_true,cond_false,Option.isNone_none,Option.isNone_some,Bool.not_true,Bool.not_false,List.head?_nil]
   refine congrArg some (tab_ext fun j hj=>?_)
   by_cases g1:j=c
   ·subst g1; simp only [upd,fc,if_true,if_false,hpc,hcp,hac,hca,e3,List.head?_nil]
   by_cases g2:j=p
   ·subst g2; simp only [upd,if_true,if_false,hpc,hcp,hap,hpa]
    have q2:some c=(F.mk1 L j).lst:=by rw [fp.2]; rfl
    have q3:=q1 []
    rw [List.append_nil] at q3
    rw [q3,q2]
   by_cases g3:j=a
   ·subst g3; simp only [upd,if_true,if_false,hap,hac]
    rw [← h.f_a]
   simp only [upd,if_neg g1,if_neg g2,if_neg g3]
   exact (h.other g1 g2 (by simpa using Ne.symm g3) (by simp))
  | cons b B =>
   obtain ⟨_,hbm,hbp,hbc⟩:=h.kid (j:=b) (.inr (by simp))
   have hpb:=Ne.symm hbp
   have hcb:=Ne.symm hbc
   have hab:a≠b:=fun e=>h.AB (j:=a) (by simp) (by simp [e])
   have hba:=Ne.symm hab
   have gb:=h.at_b (L:=L)
   simp only [e3,List.head?_cons] at ga gb
   simp only [m_html_Node_InsertBefore,bind_some,tab_get h.hp,tab_get h.hc,tab_get ham,tab_get hbm,tab_set h.hp,tab_set h.hc,tab_set ham,tab_set hbm,gc,gp,ga,gb,upd,e3,hpc,hcp,hap,hac,hpa,hca,hbp,hbc,hpb,hcb,hab,hba,if_true,if_false,cond_true,cond_false,Option.isNone_none,Option.isNone_some,Bool.not_true,Bool.not_false,List.head?_cons]
   refine congrArg some (tab_ext fun j hj=>?_)
   by_cases g1:j=c
   ·subst g1; simp only [upd,fc,if_true,if_false,hpc,hcp,hac,hca,hbc,hcb,e3,List.head?_cons]
   by_cases g2:j=p
   ·subst g2
    simp only [upd,gp,if_true,if_false,hpc,hcp,hap,hpa,hbp,hpb]
    have q2:(A'++[a]++b::B).getLast?=(F.mk1 L j).lst:=by
     rw [fp.2,List.getLast?_cons_cons,List.getLast?_append]
     cases hB:(b::B).getLast? with
     | none=>simp at hB
     | some x=>rfl
    rw [q1,q2]
   by_cases g3:j=a
   ·subst g3; simp only [upd,if_true,if_false,hap,hac,hab]
    rw [← h.f_a]
   by_cases g4:j=b
   ·subst g4; simp only [upd,if_true,if_false,hbp,hbc,hba]
    rw [← h.f_b]
   simp only [upd,if_neg g1,if_neg g2,if_neg g3,if_neg g4]
   exact (h.other g1 g2 (by simpa using Ne.symm g3) (by simpa using Ne.symm g4))
theorem append_eq (h:Sp F G p c A []):m_html_Node_AppendChild (some p,some c,(G.st L))=some (F.st L):=by
 have hG:(G.st L)=tab F.m (G.mk1 L):=by rw [h.g]; rfl
 have hpc:=h.pc
 have hcp:=Ne.symm hpc
 have fc:=h.f_c (L:=L)
 have fp:=h.f_p (L:=L)
 have gc:=h.at_c (L:=L)
 have gp:=h.at_p (L:=L)
 have hF:(F.st L)=tab F.m (F.mk1 L):=rfl
 rw [hG,hF]
 rcases List.eq_nil_or_concat A with rfl | ⟨A',a,rfl⟩
 ·simp only [List.append_nil,List.head?_nil,List.getLast?_nil] at gp
  simp only [m_html_Node_AppendChild,bind_some,tab_get h.hp,tab_get h.hc,tab_set h.hp,tab_set h.hc,gc,gp,upd,hpc,hcp,if_true,if_false,cond_true,cond_false,Option.isNone_none,Option.isNone_some,Bool.not_true,Bool.not_false]
  refine congrArg some (tab_ext fun j hj=>?_)
  by_cases g1:j=c
  ·subst g1; simp only [upd,fc,if_true,if_false,hpc,hcp,List.getLast?_nil,List.head?_nil]
  by_cases g2:j=p
  ·subst g2; simp only [upd,if_true,if_false,hpc,hcp]
   have q1:some c=(F.mk1 L j).fst:=by rw [fp.1]; rfl
   have q2:some c=(F.mk1 L j).lst:=by rw [fp.2]; rfl
   rw (occs := .pos [1]) [q1]
   rw (occs := .pos [1]) [q2]
  simp only [upd,if_neg g1,if_neg g2]
  exact (h.other g1 g2 (by simp) (by simp))
 ·have hA:=h.kid (j:=a) (.inl (by simp))
  simp only [List.concat_eq_append] at h fc fp hA gc gp
  obtain ⟨_,ham,hap,hac⟩:=hA
  have hpa:=Ne.symm hap
  have hca:=Ne.symm hac
  have e3:(A'++[a]).getLast?=some a:=by simp
  have q1:(A'++[a]).head?=(F.mk1 L p).fst:=by rw [fp.1]; cases A' <;> rfl
  have ga:=h.at_a (L:=L)
  simp only [List.append_nil,e3,List.head?_nil] at gp ga
  simp only [m_html_Node_AppendChild,bind_some,tab_get h.hp,tab_get h.hc,tab_get ham,tab_set h.hp,tab_set h.hc,tab_set ham,gc,gp,ga,upd,e3,hpc,hcp,hap,hac,hpa,hca,if_true,if_false,cond_true,cond_false,Option.isNone_none,Option.isNone_some,Bool.not_true,Bool.not_false,List.head?_nil]
  refine congrArg some (tab_ext fun j hj=>?_)
  by_cases g1:j=c
  ·subst g1; simp only [upd,fc,if_true,if_false,hpc,hcp,hac,hca,e3,List.head?_nil]
  by_cases g2:j=p
  ·subst g2; simp only [upd,if_true,if_false,hpc,hcp,hap,hpa]
   have q2:some c=(F.mk1 L j).lst:=by rw [fp.2]; rfl
   rw [q1,q2]
  by_cases g3:j=a
  ·subst g3; simp only [upd,if_true,if_false,hap,hac]
   rw [← h.f_a]
  simp only [upd,if_neg g1,if_neg g2,if_neg g3]
  exact (h.other g1 g2 (by simpa using Ne.symm g3) (by simp))
end
end Go.Proofs.YtkmigbicabfodaaGreat.V
set_option linter.unusedVariables false
set_option linter.unusedSimpArgs false
namespace Go.Proofs.YtkmigbicabfodaaGreat.V
open Go
theorem Fo.ext' {F G:Fo} (h1:F.m=G.m) (h2:∀ i,F.up i=G.up i) (h3:∀ i,F.kids i=G.kids i):F=G:=by
 cases F; cases G
 simp only at h1 h2 h3
 subst h1
 rw [funext h2,funext h3]
section
variable {F G:Fo} {L:Nat→HN} {p c i j:Nat} {A B:List Nat}
theorem Sp.ins (hG:G.ok) (hp:p<G.m) (hc:c<G.m) (hu:G.up c=none) (hpc:p≠c) (hk:G.kids p=A++B):Sp (G.setK p (A++c::B) c (some p)) G p c A B:=by
 have hn:∀ q,c∉G.kids q:=fun q h=>by have:=(hG.kid h).1; rw [hu] at this; cases this
 refine ⟨⟨fun {q x} hx=>?_,fun {x q} hx=>?_,fun q=>?_,fun x=>?_⟩,hp,hc,by simp [Fo.setK],by simp [Fo.setK],?_⟩
 ·simp only [Fo.setK] at hx ⊢
  by_cases e:q=p
  ·rw [if_pos e] at hx
   by_cases e2:x=c
   ·rw [if_pos e2,e,e2]; exact ⟨rfl,hc⟩
   ·rw [if_neg e2]
    have:x∈G.kids p:=by rw [hk]; simpa [e2] using hx
    rw [e]; exact hG.kid this
  ·rw [if_neg e] at hx
   have e2:x≠c:=fun e2=>hn q (e2 ▸ hx)
   rw [if_neg e2]; exact hG.kid hx
 ·simp only [Fo.setK] at hx ⊢
  by_cases e2:x=c
  ·rw [if_pos e2] at hx
   obtain rfl:p=q:=Option.some.inj hx
   exact ⟨hp,by rw [if_pos rfl,e2]; simp⟩
  ·rw [if_neg e2] at hx
   obtain ⟨h1,h2⟩:=hG.up hx
   refine ⟨h1,?_⟩
   by_cases e:q=p
   ·rw [if_pos e]
    rw [e,hk] at h2
    rcases List.mem_append.1 h2 with h | h <;> simp [h]
   ·rw [if_neg e]; exact h2
 ·simp only [Fo.setK]
  by_cases e:q=p
  ·rw [if_pos e]
   have h1:=hG.nd p
   have h2:=hn p
   rw [hk] at h1 h2
   rw [List.nodup_append] at h1 ⊢
   simp only [List.mem_append,not_or] at h2
   refine ⟨h1.1,List.nodup_cons.2 ⟨h2.2,h1.2.1⟩,fun a ha b hb e3=>?_⟩
   rcases List.mem_cons.1 hb with hb | hb
   ·exact h2.1 (by rw [← hb,← e3]; exact ha)
   ·exact h1.2.2 a ha b hb e3
  ·rw [if_neg e]; exact hG.nd q
 ·simp only [Fo.setK]
  by_cases e:x=c
  ·rw [if_pos e]; intro h; exact hpc (by rw [← e]; exact Option.some.inj h)
  ·rw [if_neg e]; exact hG.irr x
 ·refine Fo.ext' rfl (fun i=>?_) (fun i=>?_)
  ·simp only [Fo.setK]
   by_cases e:i=c
   ·rw [if_pos e,e,hu]
   ·rw [if_neg e,if_neg e]
  ·simp only [Fo.setK]
   by_cases e:i=p
   ·rw [if_pos e,e,hk]
   ·rw [if_neg e,if_neg e]
def Fo.add (F:Fo):Fo:=⟨F.m+1,fun i=>if i=F.m then none else F.up i,fun i=>if i=F.m then [] else F.kids i⟩
theorem Fo.ok.add (h:F.ok):F.add.ok:=by
 refine ⟨fun {q x} hx=>?_,fun {x q} hx=>?_,fun q=>?_,fun x=>?_⟩
 ·simp only [Fo.add] at hx ⊢
  by_cases e:q=F.m
  ·rw [if_pos e] at hx; cases hx
  ·rw [if_neg e] at hx
   have:=h.kid hx
   rw [if_neg (by omega)]
   exact ⟨this.1,by omega⟩
 ·simp only [Fo.add] at hx ⊢
  by_cases e:x=F.m
  ·rw [if_pos e] at hx; cases hx
  ·rw [if_neg e] at hx
   have:=h.up hx
   rw [if_neg (by omega)]
   exact ⟨by omega,this.2⟩
 ·simp only [Fo.add]
  by_cases e:q=F.m
  ·rw [if_pos e]; exact List.nodup_nil
  ·rw [if_neg e]; exact h.nd q
 ·simp only [Fo.add]
  by_cases e:x=F.m
  ·rw [if_pos e]; intro h; cases h
  ·rw [if_neg e]; exact h.irr x
theorem Fo.add_mk1 (h:F.ok) {b:HN} (hi:i<F.m):F.add.mk1 (upd L F.m b) i=F.mk1 L i:=by
 have e:i≠F.m:=by omega
 simp only [Fo.mk1,Fo.add,if_neg e,upd_ne e]
 cases hu:F.up i with
 | none=>rfl
 | some q =>
  have:=(h.up hu).1
  have e2:q≠F.m:=by omega
  simp only [Option.bind_some,if_neg e2]
theorem Fo.add_st (h:F.ok) {b:HN}:F.st L++[⟨none,none,none,none,none,b.ty,b.atom,b.data,b.ns,b.attrs⟩]=F.add.st (upd L F.m b):=by
 unfold Fo.st
 rw [tab_snoc]
 refine tab_ext fun j hj=>?_
 by_cases e:j=F.m
 ·subst e
  rw [upd_same]
  simp [Fo.mk1,Fo.add,upd_same]
 ·have:j<F.m:=by omega
  rw [upd_ne e,Fo.add_mk1 h this]
end
def cpl (a b:HN):Prop:=a.ty=b.ty∧a.atom=b.atom∧a.data=b.data∧a.ns=[]∧a.attrs=b.attrs
def Cp (F:Fo) (L:Nat→HN) (K:Nat→List Nat) (B:Nat→HN) (lo hi:Nat):Nat→Nat→Nat→Prop
 | 0,_,_=>False
 | n+1,c,x=>(lo≤c∧c<hi)∧cpl (L c) (B x)∧F2 (Cp F L K B lo hi n) (F.kids c) (K x)
def Ht (K:Nat→List Nat):Nat→Nat→Prop
 | 0,_=>False
 | n+1,x=>∀ y∈K x,Ht K n y
def szK (K:Nat→List Nat):Nat→Nat→Nat
 | 0,_=>0
 | n+1,x=>1+((K x).map (szK K n)).sum
theorem F2.imp {α β:Type} {R S:α→β→Prop}:∀ {l:List α} {m:List β},(∀ a b,a∈l→b∈m→R a b→S a b)→F2 R l m→F2 S l m
 | _,_,_, .nil => .nil
 | _,_,hi, .cons h t => .cons (hi _ _ (by simp) (by simp) h) (F2.imp (fun a b ha hb=>hi a b (by simp [ha]) (by simp [hb])) t)
section
variable {F G:Fo} {L M:Nat→HN} {K:Nat→List Nat} {B:Nat→HN} {lo hi lo' hi':Nat}
theorem Cp.mono (hlo:lo'≤lo) (hhi:hi≤hi') (hk:∀ i,lo≤i→i<hi→G.kids i=F.kids i∧M i=L i):∀ {n c x:Nat},Cp F L K B lo hi n c x→Cp G M K B lo' hi' n c x
 | 0,_,_,h=>h
 | n+1,c,x,⟨⟨h1,h2⟩,h3,h4⟩=>by
  obtain ⟨e1,e2⟩:=hk c h1 h2
  refine ⟨⟨by omega,by omega⟩,by rw [e2]; exact h3,?_⟩
  rw [e1]
  exact h4.imp fun a b _ _ h=>Cp.mono hlo hhi hk h
structure Ext (F:Fo) (L:Nat→HN) (G:Fo) (M:Nat→HN):Prop where
 ok:G.ok
 m:F.m≤G.m
 old:∀ i,i<F.m→G.up i=F.up i∧G.kids i=F.kids i∧M i=L i
 lab:∀ i,F.m≤i→i<G.m→(M i).attrs.length≤1000000
 inc:∀ i,F.m≤i→∀ y∈G.kids i,i<y
theorem Ext.trans {H:Fo} {N:Nat→HN} (h:Ext F L G M) (h':Ext G M H N):Ext F L H N:=⟨h'.ok,Nat.le_trans h.m h'.m,fun i hi=>by
 obtain ⟨a,b,c⟩:=h.old i hi
 obtain ⟨a',b',c'⟩:=h'.old i (Nat.lt_of_lt_of_le hi h.m)
 exact ⟨a'.trans a,b'.trans b,c'.trans c⟩,fun i h1 h2=>by
 by_cases e:i<G.m
 ·rw [(h'.old i e).2.2]; exact h.lab i h1 e
 ·exact h'.lab i (by omega) h2,fun i h1 y hy=>by
 by_cases e:i<G.m
 ·rw [(h'.old i e).2.1] at hy; exact h.inc i h1 y hy
 ·exact h'.inc i (by omega) y hy⟩
theorem nxtL_get:∀ {l:List Nat} {j c:Nat},l.Nodup→l[j]?=some c→nxtL l c=l[j+1]?
 | [],_,_,_,h=>by simp at h
 | a::l,0,c,_,h=>by
  simp at h
  subst h
  simp [nxtL,List.head?_eq_getElem?]
 | a::l,j+1,c,hn,h=>by
  have h':l[j]?=some c:=by simpa using h
  have hne:a≠c:=fun e=>(List.nodup_cons.1 hn).1 (by rw [e]; exact List.mem_of_getElem? h')
  simp only [nxtL,if_neg hne,nxtL_get (List.nodup_cons.1 hn).2 h',List.getElem?_cons_succ]
theorem append_ins {c k:Nat} (hG:G.ok) (hc:c<G.m) (hk:k<G.m) (hu:G.up k=none) (hck:c≠k):m_html_Node_AppendChild (some c,some k,G.st L)=some ((G.setK c (G.kids c++[k]) k (some c)).st L)∧(G.setK c (G.kids c++[k]) k (some c)).ok:=by
 have h:=Sp.ins (A:=G.kids c) (B:=[]) hG hc hk hu hck (by simp)
 exact ⟨append_eq h,h.okF⟩
end
end Go.Proofs.YtkmigbicabfodaaGreat.V
set_option linter.unusedVariables false
set_option linter.unusedSimpArgs false
namespace Go.Proofs.YtkmigbicabfodaaGreat.V
open Go
def attrH (a:HAttr):Attr:=⟨a.key,a.val⟩
def kn (h:HN):Node :=
 if h.ty=2 then ⟨1,[],[],[],0⟩ else if h.ty=5 then ⟨2,[],h.data,[],0⟩ else if h.ty=1 then ⟨4,[],h.data,[],0⟩ else if h.ty=4 then ⟨5,[],h.data,[],0⟩
 else if h.ty=3 then ⟨3,h.data,[],h.attrs.map attrH,0⟩ else ⟨0,[],[],[],0⟩
def idsF (K:Nat→List Nat):Nat→Nat→List Nat
 | 0,_=>[]
 | n+1,x=>x::(K x).flatMap (idsF K n)
def nodesF (K:Nat→List Nat) (N:Nat→Node):Nat→Nat→List Node
 | 0,_=>[]
 | n+1,x=>⟨(N x).kind,(N x).tag,(N x).text,(N x).attrs,1+(((K x).flatMap (nodesF K N n)).length:Nat)⟩::(K x).flatMap (nodesF K N n)
section
variable {F:Fo} {L:Nat→HN}
theorem kindOf_eq {i:Nat} (hi:i<F.m) (ha:(L i).attrs.length≤1000000):m_impl_kindOf (some i,F.st L)=some (kn (L i),F.st L):=by
 have hg:=Fo.get (F:=F) (L:=L) hi
 have hty:(F.mk1 L i).ty=(L i).ty:=rfl
 have hda:(F.mk1 L i).data=(L i).data:=rfl
 have hat:(F.mk1 L i).attrs=(L i).attrs:=rfl
 simp only [m_impl_kindOf,bind_some,hg,hty,hda,hat,cond_dec,kn]
 split
 ·rfl
 split
 ·rfl
 split
 ·rfl
 split
 ·rfl
 split
 ·have key:∀ d j,(L i).attrs.length - j=d→j≤(L i).attrs.length→loopO m_impl_kindOf_0 (⟨0,[],[],[],0⟩,(3,(L i).data,[],(),0),i,((L i).attrs.length:Int),(j:Int),F.st L,((L i).attrs.take j).map attrH)=some (⟨0,[],[],[],0⟩,(3,(L i).data,[],(),0),F.st L,(L i).attrs.map attrH):=by
   intro d
   induction d with
   | zero =>
    intro j hd hj
    refine loopO_out ?_
    simp only [m_impl_kindOf_0,cond_dec]
    rw [if_neg (by omega),List.take_of_length_le (by omega)]
   | succ d ih =>
    intro j hd hj
    obtain ⟨a,hA⟩:=get_lt (l:=(L i).attrs) (k:=j) (by omega)
    have step:m_impl_kindOf_0 (⟨0,[],[],[],0⟩,(3,(L i).data,[],(),0),i,((L i).attrs.length:Int),(j:Int),F.st L,((L i).attrs.take j).map attrH)=some (.nx (⟨0,[],[],[],0⟩,(3,(L i).data,[],(),0),i,((L i).attrs.length:Int),((j+1:Nat):Int),F.st L,((L i).attrs.take (j+1)).map attrH)):=by
     simp only [m_impl_kindOf_0,cond_dec,hg,bind_some,hat,atI_nat,hA,Int.toNat_natCast]
     rw [if_pos (by omega),appL_some (by simp; omega),bind_some,w64 (by omega) (by omega)]
     have e2:(L i).attrs.take (j+1)=(L i).attrs.take j++[a]:=by rw [List.take_add_one,hA]; rfl
     rw [e2]
     simp [attrH]
    rw [loopO_nx step]
    exact ih (j+1) (by omega) (by omega)
  have h:=key (L i).attrs.length 0 (by omega) (Nat.zero_le _)
  have h':loopO m_impl_kindOf_0 (⟨0,[],[],[],0⟩,(3,(L i).data,[],(),0),i,((L i).attrs.length:Int),(0:Int),F.st L,[])=_:=h
  rw [h',bind_some]
 ·rfl
theorem nodesF_len {K:Nat→List Nat} {N:Nat→Node}:∀ (n x:Nat),(nodesF K N n x).length=(idsF K n x).length
 | 0,_=>rfl
 | n+1,x=>by
  simp only [nodesF,idsF,List.length_cons,List.length_flatMap]
  rw [show (nodesF K N n)=fun y=>nodesF K N n y from rfl]
  simp only [nodesF_len n]
theorem szK_ids {K:Nat→List Nat}:∀ (n x:Nat),(idsF K n x).length=szK K n x
 | 0,_=>rfl
 | n+1,x=>by
  simp only [idsF,szK,List.length_cons,List.length_flatMap]
  rw [show szK K n=fun y=>szK K n y from rfl]
  simp only [← szK_ids n]
  omega
theorem taken_eq (hF:F.ok) (ha:∀ i,i<F.m→(L i).attrs.length≤1000000):∀ (n x:Nat) (T:List Node) (P:List (Option Nat)),x<F.m→Ht F.kids n x→T.length+(idsF F.kids n x).length≤1000000→P.length+(idsF F.kids n x).length≤1000000 →
  m_impl_taken n (some x,T,P,F.st L)=some (T++nodesF F.kids (fun i=>kn (L i)) n x,P++(idsF F.kids n x).map some,F.st L)
 | 0,_,_,_,_,h,_,_=>h.elim
 | n+1,x,T,P,hx,hh,hT,hP=>by
  have hg:=Fo.get (F:=F) (L:=L) hx
  have hfst:(F.mk1 L x).fst=(F.kids x)[0]?:=by simp only [Fo.mk1,List.head?_eq_getElem?]
  simp only [idsF,List.length_cons,List.length_flatMap] at hT hP
  let nd:=kn (L x)
  have key:∀ d j,(F.kids x).length - j=d→j≤(F.kids x).length→loopO (m_impl_taken_0 (m_impl_taken n)) (T++[nd]++((F.kids x).take j).flatMap (nodesF F.kids (fun i=>kn (L i)) n),P++[some x]++(((F.kids x).take j).flatMap (idsF F.kids n)).map some,(T.length:Int),(F.kids x)[j]?,F.st L)
    = some (T++[nd]++(F.kids x).flatMap (nodesF F.kids (fun i=>kn (L i)) n),P++[some x]++((F.kids x).flatMap (idsF F.kids n)).map some,(T.length:Int),F.st L):=by
   intro d
   induction d with
   | zero =>
    intro j hd hj
    have:j=(F.kids x).length:=by omega
    subst this
    refine loopO_out ?_
    simp [m_impl_taken_0]
   | succ d ih =>
    intro j hd hj
    obtain ⟨y,hy⟩:=get_lt (l:=F.kids x) (k:=j) (by omega)
    have hym:=List.mem_of_getElem? hy
    obtain ⟨hu,hym2⟩:=hF.kid hym
    have e1:(F.kids x).take (j+1)=(F.kids x).take j++[y]:=by rw [List.take_add_one,hy]; rfl
    have hnx:(F.mk1 L y).nxt=(F.kids x)[j+1]?:=by
     simp only [Fo.mk1,hu,Option.bind_some]
     exact nxtL_get (hF.nd x) hy
    have hsum:(((F.kids x).take (j+1)).map fun y=>(idsF F.kids n y).length).sum≤((F.kids x).map fun y=>(idsF F.kids n y).length).sum:=by
     have h1:F.kids x=(F.kids x).take (j+1)++(F.kids x).drop (j+1):=(List.take_append_drop _ _).symm
     conv=>rhs; rw [h1]
     rw [List.map_append,List.sum_append]
     omega
    rw [e1,List.map_append,List.sum_append] at hsum
    simp only [List.map_cons,List.map_nil,List.sum_cons,List.sum_nil] at hsum
    have hlN:(((F.kids x).take j).flatMap (nodesF F.kids (fun i=>kn (L i)) n)).length=(((F.kids x).take j).map fun y=>(idsF F.kids n y).length).sum:=by
     rw [List.length_flatMap]
     congr 1
     exact List.map_congr_left fun y _=>nodesF_len n y
    have step:m_impl_taken_0 (m_impl_taken n) (T++[nd]++((F.kids x).take j).flatMap (nodesF F.kids (fun i=>kn (L i)) n),P++[some x]++(((F.kids x).take j).flatMap (idsF F.kids n)).map some,(T.length:Int),(F.kids x)[j]?,F.st L)
      = some (.nx (T++[nd]++((F.kids x).take (j+1)).flatMap (nodesF F.kids (fun i=>kn (L i)) n),P++[some x]++(((F.kids x).take (j+1)).flatMap (idsF F.kids n)).map some,(T.length:Int),(F.kids x)[j+1]?,F.st L)):=by
     simp only [m_impl_taken_0,hy,Option.isNone_some,Bool.not_false,cond_true]
     rw [taken_eq hF ha n y _ _ hym2 (hh y hym) (by simp only [List.length_append,List.length_cons,List.length_nil,hlN]; omega) (by simp only [List.length_append,List.length_cons,List.length_nil,List.length_map,List.length_flatMap]; omega)]
     simp only [bind_some]
     rw [Fo.get hym2,bind_some,hnx,e1]
     simp only [List.flatMap_append,List.flatMap_cons,List.flatMap_nil,List.append_nil,List.map_append,List.append_assoc]
    rw [loopO_nx step]
    exact ih (j+1) (by omega) (by omega)
  have h0:=key (F.kids x).length 0 (by omega) (Nat.zero_le _)
  simp only [List.take_zero,List.flatMap_nil,List.map_nil,List.append_nil] at h0
  have hlN:((F.kids x).flatMap (nodesF F.kids (fun i=>kn (L i)) n)).length=((F.kids x).map fun y=>(idsF F.kids n y).length).sum:=by
   rw [List.length_flatMap]
   congr 1
   exact List.map_congr_left fun y _=>nodesF_len n y
  show b_impl_taken (m_impl_taken n) (some x,T,P,F.st L)=_
  simp only [b_impl_taken,kindOf_eq hx (ha x hx),bind_some]
  rw [appL_some (by simp; omega),bind_some,appL_some (by simp; omega),bind_some]
  rw [hg,bind_some,hfst,h0,bind_some]
  have hget:(T++[nd]++(F.kids x).flatMap (nodesF F.kids (fun i=>kn (L i)) n))[T.length]?=some nd:=by simp
  simp only [atI_nat,Int.toNat_natCast,hget,bind_some]
  have hset:∀ v:Node,(T++[nd]++(F.kids x).flatMap (nodesF F.kids (fun i=>kn (L i)) n)).set T.length v=T++v::(F.kids x).flatMap (nodesF F.kids (fun i=>kn (L i)) n):=fun v=>by
   rw [List.append_assoc,List.set_append_right _ _ (Nat.le_refl _)]
   simp
  rw [hset,w64 (by simp only [List.length_append,List.length_cons,List.length_nil,hlN]; omega) (by simp only [List.length_append,List.length_cons,List.length_nil,hlN]; omega)]
  simp only [nodesF,idsF,List.map_cons,List.append_assoc,List.singleton_append]
  have hsz:((T++nd::(F.kids x).flatMap (nodesF F.kids (fun i=>kn (L i)) n)).length:Int) - (T.length:Int)=1+(((F.kids x).flatMap (nodesF F.kids (fun i=>kn (L i)) n)).length:Nat):=by
   simp only [List.length_append,List.length_cons]
   omega
  rw [hsz]
end
end Go.Proofs.YtkmigbicabfodaaGreat.V
set_option linter.unusedVariables false
set_option linter.unusedSimpArgs false
namespace Go.Proofs.YtkmigbicabfodaaGreat.V
open Go
def FT (t:List Node):Fo:=⟨t.length,fun i=>if i<t.length then par t i else none,fun i=>if i<t.length then kidsN t i else []⟩
section
variable {t:List Node}
theorem RT.L (hR:RT t) {p:Nat} (hp:p<t.length):Lam t p (p+sz t p):=hR.lam.sub (Nat.zero_le _) hp
theorem RT.le (hR:RT t) {p:Nat} (hp:p<t.length):p+sz t p≤t.length:=by
 obtain ⟨_,_,_,_,h⟩:=hR.lam.ok p (Nat.zero_le _) hp
 exact h
theorem RT.sz1 (hR:RT t) {p:Nat} (hp:p<t.length):1≤sz t p:=by
 obtain ⟨_,_,_,h,_⟩:=hR.lam.ok p (Nat.zero_le _) hp
 exact h
theorem FT_ok (hR:RT t):(FT t).ok:=by
 refine ⟨fun {p c} hc=>?_,fun {c p} hu=>?_,fun p=>?_,fun c=>?_⟩
 ·simp only [FT] at hc ⊢
  by_cases hp:p<t.length
  ·rw [if_pos hp] at hc
   have h1:=kids_mem (hR.L hp) (Nat.le_refl _) (by have:=hR.sz1 hp; omega) hc
   have h2:=hR.le hp
   rw [if_pos (by omega)]
   exact ⟨kids_par (hR.L hp) hc,by omega⟩
  ·rw [if_neg hp] at hc; cases hc
 ·simp only [FT] at hu ⊢
  by_cases hc:c<t.length
  ·rw [if_pos hc] at hu
   have h1:=par_some hu
   have hp:p<t.length:=by omega
   rw [if_pos hp]
   exact ⟨hp,kids_in (hR.L hp) hu⟩
  ·rw [if_neg hc] at hu; cases hu
 ·simp only [FT]
  by_cases hp:p<t.length
  ·rw [if_pos hp]
   exact (kids_sorted (hR.L hp)).imp fun h=>Nat.ne_of_lt h
  ·rw [if_neg hp]; exact List.nodup_nil
 ·simp only [FT]
  by_cases hc:c<t.length
  ·rw [if_pos hc]
   intro h
   have:=par_some h
   omega
  ·rw [if_neg hc]; intro h; cases h
theorem getLast_get (l:List Nat):l.getLast?=l[l.length - 1]?:=by
 rw [List.getLast?_eq_getElem?]
theorem store_st (hR:RT t):store t=(FT t).st (bs0 t):=by
 apply List.ext_getElem?
 intro i
 by_cases hi:i<t.length
 ·rw [store_get hi,Fo.get (F:=FT t) hi]
  congr 1
  have hL:=hR.L hi
  have hle:=hR.le hi
  have hk:(FT t).kids i=kidsN t i:=if_pos hi
  have hu:(FT t).up i=par t i:=if_pos hi
  have e1:(rc t 0 t.length i).par=par t i:=rc_par
  have e2:=kid_fst hL hle
  have e3:=kid_lst hL hle
  have e4:(rc t 0 t.length i).prv=(par t i).bind fun p=>prvL ((FT t).kids p) i:=by
   cases hp:par t i with
   | none =>
    simp only [rc,prvF,hp,Option.bind_none]
    split <;> rfl
   | some p =>
    have hpl:p<t.length:=by have:=par_some hp; omega
    have hkp:(FT t).kids p=kidsN t p:=if_pos hpl
    have hm:=kids_in (hR.L hpl) hp
    obtain ⟨j,hj⟩:=List.mem_iff_getElem?.1 hm
    have hn:(kidsN t p).Nodup:=(kids_sorted (hR.L hpl)).imp fun h=>Nat.ne_of_lt h
    rw [kid_prv (hR.L hpl) hj]
    simp only [Option.bind_some,hkp]
    have hjl:=(List.getElem?_eq_some_iff.1 hj).1
    unfold prvL
    have hrev:(kidsN t p).reverse[(kidsN t p).length - 1 - j]?=some i:=by
     rw [List.getElem?_reverse (by omega)]
     rw [show (kidsN t p).length - 1 - ((kidsN t p).length - 1 - j)=j by omega]
     exact hj
    rw [nxtL_get ((List.reverse_perm _).nodup_iff.2 hn) hrev]
    by_cases h0:j=0
    ·subst h0
     rw [if_pos rfl,List.getElem?_eq_none (by simp; omega)]
    ·rw [if_neg h0,List.getElem?_reverse (by omega)]
     congr 1
     omega
  have e5:(rc t 0 t.length i).nxt=(par t i).bind fun p=>nxtL ((FT t).kids p) i:=by
   cases hp:par t i with
   | none =>
    simp only [rc,nxtF,hp,Option.bind_none]
    split <;> rfl
   | some p =>
    have hpl:p<t.length:=by have:=par_some hp; omega
    have hkp:(FT t).kids p=kidsN t p:=if_pos hpl
    have hm:=kids_in (hR.L hpl) hp
    obtain ⟨j,hj⟩:=List.mem_iff_getElem?.1 hm
    have hn:(kidsN t p).Nodup:=(kids_sorted (hR.L hpl)).imp fun h=>Nat.ne_of_lt h
    rw [kid_nxt (hR.L hpl) (hR.le hpl) hj]
    simp only [Option.bind_some,hkp]
    rw [nxtL_get hn hj]
  have h6:rc t 0 t.length i=⟨(rc t 0 t.length i).par,(rc t 0 t.length i).fst,(rc t 0 t.length i).lst,(rc t 0 t.length i).prv,(rc t 0 t.length i).nxt,(bs0 t i).ty,(bs0 t i).atom,(bs0 t i).data,(bs0 t i).ns,(bs0 t i).attrs⟩:=rfl
  rw [h6,e1,e2,e3,e4,e5]
  simp only [Fo.mk1,hu,hk,List.head?_eq_getElem?,getLast_get]
 ·rw [List.getElem?_eq_none (by rw [store,stp_len]; omega),List.getElem?_eq_none (by show (tab _ _).length≤i; rw [tab_len]; exact Nat.le_of_not_lt hi)]
theorem attrH_map (l:List Attr):(l.map hattr).map attrH=l:=by
 rw [List.map_map]
 exact (List.map_congr_left fun a _=>rfl).trans (List.map_id l)
theorem kn_base {v:Node} {i:Nat} (h:RN t i v):kn (base v)=⟨v.kind,v.tag,v.text,v.attrs,0⟩:=by
 rcases h.kd with k | k | k | k | k
 ·have h4:=h.k4 (by omega)
  have h7:=h.k7 k
  simp [base,kn,k,h4,h7]
 ·have h4:=h.k4 (by omega)
  simp [base,kn,k,h4]
 ·have h3:=h.k3 k
  have hm:=attrH_map v.attrs
  rw [List.map_map] at hm
  simp [base,kn,k,h3.1,hm]
 ·have h4:=h.k4 (by omega)
  simp [base,kn,k,h4]
 ·have h4:=h.k4 (by omega)
  simp [base,kn,k,h4]
theorem kn_bs0 (hR:RT t) {i:Nat} {v:Node} (hv:t[i]?=some v):kn (bs0 t i)=⟨v.kind,v.tag,v.text,v.attrs,0⟩:=by
 simp only [bs0,hv]
 exact kn_base (hR.node i v hv)
theorem bs0_attrs (hR:RT t) (i:Nat):(bs0 t i).attrs.length≤20:=by
 simp only [bs0]
 cases hv:t[i]? with
 | none=>simp [base]
 | some v =>
  simp only [base]
  split
  ·simp
  split
  ·simp
  split
  ·simp
  split
  ·simp
  ·have hk:=(hR.node i v hv).kd
   have:=(hR.node i v hv).k3 (by omega)
   simpa using this.2.1
end
theorem kn_cpl {a b:HN} (h:cpl a b):kn a=kn b:=by
 obtain ⟨h1,_,h3,_,h5⟩:=h
 simp only [kn,h1,h3,h5]
end Go.Proofs.YtkmigbicabfodaaGreat.V
set_option linter.unusedVariables false
set_option linter.unusedSimpArgs false
namespace Go.Proofs.YtkmigbicabfodaaGreat.V
open Go Go.Proofs
abbrev p_spec_grown:Pt:=[(0, .lst .node),(NT, .ns .k 93 62)]
abbrev q_spec_grown:Pt:=[(0, .blkx 61 [.own, .fl (.int .i64), .fl .bool]),(2000000000, .hown 0 0 .np 62),(NT, .ns .k 93 62)]
abbrev p_spec_grown_0:Pt:=[(0, .lst .node),(3, .blkx 61 [.own, .fl (.int .i64), .fl .bool]),(4, .int .i64),(NT, .ns .k 93 62),(2000000192, .hown 3 0 .np 62)]
abbrev x_spec_grown_0:List (Xt×Pt):=[(.ex 0,[(0, .lst .node),(3, .blkx 61 [.own, .fl (.int .i64), .fl .bool]),(NT, .ns .k 93 62),(2000000192, .hown 3 0 .np 62)])]
noncomputable def m_spec_grown_0:Tup p_spec_grown_0→Option (Stp (Tup p_spec_grown_0) (SumT (x_spec_grown_0.map (·.2)))):=fun (x:List Node×(PUnit×Int×Bool)×Int×List KN×List (Option Nat))=>bif decide (x.2.2.1<(↑(List.length x.1):Int)) then Option.bind (atI x.1 x.2.2.1) fun (v:Node)=>Option.bind (atI x.1 x.2.2.1) fun (v_1:Node)=>Option.bind (appL [] (Node.attrs v_1)) fun (r:List Attr)=>Option.bind (some (List.length x.2.2.2.1)) fun (i:Nat)=>Option.bind (some i) fun (i:Nat)=>Option.bind (x.2.2.2.1++[{ pl:=x.2.2.1,n:={ kind:=Node.kind v,tag:=Node.tag v,text:=Node.text v,attrs:=Node.attrs v,size:=Node.size v },up:=none,kids:=[],z:=false }])[i]? fun (h:KN)=>Option.bind (appL x.2.2.2.2 [some (List.length x.2.2.2.1)]) fun (r_1:List (Option Nat))=>some (Stp.nx (x.1,((),x.2.1.2.1,x.2.1.2.2),IntKind.wrap .i64 (x.2.2.1+(1:Int)),List.set (x.2.2.2.1++[{ pl:=x.2.2.1,n:={ kind:=Node.kind v,tag:=Node.tag v,text:=Node.text v,attrs:=Node.attrs v,size:=Node.size v },up:=none,kids:=[],z:=false }]) i { h with n:={ kind:=Node.kind (KN.n h),tag:=Node.tag (KN.n h),text:=Node.text (KN.n h),attrs:=r,size:=Node.size (KN.n h) } },r_1)) else some (Stp.out (x.1,((),x.2.1.2.1,x.2.1.2.2),x.2.2.2.1,x.2.2.2.2))
abbrev p_spec_grown_1_0:Pt:=[(0, .lst .node),(3, .blkx 61 [.own, .fl (.int .i64), .fl .bool]),(6, .int .i64),(7, .int .i64),(NT, .ns .k 93 62),(2000000192, .hown 3 0 .np 62)]
abbrev x_spec_grown_1_0:List (Xt×Pt):=[(.ex 4,[(0, .lst .node),(3, .blkx 61 [.own, .fl (.int .i64), .fl .bool]),(6, .int .i64),(NT, .ns .k 93 62),(2000000192, .hown 3 0 .np 62)])]
noncomputable def m_spec_grown_1_0:Tup p_spec_grown_1_0→Option (Stp (Tup p_spec_grown_1_0) (SumT (x_spec_grown_1_0.map (·.2)))):=fun (x:List Node×(PUnit×Int×Bool)×Int×Int×List KN×List (Option Nat))=>Option.bind (atI x.1 x.2.2.1) fun (v:Node)=>bif decide (x.2.2.2.1<IntKind.wrap .i64 (x.2.2.1+Node.size v)) then Option.bind (atI x.2.2.2.2.2 x.2.2.2.1) fun (x_1:Option Nat)=>Option.bind x.2.2.2.2.2[Int.toNat x.2.2.2.1]? fun (v:Option Nat)=>Option.bind (atI x.2.2.2.2.2 x.2.2.1) fun (x_2:Option Nat)=>Option.bind x.2.2.2.2.2[Int.toNat x.2.2.1]? fun (v_1:Option Nat)=>Option.bind v fun (i:Nat)=>Option.bind (some i) fun (i:Nat)=>Option.bind x.2.2.2.2.1[i]? fun (h:KN)=>Option.bind (atI x.2.2.2.2.2 x.2.2.1) fun (x_3:Option Nat)=>Option.bind x.2.2.2.2.2[Int.toNat x.2.2.1]? fun (v:Option Nat)=>Option.bind (atI x.2.2.2.2.2 x.2.2.1) fun (x_4:Option Nat)=>Option.bind x.2.2.2.2.2[Int.toNat x.2.2.1]? fun (v_2:Option Nat)=>Option.bind v_2 fun (i_1:Nat)=>Option.bind (some i_1) fun (i_2:Nat)=>Option.bind (List.set x.2.2.2.2.1 i { h with n:=(KN.n h),up:=v_1 })[i_2]? fun (h_1:KN)=>Option.bind (atI x.2.2.2.2.2 x.2.2.2.1) fun (x_5:Option Nat)=>Option.bind x.2.2.2.2.2[Int.toNat x.2.2.2.1]? fun (v_3:Option Nat)=>Option.bind (List.set x.2.2.2.2.1 i { h with n:=(KN.n h),up:=v_1 })[i_2]? fun (h_2:KN)=>bif KN.z h_2 then none else Option.bind (appL (KN.kids h_2) [v_3]) fun (r:List (Option Nat))=>Option.bind v fun (i_3:Nat)=>Option.bind (some i_3) fun (i_4:Nat)=>Option.bind (List.set x.2.2.2.2.1 i { h with n:=(KN.n h),up:=v_1 })[i_4]? fun (h_3:KN)=>bif decide (i_2=i_4) then Option.bind (atI x.1 x.2.2.2.1) fun (v:Node)=>some (Stp.nx (x.1,((),x.2.1.2.1,x.2.1.2.2),x.2.2.1,IntKind.wrap .i64 (x.2.2.2.1+Node.size v),List.set (List.set x.2.2.2.2.1 i { h with n:=(KN.n h),up:=v_1 }) i_4 (KN.wk h_3 r),x.2.2.2.2.2)) else none else some (Stp.out (x.1,((),x.2.1.2.1,x.2.1.2.2),x.2.2.1,x.2.2.2.2.1,x.2.2.2.2.2))
abbrev p_spec_grown_1:Pt:=[(0, .lst .node),(3, .blkx 61 [.own, .fl (.int .i64), .fl .bool]),(6, .int .i64),(NT, .ns .k 93 62),(2000000192, .hown 3 0 .np 62)]
abbrev x_spec_grown_1:List (Xt×Pt):=[(.ex 2,[(3, .blkx 61 [.own, .fl (.int .i64), .fl .bool]),(NT, .ns .k 93 62),(2000000192, .hown 3 0 .np 62)])]
noncomputable def m_spec_grown_1:Tup p_spec_grown_1→Option (Stp (Tup p_spec_grown_1) (SumT (x_spec_grown_1.map (·.2)))):=fun (x:List Node×(PUnit×Int×Bool)×Int×List KN×List (Option Nat))=>bif decide (x.2.2.1<(↑(List.length x.1):Int)) then Option.bind (loopO m_spec_grown_1_0 (x.1,((),x.2.1.2.1,x.2.1.2.2),x.2.2.1,IntKind.wrap .i64 (x.2.2.1+(1:Int)),x.2.2.2.1,x.2.2.2.2)) fun (y:List Node×(PUnit×Int×Bool)×Int×List KN×List (Option Nat))=>some (Stp.nx (y.1,((),y.2.1.2.1,y.2.1.2.2),IntKind.wrap .i64 (y.2.2.1+(1:Int)),y.2.2.2.1,y.2.2.2.2)) else some (Stp.out (((),x.2.1.2.1,x.2.1.2.2),x.2.2.2.1,x.2.2.2.2))
noncomputable def m_spec_grown:Tup p_spec_grown→Option (Tup q_spec_grown):=fun (x:List Node×List KN)=>Option.bind (loopO m_spec_grown_0 (x.1,((),(↑(List.length x.1):Int),false),(0:Int),x.2,[])) fun (y:List Node×(PUnit×Int×Bool)×List KN×List (Option Nat))=>Option.bind (loopO m_spec_grown_1 (y.1,((),y.2.1.2.1,y.2.1.2.2),(0:Int),y.2.2.1,y.2.2.2)) fun (y:(PUnit×Int×Bool)×List KN×List (Option Nat))=>some (((),y.1.2.1,y.1.2.2),y.2.2,y.2.1)
noncomputable def cx_spec_grown:Cx:=⟨tb,lookE [],lookS [(14,[(true,0),(true,1),(true,2),(true,3),(true,4),(true,5),(true,6),(true,7),(true,8),(true,9),(true,10),(true,11),(true,12),(true,13),(true,14),(true,15),(false,16)]),(15,[(true,0),(true,1),(true,2),(true,3),(true,4),(true,5),(true,6),(true,7),(true,8),(true,9),(true,10),(true,11),(true,12),(true,13),(true,14),(true,15),(true,16),(true,17),(true,18),(true,19),(true,20),(true,21),(true,22),(true,23),(false,24),(false,25),(true,26),(true,27),(false,28)])],mth,ast⟩
theorem ck_spec_grown:CxOK Tryz.prog (cx_spec_grown):=cx_ok tb_ok if_ok .nil
noncomputable def c_spec_grown_0:Code:=loopAt (Go.Proofs.Tryz.f23.body.getD .skip) 0
noncomputable def l_spec_grown_0:LEnt:=⟨p_spec_grown_0,x_spec_grown_0,loopO (m_spec_grown_0)⟩
theorem lo_spec_grown_0:LOK Tryz.prog 115 0 true (l_spec_grown_0) c_spec_grown_0:=loop_ok (body:=m_spec_grown_0) (L:=lookL []) (ck_spec_grown) mixed (ls_ok (l:=[]) (by kernel_rfl) .nil) (by intro x; kernel_rfl) (fun x y h=>loopO_iff.1 h)
noncomputable def c_spec_grown_1_0:Code:=loopAt (loopAt (Go.Proofs.Tryz.f23.body.getD .skip) 1) 0
noncomputable def l_spec_grown_1_0:LEnt:=⟨p_spec_grown_1_0,x_spec_grown_1_0,loopO (m_spec_grown_1_0)⟩
theorem lo_spec_grown_1_0:LOK Tryz.prog 115 0 true (l_spec_grown_1_0) c_spec_grown_1_0:=loop_ok (body:=m_spec_grown_1_0) (L:=lookL []) (ck_spec_grown) mixed (ls_ok (l:=[]) (by kernel_rfl) .nil) (by intro x; kernel_rfl) (fun x y h=>loopO_iff.1 h)
noncomputable def c_spec_grown_1:Code:=loopAt (Go.Proofs.Tryz.f23.body.getD .skip) 1
noncomputable def l_spec_grown_1:LEnt:=⟨p_spec_grown_1,x_spec_grown_1,loopO (m_spec_grown_1)⟩
theorem lo_spec_grown_1:LOK Tryz.prog 115 0 true (l_spec_grown_1) c_spec_grown_1:=loop_ok (body:=m_spec_grown_1) (L:=lookL [(4,l_spec_grown_1_0)]) (ck_spec_grown) mixed (ls_ok (l:=[(4,c_spec_grown_1_0)]) (by kernel_rfl) (.cons rfl (lo_spec_grown_1_0) .nil)) (by intro x; kernel_rfl) (fun x y h=>loopO_iff.1 h)
noncomputable def e_spec_grown:Ent:=⟨0,p_spec_grown,q_spec_grown,m_spec_grown⟩
theorem ok_spec_grown:FnOK Tryz.prog 23 e_spec_grown:=fn_ok (L:=lookL [(0,l_spec_grown_0),(2,l_spec_grown_1)]) ck_spec_grown mixed Tryz.func23 rfl (by kernel_rfl) (by kernel_rfl) (ls_ok (l:=[(0,c_spec_grown_0),(2,c_spec_grown_1)]) (by kernel_rfl) (.cons rfl (lo_spec_grown_0) (.cons rfl (lo_spec_grown_1) .nil))) (by intro x; kernel_rfl)
abbrev p_spec_knot_place:Pt:=[(0, .np),(NTR, .nsr .k)]
abbrev q_spec_knot_place:Pt:=[(0, .int .i64)]
abbrev p_spec_knot_place_0:Pt:=[(0, .np),(3, .int .i64),(NTR, .nsr .k)]
abbrev x_spec_knot_place_0:List (Xt×Pt):=[(.ex 0,[(NTR, .nsr .k)]),(.rt,[(2, .int .i64),(NTR, .nsr .k)])]
noncomputable def m_spec_knot_place_0:Tup p_spec_knot_place_0→Option (Stp (Tup p_spec_knot_place_0) (SumT (x_spec_knot_place_0.map (·.2)))):=fun (x:Option Nat×Int×List KN)=>Option.bind x.1 fun (i:Nat)=>Option.bind (some i) fun (i:Nat)=>Option.bind x.2.2[i]? fun (h:KN)=>Option.bind (KN.up h) fun (i:Nat)=>Option.bind (some i) fun (i:Nat)=>Option.bind x.2.2[i]? fun (h:KN)=>bif decide (x.2.1<(↑(List.length (KN.kids h)):Int)) then Option.bind x.1 fun (i:Nat)=>Option.bind (some i) fun (i:Nat)=>Option.bind x.2.2[i]? fun (h:KN)=>Option.bind (KN.up h) fun (i:Nat)=>Option.bind (some i) fun (i:Nat)=>Option.bind x.2.2[i]? fun (h:KN)=>Option.bind (atI (KN.kids h) x.2.1) fun (v:Option Nat)=>bif decide (v=x.1) then some (Stp.out (Sum.inr (x.2.1,x.2.2))) else some (Stp.nx (x.1,IntKind.wrap .i64 (x.2.1+(1:Int)),x.2.2)) else some (Stp.out (Sum.inl x.2.2))
noncomputable def m_spec_knot_place:Tup p_spec_knot_place→Option (Tup q_spec_knot_place):=fun (x:Option Nat×List KN)=>Option.bind x.1 fun (i:Nat)=>Option.bind (some i) fun (i:Nat)=>Option.bind x.2[i]? fun (h:KN)=>bif Option.isNone (KN.up h) then some (-1:Int) else Option.bind (loopO m_spec_knot_place_0 (x.1,(0:Int),x.2)) fun (y:List KN ⊕ Int×List KN)=>selim (fun (y:List KN)=>some (-1:Int)) (fun (y:Int×List KN)=>some y.1) y
noncomputable def cx_spec_knot_place:Cx:=⟨tb,lookE [],lookS [],mth,ast⟩
theorem ck_spec_knot_place:CxOK Tryz.prog (cx_spec_knot_place):=cx_ok tb_ok if_ok .nil
noncomputable def c_spec_knot_place_0:Code:=loopAt (Go.Proofs.Tryz.f72.body.getD .skip) 0
noncomputable def l_spec_knot_place_0:LEnt:=⟨p_spec_knot_place_0,x_spec_knot_place_0,loopO (m_spec_knot_place_0)⟩
theorem lo_spec_knot_place_0:LOK Tryz.prog 34 0 false (l_spec_knot_place_0) c_spec_knot_place_0:=loop_ok (body:=m_spec_knot_place_0) (L:=lookL []) (ck_spec_knot_place) mixed (ls_ok (l:=[]) (by kernel_rfl) .nil) (by intro x; kernel_rfl) (fun x y h=>loopO_iff.1 h)
noncomputable def e_spec_knot_place:Ent:=⟨0,p_spec_knot_place,q_spec_knot_place,m_spec_knot_place⟩
theorem ok_spec_knot_place:FnOK Tryz.prog 72 e_spec_knot_place:=fn_ok (L:=lookL [(0,l_spec_knot_place_0)]) ck_spec_knot_place mixed Tryz.func72 rfl (by kernel_rfl) (by kernel_rfl) (ls_ok (l:=[(0,c_spec_knot_place_0)]) (by kernel_rfl) (.cons rfl (lo_spec_knot_place_0) .nil)) (by intro x; kernel_rfl)
abbrev p_spec_knot_cut:Pt:=[(0, .np),(NT, .ns .k 93 62)]
abbrev q_spec_knot_cut:Pt:=[(NT, .ns .k 93 62)]
noncomputable def m_spec_knot_cut:Tup p_spec_knot_cut→Option (Tup q_spec_knot_cut):=fun (x:Option Nat×List KN)=>Option.bind (m_spec_knot_place (x.1,x.2)) fun (r:Int)=>bif decide (r<(0:Int)) then some x.2 else Option.bind x.1 fun (i:Nat)=>Option.bind (some i) fun (i:Nat)=>Option.bind x.2[i]? fun (h:KN)=>Option.bind x.1 fun (i:Nat)=>Option.bind (some i) fun (i:Nat)=>Option.bind x.2[i]? fun (h_1:KN)=>Option.bind (KN.up h_1) fun (i:Nat)=>Option.bind (some i) fun (i:Nat)=>Option.bind x.2[i]? fun (h_2:KN)=>Option.bind x.2[i]? fun (n:KN)=>Option.bind (subL (KN.kids n) (0:Int) r) fun (x_1:List (Option Nat))=>Option.bind x.1 fun (i_1:Nat)=>Option.bind (some i_1) fun (i_2:Nat)=>Option.bind x.2[i_2]? fun (h_3:KN)=>Option.bind (KN.up h_3) fun (i_3:Nat)=>Option.bind (some i_3) fun (i_4:Nat)=>Option.bind x.2[i_4]? fun (h_4:KN)=>Option.bind x.2[i_4]? fun (n:KN)=>Option.bind (subL (KN.kids n) (IntKind.wrap .i64 (r+(1:Int))) (↑(List.length (KN.kids n)):Int)) fun (x_2:List (Option Nat))=>Option.bind x.2[i]? fun (h_5:KN)=>Option.bind (appL [] (List.drop (Int.toNat (0:Int)) (List.take (Int.toNat r) (KN.kids h_5)))) fun (r_1:List (Option Nat))=>Option.bind x.2[i_4]? fun (h_6:KN)=>Option.bind (appL r_1 (List.drop (Int.toNat (IntKind.wrap .i64 (r+(1:Int)))) (List.take (Int.toNat (↑(List.length (KN.kids n)):Int)) (KN.kids h_6)))) fun (r:List (Option Nat))=>Option.bind (KN.up h) fun (i:Nat)=>Option.bind (some i) fun (i:Nat)=>Option.bind x.2[i]? fun (h:KN)=>Option.bind x.1 fun (i_5:Nat)=>Option.bind (some i_5) fun (i_6:Nat)=>Option.bind (List.set x.2 i (KN.wk h r))[i_6]? fun (h_7:KN)=>some (List.set (List.set x.2 i (KN.wk h r)) i_6 { h_7 with n:=(KN.n h_7),up:=none })
noncomputable def cx_spec_knot_cut:Cx:=⟨tb,lookE [(72,e_spec_knot_place)],lookS [(2,[(true,0),(true,1),(true,2),(true,3),(true,5),(true,6),(true,7),(true,8),(true,9),(true,10),(true,11),(true,12),(true,13),(true,15),(true,16),(true,17),(true,18),(true,19),(true,20),(true,21),(true,22),(true,23),(true,24),(false,4),(false,14),(false,25),(true,26),(true,27),(false,28)])],mth,ast⟩
theorem ck_spec_knot_cut:CxOK Tryz.prog (cx_spec_knot_cut):=cx_ok tb_ok if_ok (.cons ok_spec_knot_place Tryz.call72 .nil)
noncomputable def e_spec_knot_cut:Ent:=⟨0,p_spec_knot_cut,q_spec_knot_cut,m_spec_knot_cut⟩
theorem ok_spec_knot_cut:FnOK Tryz.prog 44 e_spec_knot_cut:=fn_ok (L:=lookL []) ck_spec_knot_cut mixed Tryz.func44 rfl (by kernel_rfl) (by kernel_rfl) (ls_ok (l:=[]) (by kernel_rfl) .nil) (by intro x; kernel_rfl)
abbrev p_spec_knot_put:Pt:=[(0, .np),(1, .int .i64),(2, .np),(NT, .ns .k 93 62)]
abbrev q_spec_knot_put:Pt:=[(NT, .ns .k 93 62)]
noncomputable def m_spec_knot_put:Tup p_spec_knot_put→Option (Tup q_spec_knot_put):=fun (x:Option Nat×Int×Option Nat×List KN)=>Option.bind (m_spec_knot_cut (x.2.2.1,x.2.2.2)) fun (r:List KN)=>Option.bind x.1 fun (i:Nat)=>Option.bind (some i) fun (i:Nat)=>Option.bind r[i]? fun (h:KN)=>Option.bind r[i]? fun (n:KN)=>Option.bind (subL (KN.kids n) (0:Int) x.2.1) fun (x_1:List (Option Nat))=>Option.bind r[i]? fun (h:KN)=>Option.bind (appL [] (List.drop (Int.toNat (0:Int)) (List.take (Int.toNat x.2.1) (KN.kids h)))) fun (r_1:List (Option Nat))=>Option.bind (appL r_1 [x.2.2.1]) fun (r_2:List (Option Nat))=>Option.bind x.1 fun (i:Nat)=>Option.bind (some i) fun (i:Nat)=>Option.bind r[i]? fun (h:KN)=>Option.bind r[i]? fun (n:KN)=>Option.bind (subL (KN.kids n) x.2.1 (↑(List.length (KN.kids n)):Int)) fun (x_2:List (Option Nat))=>Option.bind r[i]? fun (h:KN)=>Option.bind (appL r_2 (List.drop (Int.toNat x.2.1) (List.take (Int.toNat (↑(List.length (KN.kids n)):Int)) (KN.kids h)))) fun (r_3:List (Option Nat))=>Option.bind x.1 fun (i:Nat)=>Option.bind (some i) fun (i:Nat)=>Option.bind r[i]? fun (h:KN)=>Option.bind x.2.2.1 fun (i_1:Nat)=>Option.bind (some i_1) fun (i_2:Nat)=>Option.bind (List.set r i (KN.wk h r_3))[i_2]? fun (h_1:KN)=>some (List.set (List.set r i (KN.wk h r_3)) i_2 { h_1 with n:=(KN.n h_1),up:=x.1 })
noncomputable def cx_spec_knot_put:Cx:=⟨tb,lookE [(44,e_spec_knot_cut)],lookS [],mth,ast⟩
theorem ck_spec_knot_put:CxOK Tryz.prog (cx_spec_knot_put):=cx_ok tb_ok if_ok (.cons ok_spec_knot_cut Tryz.call44 .nil)
noncomputable def e_spec_knot_put:Ent:=⟨0,p_spec_knot_put,q_spec_knot_put,m_spec_knot_put⟩
theorem ok_spec_knot_put:FnOK Tryz.prog 73 e_spec_knot_put:=fn_ok (L:=lookL []) ck_spec_knot_put mixed Tryz.func73 rfl (by kernel_rfl) (by kernel_rfl) (ls_ok (l:=[]) (by kernel_rfl) .nil) (by intro x; kernel_rfl)
abbrev p_spec_knot_holds:Pt:=[(0, .np),(1, .np),(NTR, .nsr .k)]
abbrev q_spec_knot_holds:Pt:=[(0, .bool)]
abbrev p_spec_knot_holds_0:Pt:=[(0, .np),(1, .np),(NTR, .nsr .k)]
abbrev x_spec_knot_holds_0:List (Xt×Pt):=[(.ex 0,[(NTR, .nsr .k)]),(.rt,[(4, .bool),(NTR, .nsr .k)])]
noncomputable def m_spec_knot_holds_0:Tup p_spec_knot_holds_0→Option (Stp (Tup p_spec_knot_holds_0) (SumT (x_spec_knot_holds_0.map (·.2)))):=fun (x:Option Nat×Option Nat×List KN)=>bif !Option.isNone x.2.1 then bif decide (x.2.1=x.1) then some (Stp.out (Sum.inr (true,x.2.2))) else Option.bind x.2.1 fun (i:Nat)=>Option.bind (some i) fun (i:Nat)=>Option.bind x.2.2[i]? fun (h:KN)=>some (Stp.nx (x.1,KN.up h,x.2.2)) else some (Stp.out (Sum.inl x.2.2))
noncomputable def m_spec_knot_holds:Tup p_spec_knot_holds→Option (Tup q_spec_knot_holds):=fun (x:Option Nat×Option Nat×List KN)=>Option.bind (loopO m_spec_knot_holds_0 (x.1,x.2.1,x.2.2)) fun (y:List KN ⊕ Bool×List KN)=>selim (fun (y:List KN)=>some false) (fun (y:Bool×List KN)=>some y.1) y
noncomputable def cx_spec_knot_holds:Cx:=⟨tb,lookE [],lookS [],mth,ast⟩
theorem ck_spec_knot_holds:CxOK Tryz.prog (cx_spec_knot_holds):=cx_ok tb_ok if_ok .nil
noncomputable def c_spec_knot_holds_0:Code:=loopAt (Go.Proofs.Tryz.f75.body.getD .skip) 0
noncomputable def l_spec_knot_holds_0:LEnt:=⟨p_spec_knot_holds_0,x_spec_knot_holds_0,loopO (m_spec_knot_holds_0)⟩
theorem lo_spec_knot_holds_0:LOK Tryz.prog 14 0 false (l_spec_knot_holds_0) c_spec_knot_holds_0:=loop_ok (body:=m_spec_knot_holds_0) (L:=lookL []) (ck_spec_knot_holds) mixed (ls_ok (l:=[]) (by kernel_rfl) .nil) (by intro x; kernel_rfl) (fun x y h=>loopO_iff.1 h)
noncomputable def e_spec_knot_holds:Ent:=⟨0,p_spec_knot_holds,q_spec_knot_holds,m_spec_knot_holds⟩
theorem ok_spec_knot_holds:FnOK Tryz.prog 75 e_spec_knot_holds:=fn_ok (L:=lookL [(0,l_spec_knot_holds_0)]) ck_spec_knot_holds mixed Tryz.func75 rfl (by kernel_rfl) (by kernel_rfl) (ls_ok (l:=[(0,c_spec_knot_holds_0)]) (by kernel_rfl) (.cons rfl (lo_spec_knot_holds_0) .nil)) (by intro x; kernel_rfl)
abbrev p_spec_knot_listed:Pt:=[(0, .np),(1, .own .node 39),(2, .own .int 3),(NT, .ns .k 93 62)]
abbrev q_spec_knot_listed:Pt:=[(0, .own .node 39),(1002, .own .int 3),(NT, .ns .k 93 62)]
abbrev p_spec_knot_listed_0:Pt:=[(0, .np),(1, .own .node 39),(2, .own .int 3),(8, .int .i64),(9, .int .i64),(NT, .ns .k 93 62)]
abbrev x_spec_knot_listed_0:List (Xt×Pt):=[(.ex 0,[(1, .own .node 39),(2, .own .int 3),(8, .int .i64),(NT, .ns .k 93 62)])]
noncomputable def m_spec_knot_listed_0 (m_spec_knot_listed:Tup p_spec_knot_listed→Option (Tup q_spec_knot_listed)):Tup p_spec_knot_listed_0→Option (Stp (Tup p_spec_knot_listed_0) (SumT (x_spec_knot_listed_0.map (·.2)))):=fun (x:Option Nat×List Node×List Int×Int×Int×List KN)=>Option.bind x.1 fun (i:Nat)=>Option.bind (some i) fun (i:Nat)=>Option.bind x.2.2.2.2.2[i]? fun (h:KN)=>Option.bind x.2.2.2.2.2[i]? fun (h:KN)=>bif decide (x.2.2.2.2.1<(↑(List.length (KN.kids h)):Int)) then Option.bind x.1 fun (i:Nat)=>Option.bind (some i) fun (i:Nat)=>Option.bind x.2.2.2.2.2[i]? fun (h:KN)=>Option.bind x.2.2.2.2.2[i]? fun (h:KN)=>Option.bind (atI (KN.kids h) x.2.2.2.2.1) fun (x_1:Option Nat)=>Option.bind x.2.2.2.2.2[i]? fun (h:KN)=>Option.bind (KN.kids h)[Int.toNat x.2.2.2.2.1]? fun (a:Option Nat)=>Option.bind (m_spec_knot_listed (a,x.2.1,x.2.2.1,x.2.2.2.2.2)) fun (r:List Node×List Int×List KN)=>some (Stp.nx (x.1,r.1,r.2.1,x.2.2.2.1,IntKind.wrap .i64 (x.2.2.2.2.1+(1:Int)),r.2.2)) else some (Stp.out (x.2.1,x.2.2.1,x.2.2.2.1,x.2.2.2.2.2))
noncomputable def b_spec_knot_listed (m_spec_knot_listed:Tup p_spec_knot_listed→Option (Tup q_spec_knot_listed)):Tup p_spec_knot_listed→Option (Tup q_spec_knot_listed):=fun (x:Option Nat×List Node×List Int×List KN)=>Option.bind x.1 fun (i:Nat)=>Option.bind (some i) fun (i:Nat)=>Option.bind x.2.2.2[i]? fun (h:KN)=>bif decide ((0:Int)≤KN.pl h) then Option.bind x.1 fun (i:Nat)=>Option.bind (some i) fun (i:Nat)=>Option.bind x.2.2.2[i]? fun (h:KN)=>bif decide (KN.pl h<(↑(List.length x.2.2.1):Int)) then Option.bind x.1 fun (i:Nat)=>Option.bind (some i) fun (i:Nat)=>Option.bind x.2.2.2[i]? fun (h:KN)=>Option.bind (atI x.2.2.1 (KN.pl h)) fun (x_1:Int)=>Option.bind x.2.2.1[Int.toNat (KN.pl h)]? fun (v:Int)=>Option.bind x.1 fun (i:Nat)=>Option.bind (some i) fun (i:Nat)=>Option.bind x.2.2.2[i]? fun (h_1:KN)=>Option.bind (appL x.2.1 [(KN.n h_1)]) fun (r:List Node)=>Option.bind (loopO (m_spec_knot_listed_0 m_spec_knot_listed) (x.1,r,List.set x.2.2.1 (Int.toNat (KN.pl h)) (↑(List.length x.2.1):Int),(↑(List.length x.2.1):Int),(0:Int),x.2.2.2)) fun (y:List Node×List Int×Int×List KN)=>Option.bind (atI y.1 y.2.2.1) fun (x:Node)=>Option.bind y.1[Int.toNat y.2.2.1]? fun (v:Node)=>some (List.set y.1 (Int.toNat y.2.2.1) { v with size:=IntKind.wrap .i64 ((↑(List.length y.1):Int) - y.2.2.1) },y.2.1,y.2.2.2) else Option.bind x.1 fun (i:Nat)=>Option.bind (some i) fun (i:Nat)=>Option.bind x.2.2.2[i]? fun (h:KN)=>Option.bind (appL x.2.1 [(KN.n h)]) fun (r:List Node)=>Option.bind (loopO (m_spec_knot_listed_0 m_spec_knot_listed) (x.1,r,x.2.2.1,(↑(List.length x.2.1):Int),(0:Int),x.2.2.2)) fun (y:List Node×List Int×Int×List KN)=>Option.bind (atI y.1 y.2.2.1) fun (x:Node)=>Option.bind y.1[Int.toNat y.2.2.1]? fun (v:Node)=>some (List.set y.1 (Int.toNat y.2.2.1) { v with size:=IntKind.wrap .i64 ((↑(List.length y.1):Int) - y.2.2.1) },y.2.1,y.2.2.2) else Option.bind x.1 fun (i:Nat)=>Option.bind (some i) fun (i:Nat)=>Option.bind x.2.2.2[i]? fun (h:KN)=>Option.bind (appL x.2.1 [(KN.n h)]) fun (r:List Node)=>Option.bind (loopO (m_spec_knot_listed_0 m_spec_knot_listed) (x.1,r,x.2.2.1,(↑(List.length x.2.1):Int),(0:Int),x.2.2.2)) fun (y:List Node×List Int×Int×List KN)=>Option.bind (atI y.1 y.2.2.1) fun (x:Node)=>Option.bind y.1[Int.toNat y.2.2.1]? fun (v:Node)=>some (List.set y.1 (Int.toNat y.2.2.1) { v with size:=IntKind.wrap .i64 ((↑(List.length y.1):Int) - y.2.2.1) },y.2.1,y.2.2.2)
noncomputable def m_spec_knot_listed:Nat→Tup p_spec_knot_listed→Option (Tup q_spec_knot_listed)
 | 0=>fun _=>none
 | n+1=>b_spec_knot_listed (m_spec_knot_listed n)
noncomputable def cx_spec_knot_listed (n:Nat):Cx:=⟨tb,lookE [(25,⟨2003,p_spec_knot_listed,q_spec_knot_listed,m_spec_knot_listed n⟩)],lookS [],mth,ast⟩
theorem ck_spec_knot_listed (n:Nat) (ih0:FnOK Tryz.prog 25 ⟨2003,p_spec_knot_listed,q_spec_knot_listed,m_spec_knot_listed n⟩):CxOK Tryz.prog (cx_spec_knot_listed n):=cx_ok tb_ok if_ok (.cons ih0 Tryz.call25 .nil)
noncomputable def c_spec_knot_listed_0:Code:=loopAt (Go.Proofs.Tryz.f25.body.getD .skip) 0
noncomputable def l_spec_knot_listed_0 (n:Nat):LEnt:=⟨p_spec_knot_listed_0,x_spec_knot_listed_0,loopO (m_spec_knot_listed_0 (m_spec_knot_listed n))⟩
theorem lo_spec_knot_listed_0 (n:Nat) (ih0:FnOK Tryz.prog 25 ⟨2003,p_spec_knot_listed,q_spec_knot_listed,m_spec_knot_listed n⟩):LOK Tryz.prog 70 2003 true (l_spec_knot_listed_0 n) c_spec_knot_listed_0:=loop_ok (body:=m_spec_knot_listed_0 (m_spec_knot_listed n)) (L:=lookL []) (ck_spec_knot_listed n ih0) mixed (ls_ok (l:=[]) (by kernel_rfl) .nil) (by intro x; kernel_rfl) (fun x y h=>loopO_iff.1 h)
theorem st_spec_knot_listed (n:Nat) (ih0:FnOK Tryz.prog 25 ⟨2003,p_spec_knot_listed,q_spec_knot_listed,m_spec_knot_listed n⟩):FnOK Tryz.prog 25 ⟨2003,p_spec_knot_listed,q_spec_knot_listed,m_spec_knot_listed (n+1)⟩:=fn_ok (ent:=⟨2003,p_spec_knot_listed,q_spec_knot_listed,m_spec_knot_listed (n+1)⟩) (L:=lookL [(0,l_spec_knot_listed_0 n)]) (ck_spec_knot_listed n ih0) mixed Tryz.func25 rfl (by kernel_rfl) (by kernel_rfl) (ls_ok (l:=[(0,c_spec_knot_listed_0)]) (by kernel_rfl) (.cons rfl (lo_spec_knot_listed_0 n ih0) .nil)) (by intro x; kernel_rfl)
theorem ok0_spec_knot_listed:∀ n,FnOK Tryz.prog 25 ⟨2003,p_spec_knot_listed,q_spec_knot_listed,m_spec_knot_listed n⟩
 | 0=>fun x r h=>by cases h
 | n+1=>(fun ih=>st_spec_knot_listed n ih) (ok0_spec_knot_listed n)
noncomputable def e_spec_knot_listed:Ent:=⟨2003,p_spec_knot_listed,q_spec_knot_listed,m_spec_knot_listed big⟩
theorem ok_spec_knot_listed:FnOK Tryz.prog 25 e_spec_knot_listed:=(ok0_spec_knot_listed big)
abbrev p_spec_forest_chosen:Pt:=[(0, .blkx 61 [.own, .fl (.int .i64), .fl .bool]),(1, .lst .int),(2000000000, .hown 0 0 .np 62)]
abbrev q_spec_forest_chosen:Pt:=[(0, .own .np 62),(1, .bool),(1000, .blkx 61 [.own, .fl (.int .i64), .fl .bool]),(2000064000, .hown 1000 0 .np 62)]
abbrev p_spec_forest_chosen_0_0:Pt:=[(0, .blkx 61 [.own, .fl (.int .i64), .fl .bool]),(1, .lst .int),(6, .own .np 62),(7, .int .i64),(8, .int .i64),(2000000000, .hown 0 0 .np 62)]
abbrev x_spec_forest_chosen_0_0:List (Xt×Pt):=[(.ex 2,[(0, .blkx 61 [.own, .fl (.int .i64), .fl .bool]),(1, .lst .int),(6, .own .np 62),(7, .int .i64),(2000000000, .hown 0 0 .np 62)]),(.rt,[(0, .blkx 61 [.own, .fl (.int .i64), .fl .bool]),(4, .own .np 62),(5, .bool),(2000000000, .hown 0 0 .np 62)])]
noncomputable def m_spec_forest_chosen_0_0:Tup p_spec_forest_chosen_0_0→Option (Stp (Tup p_spec_forest_chosen_0_0) (SumT (x_spec_forest_chosen_0_0.map (·.2)))):=fun (x:(PUnit×Int×Bool)×List Int×List (Option Nat)×Int×Int×List (Option Nat))=>bif decide (x.2.2.2.2.1<x.2.2.2.1) then Option.bind (atI x.2.1 x.2.2.2.2.1) fun (v:Int)=>Option.bind (atI x.2.1 x.2.2.2.1) fun (v_1:Int)=>bif decide (v=v_1) then some (Stp.out (Sum.inr (((),x.1.2.1,x.1.2.2),[],false,x.2.2.2.2.2))) else some (Stp.nx (((),x.1.2.1,x.1.2.2),x.2.1,x.2.2.1,x.2.2.2.1,IntKind.wrap .i64 (x.2.2.2.2.1+(1:Int)),x.2.2.2.2.2)) else some (Stp.out (Sum.inl (((),x.1.2.1,x.1.2.2),x.2.1,x.2.2.1,x.2.2.2.1,x.2.2.2.2.2)))
abbrev p_spec_forest_chosen_0:Pt:=[(0, .blkx 61 [.own, .fl (.int .i64), .fl .bool]),(1, .lst .int),(6, .own .np 62),(7, .int .i64),(2000000000, .hown 0 0 .np 62)]
abbrev x_spec_forest_chosen_0:List (Xt×Pt):=[(.ex 0,[(0, .blkx 61 [.own, .fl (.int .i64), .fl .bool]),(6, .own .np 62),(2000000000, .hown 0 0 .np 62)]),(.rt,[(0, .blkx 61 [.own, .fl (.int .i64), .fl .bool]),(4, .own .np 62),(5, .bool),(2000000000, .hown 0 0 .np 62)])]
noncomputable def m_spec_forest_chosen_0:Tup p_spec_forest_chosen_0→Option (Stp (Tup p_spec_forest_chosen_0) (SumT (x_spec_forest_chosen_0.map (·.2)))):=fun (x:(PUnit×Int×Bool)×List Int×List (Option Nat)×Int×List (Option Nat))=>bif decide (x.2.2.2.1<(↑(List.length x.2.1):Int)) then Option.bind (atI x.2.1 x.2.2.2.1) fun (v:Int)=>bif decide (v<(1:Int)) then some (Stp.out (Sum.inr (((),x.1.2.1,x.1.2.2),[],false,x.2.2.2.2))) else Option.bind (atI x.2.1 x.2.2.2.1) fun (v:Int)=>bif decide ((↑(List.length x.2.2.2.2):Int)≤v) then some (Stp.out (Sum.inr (((),x.1.2.1,x.1.2.2),[],false,x.2.2.2.2))) else Option.bind (loopO m_spec_forest_chosen_0_0 (((),x.1.2.1,x.1.2.2),x.2.1,x.2.2.1,x.2.2.2.1,(0:Int),x.2.2.2.2)) fun (y:(PUnit×Int×Bool)×List Int×List (Option Nat)×Int×List (Option Nat) ⊕ (PUnit×Int×Bool)×List (Option Nat)×Bool×List (Option Nat))=>selim (fun (y:(PUnit×Int×Bool)×List Int×List (Option Nat)×Int×List (Option Nat))=>Option.bind (atI y.2.1 y.2.2.2.1) fun (v:Int)=>Option.bind (atI y.2.2.2.2 v) fun (x:Option Nat)=>Option.bind y.2.2.2.2[Int.toNat v]? fun (v:Option Nat)=>Option.bind (appL y.2.2.1 [v]) fun (r:List (Option Nat))=>some (Stp.nx (((),y.1.2.1,y.1.2.2),y.2.1,r,IntKind.wrap .i64 (y.2.2.2.1+(1:Int)),y.2.2.2.2))) (fun (y:(PUnit×Int×Bool)×List (Option Nat)×Bool×List (Option Nat))=>some (Stp.out (Sum.inr (((),y.1.2.1,y.1.2.2),y.2.1,y.2.2.1,y.2.2.2)))) y else some (Stp.out (Sum.inl (((),x.1.2.1,x.1.2.2),x.2.2.1,x.2.2.2.2)))
noncomputable def m_spec_forest_chosen:Tup p_spec_forest_chosen→Option (Tup q_spec_forest_chosen):=fun (x:(PUnit×Int×Bool)×List Int×List (Option Nat))=>Option.bind (loopO m_spec_forest_chosen_0 (((),x.1.2.1,x.1.2.2),x.2.1,[],(0:Int),x.2.2)) fun (y:(PUnit×Int×Bool)×List (Option Nat)×List (Option Nat) ⊕ (PUnit×Int×Bool)×List (Option Nat)×Bool×List (Option Nat))=>selim (fun (y:(PUnit×Int×Bool)×List (Option Nat)×List (Option Nat))=>some (y.2.1,true,((),y.1.2.1,y.1.2.2),y.2.2)) (fun (y:(PUnit×Int×Bool)×List (Option Nat)×Bool×List (Option Nat))=>some (y.2.1,y.2.2.1,((),y.1.2.1,y.1.2.2),y.2.2.2)) y
noncomputable def cx_spec_forest_chosen:Cx:=⟨tb,lookE [],lookS [(5,[(true,0),(true,1),(true,2),(true,3),(true,4),(true,5),(true,6),(true,7),(true,8),(true,9),(true,10),(true,11),(true,12),(true,13),(true,14),(true,15),(true,16)]),(10,[(true,0),(true,1),(true,2),(true,3),(true,4),(true,5),(true,6),(true,7),(true,8)]),(12,[(true,0),(true,1),(true,2),(true,3),(true,4),(true,5),(true,6),(true,7),(true,8),(true,9),(true,10),(false,11),(false,12),(true,13)])],mth,ast⟩
theorem ck_spec_forest_chosen:CxOK Tryz.prog (cx_spec_forest_chosen):=cx_ok tb_ok if_ok .nil
noncomputable def c_spec_forest_chosen_0_0:Code:=loopAt (loopAt (Go.Proofs.Tryz.f42.body.getD .skip) 0) 0
noncomputable def l_spec_forest_chosen_0_0:LEnt:=⟨p_spec_forest_chosen_0_0,x_spec_forest_chosen_0_0,loopO (m_spec_forest_chosen_0_0)⟩
theorem lo_spec_forest_chosen_0_0:LOK Tryz.prog 60 1 false (l_spec_forest_chosen_0_0) c_spec_forest_chosen_0_0:=loop_ok (body:=m_spec_forest_chosen_0_0) (L:=lookL []) (ck_spec_forest_chosen) mixed (ls_ok (l:=[]) (by kernel_rfl) .nil) (by intro x; kernel_rfl) (fun x y h=>loopO_iff.1 h)
noncomputable def c_spec_forest_chosen_0:Code:=loopAt (Go.Proofs.Tryz.f42.body.getD .skip) 0
noncomputable def l_spec_forest_chosen_0:LEnt:=⟨p_spec_forest_chosen_0,x_spec_forest_chosen_0,loopO (m_spec_forest_chosen_0)⟩
theorem lo_spec_forest_chosen_0:LOK Tryz.prog 60 1 false (l_spec_forest_chosen_0) c_spec_forest_chosen_0:=loop_ok (body:=m_spec_forest_chosen_0) (L:=lookL [(2,l_spec_forest_chosen_0_0)]) (ck_spec_forest_chosen) mixed (ls_ok (l:=[(2,c_spec_forest_chosen_0_0)]) (by kernel_rfl) (.cons rfl (lo_spec_forest_chosen_0_0) .nil)) (by intro x; kernel_rfl) (fun x y h=>loopO_iff.1 h)
noncomputable def e_spec_forest_chosen:Ent:=⟨1,p_spec_forest_chosen,q_spec_forest_chosen,m_spec_forest_chosen⟩
theorem ok_spec_forest_chosen:FnOK Tryz.prog 42 e_spec_forest_chosen:=fn_ok (L:=lookL [(0,l_spec_forest_chosen_0)]) ck_spec_forest_chosen mixed Tryz.func42 rfl (by kernel_rfl) (by kernel_rfl) (ls_ok (l:=[(0,c_spec_forest_chosen_0)]) (by kernel_rfl) (.cons rfl (lo_spec_forest_chosen_0) .nil)) (by intro x; kernel_rfl)
abbrev p_spec_apart:Pt:=[(0, .lst .np),(1, .lst .np),(NTR, .nsr .k)]
abbrev q_spec_apart:Pt:=[(0, .bool)]
abbrev p_spec_apart_0_0:Pt:=[(0, .lst .np),(1, .lst .np),(5, .int .i64),(6, .int .i64),(NTR, .nsr .k)]
abbrev x_spec_apart_0_0:List (Xt×Pt):=[(.ex 2,[(0, .lst .np),(1, .lst .np),(5, .int .i64),(NTR, .nsr .k)]),(.rt,[(4, .bool),(NTR, .nsr .k)])]
noncomputable def m_spec_apart_0_0:Tup p_spec_apart_0_0→Option (Stp (Tup p_spec_apart_0_0) (SumT (x_spec_apart_0_0.map (·.2)))):=fun (x:List (Option Nat)×List (Option Nat)×Int×Int×List KN)=>bif decide (x.2.2.2.1<(↑(List.length x.1):Int)) then bif decide (x.2.2.2.1≠x.2.2.1) then Option.bind (atI x.1 x.2.2.1) fun (v:Option Nat)=>Option.bind (atI x.1 x.2.2.2.1) fun (v_1:Option Nat)=>Option.bind (m_spec_knot_holds (v,v_1,x.2.2.2.2)) fun (r:Bool)=>bif r then some (Stp.out (Sum.inr (false,x.2.2.2.2))) else some (Stp.nx (x.1,x.2.1,x.2.2.1,IntKind.wrap .i64 (x.2.2.2.1+(1:Int)),x.2.2.2.2)) else some (Stp.nx (x.1,x.2.1,x.2.2.1,IntKind.wrap .i64 (x.2.2.2.1+(1:Int)),x.2.2.2.2)) else some (Stp.out (Sum.inl (x.1,x.2.1,x.2.2.1,x.2.2.2.2)))
abbrev p_spec_apart_0_1:Pt:=[(0, .lst .np),(1, .lst .np),(5, .int .i64),(7, .int .i64),(NTR, .nsr .k)]
abbrev x_spec_apart_0_1:List (Xt×Pt):=[(.ex 4,[(0, .lst .np),(1, .lst .np),(5, .int .i64),(NTR, .nsr .k)]),(.rt,[(4, .bool),(NTR, .nsr .k)])]
noncomputable def m_spec_apart_0_1:Tup p_spec_apart_0_1→Option (Stp (Tup p_spec_apart_0_1) (SumT (x_spec_apart_0_1.map (·.2)))):=fun (x:List (Option Nat)×List (Option Nat)×Int×Int×List KN)=>bif decide (x.2.2.2.1<(↑(List.length x.2.1):Int)) then Option.bind (atI x.1 x.2.2.1) fun (v:Option Nat)=>Option.bind (atI x.2.1 x.2.2.2.1) fun (v_1:Option Nat)=>Option.bind (m_spec_knot_holds (v,v_1,x.2.2.2.2)) fun (r:Bool)=>bif r then some (Stp.out (Sum.inr (false,x.2.2.2.2))) else some (Stp.nx (x.1,x.2.1,x.2.2.1,IntKind.wrap .i64 (x.2.2.2.1+(1:Int)),x.2.2.2.2)) else some (Stp.out (Sum.inl (x.1,x.2.1,x.2.2.1,x.2.2.2.2)))
abbrev p_spec_apart_0:Pt:=[(0, .lst .np),(1, .lst .np),(5, .int .i64),(NTR, .nsr .k)]
abbrev x_spec_apart_0:List (Xt×Pt):=[(.ex 0,[(NTR, .nsr .k)]),(.rt,[(4, .bool),(NTR, .nsr .k)])]
noncomputable def m_spec_apart_0:Tup p_spec_apart_0→Option (Stp (Tup p_spec_apart_0) (SumT (x_spec_apart_0.map (·.2)))):=fun (x:List (Option Nat)×List (Option Nat)×Int×List KN)=>bif decide (x.2.2.1<(↑(List.length x.1):Int)) then Option.bind (loopO m_spec_apart_0_0 (x.1,x.2.1,x.2.2.1,(0:Int),x.2.2.2)) fun (y:List (Option Nat)×List (Option Nat)×Int×List KN ⊕ Bool×List KN)=>selim (fun (y:List (Option Nat)×List (Option Nat)×Int×List KN)=>Option.bind (loopO m_spec_apart_0_1 (y.1,y.2.1,y.2.2.1,(0:Int),y.2.2.2)) fun (y:List (Option Nat)×List (Option Nat)×Int×List KN ⊕ Bool×List KN)=>selim (fun (y:List (Option Nat)×List (Option Nat)×Int×List KN)=>some (Stp.nx (y.1,y.2.1,IntKind.wrap .i64 (y.2.2.1+(1:Int)),y.2.2.2))) (fun (y:Bool×List KN)=>some (Stp.out (Sum.inr (y.1,y.2)))) y) (fun (y:Bool×List KN)=>some (Stp.out (Sum.inr (y.1,y.2)))) y else some (Stp.out (Sum.inl x.2.2.2))
noncomputable def m_spec_apart:Tup p_spec_apart→Option (Tup q_spec_apart):=fun (x:List (Option Nat)×List (Option Nat)×List KN)=>Option.bind (loopO m_spec_apart_0 (x.1,x.2.1,(0:Int),x.2.2)) fun (y:List KN ⊕ Bool×List KN)=>selim (fun (y:List KN)=>some true) (fun (y:Bool×List KN)=>some y.1) y
noncomputable def cx_spec_apart:Cx:=⟨tb,lookE [(75,e_spec_knot_holds)],lookS [(7,[(true,0),(true,1),(true,2),(true,3),(true,4),(true,5),(true,6),(true,7),(true,8),(true,9),(true,10),(true,11),(false,12),(true,13)]),(12,[(true,0),(true,1),(true,2),(true,3),(true,4),(true,5),(true,6),(true,7),(false,8)])],mth,ast⟩
theorem ck_spec_apart:CxOK Tryz.prog (cx_spec_apart):=cx_ok tb_ok if_ok (.cons ok_spec_knot_holds Tryz.call75 .nil)
noncomputable def c_spec_apart_0_0:Code:=loopAt (loopAt (Go.Proofs.Tryz.f68.body.getD .skip) 0) 0
noncomputable def l_spec_apart_0_0:LEnt:=⟨p_spec_apart_0_0,x_spec_apart_0_0,loopO (m_spec_apart_0_0)⟩
theorem lo_spec_apart_0_0:LOK Tryz.prog 49 0 false (l_spec_apart_0_0) c_spec_apart_0_0:=loop_ok (body:=m_spec_apart_0_0) (L:=lookL []) (ck_spec_apart) mixed (ls_ok (l:=[]) (by kernel_rfl) .nil) (by intro x; kernel_rfl) (fun x y h=>loopO_iff.1 h)
noncomputable def c_spec_apart_0_1:Code:=loopAt (loopAt (Go.Proofs.Tryz.f68.body.getD .skip) 0) 1
noncomputable def l_spec_apart_0_1:LEnt:=⟨p_spec_apart_0_1,x_spec_apart_0_1,loopO (m_spec_apart_0_1)⟩
theorem lo_spec_apart_0_1:LOK Tryz.prog 49 0 false (l_spec_apart_0_1) c_spec_apart_0_1:=loop_ok (body:=m_spec_apart_0_1) (L:=lookL []) (ck_spec_apart) mixed (ls_ok (l:=[]) (by kernel_rfl) .nil) (by intro x; kernel_rfl) (fun x y h=>loopO_iff.1 h)
noncomputable def c_spec_apart_0:Code:=loopAt (Go.Proofs.Tryz.f68.body.getD .skip) 0
noncomputable def l_spec_apart_0:LEnt:=⟨p_spec_apart_0,x_spec_apart_0,loopO (m_spec_apart_0)⟩
theorem lo_spec_apart_0:LOK Tryz.prog 49 0 false (l_spec_apart_0) c_spec_apart_0:=loop_ok (body:=m_spec_apart_0) (L:=lookL [(2,l_spec_apart_0_0),(4,l_spec_apart_0_1)]) (ck_spec_apart) mixed (ls_ok (l:=[(2,c_spec_apart_0_0),(4,c_spec_apart_0_1)]) (by kernel_rfl) (.cons rfl (lo_spec_apart_0_0) (.cons rfl (lo_spec_apart_0_1) .nil))) (by intro x; kernel_rfl) (fun x y h=>loopO_iff.1 h)
noncomputable def e_spec_apart:Ent:=⟨0,p_spec_apart,q_spec_apart,m_spec_apart⟩
theorem ok_spec_apart:FnOK Tryz.prog 68 e_spec_apart:=fn_ok (L:=lookL [(0,l_spec_apart_0)]) ck_spec_apart mixed Tryz.func68 rfl (by kernel_rfl) (by kernel_rfl) (ls_ok (l:=[(0,c_spec_apart_0)]) (by kernel_rfl) (.cons rfl (lo_spec_apart_0) .nil)) (by intro x; kernel_rfl)
abbrev p_spec_are:Pt:=[(0, .lst .np),(NTR, .nsr .k)]
abbrev q_spec_are:Pt:=[(0, .bool)]
abbrev p_spec_are_0:Pt:=[(0, .lst .np),(3, .int .i64),(NTR, .nsr .k)]
abbrev x_spec_are_0:List (Xt×Pt):=[(.ex 0,[(NTR, .nsr .k)]),(.rt,[(2, .bool),(NTR, .nsr .k)])]
noncomputable def m_spec_are_0:Tup p_spec_are_0→Option (Stp (Tup p_spec_are_0) (SumT (x_spec_are_0.map (·.2)))):=fun (x:List (Option Nat)×Int×List KN)=>bif decide (x.2.1<(↑(List.length x.1):Int)) then Option.bind (atI x.1 x.2.1) fun (v:Option Nat)=>Option.bind v fun (i:Nat)=>Option.bind (some i) fun (i:Nat)=>Option.bind x.2.2[i]? fun (h:KN)=>bif decide (Node.kind (KN.n h)≠(3:Int)) then some (Stp.out (Sum.inr (false,x.2.2))) else some (Stp.nx (x.1,IntKind.wrap .i64 (x.2.1+(1:Int)),x.2.2)) else some (Stp.out (Sum.inl x.2.2))
noncomputable def m_spec_are:Tup p_spec_are→Option (Tup q_spec_are):=fun (x:List (Option Nat)×List KN)=>Option.bind (loopO m_spec_are_0 (x.1,(0:Int),x.2)) fun (y:List KN ⊕ Bool×List KN)=>selim (fun (y:List KN)=>some true) (fun (y:Bool×List KN)=>some y.1) y
noncomputable def cx_spec_are:Cx:=⟨tb,lookE [],lookS [],mth,ast⟩
theorem ck_spec_are:CxOK Tryz.prog (cx_spec_are):=cx_ok tb_ok if_ok .nil
noncomputable def c_spec_are_0:Code:=loopAt (Go.Proofs.Tryz.f45.body.getD .skip) 0
noncomputable def l_spec_are_0:LEnt:=⟨p_spec_are_0,x_spec_are_0,loopO (m_spec_are_0)⟩
theorem lo_spec_are_0:LOK Tryz.prog 19 0 false (l_spec_are_0) c_spec_are_0:=loop_ok (body:=m_spec_are_0) (L:=lookL []) (ck_spec_are) mixed (ls_ok (l:=[]) (by kernel_rfl) .nil) (by intro x; kernel_rfl) (fun x y h=>loopO_iff.1 h)
noncomputable def e_spec_are:Ent:=⟨0,p_spec_are,q_spec_are,m_spec_are⟩
theorem ok_spec_are:FnOK Tryz.prog 45 e_spec_are:=fn_ok (L:=lookL [(0,l_spec_are_0)]) ck_spec_are mixed Tryz.func45 rfl (by kernel_rfl) (by kernel_rfl) (ls_ok (l:=[(0,c_spec_are_0)]) (by kernel_rfl) (.cons rfl (lo_spec_are_0) .nil)) (by intro x; kernel_rfl)
abbrev p_spec_stand:Pt:=[(0, .lst .np),(NTR, .nsr .k)]
abbrev q_spec_stand:Pt:=[(0, .bool)]
abbrev p_spec_stand_0:Pt:=[(0, .lst .np),(3, .int .i64),(NTR, .nsr .k)]
abbrev x_spec_stand_0:List (Xt×Pt):=[(.ex 0,[(NTR, .nsr .k)]),(.rt,[(2, .bool),(NTR, .nsr .k)])]
noncomputable def m_spec_stand_0:Tup p_spec_stand_0→Option (Stp (Tup p_spec_stand_0) (SumT (x_spec_stand_0.map (·.2)))):=fun (x:List (Option Nat)×Int×List KN)=>bif decide (x.2.1<(↑(List.length x.1):Int)) then Option.bind (atI x.1 x.2.1) fun (v:Option Nat)=>Option.bind v fun (i:Nat)=>Option.bind (some i) fun (i:Nat)=>Option.bind x.2.2[i]? fun (h:KN)=>bif Option.isNone (KN.up h) then some (Stp.out (Sum.inr (false,x.2.2))) else some (Stp.nx (x.1,IntKind.wrap .i64 (x.2.1+(1:Int)),x.2.2)) else some (Stp.out (Sum.inl x.2.2))
noncomputable def m_spec_stand:Tup p_spec_stand→Option (Tup q_spec_stand):=fun (x:List (Option Nat)×List KN)=>Option.bind (loopO m_spec_stand_0 (x.1,(0:Int),x.2)) fun (y:List KN ⊕ Bool×List KN)=>selim (fun (y:List KN)=>some true) (fun (y:Bool×List KN)=>some y.1) y
noncomputable def cx_spec_stand:Cx:=⟨tb,lookE [],lookS [],mth,ast⟩
theorem ck_spec_stand:CxOK Tryz.prog (cx_spec_stand):=cx_ok tb_ok if_ok .nil
noncomputable def c_spec_stand_0:Code:=loopAt (Go.Proofs.Tryz.f69.body.getD .skip) 0
noncomputable def l_spec_stand_0:LEnt:=⟨p_spec_stand_0,x_spec_stand_0,loopO (m_spec_stand_0)⟩
theorem lo_spec_stand_0:LOK Tryz.prog 18 0 false (l_spec_stand_0) c_spec_stand_0:=loop_ok (body:=m_spec_stand_0) (L:=lookL []) (ck_spec_stand) mixed (ls_ok (l:=[]) (by kernel_rfl) .nil) (by intro x; kernel_rfl) (fun x y h=>loopO_iff.1 h)
noncomputable def e_spec_stand:Ent:=⟨0,p_spec_stand,q_spec_stand,m_spec_stand⟩
theorem ok_spec_stand:FnOK Tryz.prog 69 e_spec_stand:=fn_ok (L:=lookL [(0,l_spec_stand_0)]) ck_spec_stand mixed Tryz.func69 rfl (by kernel_rfl) (by kernel_rfl) (ls_ok (l:=[(0,c_spec_stand_0)]) (by kernel_rfl) (.cons rfl (lo_spec_stand_0) .nil)) (by intro x; kernel_rfl)
abbrev p_spec_forest_copied:Pt:=[(0, .blkx 61 [.own, .fl (.int .i64), .fl .bool]),(1, .np),(2000000000, .hown 0 0 .np 62),(NT, .ns .k 93 62)]
abbrev q_spec_forest_copied:Pt:=[(0, .np),(1000, .blkx 61 [.own, .fl (.int .i64), .fl .bool]),(2000064000, .hown 1000 0 .np 62),(NT, .ns .k 93 62)]
abbrev p_spec_forest_copied_0:Pt:=[(0, .blkx 61 [.own, .fl (.int .i64), .fl .bool]),(1, .np),(5, .np),(6, .int .i64),(NT, .ns .k 93 62),(2000000000, .hown 0 0 .np 62)]
abbrev x_spec_forest_copied_0:List (Xt×Pt):=[(.ex 0,[(0, .blkx 61 [.own, .fl (.int .i64), .fl .bool]),(5, .np),(NT, .ns .k 93 62),(2000000000, .hown 0 0 .np 62)])]
noncomputable def m_spec_forest_copied_0 (m_spec_forest_copied:Tup p_spec_forest_copied→Option (Tup q_spec_forest_copied)):Tup p_spec_forest_copied_0→Option (Stp (Tup p_spec_forest_copied_0) (SumT (x_spec_forest_copied_0.map (·.2)))):=fun (x:(PUnit×Int×Bool)×Option Nat×Option Nat×Int×List KN×List (Option Nat))=>Option.bind x.2.1 fun (i:Nat)=>Option.bind (some i) fun (i:Nat)=>Option.bind x.2.2.2.2.1[i]? fun (h:KN)=>Option.bind x.2.2.2.2.1[i]? fun (h:KN)=>bif decide (x.2.2.2.1<(↑(List.length (KN.kids h)):Int)) then Option.bind x.2.1 fun (i:Nat)=>Option.bind (some i) fun (i:Nat)=>Option.bind x.2.2.2.2.1[i]? fun (h:KN)=>Option.bind x.2.2.2.2.1[i]? fun (h:KN)=>Option.bind (atI (KN.kids h) x.2.2.2.1) fun (x_1:Option Nat)=>Option.bind x.2.2.2.2.1[i]? fun (h:KN)=>Option.bind (KN.kids h)[Int.toNat x.2.2.2.1]? fun (a:Option Nat)=>Option.bind (m_spec_forest_copied (((),x.1.2.1,x.1.2.2),a,x.2.2.2.2.2,x.2.2.2.2.1)) fun (r:Option Nat×(PUnit×Int×Bool)×List (Option Nat)×List KN)=>Option.bind r.1 fun (i:Nat)=>Option.bind (some i) fun (i:Nat)=>Option.bind r.2.2.2[i]? fun (h:KN)=>Option.bind x.2.2.1 fun (i_1:Nat)=>Option.bind (some i_1) fun (i_2:Nat)=>Option.bind (List.set r.2.2.2 i { h with n:=(KN.n h),up:=x.2.2.1 })[i_2]? fun (h_1:KN)=>Option.bind (List.set r.2.2.2 i { h with n:=(KN.n h),up:=x.2.2.1 })[i_2]? fun (h_2:KN)=>bif KN.z h_2 then none else Option.bind (appL (KN.kids h_2) [r.1]) fun (r_1:List (Option Nat))=>Option.bind x.2.2.1 fun (i_3:Nat)=>Option.bind (some i_3) fun (i_4:Nat)=>Option.bind (List.set r.2.2.2 i { h with n:=(KN.n h),up:=x.2.2.1 })[i_4]? fun (h_3:KN)=>bif decide (i_2=i_4) then some (Stp.nx (((),r.2.1.2.1,r.2.1.2.2),x.2.1,x.2.2.1,IntKind.wrap .i64 (x.2.2.2.1+(1:Int)),List.set (List.set r.2.2.2 i { h with n:=(KN.n h),up:=x.2.2.1 }) i_4 (KN.wk h_3 r_1),r.2.2.1)) else none else some (Stp.out (((),x.1.2.1,x.1.2.2),x.2.2.1,x.2.2.2.2.1,x.2.2.2.2.2))
noncomputable def b_spec_forest_copied (m_spec_forest_copied:Tup p_spec_forest_copied→Option (Tup q_spec_forest_copied)):Tup p_spec_forest_copied→Option (Tup q_spec_forest_copied):=fun (x:(PUnit×Int×Bool)×Option Nat×List (Option Nat)×List KN)=>bif decide ((600:Int)<IntKind.wrap .i64 (x.1.2.1+(1:Int))) then Option.bind x.2.1 fun (i:Nat)=>Option.bind (some i) fun (i:Nat)=>Option.bind x.2.2.2[i]? fun (h:KN)=>some (some (List.length x.2.2.2),((),IntKind.wrap .i64 (x.1.2.1+(1:Int)),true),x.2.2.1,x.2.2.2++[{ pl:=(-1:Int),n:=(KN.n h),up:=none,kids:=[],z:=false }]) else Option.bind x.2.1 fun (i:Nat)=>Option.bind (some i) fun (i:Nat)=>Option.bind x.2.2.2[i]? fun (h:KN)=>Option.bind x.2.1 fun (i:Nat)=>Option.bind (some i) fun (i:Nat)=>Option.bind (x.2.2.2++[{ pl:=(-1:Int),n:=(KN.n h),up:=none,kids:=[],z:=false }])[i]? fun (h_1:KN)=>Option.bind (appL [] (Node.attrs (KN.n h_1))) fun (r:List Attr)=>Option.bind (some (List.length x.2.2.2)) fun (i:Nat)=>Option.bind (some i) fun (i:Nat)=>Option.bind (x.2.2.2++[{ pl:=(-1:Int),n:=(KN.n h),up:=none,kids:=[],z:=false }])[i]? fun (h_2:KN)=>Option.bind (loopO (m_spec_forest_copied_0 m_spec_forest_copied) (((),IntKind.wrap .i64 (x.1.2.1+(1:Int)),x.1.2.2),x.2.1,some (List.length x.2.2.2),(0:Int),List.set (x.2.2.2++[{ pl:=(-1:Int),n:=(KN.n h),up:=none,kids:=[],z:=false }]) i { h_2 with n:={ kind:=Node.kind (KN.n h_2),tag:=Node.tag (KN.n h_2),text:=Node.text (KN.n h_2),attrs:=r,size:=Node.size (KN.n h_2) } },x.2.2.1)) fun (y:(PUnit×Int×Bool)×Option Nat×List KN×List (Option Nat))=>some (y.2.1,((),y.1.2.1,y.1.2.2),y.2.2.2,y.2.2.1)
noncomputable def m_spec_forest_copied:Nat→Tup p_spec_forest_copied→Option (Tup q_spec_forest_copied)
 | 0=>fun _=>none
 | n+1=>b_spec_forest_copied (m_spec_forest_copied n)
noncomputable def cx_spec_forest_copied (n:Nat):Cx:=⟨tb,lookE [(70,⟨1,p_spec_forest_copied,q_spec_forest_copied,m_spec_forest_copied n⟩)],lookS [],mth,ast⟩
theorem ck_spec_forest_copied (n:Nat) (ih0:FnOK Tryz.prog 70 ⟨1,p_spec_forest_copied,q_spec_forest_copied,m_spec_forest_copied n⟩):CxOK Tryz.prog (cx_spec_forest_copied n):=cx_ok tb_ok if_ok (.cons ih0 Tryz.call70 .nil)
noncomputable def c_spec_forest_copied_0:Code:=loopAt (Go.Proofs.Tryz.f70.body.getD .skip) 0
noncomputable def l_spec_forest_copied_0 (n:Nat):LEnt:=⟨p_spec_forest_copied_0,x_spec_forest_copied_0,loopO (m_spec_forest_copied_0 (m_spec_forest_copied n))⟩
theorem lo_spec_forest_copied_0 (n:Nat) (ih0:FnOK Tryz.prog 70 ⟨1,p_spec_forest_copied,q_spec_forest_copied,m_spec_forest_copied n⟩):LOK Tryz.prog 79 1 true (l_spec_forest_copied_0 n) c_spec_forest_copied_0:=loop_ok (body:=m_spec_forest_copied_0 (m_spec_forest_copied n)) (L:=lookL []) (ck_spec_forest_copied n ih0) mixed (ls_ok (l:=[]) (by kernel_rfl) .nil) (by intro x; kernel_rfl) (fun x y h=>loopO_iff.1 h)
theorem st_spec_forest_copied (n:Nat) (ih0:FnOK Tryz.prog 70 ⟨1,p_spec_forest_copied,q_spec_forest_copied,m_spec_forest_copied n⟩):FnOK Tryz.prog 70 ⟨1,p_spec_forest_copied,q_spec_forest_copied,m_spec_forest_copied (n+1)⟩:=fn_ok (ent:=⟨1,p_spec_forest_copied,q_spec_forest_copied,m_spec_forest_copied (n+1)⟩) (L:=lookL [(0,l_spec_forest_copied_0 n)]) (ck_spec_forest_copied n ih0) mixed Tryz.func70 rfl (by kernel_rfl) (by kernel_rfl) (ls_ok (l:=[(0,c_spec_forest_copied_0)]) (by kernel_rfl) (.cons rfl (lo_spec_forest_copied_0 n ih0) .nil)) (by intro x; kernel_rfl)
theorem ok0_spec_forest_copied:∀ n,FnOK Tryz.prog 70 ⟨1,p_spec_forest_copied,q_spec_forest_copied,m_spec_forest_copied n⟩
 | 0=>fun x r h=>by cases h
 | n+1=>(fun ih=>st_spec_forest_copied n ih) (ok0_spec_forest_copied n)
noncomputable def e_spec_forest_copied:Ent:=⟨1,p_spec_forest_copied,q_spec_forest_copied,m_spec_forest_copied big⟩
theorem ok_spec_forest_copied:FnOK Tryz.prog 70 e_spec_forest_copied:=(ok0_spec_forest_copied big)
abbrev p_spec_inmost:Pt:=[(0, .np),(NTR, .nsr .k)]
abbrev q_spec_inmost:Pt:=[(0, .np)]
abbrev p_spec_inmost_0_0:Pt:=[(0, .np),(3, .np),(4, .int .i64),(NTR, .nsr .k)]
abbrev x_spec_inmost_0_0:List (Xt×Pt):=[(.ex 2,[(0, .np),(3, .np),(NTR, .nsr .k)]),(.rt,[(2, .np),(NTR, .nsr .k)])]
noncomputable def m_spec_inmost_0_0:Tup p_spec_inmost_0_0→Option (Stp (Tup p_spec_inmost_0_0) (SumT (x_spec_inmost_0_0.map (·.2)))):=fun (x:Option Nat×Option Nat×Int×List KN)=>Option.bind x.1 fun (i:Nat)=>Option.bind (some i) fun (i:Nat)=>Option.bind x.2.2.2[i]? fun (h:KN)=>bif decide (x.2.2.1<(↑(List.length (KN.kids h)):Int)) then Option.bind x.1 fun (i:Nat)=>Option.bind (some i) fun (i:Nat)=>Option.bind x.2.2.2[i]? fun (h:KN)=>Option.bind (atI (KN.kids h) x.2.2.1) fun (v:Option Nat)=>Option.bind v fun (i:Nat)=>Option.bind (some i) fun (i:Nat)=>Option.bind x.2.2.2[i]? fun (h:KN)=>bif decide (Node.kind (KN.n h)=(3:Int)) then bif !Option.isNone x.2.1 then some (Stp.out (Sum.inr (none,x.2.2.2))) else Option.bind x.1 fun (i:Nat)=>Option.bind (some i) fun (i:Nat)=>Option.bind x.2.2.2[i]? fun (h:KN)=>Option.bind (atI (KN.kids h) x.2.2.1) fun (v:Option Nat)=>Option.bind v fun (i:Nat)=>Option.bind (some i) fun (i:Nat)=>Option.bind x.2.2.2[i]? fun (h:KN)=>bif decide (Node.kind (KN.n h)=(3:Int)) then Option.bind x.1 fun (i:Nat)=>Option.bind (some i) fun (i:Nat)=>Option.bind x.2.2.2[i]? fun (h:KN)=>Option.bind (atI (KN.kids h) x.2.2.1) fun (v:Option Nat)=>some (Stp.nx (x.1,v,IntKind.wrap .i64 (x.2.2.1+(1:Int)),x.2.2.2)) else some (Stp.nx (x.1,x.2.1,IntKind.wrap .i64 (x.2.2.1+(1:Int)),x.2.2.2)) else Option.bind x.1 fun (i:Nat)=>Option.bind (some i) fun (i:Nat)=>Option.bind x.2.2.2[i]? fun (h:KN)=>Option.bind (atI (KN.kids h) x.2.2.1) fun (v:Option Nat)=>Option.bind v fun (i:Nat)=>Option.bind (some i) fun (i:Nat)=>Option.bind x.2.2.2[i]? fun (h:KN)=>bif decide (Node.kind (KN.n h)=(3:Int)) then Option.bind x.1 fun (i:Nat)=>Option.bind (some i) fun (i:Nat)=>Option.bind x.2.2.2[i]? fun (h:KN)=>Option.bind (atI (KN.kids h) x.2.2.1) fun (v:Option Nat)=>some (Stp.nx (x.1,v,IntKind.wrap .i64 (x.2.2.1+(1:Int)),x.2.2.2)) else some (Stp.nx (x.1,x.2.1,IntKind.wrap .i64 (x.2.2.1+(1:Int)),x.2.2.2)) else some (Stp.out (Sum.inl (x.1,x.2.1,x.2.2.2)))
abbrev p_spec_inmost_0:Pt:=[(0, .np),(NTR, .nsr .k)]
abbrev x_spec_inmost_0:List (Xt×Pt):=[(.rt,[(2, .np),(NTR, .nsr .k)])]
noncomputable def m_spec_inmost_0:Tup p_spec_inmost_0→Option (Stp (Tup p_spec_inmost_0) (SumT (x_spec_inmost_0.map (·.2)))):=fun (x:Option Nat×List KN)=>Option.bind (loopO m_spec_inmost_0_0 (x.1,none,(0:Int),x.2)) fun (y:Option Nat×Option Nat×List KN ⊕ Option Nat×List KN)=>selim (fun (y:Option Nat×Option Nat×List KN)=>bif Option.isNone y.2.1 then some (Stp.out (y.1,y.2.2)) else some (Stp.nx (y.2.1,y.2.2))) (fun (y:Option Nat×List KN)=>some (Stp.out (y.1,y.2))) y
noncomputable def m_spec_inmost:Tup p_spec_inmost→Option (Tup q_spec_inmost):=fun (x:Option Nat×List KN)=>Option.bind (loopO m_spec_inmost_0 (x.1,x.2)) fun (y:Option Nat×List KN)=>some y.1
noncomputable def cx_spec_inmost:Cx:=⟨tb,lookE [],lookS [],mth,ast⟩
theorem ck_spec_inmost:CxOK Tryz.prog (cx_spec_inmost):=cx_ok tb_ok if_ok .nil
noncomputable def c_spec_inmost_0_0:Code:=loopAt (loopAt (Go.Proofs.Tryz.f74.body.getD .skip) 0) 0
noncomputable def l_spec_inmost_0_0:LEnt:=⟨p_spec_inmost_0_0,x_spec_inmost_0_0,loopO (m_spec_inmost_0_0)⟩
theorem lo_spec_inmost_0_0:LOK Tryz.prog 53 0 false (l_spec_inmost_0_0) c_spec_inmost_0_0:=loop_ok (body:=m_spec_inmost_0_0) (L:=lookL []) (ck_spec_inmost) mixed (ls_ok (l:=[]) (by kernel_rfl) .nil) (by intro x; kernel_rfl) (fun x y h=>loopO_iff.1 h)
noncomputable def c_spec_inmost_0:Code:=loopAt (Go.Proofs.Tryz.f74.body.getD .skip) 0
noncomputable def l_spec_inmost_0:LEnt:=⟨p_spec_inmost_0,x_spec_inmost_0,loopO (m_spec_inmost_0)⟩
theorem lo_spec_inmost_0:LOK Tryz.prog 53 0 false (l_spec_inmost_0) c_spec_inmost_0:=loop_ok (body:=m_spec_inmost_0) (L:=lookL [(2,l_spec_inmost_0_0)]) (ck_spec_inmost) mixed (ls_ok (l:=[(2,c_spec_inmost_0_0)]) (by kernel_rfl) (.cons rfl (lo_spec_inmost_0_0) .nil)) (by intro x; kernel_rfl) (fun x y h=>loopO_iff.1 h)
noncomputable def e_spec_inmost:Ent:=⟨0,p_spec_inmost,q_spec_inmost,m_spec_inmost⟩
theorem ok_spec_inmost:FnOK Tryz.prog 74 e_spec_inmost:=fn_ok (L:=lookL [(0,l_spec_inmost_0)]) ck_spec_inmost mixed Tryz.func74 rfl (by kernel_rfl) (by kernel_rfl) (ls_ok (l:=[(0,c_spec_inmost_0)]) (by kernel_rfl) (.cons rfl (lo_spec_inmost_0) .nil)) (by intro x; kernel_rfl)
abbrev p_spec_forest_wrap:Pt:=[(0, .blkx 61 [.own, .fl (.int .i64), .fl .bool]),(1, .int .i64),(2, .lst .np),(3, .np),(2000000000, .hown 0 0 .np 62),(NT, .ns .k 93 62)]
abbrev q_spec_forest_wrap:Pt:=[(0, .bool),(1000, .blkx 61 [.own, .fl (.int .i64), .fl .bool]),(2000064000, .hown 1000 0 .np 62),(NT, .ns .k 93 62)]
abbrev p_spec_forest_wrap_0:Pt:=[(0, .blkx 61 [.own, .fl (.int .i64), .fl .bool]),(1, .int .i64),(2, .lst .np),(3, .np),(9, .own (.rc .nps [] 0) 59),(10, .int .i64),(NT, .ns .k 93 62),(2000000000, .hown 0 0 .np 62)]
abbrev x_spec_forest_wrap_0:List (Xt×Pt):=[(.ex 0,[(0, .blkx 61 [.own, .fl (.int .i64), .fl .bool]),(3, .np),(9, .own (.rc .nps [] 0) 59),(NT, .ns .k 93 62),(2000000000, .hown 0 0 .np 62)]),(.rt,[(0, .blkx 61 [.own, .fl (.int .i64), .fl .bool]),(8, .bool),(NT, .ns .k 93 62),(2000000000, .hown 0 0 .np 62)])]
noncomputable def m_spec_forest_wrap_0:Tup p_spec_forest_wrap_0→Option (Stp (Tup p_spec_forest_wrap_0) (SumT (x_spec_forest_wrap_0.map (·.2)))):=fun (x:(PUnit×Int×Bool)×Int×List (Option Nat)×Option Nat×List (List (Option Nat))×Int×List KN×List (Option Nat))=>bif decide (x.2.2.2.2.2.1<(↑(List.length x.2.2.1):Int)) then Option.bind (atI x.2.2.1 x.2.2.2.2.2.1) fun (v:Option Nat)=>Option.bind (appL x.2.2.2.2.1 [[v]]) fun (r:List (List (Option Nat)))=>bif decide (x.2.1=(11:Int)) then Option.bind (subL x.2.2.1 x.2.2.2.2.2.1 (IntKind.wrap .i64 (x.2.2.2.2.2.1+(1:Int)))) fun (m:List (Option Nat))=>Option.bind (m_spec_are (m,x.2.2.2.2.2.2.1)) fun (r_1:Bool)=>bif !r_1 then some (Stp.out (Sum.inr (((),x.1.2.1,x.1.2.2),false,x.2.2.2.2.2.2.1,x.2.2.2.2.2.2.2))) else Option.bind (atI x.2.2.1 x.2.2.2.2.2.1) fun (v:Option Nat)=>Option.bind v fun (i:Nat)=>Option.bind (some i) fun (i:Nat)=>Option.bind x.2.2.2.2.2.2.1[i]? fun (h:KN)=>Option.bind x.2.2.2.2.2.2.1[i]? fun (h:KN)=>bif decide ((↑(List.length (KN.kids h)):Int)=(0:Int)) then some (Stp.out (Sum.inr (((),x.1.2.1,x.1.2.2),false,x.2.2.2.2.2.2.1,x.2.2.2.2.2.2.2))) else Option.bind (atI x.2.2.1 x.2.2.2.2.2.1) fun (v:Option Nat)=>Option.bind (m_spec_knot_holds (v,x.2.2.2.1,x.2.2.2.2.2.2.1)) fun (r_2:Bool)=>bif r_2 then some (Stp.out (Sum.inr (((),x.1.2.1,x.1.2.2),false,x.2.2.2.2.2.2.1,x.2.2.2.2.2.2.2))) else Option.bind (atI x.2.2.1 x.2.2.2.2.2.1) fun (v:Option Nat)=>Option.bind v fun (i:Nat)=>Option.bind (some i) fun (i:Nat)=>Option.bind x.2.2.2.2.2.2.1[i]? fun (h:KN)=>Option.bind (atI r x.2.2.2.2.2.1) fun (x_1:List (Option Nat))=>Option.bind x.2.2.2.2.2.2.1[i]? fun (n:KN)=>Option.bind r[Int.toNat x.2.2.2.2.2.1]? fun (v:List (Option Nat))=>some (Stp.nx (((),x.1.2.1,x.1.2.2),x.2.1,x.2.2.1,x.2.2.2.1,List.set r (Int.toNat x.2.2.2.2.2.1) (KN.kids n),IntKind.wrap .i64 (x.2.2.2.2.2.1+(1:Int)),List.set x.2.2.2.2.2.2.1 i (KN.wz n true),x.2.2.2.2.2.2.2)) else some (Stp.nx (((),x.1.2.1,x.1.2.2),x.2.1,x.2.2.1,x.2.2.2.1,r,IntKind.wrap .i64 (x.2.2.2.2.2.1+(1:Int)),x.2.2.2.2.2.2.1,x.2.2.2.2.2.2.2)) else some (Stp.out (Sum.inl (((),x.1.2.1,x.1.2.2),x.2.2.2.1,x.2.2.2.2.1,x.2.2.2.2.2.2.1,x.2.2.2.2.2.2.2)))
abbrev p_spec_forest_wrap_1_0_0:Pt:=[(0, .blkx 61 [.own, .fl (.int .i64), .fl .bool]),(3, .np),(9, .own (.rc .nps [] 0) 59),(11, .int .i64),(12, .own .np 62),(13, .int .i64),(14, .int .i64),(NT, .ns .k 93 62),(2000000000, .hown 0 0 .np 62)]
abbrev x_spec_forest_wrap_1_0_0:List (Xt×Pt):=[(.ex 6,[(0, .blkx 61 [.own, .fl (.int .i64), .fl .bool]),(3, .np),(9, .own (.rc .nps [] 0) 59),(11, .int .i64),(12, .own .np 62),(13, .int .i64),(NT, .ns .k 93 62),(2000000000, .hown 0 0 .np 62)]),(.rt,[(0, .blkx 61 [.own, .fl (.int .i64), .fl .bool]),(8, .bool),(NT, .ns .k 93 62),(2000000000, .hown 0 0 .np 62)])]
noncomputable def m_spec_forest_wrap_1_0_0:Tup p_spec_forest_wrap_1_0_0→Option (Stp (Tup p_spec_forest_wrap_1_0_0) (SumT (x_spec_forest_wrap_1_0_0.map (·.2)))):=fun (x:(PUnit×Int×Bool)×Option Nat×List (List (Option Nat))×Int×List (Option Nat)×Int×Int×List KN×List (Option Nat))=>bif decide (x.2.2.2.2.2.2.1<(↑(List.length x.2.2.2.2.1):Int)) then bif decide (x.2.2.2.2.2.1≠x.2.2.2.2.2.2.1) then Option.bind (atI x.2.2.2.2.1 x.2.2.2.2.2.1) fun (x_1:Option Nat)=>Option.bind x.2.2.2.2.1[Int.toNat x.2.2.2.2.2.1]? fun (v:Option Nat)=>Option.bind (atI x.2.2.2.2.1 x.2.2.2.2.2.2.1) fun (x_2:Option Nat)=>Option.bind x.2.2.2.2.1[Int.toNat x.2.2.2.2.2.2.1]? fun (v_1:Option Nat)=>Option.bind (m_spec_knot_holds (v,v_1,x.2.2.2.2.2.2.2.1)) fun (r:Bool)=>bif r then some (Stp.out (Sum.inr (((),x.1.2.1,x.1.2.2),false,x.2.2.2.2.2.2.2.1,x.2.2.2.2.2.2.2.2))) else some (Stp.nx (((),x.1.2.1,x.1.2.2),x.2.1,x.2.2.1,x.2.2.2.1,x.2.2.2.2.1,x.2.2.2.2.2.1,IntKind.wrap .i64 (x.2.2.2.2.2.2.1+(1:Int)),x.2.2.2.2.2.2.2.1,x.2.2.2.2.2.2.2.2)) else some (Stp.nx (((),x.1.2.1,x.1.2.2),x.2.1,x.2.2.1,x.2.2.2.1,x.2.2.2.2.1,x.2.2.2.2.2.1,IntKind.wrap .i64 (x.2.2.2.2.2.2.1+(1:Int)),x.2.2.2.2.2.2.2.1,x.2.2.2.2.2.2.2.2)) else some (Stp.out (Sum.inl (((),x.1.2.1,x.1.2.2),x.2.1,x.2.2.1,x.2.2.2.1,x.2.2.2.2.1,x.2.2.2.2.2.1,x.2.2.2.2.2.2.2.1,x.2.2.2.2.2.2.2.2)))
abbrev p_spec_forest_wrap_1_0:Pt:=[(0, .blkx 61 [.own, .fl (.int .i64), .fl .bool]),(3, .np),(9, .own (.rc .nps [] 0) 59),(11, .int .i64),(12, .own .np 62),(13, .int .i64),(NT, .ns .k 93 62),(2000000000, .hown 0 0 .np 62)]
abbrev x_spec_forest_wrap_1_0:List (Xt×Pt):=[(.ex 4,[(0, .blkx 61 [.own, .fl (.int .i64), .fl .bool]),(3, .np),(9, .own (.rc .nps [] 0) 59),(11, .int .i64),(12, .own .np 62),(NT, .ns .k 93 62),(2000000000, .hown 0 0 .np 62)]),(.rt,[(0, .blkx 61 [.own, .fl (.int .i64), .fl .bool]),(8, .bool),(NT, .ns .k 93 62),(2000000000, .hown 0 0 .np 62)])]
noncomputable def m_spec_forest_wrap_1_0:Tup p_spec_forest_wrap_1_0→Option (Stp (Tup p_spec_forest_wrap_1_0) (SumT (x_spec_forest_wrap_1_0.map (·.2)))):=fun (x:(PUnit×Int×Bool)×Option Nat×List (List (Option Nat))×Int×List (Option Nat)×Int×List KN×List (Option Nat))=>bif decide (x.2.2.2.2.2.1<(↑(List.length x.2.2.2.2.1):Int)) then Option.bind (loopO m_spec_forest_wrap_1_0_0 (((),x.1.2.1,x.1.2.2),x.2.1,x.2.2.1,x.2.2.2.1,x.2.2.2.2.1,x.2.2.2.2.2.1,(0:Int),x.2.2.2.2.2.2.1,x.2.2.2.2.2.2.2)) fun (y:(PUnit×Int×Bool)×Option Nat×List (List (Option Nat))×Int×List (Option Nat)×Int×List KN×List (Option Nat) ⊕ (PUnit×Int×Bool)×Bool×List KN×List (Option Nat))=>selim (fun (y:(PUnit×Int×Bool)×Option Nat×List (List (Option Nat))×Int×List (Option Nat)×Int×List KN×List (Option Nat))=>some (Stp.nx (((),y.1.2.1,y.1.2.2),y.2.1,y.2.2.1,y.2.2.2.1,y.2.2.2.2.1,IntKind.wrap .i64 (y.2.2.2.2.2.1+(1:Int)),y.2.2.2.2.2.2.1,y.2.2.2.2.2.2.2))) (fun (y:(PUnit×Int×Bool)×Bool×List KN×List (Option Nat))=>some (Stp.out (Sum.inr (((),y.1.2.1,y.1.2.2),y.2.1,y.2.2.1,y.2.2.2)))) y else some (Stp.out (Sum.inl (((),x.1.2.1,x.1.2.2),x.2.1,x.2.2.1,x.2.2.2.1,x.2.2.2.2.1,x.2.2.2.2.2.2.1,x.2.2.2.2.2.2.2)))
abbrev p_spec_forest_wrap_1_1:Pt:=[(0, .blkx 61 [.own, .fl (.int .i64), .fl .bool]),(3, .np),(9, .own (.rc .nps [] 0) 59),(11, .int .i64),(12, .own .np 62),(17, .np),(18, .int .i64),(NT, .ns .k 93 62),(2000000000, .hown 0 0 .np 62)]
abbrev x_spec_forest_wrap_1_1:List (Xt×Pt):=[(.ex 8,[(0, .blkx 61 [.own, .fl (.int .i64), .fl .bool]),(3, .np),(9, .own (.rc .nps [] 0) 59),(11, .int .i64),(NT, .ns .k 93 62),(2000000000, .hown 0 0 .np 62)])]
noncomputable def m_spec_forest_wrap_1_1:Tup p_spec_forest_wrap_1_1→Option (Stp (Tup p_spec_forest_wrap_1_1) (SumT (x_spec_forest_wrap_1_1.map (·.2)))):=fun (x:(PUnit×Int×Bool)×Option Nat×List (List (Option Nat))×Int×List (Option Nat)×Option Nat×Int×List KN×List (Option Nat))=>bif decide (x.2.2.2.2.2.2.1<(↑(List.length x.2.2.2.2.1):Int)) then Option.bind x.2.2.2.2.2.1 fun (i:Nat)=>Option.bind (some i) fun (i:Nat)=>Option.bind x.2.2.2.2.2.2.2.1[i]? fun (h:KN)=>Option.bind x.2.2.2.2.2.2.2.1[i]? fun (h:KN)=>Option.bind (atI x.2.2.2.2.1 x.2.2.2.2.2.2.1) fun (x_1:Option Nat)=>Option.bind x.2.2.2.2.1[Int.toNat x.2.2.2.2.2.2.1]? fun (v:Option Nat)=>Option.bind (m_spec_knot_put (x.2.2.2.2.2.1,(↑(List.length (KN.kids h)):Int),v,x.2.2.2.2.2.2.2.1)) fun (r:List KN)=>some (Stp.nx (((),x.1.2.1,x.1.2.2),x.2.1,x.2.2.1,x.2.2.2.1,x.2.2.2.2.1,x.2.2.2.2.2.1,IntKind.wrap .i64 (x.2.2.2.2.2.2.1+(1:Int)),r,x.2.2.2.2.2.2.2.2)) else some (Stp.out (((),x.1.2.1,x.1.2.2),x.2.1,x.2.2.1,x.2.2.2.1,x.2.2.2.2.2.2.2.1,x.2.2.2.2.2.2.2.2))
abbrev p_spec_forest_wrap_1:Pt:=[(0, .blkx 61 [.own, .fl (.int .i64), .fl .bool]),(3, .np),(9, .own (.rc .nps [] 0) 59),(11, .int .i64),(NT, .ns .k 93 62),(2000000000, .hown 0 0 .np 62)]
abbrev x_spec_forest_wrap_1:List (Xt×Pt):=[(.ex 2,[(0, .blkx 61 [.own, .fl (.int .i64), .fl .bool]),(NT, .ns .k 93 62),(2000000000, .hown 0 0 .np 62)]),(.rt,[(0, .blkx 61 [.own, .fl (.int .i64), .fl .bool]),(8, .bool),(NT, .ns .k 93 62),(2000000000, .hown 0 0 .np 62)])]
noncomputable def m_spec_forest_wrap_1:Tup p_spec_forest_wrap_1→Option (Stp (Tup p_spec_forest_wrap_1) (SumT (x_spec_forest_wrap_1.map (·.2)))):=fun (x:(PUnit×Int×Bool)×Option Nat×List (List (Option Nat))×Int×List KN×List (Option Nat))=>bif decide (x.2.2.2.1<(↑(List.length x.2.2.1):Int)) then Option.bind (atI x.2.2.1 x.2.2.2.1) fun (x_1:List (Option Nat))=>Option.bind x.2.2.1[Int.toNat x.2.2.2.1]? fun (v:List (Option Nat))=>Option.bind (appL [] v) fun (r:List (Option Nat))=>Option.bind (loopO m_spec_forest_wrap_1_0 (((),x.1.2.1,x.1.2.2),x.2.1,x.2.2.1,x.2.2.2.1,r,(0:Int),x.2.2.2.2.1,x.2.2.2.2.2)) fun (y:(PUnit×Int×Bool)×Option Nat×List (List (Option Nat))×Int×List (Option Nat)×List KN×List (Option Nat) ⊕ (PUnit×Int×Bool)×Bool×List KN×List (Option Nat))=>selim (fun (y:(PUnit×Int×Bool)×Option Nat×List (List (Option Nat))×Int×List (Option Nat)×List KN×List (Option Nat))=>Option.bind (m_spec_forest_copied big (((),y.1.2.1,y.1.2.2),y.2.1,y.2.2.2.2.2.2,y.2.2.2.2.2.1)) fun (r:Option Nat×(PUnit×Int×Bool)×List (Option Nat)×List KN)=>Option.bind (atI y.2.2.2.2.1 (0:Int)) fun (x:Option Nat)=>Option.bind y.2.2.2.2.1[Int.toNat (0:Int)]? fun (v:Option Nat)=>Option.bind v fun (i:Nat)=>Option.bind (some i) fun (i:Nat)=>Option.bind r.2.2.2[i]? fun (h:KN)=>Option.bind (m_spec_knot_place (v,r.2.2.2)) fun (r_1:Int)=>Option.bind (m_spec_knot_put (KN.up h,r_1,r.1,r.2.2.2)) fun (r_2:List KN)=>Option.bind (m_spec_inmost (r.1,r_2)) fun (r_3:Option Nat)=>bif r.2.1.2.2 then some (Stp.out (Sum.inr (((),r.2.1.2.1,r.2.1.2.2),true,r_2,r.2.2.1))) else Option.bind (loopO m_spec_forest_wrap_1_1 (((),r.2.1.2.1,r.2.1.2.2),y.2.1,y.2.2.1,y.2.2.2.1,y.2.2.2.2.1,r_3,(0:Int),r_2,r.2.2.1)) fun (y:(PUnit×Int×Bool)×Option Nat×List (List (Option Nat))×Int×List KN×List (Option Nat))=>some (Stp.nx (((),y.1.2.1,y.1.2.2),y.2.1,y.2.2.1,IntKind.wrap .i64 (y.2.2.2.1+(1:Int)),y.2.2.2.2.1,y.2.2.2.2.2))) (fun (y:(PUnit×Int×Bool)×Bool×List KN×List (Option Nat))=>some (Stp.out (Sum.inr (((),y.1.2.1,y.1.2.2),y.2.1,y.2.2.1,y.2.2.2)))) y else some (Stp.out (Sum.inl (((),x.1.2.1,x.1.2.2),x.2.2.2.2.1,x.2.2.2.2.2)))
noncomputable def m_spec_forest_wrap:Tup p_spec_forest_wrap→Option (Tup q_spec_forest_wrap):=fun (x:(PUnit×Int×Bool)×Int×List (Option Nat)×Option Nat×List (Option Nat)×List KN)=>Option.bind x.2.2.2.1 fun (i:Nat)=>Option.bind (some i) fun (i:Nat)=>Option.bind x.2.2.2.2.2[i]? fun (h:KN)=>bif decide (Node.kind (KN.n h)≠(3:Int)) then some (false,((),x.1.2.1,x.1.2.2),x.2.2.2.2.1,x.2.2.2.2.2) else Option.bind (m_spec_inmost (x.2.2.2.1,x.2.2.2.2.2)) fun (r:Option Nat)=>bif Option.isNone r then some (false,((),x.1.2.1,x.1.2.2),x.2.2.2.2.1,x.2.2.2.2.2) else Option.bind (m_spec_apart ([x.2.2.2.1],x.2.2.1,x.2.2.2.2.2)) fun (r:Bool)=>bif !r then some (false,((),x.1.2.1,x.1.2.2),x.2.2.2.2.1,x.2.2.2.2.2) else Option.bind (m_spec_stand (x.2.2.1,x.2.2.2.2.2)) fun (r:Bool)=>bif !r then some (false,((),x.1.2.1,x.1.2.2),x.2.2.2.2.1,x.2.2.2.2.2) else bif decide (x.2.1≠(10:Int)) then Option.bind (loopO m_spec_forest_wrap_0 (((),x.1.2.1,x.1.2.2),x.2.1,x.2.2.1,x.2.2.2.1,[],(0:Int),x.2.2.2.2.2,x.2.2.2.2.1)) fun (y:(PUnit×Int×Bool)×Option Nat×List (List (Option Nat))×List KN×List (Option Nat) ⊕ (PUnit×Int×Bool)×Bool×List KN×List (Option Nat))=>selim (fun (y:(PUnit×Int×Bool)×Option Nat×List (List (Option Nat))×List KN×List (Option Nat))=>Option.bind (loopO m_spec_forest_wrap_1 (((),y.1.2.1,y.1.2.2),y.2.1,y.2.2.1,(0:Int),y.2.2.2.1,y.2.2.2.2)) fun (y:(PUnit×Int×Bool)×List KN×List (Option Nat) ⊕ (PUnit×Int×Bool)×Bool×List KN×List (Option Nat))=>selim (fun (y:(PUnit×Int×Bool)×List KN×List (Option Nat))=>some (true,((),y.1.2.1,y.1.2.2),y.2.2,y.2.1)) (fun (y:(PUnit×Int×Bool)×Bool×List KN×List (Option Nat))=>some (y.2.1,((),y.1.2.1,y.1.2.2),y.2.2.2,y.2.2.1)) y) (fun (y:(PUnit×Int×Bool)×Bool×List KN×List (Option Nat))=>some (y.2.1,((),y.1.2.1,y.1.2.2),y.2.2.2,y.2.2.1)) y else Option.bind (loopO m_spec_forest_wrap_1 (((),x.1.2.1,x.1.2.2),x.2.2.2.1,[x.2.2.1],(0:Int),x.2.2.2.2.2,x.2.2.2.2.1)) fun (y:(PUnit×Int×Bool)×List KN×List (Option Nat) ⊕ (PUnit×Int×Bool)×Bool×List KN×List (Option Nat))=>selim (fun (y:(PUnit×Int×Bool)×List KN×List (Option Nat))=>some (true,((),y.1.2.1,y.1.2.2),y.2.2,y.2.1)) (fun (y:(PUnit×Int×Bool)×Bool×List KN×List (Option Nat))=>some (y.2.1,((),y.1.2.1,y.1.2.2),y.2.2.2,y.2.2.1)) y
noncomputable def cx_spec_forest_wrap:Cx:=⟨tb,lookE [(74,e_spec_inmost),(68,e_spec_apart),(69,e_spec_stand),(45,e_spec_are),(75,e_spec_knot_holds),(70,e_spec_forest_copied),(72,e_spec_knot_place),(73,e_spec_knot_put)],lookS [(24,[(true,0),(true,1),(true,2),(true,3),(true,4),(true,5),(true,6),(true,7),(true,8),(true,9),(true,10),(true,11),(false,12),(true,13)]),(28,[(true,0),(true,1),(true,2),(true,3),(true,4),(true,6),(false,5),(false,7)]),(35,[(true,0),(true,1),(true,2),(true,3),(true,4),(true,5),(true,6),(true,7),(true,8),(true,9),(false,10)])],mth,ast⟩
theorem ck_spec_forest_wrap:CxOK Tryz.prog (cx_spec_forest_wrap):=cx_ok tb_ok if_ok (.cons ok_spec_inmost Tryz.call74 (.cons ok_spec_apart Tryz.call68 (.cons ok_spec_stand Tryz.call69 (.cons ok_spec_are Tryz.call45 (.cons ok_spec_knot_holds Tryz.call75 (.cons ok_spec_forest_copied Tryz.call70 (.cons ok_spec_knot_place Tryz.call72 (.cons ok_spec_knot_put Tryz.call73 .nil))))))))
noncomputable def c_spec_forest_wrap_0:Code:=loopAt (Go.Proofs.Tryz.f47.body.getD .skip) 0
noncomputable def l_spec_forest_wrap_0:LEnt:=⟨p_spec_forest_wrap_0,x_spec_forest_wrap_0,loopO (m_spec_forest_wrap_0)⟩
theorem lo_spec_forest_wrap_0:LOK Tryz.prog 173 1 true (l_spec_forest_wrap_0) c_spec_forest_wrap_0:=loop_ok (body:=m_spec_forest_wrap_0) (L:=lookL []) (ck_spec_forest_wrap) mixed (ls_ok (l:=[]) (by kernel_rfl) .nil) (by intro x; kernel_rfl) (fun x y h=>loopO_iff.1 h)
noncomputable def c_spec_forest_wrap_1_0_0:Code:=loopAt (loopAt (loopAt (Go.Proofs.Tryz.f47.body.getD .skip) 1) 0) 0
noncomputable def l_spec_forest_wrap_1_0_0:LEnt:=⟨p_spec_forest_wrap_1_0_0,x_spec_forest_wrap_1_0_0,loopO (m_spec_forest_wrap_1_0_0)⟩
theorem lo_spec_forest_wrap_1_0_0:LOK Tryz.prog 173 1 true (l_spec_forest_wrap_1_0_0) c_spec_forest_wrap_1_0_0:=loop_ok (body:=m_spec_forest_wrap_1_0_0) (L:=lookL []) (ck_spec_forest_wrap) mixed (ls_ok (l:=[]) (by kernel_rfl) .nil) (by intro x; kernel_rfl) (fun x y h=>loopO_iff.1 h)
noncomputable def c_spec_forest_wrap_1_0:Code:=loopAt (loopAt (Go.Proofs.Tryz.f47.body.getD .skip) 1) 0
noncomputable def l_spec_forest_wrap_1_0:LEnt:=⟨p_spec_forest_wrap_1_0,x_spec_forest_wrap_1_0,loopO (m_spec_forest_wrap_1_0)⟩
theorem lo_spec_forest_wrap_1_0:LOK Tryz.prog 173 1 true (l_spec_forest_wrap_1_0) c_spec_forest_wrap_1_0:=loop_ok (body:=m_spec_forest_wrap_1_0) (L:=lookL [(6,l_spec_forest_wrap_1_0_0)]) (ck_spec_forest_wrap) mixed (ls_ok (l:=[(6,c_spec_forest_wrap_1_0_0)]) (by kernel_rfl) (.cons rfl (lo_spec_forest_wrap_1_0_0) .nil)) (by intro x; kernel_rfl) (fun x y h=>loopO_iff.1 h)
noncomputable def c_spec_forest_wrap_1_1:Code:=loopAt (loopAt (Go.Proofs.Tryz.f47.body.getD .skip) 1) 1
noncomputable def l_spec_forest_wrap_1_1:LEnt:=⟨p_spec_forest_wrap_1_1,x_spec_forest_wrap_1_1,loopO (m_spec_forest_wrap_1_1)⟩
theorem lo_spec_forest_wrap_1_1:LOK Tryz.prog 173 1 true (l_spec_forest_wrap_1_1) c_spec_forest_wrap_1_1:=loop_ok (body:=m_spec_forest_wrap_1_1) (L:=lookL []) (ck_spec_forest_wrap) mixed (ls_ok (l:=[]) (by kernel_rfl) .nil) (by intro x; kernel_rfl) (fun x y h=>loopO_iff.1 h)
noncomputable def c_spec_forest_wrap_1:Code:=loopAt (Go.Proofs.Tryz.f47.body.getD .skip) 1
noncomputable def l_spec_forest_wrap_1:LEnt:=⟨p_spec_forest_wrap_1,x_spec_forest_wrap_1,loopO (m_spec_forest_wrap_1)⟩
theorem lo_spec_forest_wrap_1:LOK Tryz.prog 173 1 true (l_spec_forest_wrap_1) c_spec_forest_wrap_1:=loop_ok (body:=m_spec_forest_wrap_1) (L:=lookL [(4,l_spec_forest_wrap_1_0),(8,l_spec_forest_wrap_1_1)]) (ck_spec_forest_wrap) mixed (ls_ok (l:=[(4,c_spec_forest_wrap_1_0),(8,c_spec_forest_wrap_1_1)]) (by kernel_rfl) (.cons rfl (lo_spec_forest_wrap_1_0) (.cons rfl (lo_spec_forest_wrap_1_1) .nil))) (by intro x; kernel_rfl) (fun x y h=>loopO_iff.1 h)
noncomputable def e_spec_forest_wrap:Ent:=⟨1,p_spec_forest_wrap,q_spec_forest_wrap,m_spec_forest_wrap⟩
theorem ok_spec_forest_wrap:FnOK Tryz.prog 47 e_spec_forest_wrap:=fn_ok (L:=lookL [(0,l_spec_forest_wrap_0),(2,l_spec_forest_wrap_1)]) ck_spec_forest_wrap mixed Tryz.func47 rfl (by kernel_rfl) (by kernel_rfl) (ls_ok (l:=[(0,c_spec_forest_wrap_0),(2,c_spec_forest_wrap_1)]) (by kernel_rfl) (.cons rfl (lo_spec_forest_wrap_0) (.cons rfl (lo_spec_forest_wrap_1) .nil))) (by intro x; kernel_rfl)
abbrev p_spec_forest_step_w:Pt:=[(0, .blkx 61 [.own, .fl (.int .i64), .fl .bool]),(1, .el (.rc (.int .i64) [.ints, .ints, .str, .str, .strs] 0)),(2000000000, .hown 0 0 .np 62),(NT, .ns .k 93 62)]
abbrev q_spec_forest_step_w:Pt:=[(0, .bool),(1000, .blkx 61 [.own, .fl (.int .i64), .fl .bool]),(2000064000, .hown 1000 0 .np 62),(NT, .ns .k 93 62)]
abbrev p_spec_forest_step_w_0:Pt:=[(0, .blkx 61 [.own, .fl (.int .i64), .fl .bool]),(5, .own .np 62),(9, .int .i64),(NT, .ns .k 93 62),(2000000000, .hown 0 0 .np 62)]
abbrev x_spec_forest_step_w_0:List (Xt×Pt):=[(.ex 1,[(0, .blkx 61 [.own, .fl (.int .i64), .fl .bool]),(NT, .ns .k 93 62),(2000000000, .hown 0 0 .np 62)])]
noncomputable def m_spec_forest_step_w_0:Tup p_spec_forest_step_w_0→Option (Stp (Tup p_spec_forest_step_w_0) (SumT (x_spec_forest_step_w_0.map (·.2)))):=fun (x:(PUnit×Int×Bool)×List (Option Nat)×Int×List KN×List (Option Nat))=>bif decide (x.2.2.1<(↑(List.length x.2.1):Int)) then Option.bind (atI x.2.1 x.2.2.1) fun (x_1:Option Nat)=>Option.bind x.2.1[Int.toNat x.2.2.1]? fun (v:Option Nat)=>none else some (Stp.out (((),x.1.2.1,x.1.2.2),x.2.2.2.1,x.2.2.2.2))
abbrev p_spec_forest_step_w_1_0:Pt:=[(0, .blkx 61 [.own, .fl (.int .i64), .fl .bool]),(5, .own .np 62),(10, .int .i64),(NT, .ns .k 93 62),(2000000000, .hown 0 0 .np 62)]
abbrev x_spec_forest_step_w_1_0:List (Xt×Pt):=[(.ex 5,[(0, .blkx 61 [.own, .fl (.int .i64), .fl .bool]),(5, .own .np 62),(10, .int .i64),(NT, .ns .k 93 62),(2000000000, .hown 0 0 .np 62)])]
noncomputable def m_spec_forest_step_w_1_0:Tup p_spec_forest_step_w_1_0→Option (Stp (Tup p_spec_forest_step_w_1_0) (SumT (x_spec_forest_step_w_1_0.map (·.2)))):=fun (x:(PUnit×Int×Bool)×List (Option Nat)×Int×List KN×List (Option Nat))=>Option.bind (atI x.2.1 x.2.2.1) fun (x_1:Option Nat)=>Option.bind x.2.1[Int.toNat x.2.2.1]? fun (v:Option Nat)=>Option.bind v fun (i:Nat)=>Option.bind (some i) fun (i:Nat)=>Option.bind x.2.2.2.1[i]? fun (h:KN)=>Option.bind x.2.2.2.1[i]? fun (h:KN)=>bif decide ((0:Int)<(↑(List.length (KN.kids h)):Int)) then Option.bind (atI x.2.1 x.2.2.1) fun (x_2:Option Nat)=>Option.bind x.2.1[Int.toNat x.2.2.1]? fun (v:Option Nat)=>Option.bind v fun (i:Nat)=>Option.bind (some i) fun (i:Nat)=>Option.bind x.2.2.2.1[i]? fun (h:KN)=>Option.bind x.2.2.2.1[i]? fun (h:KN)=>Option.bind (atI (KN.kids h) (0:Int)) fun (x_3:Option Nat)=>Option.bind x.2.2.2.1[i]? fun (h:KN)=>Option.bind (KN.kids h)[Int.toNat (0:Int)]? fun (a:Option Nat)=>none else some (Stp.out (((),x.1.2.1,x.1.2.2),x.2.1,x.2.2.1,x.2.2.2.1,x.2.2.2.2))
abbrev p_spec_forest_step_w_1:Pt:=[(0, .blkx 61 [.own, .fl (.int .i64), .fl .bool]),(5, .own .np 62),(10, .int .i64),(NT, .ns .k 93 62),(2000000000, .hown 0 0 .np 62)]
abbrev x_spec_forest_step_w_1:List (Xt×Pt):=[(.ex 3,[(0, .blkx 61 [.own, .fl (.int .i64), .fl .bool]),(5, .own .np 62),(NT, .ns .k 93 62),(2000000000, .hown 0 0 .np 62)])]
noncomputable def m_spec_forest_step_w_1:Tup p_spec_forest_step_w_1→Option (Stp (Tup p_spec_forest_step_w_1) (SumT (x_spec_forest_step_w_1.map (·.2)))):=fun (x:(PUnit×Int×Bool)×List (Option Nat)×Int×List KN×List (Option Nat))=>bif decide (x.2.2.1<(↑(List.length x.2.1):Int)) then Option.bind (loopO m_spec_forest_step_w_1_0 (((),x.1.2.1,x.1.2.2),x.2.1,x.2.2.1,x.2.2.2.1,x.2.2.2.2)) fun (y:(PUnit×Int×Bool)×List (Option Nat)×Int×List KN×List (Option Nat))=>some (Stp.nx (((),y.1.2.1,y.1.2.2),y.2.1,IntKind.wrap .i64 (y.2.2.1+(1:Int)),y.2.2.2.1,y.2.2.2.2)) else some (Stp.out (((),x.1.2.1,x.1.2.2),x.2.1,x.2.2.2.1,x.2.2.2.2))
noncomputable def m_spec_forest_step_w:Tup p_spec_forest_step_w→Option (Tup q_spec_forest_step_w):=fun (x:(PUnit×Int×Bool)×(Int×List Int×List Int×List UInt8×List UInt8×List (List UInt8))×List (Option Nat)×List KN)=>Option.bind (m_spec_forest_chosen (((),x.1.2.1,x.1.2.2),x.2.1.2.1,x.2.2.1)) fun (r:List (Option Nat)×Bool×(PUnit×Int×Bool)×List (Option Nat))=>Option.bind (m_spec_forest_chosen (((),r.2.2.1.2.1,r.2.2.1.2.2),x.2.1.2.2.1,r.2.2.2)) fun (r_1:List (Option Nat)×Bool×(PUnit×Int×Bool)×List (Option Nat))=>bif !r.2.1 then some (false,((),r_1.2.2.1.2.1,r_1.2.2.1.2.2),r_1.2.2.2,x.2.2.2) else bif !r_1.2.1 then some (false,((),r_1.2.2.1.2.1,r_1.2.2.1.2.2),r_1.2.2.2,x.2.2.2) else bif decide ((↑(List.length r.1):Int)=(0:Int)) then some (false,((),r_1.2.2.1.2.1,r_1.2.2.1.2.2),r_1.2.2.2,x.2.2.2) else bif decide (x.2.1.1=(1:Int)) then none else bif decide (x.2.1.1=(2:Int)) then none else bif decide (x.2.1.1=(3:Int)) then none else bif decide (x.2.1.1=(4:Int)) then none else bif decide (x.2.1.1=(5:Int)) then none else bif decide (x.2.1.1=(6:Int)) then Option.bind (loopO m_spec_forest_step_w_0 (((),r_1.2.2.1.2.1,r_1.2.2.1.2.2),r.1,(0:Int),x.2.2.2,r_1.2.2.2)) fun (y:(PUnit×Int×Bool)×List KN×List (Option Nat))=>some (true,((),y.1.2.1,y.1.2.2),y.2.2,y.2.1) else bif decide (x.2.1.1=(7:Int)) then Option.bind (loopO m_spec_forest_step_w_1 (((),r_1.2.2.1.2.1,r_1.2.2.1.2.2),r.1,(0:Int),x.2.2.2,r_1.2.2.2)) fun (y:(PUnit×Int×Bool)×List (Option Nat)×List KN×List (Option Nat))=>Option.bind (m_spec_are (y.2.1,y.2.2.1)) fun (r:Bool)=>some (r,((),y.1.2.1,y.1.2.2),y.2.2.2,y.2.2.1) else bif decide (x.2.1.1=(8:Int)) then none else bif decide (x.2.1.1=(9:Int)) then bif decide ((↑(List.length r_1.1):Int)=(1:Int)) then Option.bind (atI r_1.1 (0:Int)) fun (x_1:Option Nat)=>Option.bind r_1.1[Int.toNat (0:Int)]? fun (v:Option Nat)=>Option.bind (m_spec_forest_wrap (((),r_1.2.2.1.2.1,r_1.2.2.1.2.2),x.2.1.1,r.1,v,r_1.2.2.2,x.2.2.2)) fun (r:Bool×(PUnit×Int×Bool)×List (Option Nat)×List KN)=>some (r.1,((),r.2.1.2.1,r.2.1.2.2),r.2.2.1,r.2.2.2) else some (false,((),r_1.2.2.1.2.1,r_1.2.2.1.2.2),r_1.2.2.2,x.2.2.2) else bif decide (x.2.1.1=(10:Int)) then bif decide ((↑(List.length r_1.1):Int)=(1:Int)) then Option.bind (atI r_1.1 (0:Int)) fun (x_1:Option Nat)=>Option.bind r_1.1[Int.toNat (0:Int)]? fun (v:Option Nat)=>Option.bind (m_spec_forest_wrap (((),r_1.2.2.1.2.1,r_1.2.2.1.2.2),x.2.1.1,r.1,v,r_1.2.2.2,x.2.2.2)) fun (r:Bool×(PUnit×Int×Bool)×List (Option Nat)×List KN)=>some (r.1,((),r.2.1.2.1,r.2.1.2.2),r.2.2.1,r.2.2.2) else some (false,((),r_1.2.2.1.2.1,r_1.2.2.1.2.2),r_1.2.2.2,x.2.2.2) else bif decide (x.2.1.1=(11:Int)) then bif decide ((↑(List.length r_1.1):Int)=(1:Int)) then Option.bind (atI r_1.1 (0:Int)) fun (x_1:Option Nat)=>Option.bind r_1.1[Int.toNat (0:Int)]? fun (v:Option Nat)=>Option.bind (m_spec_forest_wrap (((),r_1.2.2.1.2.1,r_1.2.2.1.2.2),x.2.1.1,r.1,v,r_1.2.2.2,x.2.2.2)) fun (r:Bool×(PUnit×Int×Bool)×List (Option Nat)×List KN)=>some (r.1,((),r.2.1.2.1,r.2.1.2.2),r.2.2.1,r.2.2.2) else some (false,((),r_1.2.2.1.2.1,r_1.2.2.1.2.2),r_1.2.2.2,x.2.2.2) else Option.bind (m_spec_are (r.1,x.2.2.2)) fun (r:Bool)=>bif r then none else some (false,((),r_1.2.2.1.2.1,r_1.2.2.1.2.2),r_1.2.2.2,x.2.2.2)
noncomputable def cx_spec_forest_step_w:Cx:=⟨tb,lookE [(42,e_spec_forest_chosen),(45,e_spec_are),(47,e_spec_forest_wrap)],lookS [(30,[(true,0),(true,1),(true,2),(true,3),(true,4),(true,5),(true,6),(true,7),(true,8),(true,9),(true,10),(false,11),(true,12),(true,13)])],mth,ast⟩
theorem ck_spec_forest_step_w:CxOK Tryz.prog (cx_spec_forest_step_w):=cx_ok tb_ok if_ok (.cons ok_spec_forest_chosen Tryz.call42 (.cons ok_spec_are Tryz.call45 (.cons ok_spec_forest_wrap Tryz.call47 .nil)))
noncomputable def c_spec_forest_step_w_0:Code:=loopAt (Go.Proofs.Tryz.f24.body.getD .skip) 0
noncomputable def l_spec_forest_step_w_0:LEnt:=⟨p_spec_forest_step_w_0,x_spec_forest_step_w_0,loopO (m_spec_forest_step_w_0)⟩
theorem lo_spec_forest_step_w_0:LOK Tryz.prog 120 1 true (l_spec_forest_step_w_0) c_spec_forest_step_w_0:=loop_ok (body:=m_spec_forest_step_w_0) (L:=lookL []) (ck_spec_forest_step_w) mixed (ls_ok (l:=[]) (by kernel_rfl) .nil) (by intro x; kernel_rfl) (fun x y h=>loopO_iff.1 h)
noncomputable def c_spec_forest_step_w_1_0:Code:=loopAt (loopAt (Go.Proofs.Tryz.f24.body.getD .skip) 1) 0
noncomputable def l_spec_forest_step_w_1_0:LEnt:=⟨p_spec_forest_step_w_1_0,x_spec_forest_step_w_1_0,loopO (m_spec_forest_step_w_1_0)⟩
theorem lo_spec_forest_step_w_1_0:LOK Tryz.prog 120 1 true (l_spec_forest_step_w_1_0) c_spec_forest_step_w_1_0:=loop_ok (body:=m_spec_forest_step_w_1_0) (L:=lookL []) (ck_spec_forest_step_w) mixed (ls_ok (l:=[]) (by kernel_rfl) .nil) (by intro x; kernel_rfl) (fun x y h=>loopO_iff.1 h)
noncomputable def c_spec_forest_step_w_1:Code:=loopAt (Go.Proofs.Tryz.f24.body.getD .skip) 1
noncomputable def l_spec_forest_step_w_1:LEnt:=⟨p_spec_forest_step_w_1,x_spec_forest_step_w_1,loopO (m_spec_forest_step_w_1)⟩
theorem lo_spec_forest_step_w_1:LOK Tryz.prog 120 1 true (l_spec_forest_step_w_1) c_spec_forest_step_w_1:=loop_ok (body:=m_spec_forest_step_w_1) (L:=lookL [(5,l_spec_forest_step_w_1_0)]) (ck_spec_forest_step_w) mixed (ls_ok (l:=[(5,c_spec_forest_step_w_1_0)]) (by kernel_rfl) (.cons rfl (lo_spec_forest_step_w_1_0) .nil)) (by intro x; kernel_rfl) (fun x y h=>loopO_iff.1 h)
noncomputable def e_spec_forest_step_w:Ent:=⟨1,p_spec_forest_step_w,q_spec_forest_step_w,m_spec_forest_step_w⟩
theorem ok_spec_forest_step_w:FnOK Tryz.prog 24 e_spec_forest_step_w:=fn_ok (L:=lookL [(1,l_spec_forest_step_w_0),(3,l_spec_forest_step_w_1)]) ck_spec_forest_step_w mixed Tryz.func24 rfl (by kernel_rfl) (by kernel_rfl) (ls_ok (l:=[(1,c_spec_forest_step_w_0),(3,c_spec_forest_step_w_1)]) (by kernel_rfl) (.cons rfl (lo_spec_forest_step_w_0) (.cons rfl (lo_spec_forest_step_w_1) .nil))) (by intro x; kernel_rfl)
abbrev p_spec_Changed_w:Pt:=[(0, .lst .node),(1, .lst (.rc (.int .i64) [.ints, .ints, .str, .str, .strs] 0)),(NT, .ns .k 93 62)]
abbrev q_spec_Changed_w:Pt:=[(0, .lst .node),(1, .lst .int),(2, .bool),(NT, .ns .k 93 62)]
abbrev p_spec_Changed_w_0:Pt:=[(0, .lst .node),(1, .lst (.rc (.int .i64) [.ints, .ints, .str, .str, .strs] 0)),(7, .blkx 61 [.own, .fl (.int .i64), .fl .bool]),(8, .int .i64),(NT, .ns .k 93 62),(2000000448, .hown 7 0 .np 62)]
abbrev x_spec_Changed_w_0:List (Xt×Pt):=[(.ex 0,[(0, .lst .node),(7, .blkx 61 [.own, .fl (.int .i64), .fl .bool]),(NT, .ns .k 93 62),(2000000448, .hown 7 0 .np 62)]),(.rt,[(4, .own .node 39),(5, .own .int 3),(6, .bool),(NT, .ns .k 93 62)])]
noncomputable def m_spec_Changed_w_0:Tup p_spec_Changed_w_0→Option (Stp (Tup p_spec_Changed_w_0) (SumT (x_spec_Changed_w_0.map (·.2)))):=fun (x:List Node×List (Int×List Int×List Int×List UInt8×List UInt8×List (List UInt8))×(PUnit×Int×Bool)×Int×List KN×List (Option Nat))=>bif decide (x.2.2.2.1<(↑(List.length x.2.1):Int)) then Option.bind (atI x.2.1 x.2.2.2.1) fun (v:Int×List Int×List Int×List UInt8×List UInt8×List (List UInt8))=>Option.bind (m_spec_forest_step_w (((),x.2.2.1.2.1,x.2.2.1.2.2),(v.1,v.2.1,v.2.2.1,v.2.2.2.1,v.2.2.2.2.1,v.2.2.2.2.2),x.2.2.2.2.2,x.2.2.2.2.1)) fun (r:Bool×(PUnit×Int×Bool)×List (Option Nat)×List KN)=>bif !r.1 then some (Stp.out (Sum.inr ([],[],false,r.2.2.2))) else bif r.2.1.2.2 then some (Stp.out (Sum.inr ([],[],false,r.2.2.2))) else some (Stp.nx (x.1,x.2.1,((),r.2.1.2.1,r.2.1.2.2),IntKind.wrap .i64 (x.2.2.2.1+(1:Int)),r.2.2.2,r.2.2.1)) else some (Stp.out (Sum.inl (x.1,((),x.2.2.1.2.1,x.2.2.1.2.2),x.2.2.2.2.1,x.2.2.2.2.2)))
abbrev p_spec_Changed_w_1:Pt:=[(7, .blkx 61 [.own, .fl (.int .i64), .fl .bool]),(9, .own .int 3),(10, .int .i64),(NT, .ns .k 93 62),(2000000448, .hown 7 0 .np 62)]
abbrev x_spec_Changed_w_1:List (Xt×Pt):=[(.ex 2,[(7, .blkx 61 [.own, .fl (.int .i64), .fl .bool]),(9, .own .int 3),(NT, .ns .k 93 62),(2000000448, .hown 7 0 .np 62)])]
noncomputable def m_spec_Changed_w_1:Tup p_spec_Changed_w_1→Option (Stp (Tup p_spec_Changed_w_1) (SumT (x_spec_Changed_w_1.map (·.2)))):=fun (x:(PUnit×Int×Bool)×List Int×Int×List KN×List (Option Nat))=>bif decide (x.2.2.1<(↑(List.length x.2.1):Int)) then Option.bind (atI x.2.1 x.2.2.1) fun (x_1:Int)=>Option.bind x.2.1[Int.toNat x.2.2.1]? fun (v:Int)=>some (Stp.nx (((),x.1.2.1,x.1.2.2),List.set x.2.1 (Int.toNat x.2.2.1) (-1:Int),IntKind.wrap .i64 (x.2.2.1+(1:Int)),x.2.2.2.1,x.2.2.2.2)) else some (Stp.out (((),x.1.2.1,x.1.2.2),x.2.1,x.2.2.2.1,x.2.2.2.2))
noncomputable def m_spec_Changed_w:Tup p_spec_Changed_w→Option (Tup q_spec_Changed_w):=fun (x:List Node×List (Int×List Int×List Int×List UInt8×List UInt8×List (List UInt8))×List KN)=>Option.bind (m_spec_Right x.1) fun (r:Bool)=>bif !r then some ([],[],false,x.2.2) else Option.bind (m_spec_grown (x.1,x.2.2)) fun (r:(PUnit×Int×Bool)×List (Option Nat)×List KN)=>Option.bind (loopO m_spec_Changed_w_0 (x.1,x.2.1,((),r.1.2.1,r.1.2.2),(0:Int),r.2.2,r.2.1)) fun (y:List Node×(PUnit×Int×Bool)×List KN×List (Option Nat) ⊕ List Node×List Int×Bool×List KN)=>selim (fun (y:List Node×(PUnit×Int×Bool)×List KN×List (Option Nat))=>bif decide ((↑(List.length y.1):Int)≤(↑(List.length y.1):Int)∧(0:Int)≤(↑(List.length y.1):Int)∧(↑(List.length y.1):Int)≤(1048576:Int)) then Option.bind (loopO m_spec_Changed_w_1 (((),y.2.1.2.1,y.2.1.2.2),List.replicate (Int.toNat (↑(List.length y.1):Int)) (0:Int),(0:Int),y.2.2.1,y.2.2.2)) fun (y:(PUnit×Int×Bool)×List Int×List KN×List (Option Nat))=>Option.bind (atI y.2.2.2 (0:Int)) fun (x:Option Nat)=>Option.bind y.2.2.2[Int.toNat (0:Int)]? fun (v:Option Nat)=>Option.bind (m_spec_knot_listed big (v,[],y.2.1,y.2.2.1)) fun (r:List Node×List Int×List KN)=>some (r.1,r.2.1,true,r.2.2) else none) (fun (y:List Node×List Int×Bool×List KN)=>some (y.1,y.2.1,y.2.2.1,y.2.2.2)) y
noncomputable def cx_spec_Changed_w:Cx:=⟨tb,lookE [(22,e_spec_Right),(23,e_spec_grown),(24,e_spec_forest_step_w),(25,e_spec_knot_listed)],lookS [],mth,ast⟩
theorem ck_spec_Changed_w:CxOK Tryz.prog (cx_spec_Changed_w):=cx_ok tb_ok if_ok (.cons ok_spec_Right Tryz.call22 (.cons ok_spec_grown Tryz.call23 (.cons ok_spec_forest_step_w Tryz.call24 (.cons ok_spec_knot_listed Tryz.call25 .nil))))
noncomputable def c_spec_Changed_w_0:Code:=loopAt (Go.Proofs.Tryz.f14.body.getD .skip) 0
noncomputable def l_spec_Changed_w_0:LEnt:=⟨p_spec_Changed_w_0,x_spec_Changed_w_0,loopO (m_spec_Changed_w_0)⟩
theorem lo_spec_Changed_w_0:LOK Tryz.prog 56 0 true (l_spec_Changed_w_0) c_spec_Changed_w_0:=loop_ok (body:=m_spec_Changed_w_0) (L:=lookL []) (ck_spec_Changed_w) mixed (ls_ok (l:=[]) (by kernel_rfl) .nil) (by intro x; kernel_rfl) (fun x y h=>loopO_iff.1 h)
noncomputable def c_spec_Changed_w_1:Code:=loopAt (Go.Proofs.Tryz.f14.body.getD .skip) 1
noncomputable def l_spec_Changed_w_1:LEnt:=⟨p_spec_Changed_w_1,x_spec_Changed_w_1,loopO (m_spec_Changed_w_1)⟩
theorem lo_spec_Changed_w_1:LOK Tryz.prog 56 0 true (l_spec_Changed_w_1) c_spec_Changed_w_1:=loop_ok (body:=m_spec_Changed_w_1) (L:=lookL []) (ck_spec_Changed_w) mixed (ls_ok (l:=[]) (by kernel_rfl) .nil) (by intro x; kernel_rfl) (fun x y h=>loopO_iff.1 h)
noncomputable def e_spec_Changed_w:Ent:=⟨0,p_spec_Changed_w,q_spec_Changed_w,m_spec_Changed_w⟩
theorem ok_spec_Changed_w:FnOK Tryz.prog 14 e_spec_Changed_w:=fn_ok (L:=lookL [(0,l_spec_Changed_w_0),(2,l_spec_Changed_w_1)]) ck_spec_Changed_w mixed Tryz.func14 rfl (by kernel_rfl) (by kernel_rfl) (ls_ok (l:=[(0,c_spec_Changed_w_0),(2,c_spec_Changed_w_1)]) (by kernel_rfl) (.cons rfl (lo_spec_Changed_w_0) (.cons rfl (lo_spec_Changed_w_1) .nil))) (by intro x; kernel_rfl)
abbrev p_spec_Changed_w_f:Pt:=[(0, .lst .node),(1, .lst (.rc (.int .i64) [.ints, .ints, .str, .str, .strs] 0))]
abbrev q_spec_Changed_w_f:Pt:=[(0, .lst .node),(1, .lst .int),(2, .bool)]
noncomputable def m_spec_Changed_w_f:Tup p_spec_Changed_w_f→Option (Tup q_spec_Changed_w_f):=frT 0 p_spec_Changed_w_f q_spec_Changed_w_f .k 93 62 (m_spec_Changed_w)
noncomputable def e_spec_Changed_w_f:Ent:=⟨0,p_spec_Changed_w_f,q_spec_Changed_w_f,m_spec_Changed_w_f⟩
theorem ok_spec_Changed_w_f:FnOK Tryz.prog 14 e_spec_Changed_w_f:=fresh_ok (np:=0) (p:=p_spec_Changed_w_f) (q:=q_spec_Changed_w_f) (m:=m_spec_Changed_w) ok_spec_Changed_w (by kernel_rfl) (by kernel_rfl)
end Go.Proofs.YtkmigbicabfodaaGreat.V
set_option linter.unusedVariables false
set_option linter.unusedSimpArgs false
namespace Go.Proofs.YtkmigbicabfodaaGreat.V
open Go
def Fo.kn1 (F:Fo) (P:Nat→Int×Node) (Z:Nat→Bool) (i:Nat):KN:=⟨(P i).1,(P i).2,F.up i,(F.kids i).map some,Z i⟩
def Fo.kst (F:Fo) (P:Nat→Int×Node) (Z:Nat→Bool):List KN:=tab F.m (F.kn1 P Z)
def Z0:Nat→Bool:=fun _=>false
def nd0 (t:List Node) (i:Nat):Node:=(t[i]?).getD ⟨0,[],[],[],0⟩
def P0 (t:List Node) (i:Nat):Int×Node:=((i:Int),nd0 t i)
def Fo.addK (F:Fo) (p:Nat) (l:List Nat):Fo:=⟨F.m,fun i=>if i∈l then some p else F.up i,fun i=>if i=p then F.kids p++l else F.kids i⟩
def FZ (k:Nat):Fo:=⟨k,fun _=>none,fun _=>[]⟩
def GF (t:List Node) (k:Nat):Fo:=⟨t.length,fun i=>(par t i).bind fun p=>if p<k then some p else none,fun i=>if i<k then kidsN t i else []⟩
section
variable {F G:Fo} {P:Nat→Int×Node} {Z:Nat→Bool} {t:List Node} {i p c:Nat} {l:List Nat}
theorem Fo.kget (h:i<F.m):(F.kst P Z)[i]?=some (F.kn1 P Z i):=tab_get h
theorem Fo.klen:(F.kst P Z).length=F.m:=tab_len
theorem addK_nil:F.addK p []=F:=by
 cases F
 simp only [Fo.addK,List.not_mem_nil,if_false,List.append_nil]
 congr 1
 funext i
 split <;> simp [*]
theorem addK_cons:(F.addK p [c]).addK p l=F.addK p (c::l):=by
 simp only [Fo.addK,if_true]
 congr 1
 ·funext i
  by_cases h:i∈l
  ·simp [h]
  ·simp [h]
 ·funext i
  split
  ·simp
  ·rfl
theorem kst_ext (h:F.m=G.m) (h1:∀ i,i<F.m→F.up i=G.up i) (h2:∀ i,i<F.m→F.kids i=G.kids i):F.kst P Z=G.kst P Z:=by
 unfold Fo.kst
 rw [← h]
 exact tab_ext fun i hi=>by simp only [Fo.kn1,h1 i hi,h2 i hi]
end
theorem grown0 {t:List Node} (hR:RT t) (a:Int) (b:Bool):∀ d k:Nat,t.length - k=d→k≤t.length →
  loopO m_spec_grown_0 (t,((),a,b),(k:Int),(FZ k).kst (P0 t) Z0,(List.range k).map some)=some (t,((),a,b),(FZ t.length).kst (P0 t) Z0,(List.range t.length).map some):=by
 have hlen:=hR.len
 intro d
 induction d with
 | zero =>
  intro k hd hk
  obtain rfl:k=t.length:=by omega
  refine loopO_out ?_
  simp only [m_spec_grown_0,cond_dec]
  rw [if_neg (by omega)]
 | succ d ih =>
  intro k hd hk
  obtain ⟨v,hv⟩:=get_lt (l:=t) (k:=k) (by omega)
  have hat:v.attrs.length≤20:=by
   have hN:=hR.node k v hv
   rcases hN.kd with h | h | h | h | h
   ·have:=hN.k4 (by omega); rw [this.2]; simp
   ·have:=hN.k4 (by omega); rw [this.2]; simp
   ·exact (hN.k3 h).2.1
   ·have:=hN.k4 (by omega); rw [this.2]; simp
   ·have:=hN.k4 (by omega); rw [this.2]; simp
  have step:m_spec_grown_0 (t,((),a,b),(k:Int),(FZ k).kst (P0 t) Z0,(List.range k).map some)=some (.nx (t,((),a,b),((k+1:Nat):Int),(FZ (k+1)).kst (P0 t) Z0,(List.range (k+1)).map some)):=by
   have hl:((FZ k).kst (P0 t) Z0).length=k:=Fo.klen
   have hg:∀ e:KN,((FZ k).kst (P0 t) Z0++[e])[k]?=some e:=fun e=>by
    rw [List.getElem?_append_right (by omega),hl]; simp
   simp only [m_spec_grown_0,cond_dec,atI_nat,hv,bind_some,hl]
   rw [if_pos (by omega),appL_some (by simp; omega)]
   simp only [bind_some,hg]
   rw [appL_some (by simp; omega)]
   simp only [bind_some]
   rw [w64 (by omega) (by omega),List.set_append_right _ _ (by omega),hl]
   simp only [Nat.sub_self,List.set_cons_zero,List.nil_append]
   have e1:(FZ k).kst (P0 t) Z0++[⟨(k:Int),v,none,[],false⟩]=(FZ (k+1)).kst (P0 t) Z0:=by
    unfold Fo.kst
    rw [show (FZ k).m=k from rfl,tab_snoc]
    refine tab_ext fun i hi=>?_
    by_cases e:i=k
    ·subst e
     simp only [upd,if_true,Fo.kn1,FZ,P0,nd0,hv]
     rfl
    ·simp only [upd,if_neg e]
     rfl
   have e2:(List.range k).map some++[some k]=(List.range (k+1)).map some:=by rw [List.range_succ]; simp
   rw [e2]
   have e3:=e1
   cases v
   simp only at e3 ⊢
   rw [e3]
   rfl
  rw [loopO_nx step]
  exact ih (k+1) (by omega) (by omega)
theorem grown1i {t:List Node} (hR:RT t) (a:Int) (b:Bool) {k:Nat} (hk:k<t.length):∀ (f c:Nat) (F:Fo),F.m=t.length→k<c→c≤k+sz t k→k+sz t k≤c+f→(F.kids k).length+f≤1000 →
  loopO m_spec_grown_1_0 (t,((),a,b),(k:Int),(c:Int),F.kst (P0 t) Z0,(List.range t.length).map some)=some (t,((),a,b),(k:Int),(F.addK k (kidsF t f c (k+sz t k))).kst (P0 t) Z0,(List.range t.length).map some):=by
 have hlen:=hR.len
 have hle:=hR.le hk
 obtain ⟨v,hv,hvs,_,_⟩:=hR.lam.ok k (Nat.zero_le _) hk
 intro f
 induction f with
 | zero =>
  intro c F hm h1 h2 h3 h4
  refine loopO_out ?_
  simp only [m_spec_grown_1_0,cond_dec,atI_nat,hv,bind_some]
  rw [w64 (by omega) (by omega),if_neg (by omega),kidsF,addK_nil]
 | succ f ih =>
  intro c F hm h1 h2 h3 h4
  by_cases hc:c<k+sz t k
  ·obtain ⟨w,hw,hws,hw1,hw2⟩:=(hR.L hk).ok c (by omega) hc
   have hr:∀ i,i<t.length→((List.range t.length).map some)[i]?=some (some i):=fun i hi=>by simp [hi]
   have hgc:(F.kst (P0 t) Z0)[c]?=some (F.kn1 (P0 t) Z0 c):=Fo.kget (by omega)
   have hgk:∀ e:KN,((F.kst (P0 t) Z0).set c e)[k]?=some (F.kn1 (P0 t) Z0 k):=fun e=>by
    rw [List.getElem?_set_ne (by omega)]; exact Fo.kget (by omega)
   have step:m_spec_grown_1_0 (t,((),a,b),(k:Int),(c:Int),F.kst (P0 t) Z0,(List.range t.length).map some)=some (.nx (t,((),a,b),(k:Int),((c+sz t c:Nat):Int),(F.addK k [c]).kst (P0 t) Z0,(List.range t.length).map some)):=by
    simp only [m_spec_grown_1_0,cond_dec,atI_nat,hv,hw,bind_some,Int.toNat_natCast,hr c (by omega),hr k (by omega),hgc,hgk]
    rw [w64 (by omega) (by omega),if_pos (by omega),appL_some (by simp [Fo.kn1]; omega)]
    simp only [bind_some]
    rw [if_pos trivial,hws,w64 (by omega) (by omega)]
    have e:((F.kst (P0 t) Z0).set c ⟨(F.kn1 (P0 t) Z0 c).pl,(F.kn1 (P0 t) Z0 c).n,some k,(F.kn1 (P0 t) Z0 c).kids,false⟩).set k ((F.kn1 (P0 t) Z0 k).wk ((F.kn1 (P0 t) Z0 k).kids++[some c]))=(F.addK k [c]).kst (P0 t) Z0:=by
     unfold Fo.kst
     rw [tab_set (by omega),tab_set (by omega)]
     refine tab_ext fun i hi=>?_
     by_cases e1:i=k
     ·subst e1
      have:i≠c:=by omega
      simp [upd,Fo.kn1,Fo.addK,KN.wk,this,Z0]
     ·by_cases e2:i=c
      ·subst e2
       simp [upd,e1,Fo.kn1,Fo.addK,Z0]
      ·simp [upd,e1,e2,Fo.kn1,Fo.addK]
    have ez:∀ i,(F.kn1 (P0 t) Z0 i).z=false:=fun _=>rfl
    simp only [ez,cond_false]
    rw [e]
    rfl
   have h':=ih (c+sz t c) (F.addK k [c]) hm (by omega) (by omega) (by omega) (by simp [Fo.addK]; omega)
   rw [loopO_nx step,h',addK_cons,kidsF,if_pos hc]
  ·refine loopO_out ?_
   simp only [m_spec_grown_1_0,cond_dec,atI_nat,hv,bind_some]
   rw [w64 (by omega) (by omega),if_neg (by omega),kidsF,if_neg hc,addK_nil]
theorem grown1 {t:List Node} (hR:RT t) (a:Int) (b:Bool):∀ d k:Nat,t.length - k=d→k≤t.length →
  loopO m_spec_grown_1 (t,((),a,b),(k:Int),(GF t k).kst (P0 t) Z0,(List.range t.length).map some)=some (((),a,b),(FT t).kst (P0 t) Z0,(List.range t.length).map some):=by
 have hlen:=hR.len
 intro d
 induction d with
 | zero =>
  intro k hd hk
  obtain rfl:k=t.length:=by omega
  refine loopO_out ?_
  simp only [m_spec_grown_1,cond_dec]
  rw [if_neg (by omega)]
  have e:(GF t t.length).kst (P0 t) Z0=(FT t).kst (P0 t) Z0:=kst_ext rfl (fun i hi=>by
   have hi':i<t.length:=hi
   simp only [GF,FT,if_pos hi']
   cases h:par t i with
   | none=>rfl
   | some p=>have:=par_some h; simp only [Option.bind_some]; rw [if_pos (by omega)]) (fun i hi=>rfl)
  rw [e]
 | succ d ih =>
  intro k hd hk
  have hk':k<t.length:=by omega
  have hle:=hR.le hk'
  have h1:=hR.sz1 hk'
  have step:m_spec_grown_1 (t,((),a,b),(k:Int),(GF t k).kst (P0 t) Z0,(List.range t.length).map some)=some (.nx (t,((),a,b),((k+1:Nat):Int),(GF t (k+1)).kst (P0 t) Z0,(List.range t.length).map some)):=by
   have h:=grown1i hR a b hk' (sz t k) (k+1) (GF t k) rfl (by omega) (by omega) (by omega) (by simp [GF]; omega)
   have e:((GF t k).addK k (kidsF t (sz t k) (k+1) (k+sz t k))).kst (P0 t) Z0=(GF t (k+1)).kst (P0 t) Z0:=kst_ext rfl (fun i hi=>by
    show (if i∈kidsN t k then some k else ((par t i).bind fun p=>if p<k then some p else none))=((par t i).bind fun p=>if p<k+1 then some p else none)
    by_cases hm:i∈kidsN t k
    ·rw [if_pos hm,kids_par (hR.L hk') hm]; simp
    ·rw [if_neg hm]
     cases hp:par t i with
     | none=>rfl
     | some p =>
      have:p≠k:=fun e=>hm (kids_in (hR.L hk') (e ▸ hp))
      simp only [Option.bind_some]
      by_cases hl:p<k
      ·rw [if_pos hl,if_pos (by omega)]
      ·rw [if_neg hl,if_neg (by omega)]) (fun i hi=>by
    show (if i=k then (if k<k then kidsN t k else [])++kidsN t k else if i<k then kidsN t i else [])=if i<k+1 then kidsN t i else []
    by_cases e1:i=k
    ·subst e1; simp
    ·rw [if_neg e1]
     by_cases hl:i<k
     ·rw [if_pos hl,if_pos (by omega)]
     ·rw [if_neg hl,if_neg (by omega)])
   simp only [m_spec_grown_1,cond_dec]
   rw [if_pos (by omega),w64 (by omega) (by omega)]
   rw [show ((k:Int)+1)=((k+1:Nat):Int) by omega,h,e]
   simp only [bind_some]
   rw [w64 (by omega) (by omega)]
   rfl
  rw [loopO_nx step]
  exact ih (k+1) (by omega) (by omega)
theorem knots_eq {t:List Node} (hR:RT t):m_spec_grown (t,[])=some (((),(t.length:Int),false),(List.range t.length).map some,(FT t).kst (P0 t) Z0):=by
 simp only [m_spec_grown]
 have h0:=grown0 hR (t.length:Int) false t.length 0 (by omega) (Nat.zero_le _)
 have e0:(FZ 0).kst (P0 t) Z0=[]:=rfl
 rw [e0] at h0
 have h0':loopO m_spec_grown_0 (t,((),(t.length:Int),false),(0:Int),[],[])=_:=h0
 rw [h0',bind_some]
 have h1:=grown1 hR (t.length:Int) false t.length 0 (by omega) (Nat.zero_le _)
 have e1:(GF t 0).kst (P0 t) Z0=(FZ t.length).kst (P0 t) Z0:=kst_ext rfl (fun i hi=>by
  simp only [GF,FZ]
  cases par t i <;> rfl) (fun i hi=>rfl)
 rw [e1] at h1
 have h1':loopO m_spec_grown_1 (t,((),(t.length:Int),false),(0:Int),(FZ t.length).kst (P0 t) Z0,(List.range t.length).map some)=_:=h1
 rw [h1',bind_some]
end Go.Proofs.YtkmigbicabfodaaGreat.V
set_option linter.unusedVariables false
set_option linter.unusedSimpArgs false
namespace Go.Proofs.YtkmigbicabfodaaGreat.V
open Go
section
variable {F G:Fo} {P:Nat→Int×Node} {Z:Nat→Bool} {p c:Nat} {A B:List Nat}
theorem subL_nat2 {α:Type} (l:List α) {lo hi:Nat} (h1:lo≤hi) (h2:hi≤l.length):subL l (lo:Int) (hi:Int)=some ((l.take hi).drop lo):=by
 unfold subL
 rw [if_pos (by omega)]
 rfl
theorem subL_front {α:Type} {l:List α} {n:Nat} (hn:n≤l.length):subL l 0 (n:Int)=some (l.take n):=by
 have h:=subL_nat2 l (lo:=0) (hi:=n) (Nat.zero_le _) hn
 simpa using h
theorem place_eq (h:Sp F G p c A B) (hl:(F.kids p).length≤1000000):m_spec_knot_place (some c,F.kst P Z)=some (A.length:Int):=by
 have gc:(F.kst P Z)[c]?=some (F.kn1 P Z c):=Fo.kget h.hc
 have gp:(F.kst P Z)[p]?=some (F.kn1 P Z p):=Fo.kget h.hp
 have uc:(F.kn1 P Z c).up=some p:=h.u
 have kp:(F.kn1 P Z p).kids=(A++c::B).map some:=by show (F.kids p).map some=_; rw [h.k]
 rw [h.k] at hl
 simp only [List.length_append,List.length_cons] at hl
 have key:∀ d k:Nat,A.length - k=d→k≤A.length→loopO m_spec_knot_place_0 (some c,(k:Int),F.kst P Z)=some (.inr ((A.length:Int),F.kst P Z)):=by
  intro d
  induction d with
  | zero =>
   intro k hd hk
   obtain rfl:k=A.length:=by omega
   refine loopO_out ?_
   simp only [m_spec_knot_place_0,cond_dec,bind_some,gc,uc,gp,kp,atI_nat]
   rw [if_pos (by simp; omega)]
   simp
  | succ d ih =>
   intro k hd hk
   obtain ⟨a,ha⟩:=get_lt (l:=A) (k:=k) (by omega)
   have hg:((A++c::B).map some)[k]?=some (some a):=by
    rw [List.getElem?_map,List.getElem?_append_left (by omega),ha]; rfl
   have hne:¬ some a=some c:=fun e=>h.cA (by
    have:=List.mem_of_getElem? ha
    rwa [Option.some.inj e] at this)
   have step:m_spec_knot_place_0 (some c,(k:Int),F.kst P Z)=some (.nx (some c,((k+1:Nat):Int),F.kst P Z)):=by
    simp only [m_spec_knot_place_0,cond_dec,bind_some,gc,uc,gp,kp,atI_nat,hg]
    rw [if_pos (by simp; omega),if_neg hne,w64 (by omega) (by omega)]
    rfl
   rw [loopO_nx step]
   exact ih (k+1) (by omega) (by omega)
 have h0:loopO m_spec_knot_place_0 (some c,(0:Int),F.kst P Z)=_:=key A.length 0 (by omega) (Nat.zero_le _)
 simp only [m_spec_knot_place,bind_some,gc,uc,Option.isNone_some,cond_false,h0]
 rfl
theorem place_none (hc:c<F.m) (hu:F.up c=none):m_spec_knot_place (some c,F.kst P Z)=some (-1:Int):=by
 have gc:(F.kst P Z)[c]?=some (F.kn1 P Z c):=Fo.kget hc
 have uc:(F.kn1 P Z c).up=none:=hu
 simp only [m_spec_knot_place,bind_some,gc,uc,Option.isNone_none,cond_true]
theorem cut_none (hc:c<F.m) (hu:F.up c=none):m_spec_knot_cut (some c,F.kst P Z)=some (F.kst P Z):=by
 simp only [m_spec_knot_cut,place_none hc hu,bind_some,cond_dec]
 rw [if_pos (by omega)]
theorem cut_eq (h:Sp F G p c A B) (hl:(F.kids p).length≤1000000):m_spec_knot_cut (some c,F.kst P Z)=some (G.kst P (upd Z p false)):=by
 have gc:(F.kst P Z)[c]?=some (F.kn1 P Z c):=Fo.kget h.hc
 have gp:(F.kst P Z)[p]?=some (F.kn1 P Z p):=Fo.kget h.hp
 have uc:(F.kn1 P Z c).up=some p:=h.u
 have kp:(F.kn1 P Z p).kids=(A++c::B).map some:=by show (F.kids p).map some=_; rw [h.k]
 have hl':=hl
 rw [h.k] at hl'
 simp only [List.length_append,List.length_cons] at hl'
 have gs:∀ e:KN,((F.kst P Z).set p e)[c]?=some (F.kn1 P Z c):=fun e=>by rw [List.getElem?_set_ne h.pc]; exact gc
 have hlen:(((A++c::B).map some).length:Int)=((A.length+1+B.length:Nat):Int):=by simp; omega
 have s1:subL ((A++c::B).map some) 0 (A.length:Int)=some (A.map some):=by
  rw [subL_front (by simp)]; simp
 have s2:subL ((A++c::B).map some) ((A.length+1:Nat):Int) ((A.length+1+B.length:Nat):Int)=some (B.map some):=by
  rw [subL_nat2 _ (by omega) (by simp; omega)]
  congr 1
  rw [List.take_of_length_le (by simp; omega),← List.map_drop]
  congr 1
  rw [show A++c::B=(A++[c])++B by simp,List.drop_left' (by simp)]
 have d1:List.drop (Int.toNat 0) (List.take (Int.toNat (A.length:Int)) ((A++c::B).map some))=A.map some:=by simp
 have d2:List.drop (Int.toNat ((A.length+1:Nat):Int)) (List.take (Int.toNat ((A.length+1+B.length:Nat):Int)) ((A++c::B).map some))=B.map some:=by
  rw [Int.toNat_natCast,Int.toNat_natCast,List.take_of_length_le (by simp; omega),← List.map_drop]
  congr 1
  rw [show A++c::B=(A++[c])++B by simp,List.drop_left' (by simp)]
 simp only [m_spec_knot_cut,place_eq h hl,bind_some,cond_dec]
 rw [if_neg (by omega)]
 rw [show (A.length:Int)+1=((A.length+1:Nat):Int) by omega,w64 (by omega) (by omega)]
 simp only [bind_some,gc,uc,gp,kp,hlen,s1,s2,d1,d2,gs]
 rw [appL_some (by simp; omega)]
 simp only [bind_some]
 rw [appL_some (by simp; omega)]
 simp only [bind_some,gs]
 congr 1
 unfold Fo.kst
 rw [tab_set h.hp,tab_set h.hc]
 rw [h.g]
 refine tab_ext fun i hi=>?_
 by_cases e1:i=c
 ·subst e1
  simp [upd,Fo.kn1,Fo.setK,Ne.symm h.pc]
 ·by_cases e2:i=p
  ·subst e2
   simp [upd,e1,Fo.kn1,Fo.setK,KN.wk]
  ·simp [upd,e1,e2,Fo.kn1,Fo.setK]
end
end Go.Proofs.YtkmigbicabfodaaGreat.V
set_option linter.unusedVariables false
set_option linter.unusedSimpArgs false
namespace Go.Proofs.YtkmigbicabfodaaGreat.V
open Go
section
variable {F G H:Fo} {P:Nat→Int×Node} {Z:Nat→Bool} {p c:Nat} {A B:List Nat} {S:List KN}
theorem put_eq (hcut:m_spec_knot_cut (some c,S)=some (G.kst P Z)) (h:Sp F G p c A B) (hl:(F.kids p).length≤1000000):m_spec_knot_put (some p,(A.length:Int),some c,S)=some (F.kst P (upd Z p false)):=by
 have hm:F.m=G.m:=by rw [h.g]; rfl
 have gk:G.kids p=A++B:=by rw [h.g]; simp [Fo.setK]
 have gp:(G.kst P Z)[p]?=some (G.kn1 P Z p):=Fo.kget (hm ▸ h.hp)
 have gc:(G.kst P Z)[c]?=some (G.kn1 P Z c):=Fo.kget (hm ▸ h.hc)
 have kp:(G.kn1 P Z p).kids=(A++B).map some:=by show (G.kids p).map some=_; rw [gk]
 rw [h.k] at hl
 simp only [List.length_append,List.length_cons] at hl
 have gs:∀ e:KN,((G.kst P Z).set p e)[c]?=some (G.kn1 P Z c):=fun e=>by rw [List.getElem?_set_ne h.pc]; exact gc
 have hlen:(((A++B).map some).length:Int)=((A.length+B.length:Nat):Int):=by simp
 have s1:subL ((A++B).map some) 0 (A.length:Int)=some (A.map some):=by
  rw [subL_front (by simp)]; simp
 have s2:subL ((A++B).map some) (A.length:Int) ((A.length+B.length:Nat):Int)=some (B.map some):=by
  rw [subL_nat2 _ (by omega) (by simp)]
  congr 1
  rw [List.take_of_length_le (by simp),← List.map_drop]
  congr 1
  rw [List.drop_left' rfl]
 have d1:List.drop (Int.toNat 0) (List.take (Int.toNat (A.length:Int)) ((A++B).map some))=A.map some:=by simp
 have d2:List.drop (Int.toNat (A.length:Int)) (List.take (Int.toNat ((A.length+B.length:Nat):Int)) ((A++B).map some))=B.map some:=by
  rw [Int.toNat_natCast,Int.toNat_natCast,List.take_of_length_le (by simp),← List.map_drop]
  congr 1
  rw [List.drop_left' rfl]
 simp only [m_spec_knot_put,hcut,bind_some,gp,kp,hlen,s1,s2,d1,d2]
 rw [appL_some (by simp; omega)]
 simp only [bind_some,List.nil_append]
 rw [appL_some (by simp; omega)]
 simp only [bind_some]
 rw [appL_some (by simp; omega)]
 simp only [bind_some,gs]
 congr 1
 unfold Fo.kst
 rw [tab_set (hm ▸ h.hp),tab_set (hm ▸ h.hc),hm]
 refine tab_ext fun i hi=>?_
 rw [h.g]
 by_cases e1:i=c
 ·subst e1
  simp [upd,Fo.kn1,Fo.setK,Ne.symm h.pc,h.u]
 ·by_cases e2:i=p
  ·subst e2
   simp [upd,e1,Fo.kn1,Fo.setK,KN.wk,h.k]
  ·simp [upd,e1,e2,Fo.kn1,Fo.setK]
end
inductive Anc (F:Fo) (a:Nat):Nat→Prop
 | self:Anc F a a
 | up {p b:Nat} (h:F.up b=some p) (t:Anc F a p):Anc F a b
def Rk (F:Fo):Prop:=∃ r:Nat→Nat,∀ c p,F.up c=some p→r p<r c
theorem holds_eq {F:Fo} {P:Nat→Int×Node} {Z:Nat→Bool} (hF:F.ok) (hr:Rk F) {a b:Nat} (hb:b<F.m):∃ r,m_spec_knot_holds (some a,some b,F.kst P Z)=some r∧(r=true↔Anc F a b):=by
 obtain ⟨r,hr⟩:=hr
 have key:∀ d b:Nat,r b≤d→b<F.m→∃ y,loopO m_spec_knot_holds_0 (some a,some b,F.kst P Z)=some y∧((y = .inr (true,F.kst P Z)∧Anc F a b)∨(y = .inl (F.kst P Z)∧¬ Anc F a b)):=by
  intro d
  induction d with
  | zero =>
   intro b hd hb
   by_cases e:a=b
   ·subst e
    refine ⟨_,loopO_out ?_, .inl ⟨rfl, .self⟩⟩
    simp only [m_spec_knot_holds_0,Option.isNone_some,Bool.not_false,cond_true,decide_true]
   ·have hg:(F.kst P Z)[b]?=some (F.kn1 P Z b):=Fo.kget hb
    have hu:F.up b=none:=by
     cases h:F.up b with
     | none=>rfl
     | some p=>have:=hr b p h; omega
    have hu':(F.kn1 P Z b).up=none:=hu
    have step:m_spec_knot_holds_0 (some a,some b,F.kst P Z)=some (.nx (some a,none,F.kst P Z)):=by
     simp only [m_spec_knot_holds_0,Option.isNone_some,Bool.not_false,cond_true,cond_dec,bind_some,hg,hu']
     rw [if_neg (by intro h; exact e (Option.some.inj h).symm)]
    rw [loopO_nx step]
    refine ⟨_,loopO_out ?_, .inr ⟨rfl,fun h=>?_⟩⟩
    ·simp only [m_spec_knot_holds_0,Option.isNone_none,Bool.not_true,cond_false]
    ·cases h with
     | self=>exact e rfl
     | up h _=>rw [hu] at h; cases h
  | succ d ih =>
   intro b hd hb
   by_cases e:a=b
   ·subst e
    refine ⟨_,loopO_out ?_, .inl ⟨rfl, .self⟩⟩
    simp only [m_spec_knot_holds_0,Option.isNone_some,Bool.not_false,cond_true,decide_true]
   ·have hg:(F.kst P Z)[b]?=some (F.kn1 P Z b):=Fo.kget hb
    have hu':(F.kn1 P Z b).up=F.up b:=rfl
    have step:m_spec_knot_holds_0 (some a,some b,F.kst P Z)=some (.nx (some a,F.up b,F.kst P Z)):=by
     simp only [m_spec_knot_holds_0,Option.isNone_some,Bool.not_false,cond_true,cond_dec,bind_some,hg,hu']
     rw [if_neg (by intro h; exact e (Option.some.inj h).symm)]
    rw [loopO_nx step]
    cases hu:F.up b with
    | none =>
     refine ⟨_,loopO_out ?_, .inr ⟨rfl,fun h=>?_⟩⟩
     ·simp only [m_spec_knot_holds_0,Option.isNone_none,Bool.not_true,cond_false]
     ·cases h with
      | self=>exact e rfl
      | up h _=>rw [hu] at h; cases h
    | some p =>
     have h1:=hr b p hu
     obtain ⟨y,hy,hh⟩:=ih p (by omega) (hF.up hu).1
     refine ⟨y,hy,?_⟩
     rcases hh with ⟨h2,h3⟩ | ⟨h2,h3⟩
     ·exact .inl ⟨h2, .up hu h3⟩
     ·refine .inr ⟨h2,fun h=>?_⟩
      cases h with
      | self=>exact e rfl
      | up h t =>
       rw [hu] at h
       cases h
       exact h3 t
 obtain ⟨y,hy,hh⟩:=key (r b) b (Nat.le_refl _) hb
 simp only [m_spec_knot_holds,hy,bind_some]
 rcases hh with ⟨h2,h3⟩ | ⟨h2,h3⟩
 ·rw [h2]; exact ⟨true,rfl,by simp [h3]⟩
 ·rw [h2]; exact ⟨false,rfl,by simp [h3]⟩
end Go.Proofs.YtkmigbicabfodaaGreat.V
set_option linter.unusedVariables false
set_option linter.unusedSimpArgs false
namespace Go.Proofs.YtkmigbicabfodaaGreat.V
open Go
def Fo.off (F:Fo) (l:List Nat):Fo:=⟨F.m,fun i=>if i∈l then none else F.up i,fun i=>(F.kids i).filter fun j=>decide (j∉l)⟩
def Fo.hang (F:Fo) (p:Nat) (A l B:List Nat):Fo:=⟨F.m,fun i=>if i∈l then some p else F.up i,fun i=>if i=p then A++l++B else F.kids i⟩
section
variable {F G H:Fo} {P:Nat→Int×Node} {p c:Nat} {A B l m:List Nat} {S:List KN}
theorem Fo.ext (h:F.m=G.m) (h1:∀ i,F.up i=G.up i) (h2:∀ i,F.kids i=G.kids i):F=G:=by
 obtain ⟨a,b,c⟩:=F
 obtain ⟨a',b',c'⟩:=G
 simp only at h h1 h2
 obtain rfl:=h
 obtain rfl:b=b':=funext h1
 obtain rfl:c=c':=funext h2
 rfl
theorem off_nil:F.off []=F:=Fo.ext rfl (fun i=>by simp [Fo.off]) (fun i=>by simp [Fo.off])
theorem off_off:(F.off l).off m=F.off (l++m):=Fo.ext rfl (fun i=>by
  simp only [Fo.off,List.mem_append]
  by_cases h:i∈m <;> by_cases h':i∈l <;> simp [h,h']) (fun i=>by
  simp only [Fo.off,List.filter_filter]
  congr 1
  funext j
  by_cases h:j∈m <;> by_cases h':j∈l <;> simp [h,h'])
theorem off_ok (h:F.ok):(F.off l).ok:=by
 refine ⟨fun {p c} hc=>?_,fun {c p} hu=>?_,fun p=>?_,fun c=>?_⟩
 ·simp only [Fo.off,List.mem_filter,decide_eq_true_eq] at hc ⊢
  rw [if_neg hc.2]
  exact h.kid hc.1
 ·simp only [Fo.off] at hu ⊢
  by_cases hc:c∈l
  ·rw [if_pos hc] at hu; cases hu
  ·rw [if_neg hc] at hu
   have:=h.up hu
   exact ⟨this.1,by simp [this.2,hc]⟩
 ·exact (h.nd p).filter _
 ·simp only [Fo.off]
  by_cases hc:c∈l
  ·rw [if_pos hc]; intro e; cases e
  ·rw [if_neg hc]; exact h.irr c
theorem off_none (h:F.ok) (hu:F.up c=none):F.off [c]=F:=Fo.ext rfl (fun i=>by
  simp only [Fo.off,List.mem_singleton]
  by_cases e:i=c
  ·rw [if_pos e,e,hu]
  ·rw [if_neg e]) (fun i=>by
  simp only [Fo.off,List.mem_singleton]
  refine List.filter_eq_self.2 fun j hj=>?_
  have:j≠c:=fun e=>by
   subst e
   have:=(h.kid hj).1
   rw [hu] at this; cases this
  simpa using this)
theorem off_sp (h:Sp F G p c A B):G=F.off [c]:=by
 rw [h.g]
 refine Fo.ext rfl (fun i=>?_) (fun i=>?_)
 ·simp [Fo.off,Fo.setK]
 ·simp only [Fo.off,Fo.setK,List.mem_singleton]
  by_cases e:i=p
  ·subst e
   rw [if_pos rfl,h.k,List.filter_append,List.filter_cons_of_neg (by simp)]
   rw [List.filter_eq_self.2 (fun j hj=>by
    have:j≠c:=fun e=>h.cA (e ▸ hj)
    simpa using this),List.filter_eq_self.2 (fun j hj=>by
    have:j≠c:=fun e=>h.cB (e ▸ hj)
    simpa using this)]
  ·rw [if_neg e]
   refine (List.filter_eq_self.2 fun j hj=>?_).symm
   have:j≠c:=fun e2=>by
    subst e2
    have h2:=(h.okF.kid hj).1
    rw [h.u] at h2
    exact e (Option.some.inj h2).symm
   simpa using this
theorem sp_of (hF:F.ok) (hu:F.up c=some p):∃ A B,Sp F (F.off [c]) p c A B:=by
 have h1:=hF.up hu
 obtain ⟨A,B,hk⟩:=List.append_of_mem h1.2
 have h:Sp F (F.setK p (A++B) c none) p c A B:=⟨hF,h1.1,(hF.kid h1.2).2,hu,hk,rfl⟩
 have e:=off_sp h
 rw [e] at h
 exact ⟨A,B,h⟩
theorem cut_off {Z:Nat→Bool} (hF:F.ok) (hc:c<F.m) (hl:∀ i,(F.kids i).length≤1000000):∃ Z',m_spec_knot_cut (some c,F.kst P Z)=some ((F.off [c]).kst P Z'):=by
 cases hu:F.up c with
 | none=>exact ⟨Z,by rw [cut_none hc hu,off_none hF hu]⟩
 | some p =>
  obtain ⟨A,B,h⟩:=sp_of hF hu
  exact ⟨_,cut_eq h (hl p)⟩
theorem hang_nil (hk:F.kids p=A++B):F.hang p A [] B=F:=Fo.ext rfl (fun i=>by simp [Fo.hang]) (fun i=>by
 simp only [Fo.hang,List.append_nil]
 by_cases e:i=p
 ·rw [if_pos e,e,hk]
 ·rw [if_neg e])
theorem hang_sp (hG:(F.hang p A l B).ok) (hp:p<F.m) (hc:c<F.m) (hu:F.up c=none) (hpc:p≠c) (hcl:c∉l):Sp (F.hang p A (l++[c]) B) (F.hang p A l B) p c (A++l) B:=by
 have h:=Sp.ins (A:=A++l) (B:=B) hG hp hc (show (if c∈l then some p else F.up c)=none by rw [if_neg hcl,hu]) hpc (show (if p=p then A++l++B else F.kids p)=_ by rw [if_pos rfl])
 have e:(F.hang p A l B).setK p (A++l++c::B) c (some p)=F.hang p A (l++[c]) B:=Fo.ext rfl (fun i=>by
  simp only [Fo.setK,Fo.hang,List.mem_append,List.mem_singleton]
  by_cases e:i=c <;> by_cases e2:i∈l <;> simp [e,e2]) (fun i=>by
  simp only [Fo.setK,Fo.hang]
  by_cases e:i=p <;> simp [e])
 rw [e] at h
 exact h
theorem hang_ok (hF:F.ok) (hp:p<F.m) (hk:F.kids p=A++B):∀ l:List Nat,(∀ c∈l,c<F.m∧F.up c=none∧p≠c)→l.Nodup→(F.hang p A l B).ok:=by
 intro l
 induction hn:l.length generalizing l with
 | zero =>
  intro _ _
  obtain rfl:=List.length_eq_zero_iff.1 hn
  rw [hang_nil hk]; exact hF
 | succ n ih =>
  intro h1 h2
  obtain ⟨l',c,rfl⟩:∃ l' c,l=l'++[c]:=by
   have hne:l≠[]:=fun e=>by subst e; simp at hn
   exact ⟨l.dropLast,l.getLast hne,(List.dropLast_concat_getLast hne).symm⟩
  have hn':l'.length=n:=by simp at hn; omega
  rw [List.nodup_append] at h2
  obtain ⟨hc1,hc2,hc3⟩:=h1 c (by simp)
  exact (hang_sp (ih l' hn' (fun d hd=>h1 d (by simp [hd])) h2.1) hp hc1 hc2 hc3 (fun hcl=>h2.2.2 c hcl c (by simp) rfl)).okF
end
end Go.Proofs.YtkmigbicabfodaaGreat.V
set_option linter.unusedVariables false
set_option linter.unusedSimpArgs false
namespace Go.Proofs.YtkmigbicabfodaaGreat.V
open Go
theorem F2.mem_l {α β:Type} {R:α→β→Prop}:∀ {l:List α} {m:List β} {a:α},F2 R l m→a∈l→∃ b∈m,R a b
 | _,_,_, .cons h t,ha=>by
  rcases List.mem_cons.1 ha with rfl | ha
  ·exact ⟨_,by simp,h⟩
  ·obtain ⟨b,hb,hr⟩:=F2.mem_l t ha
   exact ⟨b,by simp [hb],hr⟩
theorem F2.refl {α:Type} {R:α→α→Prop}:∀ {l:List α},(∀ a∈l,R a a)→F2 R l l
 | [],_ => .nil
 | a::l,h => .cons (h a (by simp)) (F2.refl fun b hb=>h b (by simp [hb]))
def CpR (F:Fo) (R:Nat→Nat→Prop) (K:Nat→List Nat) (lo hi:Nat):Nat→Nat→Nat→Prop
 | 0,_,_=>False
 | n+1,c,x=>(lo≤c∧c<hi)∧R c x∧F2 (CpR F R K lo hi n) (F.kids c) (K x)
theorem CpR.mono {F G:Fo} {R S:Nat→Nat→Prop} {K K':Nat→List Nat} {lo hi lo' hi':Nat} {Q:Nat→Prop} (hlo:lo'≤lo) (hhi:hi≤hi') (hk:∀ i,lo≤i→i<hi→G.kids i=F.kids i) (hr:∀ i y,lo≤i→i<hi→Q y→R i y→S i y) (hK:∀ y,Q y→K' y=K y) (hQ:∀ y,Q y→∀ z∈K y,Q z):∀ {n c x:Nat},Q x→CpR F R K lo hi n c x→CpR G S K' lo' hi' n c x
 | 0,_,_,_,h=>h
 | n+1,c,x,hx,⟨⟨h1,h2⟩,h3,h4⟩=>by
  refine ⟨⟨by omega,by omega⟩,hr c x h1 h2 hx h3,?_⟩
  rw [hk c h1 h2,hK x hx]
  exact h4.imp fun a b _ hb h=>CpR.mono hlo hhi hk hr hK hQ (hQ x hx b hb) h
theorem cpR_of {F:Fo} {L:Nat→HN} {K:Nat→List Nat} {B:Nat→HN} {lo hi:Nat}:∀ {n c x:Nat},Cp F L K B lo hi n c x→CpR F (fun c x=>cpl (L c) (B x)) K lo hi n c x
 | 0,_,_,h=>h
 | n+1,c,x,⟨h1,h3,h4⟩=>⟨h1,h3,h4.imp fun a b _ _ h=>cpR_of h⟩
structure ExS (F:Fo) (P:Nat→Int×Node) (G:Fo) (P':Nat→Int×Node):Prop where
 ok:G.ok
 m:F.m≤G.m
 old:∀ i,i<F.m→G.up i=F.up i∧G.kids i=F.kids i∧P' i=P i
 inc:∀ i,F.m≤i→∀ y∈G.kids i,i<y
 neg:∀ i,F.m≤i→i<G.m→(P' i).1 = -1
theorem ExS.trans {F G H:Fo} {P P' P'':Nat→Int×Node} (h:ExS F P G P') (h':ExS G P' H P''):ExS F P H P'':=by
 refine ⟨h'.ok,Nat.le_trans h.m h'.m,fun i hi=>?_,fun i h1 y hy=>?_,fun i h1 h2=>?_⟩
 ·obtain ⟨a,b,c⟩:=h.old i hi
  obtain ⟨a',b',c'⟩:=h'.old i (Nat.lt_of_lt_of_le hi h.m)
  exact ⟨a'.trans a,b'.trans b,c'.trans c⟩
 ·by_cases e:i<G.m
  ·rw [(h'.old i e).2.1] at hy; exact h.inc i h1 y hy
  ·exact h'.inc i (by omega) y hy
 ·by_cases e:i<G.m
  ·rw [(h'.old i e).2.2]; exact h.neg i h1 e
  ·exact h'.neg i (by omega) h2
theorem Fo.add_kst {F:Fo} {P:Nat→Int×Node} {Z:Nat→Bool} {b:Int×Node}:F.kst P Z++[⟨b.1,b.2,none,[],false⟩]=F.add.kst (upd P F.m b) (upd Z F.m false):=by
 unfold Fo.kst
 rw [tab_snoc]
 refine tab_ext fun j hj=>?_
 by_cases e:j=F.m
 ·subst e
  rw [upd_same]
  simp [Fo.kn1,Fo.add,upd_same]
 ·rw [upd_ne e]
  simp [Fo.kn1,Fo.add,e,upd_ne e]
theorem kst_setK {G:Fo} {P:Nat→Int×Node} {Z:Nat→Bool} {c k:Nat} (hc:c<G.m) (hk:k<G.m) (hck:c≠k) (hz:Z c=false) :
  ((G.kst P Z).set k ⟨(P k).1,(P k).2,some c,(G.kids k).map some,Z k⟩).set c ⟨(P c).1,(P c).2,G.up c,(G.kids c).map some++[some k],false⟩=(G.setK c (G.kids c++[k]) k (some c)).kst P Z:=by
 unfold Fo.kst
 rw [tab_set hk,tab_set hc]
 refine tab_ext fun i hi=>?_
 by_cases e1:i=c
 ·subst e1
  simp [upd,Fo.kn1,Fo.setK,hck,hz]
 ·by_cases e2:i=k
  ·subst e2
   simp [upd,e1,Fo.kn1,Fo.setK]
  ·simp [upd,e1,e2,Fo.kn1,Fo.setK]
section
variable {K:Nat→List Nat} {B:Nat→Node} {Q:Nat→Prop} {m0:Nat}
abbrev RcS (P:Nat→Int×Node) (B:Nat→Node) (c y:Nat):Prop:=P c=(-1,B y)
theorem ids_cpR {G G':Fo} {R:Nat→Nat→Prop} {K:Nat→List Nat} {lo hi:Nat} (h:∀ i,lo≤i→i<hi→G'.kids i=G.kids i):∀ {n c x:Nat},CpR G R K lo hi n c x→idsF G'.kids n c=idsF G.kids n c
 | 0,_,_,_=>rfl
 | n+1,c,x,⟨⟨h1,h2⟩,_,h4⟩=>by
  have key:∀ {l m:List Nat},F2 (CpR G R K lo hi n) l m→l.flatMap (idsF G'.kids n)=l.flatMap (idsF G.kids n):=by
   intro l m hl
   induction hl with
   | nil=>rfl
   | cons h1 t ih=>rw [List.flatMap_cons,List.flatMap_cons,ih,ids_cpR h h1]
  simp only [idsF,h c h1 h2,key h4]
theorem flat_cpR {G G':Fo} {R:Nat→Nat→Prop} {K:Nat→List Nat} {lo hi n:Nat} (h:∀ i,lo≤i→i<hi→G'.kids i=G.kids i) {l m:List Nat} (hl:F2 (CpR G R K lo hi n) l m):l.flatMap (idsF G'.kids n)=l.flatMap (idsF G.kids n):=by
 induction hl with
 | nil=>rfl
 | cons h1 t ih=>rw [List.flatMap_cons,List.flatMap_cons,ih,ids_cpR h h1]
structure CoI (K:Nat→List Nat) (B:Nat→Node) (F:Fo) (P:Nat→Int×Node) (Z:Nat→Bool) (a:Int) (ob:Bool) (n x j:Nat) (G:Fo) (P':Nat→Int×Node) (Z':Nat→Bool) (a':Int) (ob':Bool):Prop where
 ext:ExS F P G P'
 zo:∀ i,i<F.m→Z' i=Z i
 zn:∀ i,F.m≤i→i<G.m→Z' i=false
 m:(G.m:Int)=F.m+(a' - a)
 up:G.up F.m=none
 len:(G.kids F.m).length=j
 lab:P' F.m=(-1,B x)
 lo:a+1≤a'
 hi:a'≤a+1+(((K x).take j).map (szK K n)).sum
 mono:ob=true→ob'=true
 lim:(600<a→ob=true)→600<a'→ob'=true
 cp:ob'=false→F2 (CpR G (RcS P' B) K (F.m+1) G.m n) (G.kids F.m) ((K x).take j)∧a'=a+1+(((K x).take j).map (szK K n)).sum∧(G.kids F.m).flatMap (idsF G.kids n)=List.range' (F.m+1) (((K x).take j).map (szK K n)).sum
def Cod (K:Nat→List Nat) (B:Nat→Node) (F:Fo) (P:Nat→Int×Node) (Z:Nat→Bool) (a:Int) (ob:Bool) (ks:List (Option Nat)) (n x:Nat) (o:Option (Option Nat×(PUnit×Int×Bool)×List (Option Nat)×List KN)):Prop :=
 ∃ G P' Z' a' ob',o=some (some F.m,((),a',ob'),ks,G.kst P' Z')∧ExS F P G P'∧(∀ i,i<F.m→Z' i=Z i)∧(∀ i,F.m≤i→i<G.m→Z' i=false)∧G.up F.m=none∧(G.m:Int)=F.m+(a' - a)∧a+1≤a'∧a'≤a+szK K n x∧(ob=true→ob'=true)∧((600<a→ob=true)→600<a'→ob'=true) ∧
  (ob'=false→CpR G (RcS P' B) K F.m G.m n F.m x∧a'=a+szK K n x∧idsF G.kids n F.m=List.range' F.m (szK K n x))
theorem szK_le {K:Nat→List Nat} {n x j:Nat}:(((K x).take j).map (szK K n)).sum≤((K x).map (szK K n)).sum:=by
 conv=>rhs; rw [← List.take_append_drop j (K x)]
 rw [List.map_append,List.sum_append]
 omega
theorem copied_loop {n x:Nat} {ks:List (Option Nat)} (hx:Q x) (hQ:∀ y,Q y→∀ z∈K y,Q z) (hm0:∀ y,Q y→y<m0) (hKl:∀ y,Q y→(K y).length≤1000000)
  (ih:∀ y∈K x,∀ (F:Fo) (P:Nat→Int×Node) (Z:Nat→Bool) (a:Int) (ob:Bool),F.ok→m0≤F.m→(∀ y,Q y→F.kids y=K y∧(P y).2=B y)→0≤a→a+szK K n y≤1000000000→Cod K B F P Z a ob ks n y (m_spec_forest_copied n (((),a,ob),some y,ks,F.kst P Z)))
  {F:Fo} {P:Nat→Int×Node} {Z:Nat→Bool} {a:Int} {ob:Bool} (hm:m0≤F.m) (hs:∀ y,Q y→F.kids y=K y∧(P y).2=B y) (ha:0≤a) (hal:a+1+((K x).map (szK K n)).sum≤1000000000) :
  ∀ (d j:Nat) (G:Fo) (P':Nat→Int×Node) (Z':Nat→Bool) (a':Int) (ob':Bool),(K x).length - j=d→j≤(K x).length→CoI K B F P Z a ob n x j G P' Z' a' ob' →
   ∃ H P'' Z'' a'' ob'',loopO (m_spec_forest_copied_0 (m_spec_forest_copied n)) (((),a',ob'),some x,some F.m,(j:Int),G.kst P' Z',ks)=some (((),a'',ob''),some F.m,H.kst P'' Z'',ks)∧CoI K B F P Z a ob n x (K x).length H P'' Z'' a'' ob'':=by
 have hxm:=hm0 x hx
 have hkl:=hKl x hx
 intro d
 induction d with
 | zero =>
  intro j G P' Z' a' ob' hd hj hI
  obtain rfl:j=(K x).length:=by omega
  have hxG:x<G.m:=by have:=hI.ext.m; omega
  have hg:=Fo.kget (F:=G) (P:=P') (Z:=Z') hxG
  have hk:(G.kn1 P' Z' x).kids=(K x).map some:=by
   show (G.kids x).map some=_
   rw [(hI.ext.old x (by omega)).2.1,(hs x hx).1]
  refine ⟨G,P',Z',a',ob',loopO_out ?_,hI⟩
  simp only [m_spec_forest_copied_0,bind_some,hg,hk,cond_dec,List.length_map]
  rw [if_neg (by omega)]
 | succ d ihd =>
  intro j G P' Z' a' ob' hd hj hI
  obtain ⟨y,hy⟩:=get_lt (l:=K x) (k:=j) (by omega)
  have hym:=List.mem_of_getElem? hy
  have hsum:=szK_le (K:=K) (n:=n) (x:=x) (j:=j+1)
  have e1:(K x).take (j+1)=(K x).take j++[y]:=by rw [List.take_add_one,hy]; rfl
  rw [e1,List.map_append,List.sum_append] at hsum
  simp only [List.map_cons,List.map_nil,List.sum_cons,List.sum_nil] at hsum
  have hhi:=hI.hi
  have hlo:=hI.lo
  have hGm:=hI.m
  have hext:=hI.ext.m
  obtain ⟨G1,P1,Z1,a1,ob1,q1,q2,qz,qn,q3,q4,q5,q6,q7,q8,q9⟩:=ih y hym G P' Z' a' ob' hI.ext.ok (by omega) (fun z hz=>by
   obtain ⟨b1,b2,b3⟩:=hI.ext.old z (by have:=hm0 z hz; omega)
   rw [b2,b3]; exact hs z hz) (by omega) (by omega)
  have hxG:x<G.m:=by omega
  have hg:=Fo.kget (F:=G) (P:=P') (Z:=Z') hxG
  have hk:(G.kn1 P' Z' x).kids=(K x).map some:=by
   show (G.kids x).map some=_
   rw [(hI.ext.old x (by omega)).2.1,(hs x hx).1]
  have hky:((K x).map some)[j]?=some (some y):=by rw [List.getElem?_map,hy]; rfl
  have hc:F.m<G.m:=by omega
  have hck:F.m≠G.m:=by omega
  have g1:=Fo.kget (F:=G1) (P:=P1) (Z:=Z1) (i:=G.m) (by omega)
  have hzc:Z1 F.m=false:=(qz F.m hc).trans (hI.zn F.m (Nat.le_refl _) hc)
  have g2:((G1.kst P1 Z1).set G.m ⟨(P1 G.m).1,(P1 G.m).2,some F.m,(G1.kids G.m).map some,Z1 G.m⟩)[F.m]?=some (G1.kn1 P1 Z1 F.m):=by
   rw [List.getElem?_set_ne (Ne.symm hck)]
   exact Fo.kget (by omega)
  have hkc:G1.kids F.m=G.kids F.m:=(q2.old F.m hc).2.1
  have hset:=kst_setK (G:=G1) (P:=P1) (Z:=Z1) (c:=F.m) (k:=G.m) (by omega) (by omega) hck hzc
  have hlen:=hI.len
  have step:m_spec_forest_copied_0 (m_spec_forest_copied n) (((),a',ob'),some x,some F.m,(j:Int),G.kst P' Z',ks)=some (.nx (((),a1,ob1),some x,some F.m,((j+1:Nat):Int),(G1.setK F.m (G1.kids F.m++[G.m]) G.m (some F.m)).kst P1 Z1,ks)):=by
   simp only [m_spec_forest_copied_0,bind_some,hg,hk,cond_dec,List.length_map,atI_nat,Int.toNat_natCast,hky,q1,g1]
   rw [if_pos (by omega)]
   have e2:({ pl:=(G1.kn1 P1 Z1 G.m).pl,n:=(G1.kn1 P1 Z1 G.m).n,up:=some F.m,kids:=(G1.kn1 P1 Z1 G.m).kids,z:=(G1.kn1 P1 Z1 G.m).z }:KN)=⟨(P1 G.m).1,(P1 G.m).2,some F.m,(G1.kids G.m).map some,Z1 G.m⟩:=rfl
   have ez:(G1.kn1 P1 Z1 F.m).z=false:=hzc
   simp only [e2,g2,bind_some,ez,cond_false]
   have hkk:(G1.kn1 P1 Z1 F.m).kids=(G1.kids F.m).map some:=rfl
   rw [hkk,appL_some (by rw [hkc]; simp; omega),bind_some]
   simp only [if_true]
   have e3:KN.wk (G1.kn1 P1 Z1 F.m) ((G1.kids F.m).map some++[some G.m])=⟨(P1 F.m).1,(P1 F.m).2,G1.up F.m,(G1.kids F.m).map some++[some G.m],false⟩:=rfl
   rw [e3,hset,w64 (by omega) (by omega)]
   rfl
  rw [loopO_nx step]
  have hsp:=Sp.ins (A:=G1.kids F.m) (B:=[]) q2.ok (p:=F.m) (c:=G.m) (by omega) (by omega) q3 hck (by simp)
  have hok:=hsp.okF
  refine ihd (j+1) _ P1 Z1 a1 ob1 (by omega) (by omega) ⟨⟨hok,by show F.m≤G1.m; omega,fun i hi=>?_,fun i h1 z hz=>?_,fun i h1 h2=>?_⟩,fun i hi=>(qz i (by omega)).trans (hI.zo i hi),fun i h1 (h2:i<G1.m)=>?_,?_,?_,?_,?_,?_,?_,?_,?_,fun h=>?_⟩
  ·have b1:i≠F.m:=by omega
   have b2:i≠G.m:=by omega
   obtain ⟨c1,c2,c3⟩:=q2.old i (by omega)
   obtain ⟨d1,d2,d3⟩:=hI.ext.old i hi
   simp only [Fo.setK,if_neg b1,if_neg b2]
   exact ⟨c1.trans d1,c2.trans d2,c3.trans d3⟩
  ·simp only [Fo.setK] at hz
   by_cases e:i=F.m
   ·rw [if_pos e] at hz
    rcases List.mem_append.1 hz with hz | hz
    ·rw [hkc] at hz
     have:=hI.ext.inc F.m (Nat.le_refl _) z hz
     omega
    ·have:=List.mem_singleton.1 hz
     omega
   ·rw [if_neg e] at hz
    by_cases e2:i<G.m
    ·rw [(q2.old i e2).2.1] at hz; exact hI.ext.inc i h1 z hz
    ·exact q2.inc i (by omega) z hz
  ·by_cases e2:i<G.m
   ·rw [(q2.old i e2).2.2]; exact hI.ext.neg i h1 e2
   ·exact q2.neg i (by omega) h2
  ·by_cases e:i<G.m
   ·exact (qz i e).trans (hI.zn i h1 e)
   ·exact qn i (by omega) h2
  ·show (G1.m:Int)=_
   omega
  ·simp only [Fo.setK,if_neg hck]
   rw [(q2.old F.m hc).1]; exact hI.up
  ·simp only [Fo.setK,if_true,hkc,List.length_append,List.length_singleton,hlen]
  ·rw [(q2.old F.m hc).2.2]; exact hI.lab
  ·omega
  ·rw [e1,List.map_append,List.sum_append]
   simp only [List.map_cons,List.map_nil,List.sum_cons,List.sum_nil]
   omega
  ·exact fun h=>q7 (hI.mono h)
  ·exact fun h h2=>q8 (hI.lim h) h2
  ·have hob':ob'=false:=by
    cases ob' with
    | false=>rfl
    | true=>rw [q7 rfl] at h; cases h
   obtain ⟨k1,k2,k5⟩:=hI.cp hob'
   obtain ⟨k3,k4,k6⟩:=q9 h
   have n1:∀ i,F.m+1≤i→i<G1.m→(G1.setK F.m (G1.kids F.m++[G.m]) G.m (some F.m)).kids i=G1.kids i:=fun i h1 _=>by
    have b1:i≠F.m:=by omega
    simp only [Fo.setK,if_neg b1]
   have n2:∀ i,F.m+1≤i→i<G.m→(G1.setK F.m (G1.kids F.m++[G.m]) G.m (some F.m)).kids i=G.kids i:=fun i h1 h2=>by
    rw [n1 i h1 (by omega)]; exact (q2.old i h2).2.1
   simp only [Fo.setK,if_true,hkc]
   refine ⟨?_,?_,?_⟩
   ·rw [e1]
    refine (k1.imp fun c z _ _ hcz=>CpR.mono (Q:=fun _=>True) (Nat.le_refl _) (by show G.m≤G1.m; omega) (fun i h1 h2=>?_) (fun i z h1 h2 _ hr=>?_) (fun _ _=>rfl) (fun _ _ _ _=>trivial) trivial hcz).append (.cons (CpR.mono (Q:=fun _=>True) (by omega) (Nat.le_refl _) (fun i h1 h2=>?_) (fun i z h1 h2 _ hr=>hr) (fun _ _=>rfl) (fun _ _ _ _=>trivial) trivial k3) .nil)
    ·have b1:i≠F.m:=by omega
     simp only [if_neg b1]
     exact (q2.old i h2).2.1
    ·show P1 i=_
     rw [(q2.old i h2).2.2]; exact hr
    ·have b1:i≠F.m:=by omega
     simp only [if_neg b1]
   ·rw [e1,List.map_append,List.sum_append]
    simp only [List.map_cons,List.map_nil,List.sum_cons,List.sum_nil]
    omega
   ·rw [e1,List.map_append,List.sum_append,List.flatMap_append]
    simp only [List.map_cons,List.map_nil,List.sum_cons,List.sum_nil,List.flatMap_cons,List.flatMap_nil,List.append_nil]
    have m1:=flat_cpR n2 k1
    have m2:=ids_cpR (fun i (h1:G.m≤i) h2=>n1 i (by omega) h2) k3
    simp only [Fo.setK,hkc] at m1 m2
    rw [m1,m2,k5,k6,Nat.add_zero,List.range'_append_1.symm]
    congr 2
    omega
theorem copied_eq {ks:List (Option Nat)} (hQ:∀ y,Q y→∀ z∈K y,Q z) (hm0:∀ y,Q y→y<m0) (hKl:∀ y,Q y→(K y).length≤1000000) (hB:∀ y,Q y→(B y).attrs.length≤1000000) :
  ∀ (n x:Nat) (F:Fo) (P:Nat→Int×Node) (Z:Nat→Bool) (a:Int) (ob:Bool),Q x→Ht K n x→F.ok→m0≤F.m→(∀ y,Q y→F.kids y=K y∧(P y).2=B y)→0≤a→a+szK K n x≤1000000000→Cod K B F P Z a ob ks n x (m_spec_forest_copied n (((),a,ob),some x,ks,F.kst P Z))
 | 0,_,_,_,_,_,_,_,h,_,_,_,_,_=>h.elim
 | n+1,x,F,P,Z,a,ob,hx,hh,hF,hm,hs,ha,hal=>by
  have hxm:=hm0 x hx
  have hg:=Fo.kget (F:=F) (P:=P) (Z:=Z) (i:=x) (by omega)
  have hn:(F.kn1 P Z x).n=B x:=(hs x hx).2
  have hlen:(F.kst P Z).length=F.m:=tab_len
  have hadd:=Fo.add_kst (F:=F) (P:=P) (Z:=Z) (b:=(-1,B x))
  have hzo:∀ i,i<F.m→(upd Z F.m false) i=Z i:=fun i hi=>upd_ne (by omega)
  have hzn:∀ i,F.m≤i→i<F.add.m→(upd Z F.m false) i=false:=fun i h1 (h2:i<F.m+1)=>by
   have e:i=F.m:=by omega
   rw [e,upd_same]
  simp only [szK] at hal
  have hEx:ExS F P F.add (upd P F.m (-1,B x)):=by
   refine ⟨hF.add,by show F.m≤F.m+1; omega,fun i hi=>?_,fun i h1 y hy=>?_,fun i h1 (h2:i<F.m+1)=>?_⟩
   ·have e:i≠F.m:=by omega
    simp only [Fo.add,if_neg e,upd_ne e]
    exact ⟨trivial,trivial,trivial⟩
   ·simp only [Fo.add] at hy
    by_cases e:i=F.m
    ·rw [if_pos e] at hy; cases hy
    ·rw [if_neg e] at hy
     have:=hF.up (hF.kid hy).1
     omega
   ·have e:i=F.m:=by omega
    rw [e,upd_same]
  show Cod K B F P Z a ob ks (n+1) x (b_spec_forest_copied (m_spec_forest_copied n) (((),a,ob),some x,ks,F.kst P Z))
  simp only [b_spec_forest_copied,cond_dec]
  rw [w64 (n:=a+1) (by omega) (by omega)]
  by_cases h6:600<a+1
  ·rw [if_pos h6]
   simp only [bind_some,hg,hn,hlen]
   rw [hadd]
   refine ⟨F.add,upd P F.m (-1,B x),upd Z F.m false,a+1,true,rfl,hEx,hzo,hzn,by simp [Fo.add],by show ((F.m+1:Nat):Int)=_; omega,by omega,by simp only [szK]; omega,fun _=>rfl,fun _ _=>rfl,fun h=>by cases h⟩
  ·rw [if_neg h6]
   have hgx:(F.kst P Z++[⟨-1,B x,none,[],false⟩])[x]?=some (F.kn1 P Z x):=by rw [List.getElem?_append_left (by omega),hg]
   have hgm:(F.kst P Z++[⟨-1,B x,none,[],false⟩])[F.m]?=some ⟨-1,B x,none,[],false⟩:=by rw [List.getElem?_append_right (by omega),hlen]; simp
   have hsetm:(F.add.kst (upd P F.m (-1,B x)) (upd Z F.m false)).set F.m ({ pl := -1,n:={ kind:=(B x).kind,tag:=(B x).tag,text:=(B x).text,attrs:=(B x).attrs,size:=(B x).size },up:=none,kids:=[],z:=false }:KN)=F.add.kst (upd P F.m (-1,B x)) (upd Z F.m false):=by
    show (F.add.kst (upd P F.m (-1,B x)) (upd Z F.m false)).set F.m (⟨-1,B x,none,[],false⟩:KN)=_
    rw [← hadd,List.set_append_right _ _ (by omega),hlen]
    simp
   have hI:CoI K B F P Z a ob n x 0 F.add (upd P F.m (-1,B x)) (upd Z F.m false) (a+1) ob:=by
    refine ⟨hEx,hzo,hzn,by show ((F.m+1:Nat):Int)=_; omega,by simp [Fo.add],by simp [Fo.add],upd_same,by omega,by simp,id,fun h h2=>?_,fun h=>⟨by simp only [Fo.add,if_true,List.take_zero]; exact .nil,by simp,by simp [Fo.add]⟩⟩
    omega
   obtain ⟨H,P'',Z'',a'',ob'',l1,l2⟩:=copied_loop (ks:=ks) hx hQ hm0 hKl (fun y hy F' P' Z' a' ob' b1 b2 b3 b4 b5=>copied_eq hQ hm0 hKl hB n y F' P' Z' a' ob' (hQ x hx y hy) (hh y hy) b1 b2 b3 b4 b5) hm hs ha (by omega) _ 0 _ _ _ _ _ rfl (Nat.zero_le _) hI
   simp only [bind_some,hg,hn,hlen,hgx]
   rw [appL_some (by have:=hB x hx; simp; omega)]
   simp only [bind_some,hgm,List.nil_append]
   rw [hadd,hsetm]
   have l1':loopO (m_spec_forest_copied_0 (m_spec_forest_copied n)) (((),a+1,ob),some x,some F.m,(0:Int),F.add.kst (upd P F.m (-1,B x)) (upd Z F.m false),ks)=_:=l1
   rw [l1',bind_some]
   have hhi:=l2.hi
   rw [List.take_length] at hhi
   refine ⟨H,P'',Z'',a'',ob'',rfl,l2.ext,l2.zo,l2.zn,l2.up,l2.m,by have:=l2.lo; omega,by simp only [szK]; omega,l2.mono,l2.lim,fun h=>?_⟩
   obtain ⟨k1,k2,k5⟩:=l2.cp h
   rw [List.take_length] at k1 k2 k5
   have:=l2.m
   have:=l2.lo
   refine ⟨⟨⟨Nat.le_refl _,by omega⟩,l2.lab,k1.imp fun c z _ _ hcz=>CpR.mono (Q:=fun _=>True) (by omega) (Nat.le_refl _) (fun _ _ _=>rfl) (fun _ _ _ _ _ h=>h) (fun _ _=>rfl) (fun _ _ _ _=>trivial) trivial hcz⟩,by simp only [szK]; omega,by simp only [idsF,szK,k5]; rw [Nat.add_comm 1,List.range'_succ]⟩
end
end Go.Proofs.YtkmigbicabfodaaGreat.V
set_option linter.unusedVariables false
set_option linter.unusedSimpArgs false
namespace Go.Proofs.YtkmigbicabfodaaGreat.V
open Go
section
variable {F G:Fo} {L M:Nat→HN} {K:Nat→List Nat} {B:Nat→HN} {lo hi lo' hi':Nat}
structure ClI (K:Nat→List Nat) (B:Nat→HN) (F:Fo) (L:Nat→HN) (n x j:Nat) (G:Fo) (M:Nat→HN):Prop where
 ext:Ext F L G M
 m:G.m=F.m+1+(((K x).take j).map (szK K n)).sum
 up:G.up F.m=none
 lab:cpl (M F.m) (B x)
 cp:F2 (Cp G M K B (F.m+1) G.m n) (G.kids F.m) ((K x).take j)
 pre:(G.kids F.m).flatMap (idsF G.kids n)=List.range' (F.m+1) (((K x).take j).map (szK K n)).sum
theorem clone_loop {m0:Nat} (hK:∀ i,i<m0→∀ y∈K i,y<m0) {n x:Nat} (hx:x<m0) (hnd:(K x).Nodup)
  (ih:∀ y∈K x,∀ (F:Fo) (L:Nat→HN),F.ok→m0≤F.m→(∀ i,i<m0→F.kids i=K i∧L i=B i)→∃ G M,m_goquery_cloneNode n (some y,F.st L)=some (some F.m,G.st M)∧Ext F L G M∧G.up F.m=none∧G.m=F.m+szK K n y∧Cp G M K B F.m G.m n F.m y∧idsF G.kids n F.m=List.range' F.m (szK K n y))
  {F:Fo} {L:Nat→HN} (hF:F.ok) (hm:m0≤F.m) (hs:∀ i,i<m0→F.kids i=K i∧L i=B i) :
  ∀ (d j:Nat) (G:Fo) (M:Nat→HN),(K x).length - j=d→j≤(K x).length→ClI K B F L n x j G M→∃ H N,loopO (m_goquery_cloneNode_0 (m_goquery_cloneNode n)) (some F.m,(K x)[j]?,G.st M)=some (some F.m,H.st N)∧ClI K B F L n x (K x).length H N:=by
 intro d
 induction d with
 | zero =>
  intro j G M hd hj hI
  have:j=(K x).length:=by omega
  subst this
  refine ⟨G,M,loopO_out ?_,hI⟩
  simp [m_goquery_cloneNode_0]
 | succ d ihd =>
  intro j G M hd hj hI
  obtain ⟨y,hy⟩:=get_lt (l:=K x) (k:=j) (by omega)
  have hym:=List.mem_of_getElem? hy
  have hy0:=hK x hx y hym
  have hagree:∀ i,i<m0→G.kids i=K i∧M i=B i:=fun i hi=>by
   obtain ⟨a,b,c⟩:=hI.ext.old i (by omega)
   obtain ⟨d,e⟩:=hs i hi
   exact ⟨b.trans d,c.trans e⟩
  obtain ⟨G1,M1,e1,e2,e3,e4,e5,e6⟩:=ih y hym G M hI.ext.ok (Nat.le_trans hm hI.ext.m) hagree
  have hGm:=hI.m
  have hc1:F.m<G.m:=by omega
  have hszp:0<szK K n y:=by
   cases n with
   | zero=>exact absurd e5 (by simp [Cp])
   | succ n=>simp only [szK]; omega
  obtain ⟨q1,q2⟩:=append_ins (L:=M1) (c:=F.m) (k:=G.m) e2.ok (by omega) (by omega) e3 (by omega)
  have hkc:G1.kids F.m=G.kids F.m:=(e2.old F.m hc1).2.1
  rw [hkc] at q1 q2
  have hfx:F.up y=some x∧y<F.m:=hF.kid (by rw [(hs x hx).1]; exact hym)
  have hnx:((G1.setK F.m (G.kids F.m++[G.m]) G.m (some F.m)).mk1 M1 y).nxt=(K x)[j+1]?:=by
   have a1:y≠G.m:=by omega
   have a2:x≠F.m:=by omega
   have a3:G1.up y=some x:=by rw [(e2.old y (by omega)).1,(hI.ext.old y (by omega)).1]; exact hfx.1
   have a4:G1.kids x=K x:=by rw [(e2.old x (by omega)).2.1]; exact (hagree x hx).1
   simp only [Fo.mk1,Fo.setK,if_neg a1,a3,Option.bind_some,if_neg a2,a4]
   exact nxtL_get hnd hy
  have step:m_goquery_cloneNode_0 (m_goquery_cloneNode n) (some F.m,(K x)[j]?,G.st M)=some (.nx (some F.m,(K x)[j+1]?,(G1.setK F.m (G.kids F.m++[G.m]) G.m (some F.m)).st M1)):=by
   simp only [m_goquery_cloneNode_0,hy,Option.isNone_some,Bool.not_false,cond_true,e1,bind_some,q1]
   rw [Fo.get (F:=G1.setK F.m (G.kids F.m++[G.m]) G.m (some F.m)) (by show y<G1.m; omega),bind_some,hnx]
  rw [loopO_nx step]
  refine ihd (j+1) _ _ (by omega) (by omega) ⟨⟨q2,by show F.m≤G1.m; omega,fun i hi=>?_,fun i h1 (h2:i<G1.m)=>?_,fun i h1 z hz=>?_⟩,?_,?_,?_,?_,?_⟩
  ·have a1:i≠F.m:=by omega
   have a2:i≠G.m:=by omega
   obtain ⟨b1,b2,b3⟩:=e2.old i (by omega)
   obtain ⟨c1,c2,c3⟩:=hI.ext.old i hi
   simp only [Fo.setK,if_neg a1,if_neg a2]
   exact ⟨b1.trans c1,b2.trans c2,b3.trans c3⟩
  ·by_cases e:i<G.m
   ·rw [(e2.old i e).2.2]; exact hI.ext.lab i h1 e
   ·exact e2.lab i (by omega) h2
  ·simp only [Fo.setK] at hz
   by_cases e:i=F.m
   ·rw [if_pos e] at hz
    rcases List.mem_append.1 hz with hz | hz
    ·have:=hI.ext.inc F.m (Nat.le_refl _) z hz
     omega
    ·have:=List.mem_singleton.1 hz
     omega
   ·rw [if_neg e] at hz
    by_cases e3:i<G.m
    ·rw [(e2.old i e3).2.1] at hz; exact hI.ext.inc i h1 z hz
    ·exact e2.inc i (by omega) z hz
  ·show G1.m=_
   rw [List.take_add_one,hy,e4,hGm]
   simp
   omega
  ·have a1:F.m≠G.m:=by omega
   simp only [Fo.setK,if_neg a1]
   rw [(e2.old F.m hc1).1]; exact hI.up
  ·rw [(e2.old F.m hc1).2.2]; exact hI.lab
  ·simp only [Fo.setK,if_true]
   rw [List.take_add_one,hy]
   have f1:F2 (Cp (G1.setK F.m (G.kids F.m++[G.m]) G.m (some F.m)) M1 K B (F.m+1) G1.m n) (G.kids F.m) ((K x).take j):=hI.cp.imp fun a b _ _ h=>h.mono (Nat.le_refl _) (by omega) fun i h1 h2=>by
    have a1:i≠F.m:=by omega
    obtain ⟨b1,b2,b3⟩:=e2.old i h2
    simp only [Fo.setK,if_neg a1]
    exact ⟨b2,b3⟩
   have f2:Cp (G1.setK F.m (G.kids F.m++[G.m]) G.m (some F.m)) M1 K B (F.m+1) G1.m n G.m y:=e5.mono (by omega) (Nat.le_refl _) fun i h1 h2=>by
    have a1:i≠F.m:=by omega
    simp [Fo.setK,a1]
   exact f1.append (.cons f2 .nil)
  ·rw [List.take_add_one,hy,List.map_append,List.sum_append]
   have n1:∀ i,F.m+1≤i→(G1.setK F.m (G.kids F.m++[G.m]) G.m (some F.m)).kids i=G1.kids i:=fun i h1=>by
    have b1:i≠F.m:=by omega
    simp only [Fo.setK,if_neg b1]
   have m1:=flat_cpR (G:=G) (G':=G1.setK F.m (G.kids F.m++[G.m]) G.m (some F.m)) (fun i (h1:F.m+1≤i) (h2:i<G.m)=>by rw [n1 i h1]; exact (e2.old i h2).2.1) (hI.cp.imp fun _ _ _ _ h=>cpR_of h)
   have m2:=ids_cpR (G:=G1) (G':=G1.setK F.m (G.kids F.m++[G.m]) G.m (some F.m)) (fun i (h1:G.m≤i) (h2:i<G1.m)=>n1 i (by omega)) (cpR_of e5)
   have hk:(G1.setK F.m (G.kids F.m++[G.m]) G.m (some F.m)).kids F.m=G.kids F.m++[G.m]:=by simp [Fo.setK]
   rw [hk,List.flatMap_append,m1]
   simp only [Option.toList_some,List.map_cons,List.map_nil,List.sum_cons,List.sum_nil,List.flatMap_cons,List.flatMap_nil,List.append_nil]
   rw [m2,hI.pre,e6,Nat.add_zero,List.range'_append_1.symm]
   congr 2 <;> omega
theorem clone_eq {m0:Nat} (hK:∀ i,i<m0→∀ y∈K i,y<m0) (hnd:∀ i,i<m0→(K i).Nodup) (hat:∀ i,i<m0→(B i).attrs.length≤1000000):∀ (n x:Nat) (F:Fo) (L:Nat→HN),F.ok→m0≤F.m→(∀ i,i<m0→F.kids i=K i∧L i=B i)→x<m0→Ht K n x →
  ∃ G M,m_goquery_cloneNode n (some x,F.st L)=some (some F.m,G.st M)∧Ext F L G M∧G.up F.m=none∧G.m=F.m+szK K n x∧Cp G M K B F.m G.m n F.m x∧idsF G.kids n F.m=List.range' F.m (szK K n x)
 | 0,_,_,_,_,_,_,_,h=>h.elim
 | n+1,x,F,L,hF,hm,hs,hx,hh=>by
  obtain ⟨hk,hl⟩:=hs x hx
  have hxm:x<F.m:=by omega
  have hlen:(F.st L).length=F.m:=tab_len
  have hgx:=Fo.get (F:=F) (L:=L) hxm
  let b:HN:=⟨none,none,none,none,none,(L x).ty,(L x).atom,(L x).data,[],(L x).attrs⟩
  have hadd:F.st L++[⟨none,none,none,none,none,(L x).ty,(L x).atom,(L x).data,[],(L x).attrs⟩]=F.add.st (upd L F.m b):=Fo.add_st hF (b:=b)
  have hI:ClI K B F L n x 0 F.add (upd L F.m b):=by
   refine ⟨⟨hF.add,by show F.m≤F.m+1; omega,fun i hi=>?_,fun i h1 (h2:i<F.m+1)=>?_,fun i h1 y hy=>?_⟩,by show F.m+1=_; simp,by simp [Fo.add],?_,by simp only [Fo.add,if_true,List.take_zero]; exact .nil,by simp [Fo.add]⟩
   ·have e:i≠F.m:=by omega
    simp only [Fo.add,if_neg e,upd_ne e]
    exact ⟨trivial,trivial,trivial⟩
   ·have e:i=F.m:=by omega
    rw [e,upd_same]
    show (L x).attrs.length≤1000000
    rw [hl]
    exact hat x hx
   ·simp only [Fo.add] at hy
    by_cases e:i=F.m
    ·rw [if_pos e] at hy; cases hy
    ·rw [if_neg e] at hy
     have:=hF.up (hF.kid hy).1
     omega
   ·rw [upd_same,← hl]
    exact ⟨rfl,rfl,rfl,rfl,rfl⟩
  obtain ⟨H,N,l1,l2⟩:=clone_loop hK hx (hnd x hx) (fun y hy F' L' a1 a2 a3=>clone_eq hK hnd hat n y F' L' a1 a2 a3 (hK x hx y hy) (hh y hy)) hF hm hs _ 0 _ _ rfl (Nat.zero_le _) hI
  have hfst:(F.add.mk1 (upd L F.m b) x).fst=(K x)[0]?:=by
   rw [Fo.add_mk1 hF hxm]
   simp only [Fo.mk1,hk,List.head?_eq_getElem?]
  refine ⟨H,N,?_,l2.ext,l2.up,?_,⟨by have:=l2.m; omega,l2.lab,?_⟩,?_⟩
  ·show b_goquery_cloneNode (m_goquery_cloneNode n) (some x,F.st L)=_
   have hat':((F.mk1 L x).attrs.length:Int)≤1048576:=by
    have:=hat x hx
    rw [← hl] at this
    show ((L x).attrs.length:Int)≤_
    omega
   have hc1:((F.mk1 L x).attrs.length:Int)≤((F.mk1 L x).attrs.length:Int)∧0≤((F.mk1 L x).attrs.length:Int)∧((F.mk1 L x).attrs.length:Int)≤1048576:=⟨Int.le_refl _,by omega,hat'⟩
   simp only [b_goquery_cloneNode,bind_some,hgx,decide_eq_true hc1,cond_true,hlen]
   have g1:∀ e:HN,(F.st L++[e])[F.m]?=some e:=fun e=>by rw [List.getElem?_append_right (by omega),hlen]; simp
   have g2:∀ e:HN,(F.st L++[e])[x]?=some (F.mk1 L x):=fun e=>by rw [List.getElem?_append_left (by omega),hgx]
   have g3:∀ e e':HN,(F.st L++[e]).set F.m e'=F.st L++[e']:=fun e e'=>by rw [List.set_append_right _ _ (by omega),hlen]; simp
   simp only [g1,g2,g3,bind_some,HN.wa,List.length_replicate,Int.toNat_natCast,Nat.min_self,List.take_length]
   have g4:List.drop (F.mk1 L x).attrs.length (List.replicate (F.mk1 L x).attrs.length (⟨[],[],[]⟩:HAttr))=[]:=List.drop_of_length_le (by simp)
   rw [g4,List.append_nil]
   have hadd':F.st L++[⟨none,none,none,none,none,(F.mk1 L x).ty,(F.mk1 L x).atom,(F.mk1 L x).data,[],(F.mk1 L x).attrs⟩]=F.add.st (upd L F.m b):=hadd
   have hfst':(F.mk1 L x).fst=(K x)[0]?:=by rw [← Fo.add_mk1 hF (b:=b) hxm]; exact hfst
   rw [hadd',hfst',l1]
   rfl
  ·have:=l2.m
   rw [this,List.take_length]
   simp only [szK]
   omega
  ·have:=l2.cp
   rw [List.take_length] at this
   exact this.imp fun a b _ _ h=>h.mono (by omega) (Nat.le_refl _) fun i _ _=>⟨rfl,rfl⟩
  ·have:=l2.pre
   rw [List.take_length] at this
   simp only [idsF,szK,this]
   rw [Nat.add_comm 1,List.range'_succ]
end
end Go.Proofs.YtkmigbicabfodaaGreat.V
set_option linter.unusedVariables false
set_option linter.unusedSimpArgs false
namespace Go.Proofs.YtkmigbicabfodaaGreat.V
open Go
structure Sim (Q:Int×Node→HN→Prop) (D:Nat→Prop) (φ:Nat→Nat) (F:Fo) (P:Nat→Int×Node) (G:Fo) (M:Nat→HN):Prop where
 okF:F.ok
 okG:G.ok
 dm:∀ i,D i→i<F.m
 gm:∀ i,D i→φ i<G.m
 inj:∀ i j,D i→D j→φ i=φ j→i=j
 dk:∀ i,D i→∀ c∈F.kids i,D c
 du:∀ i,D i→∀ p,F.up i=some p→D p
 kids:∀ i,D i→G.kids (φ i)=(F.kids i).map φ
 up:∀ i,D i→G.up (φ i)=(F.up i).map φ
 lab:∀ i,D i→Q (P i) (M (φ i))
section
variable {Q:Int×Node→HN→Prop} {D:Nat→Prop} {φ:Nat→Nat} {F G:Fo} {P:Nat→Int×Node} {M:Nat→HN} {p:Nat} {A B l:List Nat}
theorem Sim.mem (h:Sim Q D φ F P G M) {i:Nat} (hi:D i) (hl:∀ c∈l,D c):φ i∈l.map φ↔i∈l:=by
 constructor
 ·intro hm
  obtain ⟨j,hj,e⟩:=List.mem_map.1 hm
  rw [← h.inj j i (hl j hj) hi e]
  exact hj
 ·exact fun hm=>List.mem_map.2 ⟨i,hm,rfl⟩
theorem Sim.nodup (h:Sim Q D φ F P G M):∀ {l:List Nat},(∀ c∈l,D c)→l.Nodup→(l.map φ).Nodup
 | [],_,_=>List.nodup_nil
 | a::l,hl,hn=>by
  obtain ⟨h1,h2⟩:=List.nodup_cons.1 hn
  rw [List.map_cons,List.nodup_cons]
  exact ⟨fun hm=>h1 ((h.mem (hl a (by simp)) fun c hc=>hl c (by simp [hc])).1 hm),h.nodup (fun c hc=>hl c (by simp [hc])) h2⟩
theorem Sim.off (h:Sim Q D φ F P G M) (hl:∀ c∈l,D c):Sim Q D φ (F.off l) P (G.off (l.map φ)) M:=by
 refine ⟨off_ok h.okF,off_ok h.okG,h.dm,h.gm,h.inj,fun i hi c hc=>h.dk i hi c (List.mem_filter.1 hc).1,fun i hi p hp=>?_,fun i hi=>?_,fun i hi=>?_,h.lab⟩
 ·simp only [Fo.off] at hp
  by_cases e:i∈l
  ·rw [if_pos e] at hp; cases hp
  ·rw [if_neg e] at hp; exact h.du i hi p hp
 ·simp only [Fo.off,h.kids i hi,List.filter_map]
  congr 1
  refine List.filter_congr fun j hj=>?_
  simp only [Function.comp,h.mem (h.dk i hi j hj) hl]
 ·simp only [Fo.off,h.mem hi hl,h.up i hi]
  by_cases e:i∈l
  ·rw [if_pos e,if_pos e]; rfl
  ·rw [if_neg e,if_neg e]
theorem Sim.hang (h:Sim Q D φ F P G M) (hp:D p) (hk:F.kids p=A++B) (hl:∀ c∈l,D c∧F.up c=none∧p≠c) (hn:l.Nodup):Sim Q D φ (F.hang p A l B) P (G.hang (φ p) (A.map φ) (l.map φ) (B.map φ)) M:=by
 have hlD:∀ c∈l,D c:=fun c hc=>(hl c hc).1
 have hkG:G.kids (φ p)=A.map φ++B.map φ:=by rw [h.kids p hp,hk,List.map_append]
 refine ⟨hang_ok h.okF (h.dm p hp) hk l (fun c hc=>⟨h.dm c (hlD c hc),(hl c hc).2⟩) hn,hang_ok h.okG (h.gm p hp) hkG (l.map φ) (fun d hd=>?_) (h.nodup hlD hn),h.dm,h.gm,h.inj,fun i hi c hc=>?_,fun i hi q hq=>?_,fun i hi=>?_,fun i hi=>?_,h.lab⟩
 ·obtain ⟨c,hc,rfl⟩:=List.mem_map.1 hd
  obtain ⟨h1,h2,h3⟩:=hl c hc
  exact ⟨h.gm c h1,by rw [h.up c h1,h2]; rfl,fun e=>h3 (h.inj p c hp h1 e)⟩
 ·simp only [Fo.hang] at hc
  by_cases e:i=p
  ·rw [if_pos e] at hc
   have hd:=h.dk p hp
   rw [hk] at hd
   rcases List.mem_append.1 hc with hc | hc
   ·rcases List.mem_append.1 hc with hc | hc
    ·exact hd c (by simp [hc])
    ·exact hlD c hc
   ·exact hd c (by simp [hc])
  ·rw [if_neg e] at hc; exact h.dk i hi c hc
 ·simp only [Fo.hang] at hq
  by_cases e:i∈l
  ·rw [if_pos e] at hq; cases hq; exact hp
  ·rw [if_neg e] at hq; exact h.du i hi q hq
 ·simp only [Fo.hang]
  by_cases e:i=p
  ·rw [if_pos e,if_pos (by rw [e]),List.map_append,List.map_append]
  ·rw [if_neg e,if_neg (fun e2=>e (h.inj i p hi hp e2)),h.kids i hi]
 ·simp only [Fo.hang,h.mem hi hlD,h.up i hi]
  by_cases e:i∈l
  ·rw [if_pos e,if_pos e]; rfl
  ·rw [if_neg e,if_neg e]
end
def Shp (K K':Nat→List Nat) (R:Nat→Nat→Prop):Nat→Nat→Nat→Prop
 | 0,_,_=>False
 | n+1,c,d=>R c d∧F2 (Shp K K' R n) (K c) (K' d)
theorem F2.comp {α β γ:Type} {R:α→β→Prop} {S:γ→β→Prop} {T:α→γ→Prop}:∀ {l:List α} {m:List β} {k:List γ},(∀ a∈l,∀ b∈m,∀ c∈k,R a b→S c b→T a c)→F2 R l m→F2 S k m→F2 T l k
 | _,_,_,_, .nil, .nil => .nil
 | _,_,_,hi, .cons h t, .cons h' t' => .cons (hi _ (by simp) _ (by simp) _ (by simp) h h') (F2.comp (fun a ha b hb c hc=>hi a (by simp [ha]) b (by simp [hb]) c (by simp [hc])) t t')
theorem F2.of_map {α β γ:Type} {R:α→γ→Prop} {f:β→γ}:∀ {l:List α} {m:List β},F2 R l (m.map f)→F2 (fun a b=>R a (f b)) l m
 | _,[], .nil => .nil
 | _,_::_, .cons h t => .cons h (F2.of_map t)
theorem shp_of {F G:Fo} {M:Nat→HN} {R R2:Nat→Nat→Prop} {K K':Nat→List Nat} {B:Nat→HN} {φ:Nat→Nat} {lo hi lo' hi':Nat} {T:Nat→Prop} (hK:∀ y,T y→K' (φ y)=(K y).map φ∧∀ z∈K y,T z) (hR:∀ c y d,T y→R c y→cpl (M d) (B (φ y))→R2 c d) :
  ∀ {n a x d:Nat},T x→CpR F R K lo hi n a x→Cp G M K' B lo' hi' n d (φ x)→Shp F.kids G.kids R2 n a d
 | 0,_,_,_,_,h,_=>h
 | n+1,a,x,d,hx,⟨_,h2,h3⟩,⟨_,k2,k3⟩=>by
  obtain ⟨e1,e2⟩:=hK x hx
  rw [e1] at k3
  exact ⟨hR a x d hx h2 k2,F2.comp (fun a' _ b hb c _ h h'=>shp_of hK hR (e2 b hb) h h') h3 k3.of_map⟩
theorem range_split {A B:List Nat} {a s:Nat} (h:A++B=List.range' a s):A=List.range' a A.length∧B=List.range' (a+A.length) (s - A.length)∧A.length≤s:=by
 have hl:A.length+B.length=s:=by
  have:=congrArg List.length h
  simpa using this
 have e:List.range' a s=List.range' a A.length++List.range' (a+A.length) (s - A.length):=by
  rw [List.range'_append_1]
  congr 1
  omega
 rw [e] at h
 obtain ⟨h1,h2⟩:=List.append_inj h (by simp)
 exact ⟨h1,h2,by omega⟩
section
variable {K K':Nat→List Nat} {R:Nat→Nat→Prop} {a0 b0:Nat}
def Shf (K K':Nat→List Nat) (R:Nat→Nat→Prop) (a0 b0 p s:Nat):Prop :=
 ∀ q,p≤q→q<p+s→K' (b0+q)=(K (a0+q)).map (fun i=>b0+(i - a0))∧R (a0+q) (b0+q)∧∀ y∈K (a0+q),a0+q<y∧y<a0+(p+s)
theorem Shf.app {p s s':Nat} (h:Shf K K' R a0 b0 p s) (h':Shf K K' R a0 b0 (p+s) s'):Shf K K' R a0 b0 p (s+s'):=fun q h1 h2=>by
 by_cases e:q<p+s
 ·obtain ⟨a,b,c⟩:=h q h1 e
  exact ⟨a,b,fun y hy=>by have:=c y hy; omega⟩
 ·obtain ⟨a,b,c⟩:=h' q (by omega) (by omega)
  exact ⟨a,b,fun y hy=>by have:=c y hy; omega⟩
theorem shp_list {n:Nat} (ih:∀ {c d p s s':Nat},Shp K K' R n c d→idsF K n c=List.range' (a0+p) s→idsF K' n d=List.range' (b0+p) s'→s=s'∧c=a0+p∧d=b0+p∧0<s∧Shf K K' R a0 b0 p s) :
  ∀ {l m:List Nat} {p s s':Nat},F2 (Shp K K' R n) l m→l.flatMap (idsF K n)=List.range' (a0+p) s→m.flatMap (idsF K' n)=List.range' (b0+p) s'→s=s'∧m=l.map (fun i=>b0+(i - a0))∧(∀ y∈l,a0+p≤y∧y<a0+(p+s))∧Shf K K' R a0 b0 p s
 | _,_,p,s,s', .nil,h1,h2=>by
  have e1:s=0:=by have:=congrArg List.length h1; simpa using this.symm
  have e2:s'=0:=by have:=congrArg List.length h2; simpa using this.symm
  subst e1; subst e2
  exact ⟨rfl,rfl,by simp,fun q h1 h2=>by omega⟩
 | _,_,p,s,s', .cons (a:=c) (b:=d) (l:=l) (m:=m) h t,h1,h2=>by
  rw [List.flatMap_cons] at h1 h2
  obtain ⟨g1,g2,g3⟩:=range_split h1
  obtain ⟨g4,g5,g6⟩:=range_split h2
  obtain ⟨e1,e2,e3,e4,e5⟩:=ih h g1 g4
  rw [← e1] at g5 g6
  obtain ⟨k1,k2,k3,k4⟩:=shp_list ih (p:=p+(idsF K n c).length) t (by rw [g2,Nat.add_assoc]) (by rw [g5,Nat.add_assoc])
  refine ⟨by omega,?_,fun y hy=>?_,?_⟩
  ·rw [List.map_cons,← k2,e2,e3]
   congr 1
   omega
  ·rcases List.mem_cons.1 hy with rfl | hy
   ·omega
   ·have:=k3 y hy
    omega
  ·have:=e5.app k4
   rwa [show (idsF K n c).length+(s - (idsF K n c).length)=s by omega] at this
theorem shp_shift:∀ {n c d p s s':Nat},Shp K K' R n c d→idsF K n c=List.range' (a0+p) s→idsF K' n d=List.range' (b0+p) s'→s=s'∧c=a0+p∧d=b0+p∧0<s∧Shf K K' R a0 b0 p s
 | 0,_,_,_,_,_,h,_,_=>h.elim
 | n+1,c,d,p,s,s',⟨hr,hf⟩,h1,h2=>by
  simp only [idsF] at h1 h2
  cases s with
  | zero=>simp at h1
  | succ s =>
   cases s' with
   | zero=>simp at h2
   | succ s' =>
    rw [List.range'_succ,List.cons.injEq] at h1 h2
    obtain ⟨rfl,h1⟩:=h1
    obtain ⟨rfl,h2⟩:=h2
    obtain ⟨e1,e2,e3,e4⟩:=shp_list (fun h h' h''=>shp_shift h h' h'') (p:=p+1) hf (by rw [h1,Nat.add_assoc]) (by rw [h2,Nat.add_assoc])
    refine ⟨by omega,rfl,rfl,by omega,?_⟩
    intro q g1 g2
    by_cases e:q=p
    ·subst e
     exact ⟨e2,hr,fun y hy=>by have:=e3 y hy; omega⟩
    ·obtain ⟨k1,k2,k3⟩:=e4 q (by omega) (by omega)
     exact ⟨k1,k2,fun y hy=>by have:=k3 y hy; omega⟩
theorem ids_parent {K:Nat→List Nat}:∀ {n x y:Nat},y∈idsF K n x→y=x∨∃ p∈idsF K n x,y∈K p
 | 0,_,_,h=>by cases h
 | n+1,x,y,h=>by
  simp only [idsF,List.mem_cons,List.mem_flatMap] at h
  rcases h with h | ⟨z,hz,h⟩
  ·exact .inl h
  ·right
   rcases ids_parent h with rfl | ⟨p,hp,h2⟩
   ·exact ⟨x,by simp [idsF],hz⟩
   ·exact ⟨p,by simp only [idsF,List.mem_cons,List.mem_flatMap]; exact .inr ⟨z,hz,hp⟩,h2⟩
end
section
variable {Q:Int×Node→HN→Prop} {D:Nat→Prop} {φ:Nat→Nat} {F G G':Fo} {P:Nat→Int×Node} {M M':Nat→HN}
def phC (φ:Nat→Nat) (a s b i:Nat):Nat:=if a≤i∧i<a+s then b+(i - a) else φ i
theorem Sim.copy {a s n:Nat} {R:Nat→Nat→Prop} (h:Sim Q D φ F P G M) (hF:a+s≤F.m) (hD:∀ i,a≤i→i<a+s→¬ D i) (hu:F.up a=none) (hi:idsF F.kids n a=List.range' a s)
  (hok:G'.ok) (hm:G.m≤G'.m) (hold:∀ i,i<G.m→G'.up i=G.up i∧G'.kids i=G.kids i∧M' i=M i) (hu':G'.up G.m=none) (hm':G'.m=G.m+s) (hi':idsF G'.kids n G.m=List.range' G.m s) (hs:Shp F.kids G'.kids R n a G.m) (hR:∀ c d,a≤c→c<a+s→R c d→Q (P c) (M' d)) :
  Sim Q (fun i=>D i∨(a≤i∧i<a+s)) (phC φ a s G.m) F P G' M':=by
 obtain ⟨_,_,_,hpos,hsh⟩:=shp_shift (a0:=a) (b0:=G.m) (p:=0) hs hi hi'
 have hin:∀ i,a≤i→i<a+s→(phC φ a s G.m) i=G.m+(i - a):=fun i h1 h2=>if_pos ⟨h1,h2⟩
 have hout:∀ i,D i→(phC φ a s G.m) i=φ i:=fun i hd=>if_neg fun ⟨h1,h2⟩=>hD i h1 h2 hd
 have hpar:∀ i,a≤i→i<a+s→i=a∨∃ p,F.up i=some p∧i∈F.kids p∧a≤p∧p<a+s:=fun i h1 h2=>by
  rcases ids_parent (K:=F.kids) (n:=n) (x:=a) (y:=i) (by rw [hi]; simp; omega) with e | ⟨p,hp,hk⟩
  ·exact .inl e
  ·rw [hi] at hp
   simp at hp
   exact .inr ⟨p,(h.okF.kid hk).1,hk,by omega,by omega⟩
 have hkb:∀ i,a≤i→i<a+s→G'.kids (G.m+(i - a))=(F.kids i).map (fun j=>G.m+(j - a))∧R i (G.m+(i - a))∧∀ y∈F.kids i,i<y∧y<a+s:=fun i h1 h2=>by
  obtain ⟨k1,k2,k3⟩:=hsh (i - a) (by omega) (by omega)
  rw [show a+(i - a)=i by omega] at k1 k2 k3
  exact ⟨k1,k2,fun y hy=>by have:=k3 y hy; omega⟩
 refine ⟨h.okF,hok,fun i hd=>?_,fun i hd=>?_,fun i j hd he e=>?_,fun i hd c hc=>?_,fun i hd p hp=>?_,fun i hd=>?_,fun i hd=>?_,fun i hd=>?_⟩
 ·rcases hd with hd | hd
  ·exact h.dm i hd
  ·omega
 ·rcases hd with hd | hd
  ·rw [hout i hd]; have:=h.gm i hd; omega
  ·rw [hin i hd.1 hd.2]; omega
 ·rcases hd with hd | hd <;> rcases he with he | he
  ·rw [hout i hd,hout j he] at e; exact h.inj i j hd he e
  ·rw [hout i hd,hin j he.1 he.2] at e; have:=h.gm i hd; omega
  ·rw [hin i hd.1 hd.2,hout j he] at e; have:=h.gm j he; omega
  ·rw [hin i hd.1 hd.2,hin j he.1 he.2] at e; omega
 ·rcases hd with hd | hd
  ·exact .inl (h.dk i hd c hc)
  ·have:=(hkb i hd.1 hd.2).2.2 c hc
   exact .inr (by omega)
 ·rcases hd with hd | hd
  ·exact .inl (h.du i hd p hp)
  ·rcases hpar i hd.1 hd.2 with e | ⟨q,hq,_,h1,h2⟩
   ·rw [e,hu] at hp; cases hp
   ·rw [hq] at hp; cases hp; exact .inr ⟨h1,h2⟩
 ·rcases hd with hd | hd
  ·rw [hout i hd,(hold _ (h.gm i hd)).2.1,h.kids i hd]
   exact List.map_congr_left fun c hc=>(hout c (h.dk i hd c hc)).symm
  ·rw [hin i hd.1 hd.2,(hkb i hd.1 hd.2).1]
   refine List.map_congr_left fun c hc=>?_
   have:=(hkb i hd.1 hd.2).2.2 c hc
   exact (hin c (by omega) (by omega)).symm
 ·rcases hd with hd | hd
  ·rw [hout i hd,(hold _ (h.gm i hd)).1,h.up i hd]
   cases hp:F.up i with
   | none=>rfl
   | some p=>exact congrArg some (hout p (h.du i hd p hp)).symm
  ·rw [hin i hd.1 hd.2]
   rcases hpar i hd.1 hd.2 with e | ⟨q,hq,hk,h1,h2⟩
   ·subst e
    rw [Nat.sub_self,Nat.add_zero,hu',hu]; rfl
   ·rw [hq]
    have hk':G.m+(i - a)∈G'.kids (G.m+(q - a)):=by
     rw [(hkb q h1 h2).1]
     exact List.mem_map.2 ⟨i,hk,rfl⟩
    rw [(hok.kid hk').1]
    exact congrArg some (hin q h1 h2).symm
 ·rcases hd with hd | hd
  ·rw [hout i hd,(hold _ (h.gm i hd)).2.2]; exact h.lab i hd
  ·rw [hin i hd.1 hd.2]
   exact hR i _ hd.1 hd.2 (hkb i hd.1 hd.2).2.1
end
end Go.Proofs.YtkmigbicabfodaaGreat.V
set_option linter.unusedVariables false
set_option linter.unusedSimpArgs false
namespace Go.Proofs.YtkmigbicabfodaaGreat.V
open Go
def upn (F:Fo):Nat→Nat→Option Nat
 | 0,z=>some z
 | k+1,z=>(upn F k z).bind F.up
section
variable {F:Fo} {r:Nat→Nat}
theorem upn_add:∀ (b a z:Nat),upn F (a+b) z=(upn F a z).bind (upn F b)
 | 0,a,z=>by cases h:upn F a z <;> simp [upn,h]
 | b+1,a,z=>by
  show (upn F (a+b) z).bind F.up=_
  rw [upn_add b a z]
  cases h:upn F a z <;> simp [upn]
theorem upn_rank (hF:F.ok) (hr:∀ x y,y∈F.kids x→r y<r x):∀ (k z x:Nat),upn F k z=some x→r z+k≤r x
 | 0,z,x,h=>by cases h; omega
 | k+1,z,x,h=>by
  simp only [upn] at h
  cases hy:upn F k z with
  | none=>rw [hy] at h; cases h
  | some y =>
   rw [hy] at h
   have h1:=upn_rank hF hr k z y hy
   have h2:=hr x y (hF.up h).2
   omega
theorem ids_up (hF:F.ok):∀ (n x z:Nat),z∈idsF F.kids n x→∃ k,upn F k z=some x
 | 0,x,z,h=>by simp [idsF] at h
 | n+1,x,z,h=>by
  simp only [idsF,List.mem_cons,List.mem_flatMap] at h
  rcases h with rfl | ⟨y,hy,hz⟩
  ·exact ⟨0,rfl⟩
  ·obtain ⟨k,hk⟩:=ids_up hF n y z hz
   exact ⟨k+1,by simp only [upn,hk,Option.bind_some]; exact (hF.kid hy).1⟩
theorem ids_apart (hF:F.ok) (hr:∀ x y,y∈F.kids x→r y<r x) {x a b z k l:Nat} (ha:F.up a=some x) (hb:F.up b=some x) (h1:upn F k z=some a) (h2:upn F l z=some b) (hkl:k≤l):a=b:=by
 by_cases e:k=l
 ·subst e; rw [h1] at h2; exact Option.some.inj h2
 ·have h3:=upn_add (F:=F) (l - k) k z
  rw [show k+(l - k)=l by omega,h2,h1,Option.bind_some] at h3
  have h4:=upn_add (F:=F) (l - k - 1) 1 a
  rw [show 1+(l - k - 1)=l - k by omega,← h3] at h4
  have h5:upn F 1 a=some x:=by simp [upn,ha]
  rw [h5,Option.bind_some] at h4
  have h6:=upn_rank hF hr _ _ _ h4.symm
  have h7:=hr x b (hF.up hb).2
  omega
theorem ids_nodup (hF:F.ok) (hr:∀ x y,y∈F.kids x→r y<r x):∀ (n x:Nat),(idsF F.kids n x).Nodup
 | 0,x=>by simp [idsF]
 | n+1,x=>by
  simp only [idsF]
  refine List.nodup_cons.2 ⟨fun h=>?_,?_⟩
  ·obtain ⟨y,hy,hz⟩:=List.mem_flatMap.1 h
   obtain ⟨k,hk⟩:=ids_up hF n y x hz
   have h1:=upn_rank hF hr k x y hk
   have h2:=hr x y hy
   omega
  ·unfold List.Nodup
   rw [List.pairwise_flatMap]
   refine ⟨fun y _=>ids_nodup hF hr n y,(hF.nd x).imp_of_mem fun {a b} ha hb hab z hz w hw e=>?_⟩
   subst e
   obtain ⟨k,hk⟩:=ids_up hF n a z hz
   obtain ⟨l,hl⟩:=ids_up hF n b z hw
   have ua:=(hF.kid ha).1
   have ub:=(hF.kid hb).1
   by_cases e:k≤l
   ·exact hab (ids_apart hF hr ua ub hk hl e)
   ·exact hab (ids_apart hF hr ub ua hl hk (by omega)).symm
theorem ids_lt (hF:F.ok):∀ (n x:Nat),x<F.m→∀ z∈idsF F.kids n x,z<F.m
 | 0,x,_,z,h=>by simp [idsF] at h
 | n+1,x,hx,z,h=>by
  simp only [idsF,List.mem_cons,List.mem_flatMap] at h
  rcases h with rfl | ⟨y,hy,hz⟩
  ·exact hx
  ·exact ids_lt hF n y (hF.kid hy).2 z hz
theorem ids_len (hF:F.ok) (hr:∀ x y,y∈F.kids x→r y<r x) (n:Nat) {x:Nat} (hx:x<F.m):(idsF F.kids n x).length≤F.m:=by
 have h:=(ids_nodup hF hr n x).length_le_of_subset (l₂:=List.range F.m) (fun z hz=>List.mem_range.2 (ids_lt hF n x hx z hz))
 rwa [List.length_range] at h
end
theorem bound_all (f:Nat→Nat):∀ m:Nat,∃ N,∀ i,i<m→f i≤N
 | 0=>⟨0,fun i hi=>by omega⟩
 | m+1=>by
  obtain ⟨N,h⟩:=bound_all f m
  refine ⟨max N (f m),fun i hi=>?_⟩
  by_cases e:i=m
  ·subst e; exact Nat.le_max_right _ _
  ·exact Nat.le_trans (h i (by omega)) (Nat.le_max_left _ _)
theorem Rk.down {F:Fo} (hF:F.ok) (h:Rk F):∃ r:Nat→Nat,∀ x y,y∈F.kids x→r y<r x:=by
 obtain ⟨r,hr⟩:=h
 obtain ⟨N,hN⟩:=bound_all r F.m
 refine ⟨fun i=>N - r i,fun x y hy=>?_⟩
 have h1:=hF.kid hy
 have h2:=hr y x h1.1
 have h3:=hN y h1.2
 simp only
 omega
theorem ht_path {F:Fo} (hF:F.ok) {r:Nat→Nat} (hr:∀ c p,F.up c=some p→r p<r c):∀ (n x:Nat) (l:List Nat),(x::l).Nodup→(∀ z∈x::l,z<F.m)→(∀ z∈l,r z<r x)→F.m≤n+l.length→Ht F.kids n x
 | 0,x,l,h1,h2,_,h4=>by
  have h:=h1.length_le_of_subset (l₂:=List.range F.m) (fun z hz=>List.mem_range.2 (h2 z hz))
  simp only [List.length_cons,List.length_range] at h
  omega
 | n+1,x,l,h1,h2,h3,h4=>fun y hy=>by
  obtain ⟨hu,hm⟩:=hF.kid hy
  have hxy:=hr y x hu
  refine ht_path hF hr n y (x::l) (List.nodup_cons.2 ⟨fun hm=>?_,h1⟩) (fun z hz=>?_) (fun z hz=>?_) (by simp only [List.length_cons]; omega)
  ·rcases List.mem_cons.1 hm with e | hm
   ·subst e; omega
   ·have:=h3 y hm; omega
  ·rcases List.mem_cons.1 hz with rfl | hz
   ·exact hm
   ·exact h2 z hz
  ·rcases List.mem_cons.1 hz with rfl | hz
   ·exact hxy
   ·have:=h3 z hz; omega
theorem ht_all {F:Fo} (hF:F.ok) (h:Rk F) {n x:Nat} (hx:x<F.m) (hn:F.m≤n):Ht F.kids n x:=by
 obtain ⟨r,hr⟩:=h
 exact ht_path hF hr n x [] (by simp) (fun z hz=>by rw [List.mem_singleton.1 hz]; exact hx) (fun z hz=>by cases hz) (by simpa using hn)
end Go.Proofs.YtkmigbicabfodaaGreat.V
set_option linter.unusedVariables false
set_option linter.unusedSimpArgs false
namespace Go.Proofs.YtkmigbicabfodaaGreat.V
open Go
theorem flat_congr {α β:Type} {f g:α→List β}:∀ {l:List α},(∀ y∈l,f y=g y)→l.flatMap f=l.flatMap g
 | [],_=>rfl
 | a::l,h=>by rw [List.flatMap_cons,List.flatMap_cons,h a (by simp),flat_congr fun y hy=>h y (by simp [hy])]
theorem ids_fuel {K:Nat→List Nat}:∀ {n m x:Nat},Ht K n x→Ht K m x→idsF K n x=idsF K m x
 | 0,_,_,h,_=>h.elim
 | _+1,0,_,_,h=>h.elim
 | n+1,m+1,x,h1,h2=>by
  simp only [idsF]
  rw [flat_congr fun y hy=>ids_fuel (h1 y hy) (h2 y hy)]
theorem nodes_fuel {K:Nat→List Nat} {N:Nat→Node}:∀ {n m x:Nat},Ht K n x→Ht K m x→nodesF K N n x=nodesF K N m x
 | 0,_,_,h,_=>h.elim
 | _+1,0,_,_,h=>h.elim
 | n+1,m+1,x,h1,h2=>by
  simp only [nodesF]
  rw [flat_congr fun y hy=>nodes_fuel (h1 y hy) (h2 y hy)]
theorem flat_split {α β:Type} {f:α→List β}:∀ {l:List α} {j:Nat},j<(l.flatMap f).length→∃ A c B k,l=A++c::B∧k<(f c).length∧j=(A.flatMap f).length+k
 | [],j,h=>by simp at h
 | a::l,j,h=>by
  rw [List.flatMap_cons,List.length_append] at h
  by_cases e:j<(f a).length
  ·exact ⟨[],a,l,j,rfl,e,by simp⟩
  ·obtain ⟨A,c,B,k,e1,e2,e3⟩:=flat_split (f:=f) (l:=l) (j:=j - (f a).length) (by omega)
   exact ⟨a::A,c,B,k,by rw [e1]; rfl,e2,by rw [List.flatMap_cons,List.length_append]; omega⟩
section
variable {K:Nat→List Nat} {N:Nat→Node} {n:Nat} {r x y z a b c i:Nat} {A B:List Nat}
theorem flat_len (l:List Nat):(l.flatMap (nodesF K N n)).length=(l.flatMap (idsF K n)).length:=by
 rw [List.length_flatMap,List.length_flatMap]
 congr 1
 exact List.map_congr_left fun y _=>nodesF_len n y
theorem ids_fix (h:∀ x,Ht K n x) (x:Nat):idsF K n x=x::(K x).flatMap (idsF K n):=by
 rw [ids_fuel (h x) (m:=n+1) (fun y _=>h y)]
 rfl
theorem nodes_fix (h:∀ x,Ht K n x) (x:Nat):nodesF K N n x=⟨(N x).kind,(N x).tag,(N x).text,(N x).attrs,((nodesF K N n x).length:Nat)⟩::(K x).flatMap (nodesF K N n):=by
 have h1:nodesF K N n x=nodesF K N (n+1) x:=nodes_fuel (h x) (m:=n+1) (fun y _=>h y)
 have h2:(nodesF K N (n+1) x).length=1+((K x).flatMap (nodesF K N n)).length:=by simp only [nodesF,List.length_cons]; omega
 rw [h1,h2]
 simp only [nodesF]
 rfl
def Oc (K:Nat→List Nat) (N:Nat→Node) (n r a z:Nat):Prop:=∃ p q u v,idsF K n r=p++idsF K n z++q∧p.length=a∧nodesF K N n r=u++nodesF K N n z++v∧u.length=a
theorem Oc.refl:Oc K N n r 0 r:=⟨[],[],[],[],by simp,rfl,by simp,rfl⟩
theorem Oc.trans (h1:Oc K N n x a y) (h2:Oc K N n y b z):Oc K N n x (a+b) z:=by
 obtain ⟨p,q,u,v,e1,e2,e3,e4⟩:=h1
 obtain ⟨p',q',u',v',f1,f2,f3,f4⟩:=h2
 exact ⟨p++p',q'++q,u++u',v'++v,by rw [e1,f1]; simp,by simp [e2,f2],by rw [e3,f3]; simp,by simp [e4,f4]⟩
theorem Oc.kid (h:∀ x,Ht K n x) (hk:K z=A++c::B):Oc K N n z (1+(A.flatMap (idsF K n)).length) c:=by
 refine ⟨z::A.flatMap (idsF K n),B.flatMap (idsF K n),⟨(N z).kind,(N z).tag,(N z).text,(N z).attrs,((nodesF K N n z).length:Nat)⟩::A.flatMap (nodesF K N n),B.flatMap (nodesF K N n),?_,?_,?_,?_⟩
 ·rw [ids_fix h z,hk]; simp
 ·simp only [List.length_cons]; omega
 ·conv=>lhs; rw [nodes_fix h z,hk]
  simp
 ·simp only [List.length_cons,flat_len]; omega
theorem oc_all (h:∀ x,Ht K n x):∀ (m x:Nat),Ht K m x→∀ i,i<(idsF K n x).length→∃ z,Oc K N n x i z
 | 0,_,hx,_,_=>hx.elim
 | m+1,x,hx,i,hi=>by
  rw [ids_fix h x,List.length_cons] at hi
  cases i with
  | zero=>exact ⟨x, .refl⟩
  | succ i =>
   obtain ⟨A,c,B,k,e1,e2,e3⟩:=flat_split (f:=idsF K n) (l:=K x) (j:=i) (by omega)
   obtain ⟨z,hz⟩:=oc_all h m c (hx c (by rw [e1]; simp)) k e2
   refine ⟨z,?_⟩
   have:=(Oc.kid (N:=N) h e1).trans hz
   rw [show i+1=1+(A.flatMap (idsF K n)).length+k by omega]
   exact this
theorem Oc.id (h:∀ x,Ht K n x) (ho:Oc K N n r a z):(idsF K n r)[a]?=some z:=by
 obtain ⟨p,q,u,v,e1,e2,e3,e4⟩:=ho
 rw [e1,ids_fix h z]
 subst e2
 simp
theorem Oc.nd (h:∀ x,Ht K n x) (ho:Oc K N n r a z):(nodesF K N n r)[a]?=some ⟨(N z).kind,(N z).tag,(N z).text,(N z).attrs,((nodesF K N n z).length:Nat)⟩:=by
 obtain ⟨p,q,u,v,e1,e2,e3,e4⟩:=ho
 rw [e3]
 conv=>lhs; rw [nodes_fix h z]
 subst e4
 simp
theorem Oc.sz (h:∀ x,Ht K n x) (ho:Oc K N n r a z):V.sz (nodesF K N n r) a=(nodesF K N n z).length:=by
 rw [sz_some (ho.nd h)]
 simp
theorem Oc.le (ho:Oc K N n r a z):a+(nodesF K N n z).length≤(nodesF K N n r).length:=by
 obtain ⟨p,q,u,v,e1,e2,e3,e4⟩:=ho
 rw [e3,← e4]
 simp only [List.length_append]
 omega
theorem nodes_pos (h:∀ x,Ht K n x) (z:Nat):1≤(nodesF K N n z).length:=by
 rw [nodes_fix h z]
 simp only [List.length_cons]
 omega
theorem oc_at (h:∀ x,Ht K n x) {i:Nat} (hi:i<(nodesF K N n x).length):∃ z,Oc K N n x i z:=oc_all h n x (h x) i (by rwa [nodesF_len] at hi)
theorem fl_lam (h:∀ x,Ht K n x) (r:Nat):Lam (nodesF K N n r) 0 (nodesF K N n r).length:=by
 refine ⟨fun i _ hi=>?_,fun i j _ hi hj hj'=>?_⟩
 ·obtain ⟨z,hz⟩:=oc_at h hi
  refine ⟨_,hz.nd h,by rw [hz.sz h],?_,?_⟩
  ·rw [hz.sz h]; exact nodes_pos h z
  ·rw [hz.sz h]; exact hz.le
 ·obtain ⟨z,hz⟩:=oc_at h hi
  rw [hz.sz h] at hj' ⊢
  obtain ⟨w,hw⟩:=oc_at (N:=N) h (x:=z) (i:=j - i) (by omega)
  have h2:=hz.trans hw
  rw [show i+(j - i)=j by omega] at h2
  rw [h2.sz h]
  have:=hw.le
  omega
theorem Oc.sub (h:∀ x,Ht K n x) (ho:Oc K N n r a z):((nodesF K N n r).drop a).take (V.sz (nodesF K N n r) a)=nodesF K N n z:=by
 rw [ho.sz h]
 obtain ⟨p,q,u,v,e1,e2,e3,e4⟩:=ho
 rw [e3,← e4]
 simp
theorem Oc.kids (h:∀ x,Ht K n x) (ho:Oc K N n r a z):∀ (B A:List Nat) (f:Nat),K z=A++B→B.length≤f→∃ l,kidsF (nodesF K N n r) f (a+1+(A.flatMap (idsF K n)).length) (a+(nodesF K N n z).length)=l∧F2 (fun b c=>Oc K N n r b c) l B
 | [],A,f,hk,_=>by
  have hlen:(nodesF K N n z).length=1+(A.flatMap (idsF K n)).length:=by
   rw [nodes_fix h z,hk,List.append_nil,List.length_cons,flat_len]; omega
  cases f with
  | zero=>exact ⟨[],rfl, .nil⟩
  | succ f =>
   simp only [kidsF]
   rw [if_neg (by omega)]
   exact ⟨[],rfl, .nil⟩
 | c::B,A,0,hk,hf=>by simp at hf
 | c::B,A,f+1,hk,hf=>by
  have hoc:=ho.trans (Oc.kid (N:=N) h hk)
  rw [show a+(1+(A.flatMap (idsF K n)).length)=a+1+(A.flatMap (idsF K n)).length by omega] at hoc
  have hlen:(nodesF K N n z).length=1+(A.flatMap (idsF K n)).length+(idsF K n c).length+(B.flatMap (idsF K n)).length:=by
   rw [nodes_fix h z,hk,List.length_cons,flat_len]
   simp only [List.flatMap_append,List.flatMap_cons,List.length_append]
   omega
  have hc:1≤(idsF K n c).length:=by rw [ids_fix h c,List.length_cons]; omega
  obtain ⟨l,h1,h2⟩:=Oc.kids h ho B (A++[c]) f (by rw [hk]; simp) (by simp only [List.length_cons] at hf; omega)
  simp only [kidsF]
  rw [if_pos (by omega),hoc.sz h,nodesF_len n c]
  have e:a+1+((A++[c]).flatMap (idsF K n)).length=a+1+(A.flatMap (idsF K n)).length+(idsF K n c).length:=by
   simp only [List.flatMap_append,List.flatMap_cons,List.flatMap_nil,List.append_nil,List.length_append]
   omega
  rw [e] at h1
  rw [h1]
  exact ⟨_,rfl, .cons hoc h2⟩
theorem oc_of (h:∀ x,Ht K n x) (hz:(idsF K n r)[a]?=some z):Oc K N n r a z:=by
 have hl:=(List.getElem?_eq_some_iff.1 hz).1
 obtain ⟨w,hw⟩:=oc_all (N:=N) h n r (h r) a hl
 have:=hw.id h
 rw [hz] at this
 cases this
 exact hw
theorem idxOf_at {l:List Nat} (hn:l.Nodup) (h:l[a]?=some z):l.idxOf z=a:=by
 obtain ⟨h1,h2⟩:=List.getElem?_eq_some_iff.1 h
 subst h2
 exact hn.idxOf_getElem a h1
theorem oc_in (h:∀ x,Ht K n x) (hz:z∈idsF K n r):Oc K N n r ((idsF K n r).idxOf z) z :=
 oc_of h (by rw [List.getElem?_eq_getElem (List.idxOf_lt_length_of_mem hz),List.getElem_idxOf])
theorem Oc.mem (h:∀ x,Ht K n x) (ho:Oc K N n r a z):z∈idsF K n r:=List.mem_of_getElem? (ho.id h)
theorem kid_in (h:∀ x,Ht K n x) (hz:z∈idsF K n r) (hc:c∈K z):c∈idsF K n r:=by
 have h1:=oc_in (N:=fun _=>⟨0,[],[],[],0⟩) h hz
 obtain ⟨A,B,e⟩:=List.append_of_mem hc
 exact (h1.trans (Oc.kid h e)).mem h
end
end Go.Proofs.YtkmigbicabfodaaGreat.V
set_option linter.unusedVariables false
set_option linter.unusedSimpArgs false
namespace Go.Proofs.YtkmigbicabfodaaGreat.V
open Go
section
variable {F G:Fo} {P P':Nat→Int×Node} {Z:Nat→Bool} {p:Nat} {A B l:List Nat}
theorem Rk.off (h:Rk F):Rk (F.off l):=by
 obtain ⟨r,hr⟩:=h
 refine ⟨r,fun c p hp=>?_⟩
 simp only [Fo.off] at hp
 by_cases e:c∈l
 ·rw [if_pos e] at hp; cases hp
 ·rw [if_neg e] at hp; exact hr c p hp
open Classical in
theorem Rk.hang (h:Rk F) (hl:∀ c∈l,F.up c=none∧¬ Anc F c p):Rk (F.hang p A l B):=by
 obtain ⟨r,hr⟩:=h
 refine ⟨fun x=>if ∃ d∈l,Anc F d x then r x+r p+1 else r x,fun c q hq=>?_⟩
 simp only [Fo.hang] at hq
 have hp:¬ ∃ d∈l,Anc F d p:=fun ⟨d,hd,h⟩=>(hl d hd).2 h
 by_cases e:c∈l
 ·rw [if_pos e] at hq
  cases hq
  simp only [if_neg hp]
  rw [if_pos ⟨c,e, .self⟩]
  omega
 ·rw [if_neg e] at hq
  have h1:=hr c q hq
  have hiff:(∃ d∈l,Anc F d q)↔∃ d∈l,Anc F d c:=by
   constructor
   ·exact fun ⟨d,hd,h⟩=>⟨d,hd, .up hq h⟩
   ·intro ⟨d,hd,h⟩
    refine ⟨d,hd,?_⟩
    cases h with
    | self=>exact absurd hd e
    | up h t=>rw [hq] at h; cases h; exact t
  simp only [hiff]
  split <;> omega
theorem Rk.ext (h:Rk F) (hF:F.ok) (hx:ExS F P G P'):Rk G:=by
 obtain ⟨r,hr⟩:=h
 refine ⟨fun i=>if i<F.m then r i else i,fun c q hq=>?_⟩
 have hk:=hx.ok.up hq
 by_cases hq':q<F.m
 ·rw [(hx.old q hq').2.1] at hk
  obtain ⟨h1,h2⟩:=hF.kid hk.2
  simp only [if_pos hq',if_pos h2]
  exact hr c q h1
 ·have h1:=hx.inc q (by omega) c hk.2
  simp only [if_neg hq',if_neg (show ¬ c<F.m by omega)]
  omega
def elB (P:Nat→Int×Node) (c:Nat):Bool:=decide ((P c).2.kind=3)
inductive Inm (K:Nat→List Nat) (e:Nat→Bool):Nat→Option Nat→Prop
 | stop {x:Nat} (h:(K x).filter e=[]):Inm K e x (some x)
 | many {x a b:Nat} {l:List Nat} (h:(K x).filter e=a::b::l):Inm K e x none
 | down {x y:Nat} {r:Option Nat} (h:(K x).filter e=[y]) (t:Inm K e y r):Inm K e x r
theorem Inm.fn {K:Nat→List Nat} {e:Nat→Bool} {x:Nat} {r s:Option Nat} (h:Inm K e x r) (h':Inm K e x s):r=s:=by
 induction h with
 | stop h =>
  cases h' with
  | stop=>rfl
  | many h2=>rw [h] at h2; cases h2
  | down h2=>rw [h] at h2; cases h2
 | many h =>
  cases h' with
  | stop h2=>rw [h] at h2; cases h2
  | many=>rfl
  | down h2=>rw [h] at h2; cases h2
 | down h _ ih =>
  cases h' with
  | stop h2=>rw [h] at h2; cases h2
  | many h2=>rw [h] at h2; cases h2
  | down h2 t=>rw [h] at h2; cases h2; exact ih t
def scanE (k:Nat) (S:List KN):List Nat→(Option Nat×Option Nat×List KN) ⊕ (Option Nat×List KN)
 | [] => .inl (some k,none,S)
 | [y] => .inl (some k,some y,S)
 | _ => .inr (none,S)
theorem inm_scan (hF:F.ok) {k:Nat} (hk:k<F.m) (hl:(F.kids k).length≤1000000):∀ (d j:Nat) (nx:Option Nat),(F.kids k).length - j=d→j≤(F.kids k).length→((F.kids k).take j).filter (elB P)=nx.toList →
  loopO m_spec_inmost_0_0 (some k,nx,(j:Int),F.kst P Z)=some (scanE k (F.kst P Z) ((F.kids k).filter (elB P))):=by
 have hg:(F.kst P Z)[k]?=some (F.kn1 P Z k):=Fo.kget hk
 have hkk:(F.kn1 P Z k).kids=(F.kids k).map some:=rfl
 intro d
 induction d with
 | zero =>
  intro j nx hd hj hf
  obtain rfl:j=(F.kids k).length:=by omega
  rw [List.take_length] at hf
  refine loopO_out ?_
  simp only [m_spec_inmost_0_0,bind_some,hg,hkk,cond_dec,List.length_map]
  rw [if_neg (by omega),hf]
  cases nx <;> rfl
 | succ d ih =>
  intro j nx hd hj hf
  obtain ⟨y,hy⟩:=get_lt (l:=F.kids k) (k:=j) (by omega)
  have hym:=List.mem_of_getElem? hy
  have hgy:(F.kst P Z)[y]?=some (F.kn1 P Z y):=Fo.kget (hF.kid hym).2
  have hyk:((F.kids k).map some)[j]?=some (some y):=by rw [List.getElem?_map,hy]; rfl
  have hyn:(F.kn1 P Z y).n=(P y).2:=rfl
  have e1:(F.kids k).take (j+1)=(F.kids k).take j++[y]:=by rw [List.take_add_one,hy]; rfl
  have hf1:((F.kids k).take (j+1)).filter (elB P)=nx.toList++[y].filter (elB P):=by rw [e1,List.filter_append,hf]
  by_cases he:(P y).2.kind=3
  ·have heb:elB P y=true:=by simp [elB,he]
   rw [List.filter_cons_of_pos heb,List.filter_nil] at hf1
   cases nx with
   | none =>
    have step:m_spec_inmost_0_0 (some k,none,(j:Int),F.kst P Z)=some (.nx (some k,some y,((j+1:Nat):Int),F.kst P Z)):=by
     simp only [m_spec_inmost_0_0,bind_some,hg,hkk,cond_dec,List.length_map,atI_nat,hyk,hgy,hyn]
     rw [if_pos (by omega),if_pos he,if_pos he,w64 (by omega) (by omega)]
     rfl
    rw [loopO_nx step]
    exact ih (j+1) (some y) (by omega) (by omega) hf1
   | some z =>
    have e2:(F.kids k).filter (elB P)=z::y::((F.kids k).drop (j+1)).filter (elB P):=by
     conv=>lhs; rw [← List.take_append_drop (j+1) (F.kids k)]
     rw [List.filter_append,hf1]
     rfl
    refine loopO_out ?_
    simp only [m_spec_inmost_0_0,bind_some,hg,hkk,cond_dec,List.length_map,atI_nat,hyk,hgy,hyn]
    rw [if_pos (by omega),if_pos he,e2]
    rfl
  ·have heb:¬ elB P y=true:=by simp [elB,he]
   rw [List.filter_cons_of_neg heb,List.filter_nil,List.append_nil] at hf1
   have step:m_spec_inmost_0_0 (some k,nx,(j:Int),F.kst P Z)=some (.nx (some k,nx,((j+1:Nat):Int),F.kst P Z)):=by
    simp only [m_spec_inmost_0_0,bind_some,hg,hkk,cond_dec,List.length_map,atI_nat,hyk,hgy,hyn]
    rw [if_pos (by omega),if_neg he,if_neg he,w64 (by omega) (by omega)]
    rfl
   rw [loopO_nx step]
   exact ih (j+1) nx (by omega) (by omega) hf1
theorem inmost_loop (hF:F.ok) (hl:∀ i,(F.kids i).length≤1000000):∀ (n k:Nat),k<F.m→Ht F.kids n k→∃ r,loopO m_spec_inmost_0 (some k,F.kst P Z)=some (r,F.kst P Z)∧Inm F.kids (elB P) k r
 | 0,_,_,h=>h.elim
 | n+1,k,hk,hh=>by
  have hs:=inm_scan (P:=P) (Z:=Z) hF hk (hl k) _ 0 none rfl (Nat.zero_le _) rfl
  have hs':loopO m_spec_inmost_0_0 (some k,none,(0:Int),F.kst P Z)=_:=hs
  cases hf:(F.kids k).filter (elB P) with
  | nil =>
   rw [hf] at hs'
   refine ⟨some k,loopO_out ?_, .stop hf⟩
   simp only [m_spec_inmost_0,hs',bind_some]
   rfl
  | cons a l =>
   cases l with
   | nil =>
    rw [hf] at hs'
    have ha:a∈F.kids k:=by
     have:a∈(F.kids k).filter (elB P):=by rw [hf]; simp
     exact (List.mem_filter.1 this).1
    obtain ⟨r,h1,h2⟩:=inmost_loop hF hl n a (hF.kid ha).2 (hh a ha)
    refine ⟨r,?_, .down hf h2⟩
    have step:m_spec_inmost_0 (some k,F.kst P Z)=some (.nx (some a,F.kst P Z)):=by
     simp only [m_spec_inmost_0,hs',bind_some]
     rfl
    rw [loopO_nx step]
    exact h1
   | cons b l =>
    rw [hf] at hs'
    refine ⟨none,loopO_out ?_, .many hf⟩
    simp only [m_spec_inmost_0,hs',bind_some]
    rfl
theorem inmost_eq (hF:F.ok) (hr:Rk F) (hl:∀ i,(F.kids i).length≤1000000) {k:Nat} (hk:k<F.m):∃ r,m_spec_inmost (some k,F.kst P Z)=some r∧Inm F.kids (elB P) k r:=by
 obtain ⟨r,h1,h2⟩:=inmost_loop (P:=P) (Z:=Z) hF hl F.m k hk (ht_all hF hr hk (Nat.le_refl _))
 exact ⟨r,by simp only [m_spec_inmost,h1,bind_some],h2⟩
theorem F2.filter2 {α β:Type} {R:α→β→Prop} {e:α→Bool} {e':β→Bool} (hR:∀ a b,R a b→e a=e' b):∀ {l:List α} {m:List β},F2 R l m→F2 R (l.filter e) (m.filter e')
 | _,_, .nil => .nil
 | _,_, .cons (a:=a) (b:=b) h t=>by
  rw [List.filter_cons,List.filter_cons,← hR a b h]
  cases e a with
  | true=>exact .cons h (t.filter2 hR)
  | false=>exact t.filter2 hR
theorem Inm.shp {K K':Nat→List Nat} {R:Nat→Nat→Prop} {e e':Nat→Bool} (hR:∀ c d,R c d→e c=e' d):∀ {n c d:Nat} {r s:Option Nat},Shp K K' R n c d→Inm K e c r→Inm K' e' d s→(r.isNone↔s.isNone)
 | 0,_,_,_,_,h,_,_=>h.elim
 | n+1,c,d,r,s,⟨_,hf⟩,h,h'=>by
  have hfe:F2 (Shp K K' R n) ((K c).filter e) ((K' d).filter e'):=hf.filter2 fun a b h=>by
   cases n with
   | zero=>exact h.elim
   | succ n=>exact hR _ _ h.1
  cases h with
  | stop h1 =>
   rw [h1] at hfe
   cases hk:(K' d).filter e' with
   | nil =>
    cases h' with
    | stop=>simp
    | many h2=>rw [hk] at h2; cases h2
    | down h2=>rw [hk] at h2; cases h2
   | cons=>rw [hk] at hfe; cases hfe
  | many h1 =>
   rw [h1] at hfe
   cases h' with
   | stop h2=>rw [h2] at hfe; cases hfe
   | many h2=>simp
   | down h2=>rw [h2] at hfe; cases hfe with | cons _ t=>cases t
  | down h1 t =>
   rw [h1] at hfe
   cases h' with
   | stop h2=>rw [h2] at hfe; cases hfe
   | many h2=>rw [h2] at hfe; cases hfe with | cons _ t=>cases t
   | down h2 t' =>
    rw [h2] at hfe
    cases hfe with | cons h _=>exact Inm.shp hR h t t'
end
end Go.Proofs.YtkmigbicabfodaaGreat.V
set_option linter.unusedVariables false
set_option linter.unusedSimpArgs false
namespace Go.Proofs.YtkmigbicabfodaaGreat.V
open Go
theorem loop_each {X B:Type} {body:X→Option (Stp X B)} {st:Nat→X} {n:Nat} {good bad:B} {p:Nat→Prop} (h:∀ k,k<n→body (st k)=some (.out bad)∨(body (st k)=some (.nx (st (k+1)))∧p k)) (he:body (st n)=some (.out good)) :
  ∀ k,k≤n→∃ y,loopO body (st k)=some y∧(y=bad∨(y=good∧∀ j,k≤j→j<n→p j)):=by
 have key:∀ d k,n - k=d→k≤n→∃ y,loopO body (st k)=some y∧(y=bad∨(y=good∧∀ j,k≤j→j<n→p j)):=by
  intro d
  induction d with
  | zero =>
   intro k hd hk
   obtain rfl:k=n:=by omega
   exact ⟨_,loopO_out he, .inr ⟨rfl,fun j h1 h2=>by omega⟩⟩
  | succ d ih =>
   intro k hd hk
   rcases h k (by omega) with h1 | ⟨h1,h2⟩
   ·exact ⟨_,loopO_out h1, .inl rfl⟩
   ·obtain ⟨y,g1,g2⟩:=ih (k+1) (by omega) (by omega)
    refine ⟨y,by rw [loopO_nx h1]; exact g1,g2.imp id fun ⟨e,g3⟩=>⟨e,fun j j1 j2=>?_⟩⟩
    by_cases e2:j=k
    ·subst e2; exact h2
    ·exact g3 j (by omega) j2
 exact fun k hk=>key _ k rfl hk
theorem map_some_get {l:List Nat} {i c:Nat} (h:l[i]?=some c):(l.map some)[i]?=some (some c):=by rw [List.getElem?_map,h]; rfl
section
variable {F:Fo} {P:Nat→Int×Node} {Z:Nat→Bool} {ws on:List Nat}
theorem apart_a (hF:F.ok) (hr:Rk F) (hw:∀ c∈ws,c<F.m) (hlen:ws.length≤1000000) (on:List Nat) {i a:Nat} (hi:ws[i]?=some a) :
  ∃ y,loopO m_spec_apart_0_0 (ws.map some,on.map some,(i:Int),(0:Int),F.kst P Z)=some y∧(y = .inr (false,F.kst P Z)∨(y = .inl (ws.map some,on.map some,(i:Int),F.kst P Z)∧∀ k,0≤k→k<ws.length→∀ c,ws[k]?=some c→k≠i→¬ Anc F a c)):=by
 refine loop_each (body:=m_spec_apart_0_0) (st:=fun k=>(ws.map some,on.map some,(i:Int),(k:Int),F.kst P Z)) (n:=ws.length) (p:=fun k=>∀ c,ws[k]?=some c→k≠i→¬ Anc F a c) (fun k hk=>?_) ?_ 0 (Nat.zero_le _)
 ·obtain ⟨c,hc⟩:=get_lt hk
  have ha':=hw a (List.mem_of_getElem? hi)
  have hc':=hw c (List.mem_of_getElem? hc)
  obtain ⟨b,hb1,hb2⟩:=holds_eq (P:=P) (Z:=Z) hF hr (a:=a) hc'
  simp only [m_spec_apart_0_0,cond_dec,atI_nat,map_some_get hi,map_some_get hc,bind_some,hb1]
  rw [if_pos (by simp; omega)]
  by_cases e:k=i
  ·rw [if_neg (by simp [e]),w64 (by omega) (by omega)]
   exact .inr ⟨rfl,fun _ _ h=>absurd e h⟩
  ·rw [if_pos (by omega)]
   cases hb:b with
   | true=>exact .inl rfl
   | false =>
    simp only [cond_false]
    rw [w64 (by omega) (by omega)]
    refine .inr ⟨rfl,fun c' hc' _ h=>?_⟩
    rw [hc] at hc'
    cases hc'
    rw [hb2.2 h] at hb; cases hb
 ·simp only [m_spec_apart_0_0,cond_dec]
  rw [if_neg (by simp)]
theorem apart_b (hF:F.ok) (hr:Rk F) (hw:∀ c∈ws,c<F.m) (ho:∀ c∈on,c<F.m) (hlen:on.length≤1000000) {i a:Nat} (hi:ws[i]?=some a) :
  ∃ y,loopO m_spec_apart_0_1 (ws.map some,on.map some,(i:Int),(0:Int),F.kst P Z)=some y∧(y = .inr (false,F.kst P Z)∨(y = .inl (ws.map some,on.map some,(i:Int),F.kst P Z)∧∀ k,0≤k→k<on.length→∀ c,on[k]?=some c→¬ Anc F a c)):=by
 refine loop_each (body:=m_spec_apart_0_1) (st:=fun k=>(ws.map some,on.map some,(i:Int),(k:Int),F.kst P Z)) (n:=on.length) (p:=fun k=>∀ c,on[k]?=some c→¬ Anc F a c) (fun k hk=>?_) ?_ 0 (Nat.zero_le _)
 ·obtain ⟨c,hc⟩:=get_lt hk
  have ha':=hw a (List.mem_of_getElem? hi)
  have hc':=ho c (List.mem_of_getElem? hc)
  obtain ⟨b,hb1,hb2⟩:=holds_eq (P:=P) (Z:=Z) hF hr (a:=a) hc'
  simp only [m_spec_apart_0_1,cond_dec,atI_nat,map_some_get hi,map_some_get hc,bind_some,hb1]
  rw [if_pos (by simp; omega)]
  cases hb:b with
  | true=>exact .inl rfl
  | false =>
   simp only [cond_false]
   rw [w64 (by omega) (by omega)]
   refine .inr ⟨rfl,fun c' hc' h=>?_⟩
   rw [hc] at hc'
   cases hc'
   rw [hb2.2 h] at hb; cases hb
 ·simp only [m_spec_apart_0_1,cond_dec]
  rw [if_neg (by simp)]
theorem apart_ex (hF:F.ok) (hr:Rk F) (hw:∀ c∈ws,c<F.m) (ho:∀ c∈on,c<F.m) (hl1:ws.length≤1000000) (hl2:on.length≤1000000) :
  ∃ b,m_spec_apart (ws.map some,on.map some,F.kst P Z)=some b∧(b=true→(∀ i k a c:Nat,ws[i]?=some a→ws[k]?=some c→k≠i→¬ Anc F a c)∧∀ a∈ws,∀ c∈on,¬ Anc F a c):=by
 obtain ⟨y,h1,h2⟩:=loop_each (body:=m_spec_apart_0) (st:=fun k=>(ws.map some,on.map some,(k:Int),F.kst P Z)) (n:=ws.length) (good := .inl (F.kst P Z)) (bad := .inr (false,F.kst P Z))
  (p:=fun i=>∀ a,ws[i]?=some a→(∀ k,0≤k→k<ws.length→∀ c,ws[k]?=some c→k≠i→¬ Anc F a c)∧∀ k,0≤k→k<on.length→∀ c,on[k]?=some c→¬ Anc F a c) (fun i hi=>by
   obtain ⟨a,ha⟩:=get_lt hi
   obtain ⟨y,g1,g2⟩:=apart_a (P:=P) (Z:=Z) hF hr hw hl1 on ha
   obtain ⟨z,k1,k2⟩:=apart_b (P:=P) (Z:=Z) hF hr hw ho hl2 ha
   simp only [m_spec_apart_0,cond_dec]
   rw [if_pos (by simp; omega),g1,bind_some]
   rcases g2 with rfl | ⟨rfl,g3⟩
   ·exact .inl rfl
   ·simp only [selim]
    rw [k1,bind_some]
    rcases k2 with rfl | ⟨rfl,k3⟩
    ·exact .inl rfl
    ·simp only [selim]
     rw [w64 (by omega) (by omega)]
     refine .inr ⟨rfl,fun a' ha'=>?_⟩
     rw [ha] at ha'
     cases ha'
     exact ⟨g3,k3⟩) (by
   simp only [m_spec_apart_0,cond_dec]
   rw [if_neg (by simp)]) 0 (Nat.zero_le _)
 have h1':loopO m_spec_apart_0 (ws.map some,on.map some,(0:Int),F.kst P Z)=some y:=h1
 simp only [m_spec_apart,h1',bind_some]
 rcases h2 with rfl | ⟨rfl,h3⟩
 ·exact ⟨false,rfl,fun h=>by cases h⟩
 ·refine ⟨true,rfl,fun _=>⟨fun i k a c ha hc hk=>?_,fun a ha c hc=>?_⟩⟩
  ·exact (h3 i (Nat.zero_le _) (List.getElem?_eq_some_iff.1 ha).1 a ha).1 k (Nat.zero_le _) (List.getElem?_eq_some_iff.1 hc).1 c hc hk
  ·obtain ⟨i,hi⟩:=List.mem_iff_getElem?.1 ha
   obtain ⟨k,hk⟩:=List.mem_iff_getElem?.1 hc
   exact (h3 i (Nat.zero_le _) (List.getElem?_eq_some_iff.1 hi).1 a hi).2 k (Nat.zero_le _) (List.getElem?_eq_some_iff.1 hk).1 c hk
end
section
variable {F:Fo} {P:Nat→Int×Node} {Z:Nat→Bool} {on:List Nat}
theorem stand_ex (ho:∀ c∈on,c<F.m) (hl:on.length≤1000000):∃ b,m_spec_stand (on.map some,F.kst P Z)=some b∧(b=true→∀ c∈on,∃ p,F.up c=some p):=by
 obtain ⟨y,h1,h2⟩:=loop_each (body:=m_spec_stand_0) (st:=fun k=>(on.map some,(k:Int),F.kst P Z)) (n:=on.length) (good := .inl (F.kst P Z)) (bad := .inr (false,F.kst P Z)) (p:=fun i=>∀ a,on[i]?=some a→∃ p,F.up a=some p) (fun i hi=>by
   obtain ⟨a,ha⟩:=get_lt hi
   have hg:=Fo.kget (F:=F) (P:=P) (Z:=Z) (ho a (List.mem_of_getElem? ha))
   simp only [m_spec_stand_0,cond_dec,atI_nat,map_some_get ha,bind_some,hg]
   rw [if_pos (by simp; omega)]
   have hu:(F.kn1 P Z a).up=F.up a:=rfl
   rw [hu]
   cases hup:F.up a with
   | none=>exact .inl rfl
   | some p =>
    simp only [Option.isNone_some,cond_false]
    rw [w64 (by omega) (by omega)]
    refine .inr ⟨rfl,fun a' ha'=>?_⟩
    rw [ha] at ha'
    cases ha'
    exact ⟨p,hup⟩) (by
   simp only [m_spec_stand_0,cond_dec]
   rw [if_neg (by simp)]) 0 (Nat.zero_le _)
 have h1':loopO m_spec_stand_0 (on.map some,(0:Int),F.kst P Z)=some y:=h1
 simp only [m_spec_stand,h1',bind_some]
 rcases h2 with rfl | ⟨rfl,h3⟩
 ·exact ⟨false,rfl,fun h=>by cases h⟩
 ·refine ⟨true,rfl,fun _ a ha=>?_⟩
  obtain ⟨i,hi⟩:=List.mem_iff_getElem?.1 ha
  exact h3 i (Nat.zero_le _) (List.getElem?_eq_some_iff.1 hi).1 a hi
theorem are_ex (ho:∀ c∈on,c<F.m) (hl:on.length≤1000000):∃ b,m_spec_are (on.map some,F.kst P Z)=some b∧(b=true→∀ c∈on,(P c).2.kind=3):=by
 obtain ⟨y,h1,h2⟩:=loop_each (body:=m_spec_are_0) (st:=fun k=>(on.map some,(k:Int),F.kst P Z)) (n:=on.length) (good := .inl (F.kst P Z)) (bad := .inr (false,F.kst P Z)) (p:=fun i=>∀ a,on[i]?=some a→(P a).2.kind=3) (fun i hi=>by
   obtain ⟨a,ha⟩:=get_lt hi
   have hg:=Fo.kget (F:=F) (P:=P) (Z:=Z) (ho a (List.mem_of_getElem? ha))
   simp only [m_spec_are_0,cond_dec,atI_nat,map_some_get ha,bind_some,hg]
   rw [if_pos (by simp; omega)]
   have hu:(F.kn1 P Z a).n=(P a).2:=rfl
   rw [hu]
   by_cases e:(P a).2.kind=3
   ·rw [if_neg (by simp [e]),w64 (by omega) (by omega)]
    refine .inr ⟨rfl,fun a' ha'=>?_⟩
    rw [ha] at ha'
    cases ha'
    exact e
   ·rw [if_pos e]; exact .inl rfl) (by
   simp only [m_spec_are_0,cond_dec]
   rw [if_neg (by simp)]) 0 (Nat.zero_le _)
 have h1':loopO m_spec_are_0 (on.map some,(0:Int),F.kst P Z)=some y:=h1
 simp only [m_spec_are,h1',bind_some]
 rcases h2 with rfl | ⟨rfl,h3⟩
 ·exact ⟨false,rfl,fun h=>by cases h⟩
 ·refine ⟨true,rfl,fun _ a ha=>?_⟩
  obtain ⟨i,hi⟩:=List.mem_iff_getElem?.1 ha
  exact h3 i (Nat.zero_le _) (List.getElem?_eq_some_iff.1 hi).1 a hi
end
end Go.Proofs.YtkmigbicabfodaaGreat.V
set_option linter.unusedVariables false
set_option linter.unusedSimpArgs false
namespace Go.Proofs.YtkmigbicabfodaaGreat.V
open Go
def mvE (F:Fo) (to:Nat) (l:List Nat):Fo:=(F.off l).hang to (F.kids to) l []
structure Cpd (F:Fo) (P:Nat→Int×Node) (w:Nat) (F1:Fo) (P1:Nat→Int×Node):Prop where
 ext:ExS F P F1 P1
 up:F1.up F.m=none
 n:CpR F1 (RcS P1 fun y=>(P y).2) F.kids F.m F1.m big F.m w∧idsF F1.kids big F.m=List.range' F.m (F1.m - F.m)
def Wr (w:Nat) (l:List Nat) (F:Fo) (P:Nat→Int×Node) (F':Fo) (P':Nat→Int×Node):Prop :=
 ∃ (F1:Fo) (first:Nat) (rest:List Nat) (p:Nat) (A B:List Nat) (to:Nat),Cpd F P w F1 P'∧l=first::rest∧F1.up first=some p∧F1.kids p=A++first::B∧Inm (F1.hang p A [F.m] (first::B)).kids (elB P') F.m (some to)∧F'=mvE (F1.hang p A [F.m] (first::B)) to l
section
variable {F F1 G:Fo} {P P1:Nat→Int×Node} {Z:Nat→Bool} {w to c:Nat} {A B l m:List Nat} {S:List KN}
theorem kids_len (hF:F.ok) (i:Nat):(F.kids i).length≤F.m:=by
 have h:=(hF.nd i).length_le_of_subset (l₂:=List.range F.m) (fun z hz=>List.mem_range.2 (hF.kid hz).2)
 rwa [List.length_range] at h
theorem mvE_nil:mvE F to []=F:=by
 unfold mvE
 rw [off_nil,hang_nil (by simp)]
theorem mvE_sp (hF:F.ok) (hto:to<F.m) (h1:∀ d∈l++[c],d<F.m∧to≠d∧d∉F.kids to) (h2:(l++[c]).Nodup):Sp (mvE F to (l++[c])) ((mvE F to l).off [c]) to c (F.kids to++l) []:=by
 have hk:(F.off (l++[c])).kids to=F.kids to++[]:=by
  simp only [Fo.off,List.append_nil]
  refine List.filter_eq_self.2 fun j hj=>?_
  have:j∉l++[c]:=fun hm=>(h1 j hm).2.2 hj
  simpa using this
 have hcl:c∉l:=fun h=>by
  rw [List.nodup_append] at h2
  exact h2.2.2 c h c (by simp) rfl
 have e:(mvE F to l).off [c]=(F.off (l++[c])).hang to (F.kids to) l []:=by
  have hkc:c∉F.kids to:=(h1 c (by simp)).2.2
  refine Fo.ext rfl (fun i=>?_) (fun i=>?_)
  ·simp only [mvE,Fo.off,Fo.hang,List.mem_singleton,List.mem_append]
   by_cases e1:i=c
   ·subst e1; simp [hcl]
   ·by_cases e2:i∈l <;> simp [e1,e2]
  ·simp only [mvE,Fo.off,Fo.hang,List.mem_append,List.mem_singleton,List.append_nil]
   by_cases e1:i=to
   ·rw [if_pos e1,if_pos e1]
    refine List.filter_eq_self.2 fun j hj=>?_
    have:j≠c:=fun e=>by
     subst e
     rcases List.mem_append.1 hj with hj | hj
     ·exact hkc hj
     ·exact hcl hj
    simpa using this
   ·rw [if_neg e1,if_neg e1,List.filter_filter]
    congr 1
    funext j
    by_cases h:j∈l <;> by_cases h':j=c <;> simp [h,h']
 rw [e]
 have hn:l.Nodup:=(List.nodup_append.1 h2).1
 have hok:((F.off (l++[c])).hang to (F.kids to) l []).ok:=hang_ok (off_ok hF) hto hk l (fun d hd=>⟨(h1 d (by simp [hd])).1,by simp [Fo.off,hd],(h1 d (by simp [hd])).2.1⟩) hn
 exact hang_sp hok hto (h1 c (by simp)).1 (by simp [Fo.off]) (h1 c (by simp)).2.1 hcl
theorem mvE_ok (hF:F.ok) (hto:to<F.m) (h1:∀ d∈l,d<F.m∧to≠d∧d∉F.kids to) (h2:l.Nodup):(mvE F to l).ok:=by
 have hk:(F.off l).kids to=F.kids to++[]:=by
  simp only [Fo.off,List.append_nil]
  refine List.filter_eq_self.2 fun j hj=>?_
  have:j∉l:=fun hm=>(h1 j hm).2.2 hj
  simpa using this
 exact hang_ok (off_ok hF) hto hk l (fun d hd=>⟨(h1 d hd).1,by simp [Fo.off,hd],(h1 d hd).2.1⟩) h2
theorem puts_loop (hF:F.ok) (hm:F.m≤1000000) (hto:to<F.m) (h1:∀ d∈l,d<F.m∧to≠d∧d∉F.kids to) (h2:l.Nodup) (f:PUnit×Int×Bool) (wo:Option Nat) (gs:List (List (Option Nat))) (i:Int) (ks:List (Option Nat)) :
  ∀ (d j:Nat) (Z:Nat→Bool),l.length - j=d→j≤l.length→∃ Z',loopO m_spec_forest_wrap_1_1 (f,wo,gs,i,l.map some,some to,(j:Int),(mvE F to (l.take j)).kst P Z,ks)=some (f,wo,gs,i,(mvE F to l).kst P Z',ks):=by
 have hll:l.length≤F.m:=by
  have h:=h2.length_le_of_subset (l₂:=List.range F.m) (fun z hz=>List.mem_range.2 (h1 z hz).1)
  rwa [List.length_range] at h
 obtain ⟨f1,fa,fb⟩:=f
 intro d
 induction d with
 | zero =>
  intro j Z hd hj
  obtain rfl:j=l.length:=by omega
  rw [List.take_length]
  refine ⟨Z,loopO_out ?_⟩
  simp only [m_spec_forest_wrap_1_1,cond_dec,List.length_map]
  rw [if_neg (by omega)]
 | succ d ih =>
  intro j Z hd hj
  obtain ⟨c,hc⟩:=get_lt (l:=l) (k:=j) (by omega)
  have e1:l.take (j+1)=l.take j++[c]:=by rw [List.take_add_one,hc]; rfl
  have hsub:∀ d∈l.take j++[c],d∈l:=fun d hd=>by rw [← e1] at hd; exact List.mem_of_mem_take hd
  have hnd:(l.take j++[c]).Nodup:=by rw [← e1]; exact h2.sublist (List.take_sublist _ _)
  have hsp:=mvE_sp hF hto (fun d hd=>h1 d (hsub d hd)) hnd
  have hokj:(mvE F to (l.take j)).ok:=mvE_ok hF hto (fun d hd=>h1 d (hsub d (by simp [hd]))) (List.nodup_append.1 hnd).1
  have hcm:c<F.m:=(h1 c (hsub c (by simp))).1
  obtain ⟨Z',hcut⟩:=cut_off (F:=mvE F to (l.take j)) (P:=P) (Z:=Z) hokj hcm fun i=>Nat.le_trans (kids_len hokj i) hm
  have hput:=put_eq hcut hsp (Nat.le_trans (kids_len hsp.okF to) hm)
  have hg:((mvE F to (l.take j)).kst P Z)[to]?=some ((mvE F to (l.take j)).kn1 P Z to):=Fo.kget hto
  have hkt:((mvE F to (l.take j)).kn1 P Z to).kids=(F.kids to++l.take j).map some:=by
   show ((mvE F to (l.take j)).kids to).map some=_
   simp [mvE,Fo.hang]
  have hlk:((((F.kids to++l.take j).map some).length:Nat):Int)=((F.kids to++l.take j).length:Int):=by simp
  have hcg:(l.map some)[j]?=some (some c):=by rw [List.getElem?_map,hc]; rfl
  have step:m_spec_forest_wrap_1_1 ((f1,fa,fb),wo,gs,i,l.map some,some to,(j:Int),(mvE F to (l.take j)).kst P Z,ks)=some (.nx ((f1,fa,fb),wo,gs,i,l.map some,some to,((j+1:Nat):Int),(mvE F to (l.take (j+1))).kst P (upd Z' to false),ks)):=by
   simp only [m_spec_forest_wrap_1_1,cond_dec,bind_some,hg,hkt,atI_nat,hcg,Int.toNat_natCast,hlk,hput]
   rw [if_pos (by simp; omega),e1,w64 (by omega) (by omega)]
   rfl
  rw [loopO_nx step]
  exact ih (j+1) _ (by omega) (by omega)
theorem anc_old (hF:F.ok) (hx:ExS F P F1 P1) {a b:Nat} (hb:b<F.m) (h:Anc F1 a b):a<F.m∧Anc F a b:=by
 induction h with
 | self=>exact ⟨hb, .self⟩
 | @up p b h t ih =>
  rw [(hx.old b hb).1] at h
  obtain ⟨h1,h2⟩:=ih (hF.up h).1
  exact ⟨h1, .up h h2⟩
theorem wcheck_in (hF:F.ok) (hr:Rk F) (hl:∀ c∈l,c<F.m) (hlen:l.length≤1000000) (f:PUnit×Int×Bool) (wo:Option Nat) (gs:List (List (Option Nat))) (i:Int) (ks:List (Option Nat)) {a x:Nat} (ha:l[a]?=some x) :
  ∃ y,loopO m_spec_forest_wrap_1_0_0 (f,wo,gs,i,l.map some,(a:Int),(0:Int),F.kst P Z,ks)=some y∧(y = .inr (f,false,F.kst P Z,ks)∨(y = .inl (f,wo,gs,i,l.map some,(a:Int),F.kst P Z,ks)∧∀ k,0≤k→k<l.length→∀ c,l[k]?=some c→k≠a→¬ Anc F x c)):=by
 obtain ⟨f1,fa,fb⟩:=f
 refine loop_each (body:=m_spec_forest_wrap_1_0_0) (st:=fun k=>((f1,fa,fb),wo,gs,i,l.map some,(a:Int),(k:Int),F.kst P Z,ks)) (n:=l.length) (p:=fun k=>∀ c,l[k]?=some c→k≠a→¬ Anc F x c) (fun k hk=>?_) ?_ 0 (Nat.zero_le _)
 ·obtain ⟨c,hc⟩:=get_lt hk
  have hc':=hl c (List.mem_of_getElem? hc)
  obtain ⟨b,hb1,hb2⟩:=holds_eq (P:=P) (Z:=Z) hF hr (a:=x) hc'
  simp only [m_spec_forest_wrap_1_0_0,cond_dec,atI_nat,map_some_get ha,map_some_get hc,bind_some,Int.toNat_natCast,hb1]
  rw [if_pos (by simp; omega)]
  by_cases e:k=a
  ·rw [if_neg (by simp [e]),w64 (by omega) (by omega)]
   exact .inr ⟨rfl,fun _ _ h=>absurd e h⟩
  ·rw [if_pos (by omega)]
   cases hb:b with
   | true=>exact .inl rfl
   | false =>
    simp only [cond_false]
    rw [w64 (by omega) (by omega)]
    refine .inr ⟨rfl,fun c' hc' _ h=>?_⟩
    rw [hc] at hc'
    cases hc'
    rw [hb2.2 h] at hb; cases hb
 ·simp only [m_spec_forest_wrap_1_0_0,cond_dec]
  rw [if_neg (by simp)]
theorem wcheck (hF:F.ok) (hr:Rk F) (hl:∀ c∈l,c<F.m) (hlen:l.length≤1000000) (f:PUnit×Int×Bool) (wo:Option Nat) (gs:List (List (Option Nat))) (i:Int) (ks:List (Option Nat)) :
  ∃ y,loopO m_spec_forest_wrap_1_0 (f,wo,gs,i,l.map some,(0:Int),F.kst P Z,ks)=some y∧(y = .inr (f,false,F.kst P Z,ks)∨(y = .inl (f,wo,gs,i,l.map some,F.kst P Z,ks)∧∀ a k x c:Nat,l[a]?=some x→l[k]?=some c→k≠a→¬ Anc F x c)):=by
 obtain ⟨f1,fa,fb⟩:=f
 obtain ⟨y,h1,h2⟩:=loop_each (body:=m_spec_forest_wrap_1_0) (st:=fun k=>((f1,fa,fb),wo,gs,i,l.map some,(k:Int),F.kst P Z,ks)) (n:=l.length) (good := .inl ((f1,fa,fb),wo,gs,i,l.map some,F.kst P Z,ks)) (bad := .inr ((f1,fa,fb),false,F.kst P Z,ks))
  (p:=fun a=>∀ x,l[a]?=some x→∀ k,0≤k→k<l.length→∀ c,l[k]?=some c→k≠a→¬ Anc F x c) (fun a ha=>by
   obtain ⟨x,hx⟩:=get_lt ha
   obtain ⟨y,g1,g2⟩:=wcheck_in (P:=P) (Z:=Z) hF hr hl hlen (f1,fa,fb) wo gs i ks hx
   simp only [m_spec_forest_wrap_1_0,cond_dec]
   rw [if_pos (by simp; omega),g1,bind_some]
   rcases g2 with rfl | ⟨rfl,g3⟩
   ·exact .inl rfl
   ·simp only [selim]
    rw [w64 (by omega) (by omega)]
    refine .inr ⟨rfl,fun x' hx'=>?_⟩
    rw [hx] at hx'
    cases hx'
    exact g3) (by
   simp only [m_spec_forest_wrap_1_0,cond_dec]
   rw [if_neg (by simp)]) 0 (Nat.zero_le _)
 refine ⟨y,h1,h2.imp id fun ⟨e,h3⟩=>⟨e,fun a k x c ha hc hk=>?_⟩⟩
 exact h3 a (Nat.zero_le _) (List.getElem?_eq_some_iff.1 ha).1 x ha k (Nat.zero_le _) (List.getElem?_eq_some_iff.1 hc).1 c hc hk
end
end Go.Proofs.YtkmigbicabfodaaGreat.V
set_option linter.unusedVariables false
set_option linter.unusedSimpArgs false
namespace Go.Proofs.YtkmigbicabfodaaGreat.V
open Go
theorem big_ge:∃ n,big=n∧1000000≤n:=⟨big,rfl,by unfold big; omega⟩
section
variable {F F1 G:Fo} {P P1:Nat→Int×Node} {Z:Nat→Bool} {w to c p first:Nat} {A B l rest:List Nat} {S:List KN}
theorem anc_rank {r:Nat→Nat} (hr:∀ c p,F.up c=some p→r p<r c) {a b:Nat} (h:Anc F a b):r a≤r b:=by
 induction h with
 | self=>exact Nat.le_refl _
 | up h t ih=>have:=hr _ _ h; omega
theorem shp_cpR {K2 K:Nat→List Nat} {R:Nat→Nat→Prop} {lo hi:Nat} (hk:∀ i,lo≤i→i<hi→K2 i=F1.kids i):∀ {n c x:Nat},CpR F1 R K lo hi n c x→Shp K2 K R n c x
 | 0,_,_,h=>h
 | n+1,c,x,⟨⟨h1,h2⟩,h3,h4⟩=>⟨h3,by rw [hk c h1 h2]; exact h4.imp fun a b _ _ h=>shp_cpR hk h⟩
structure Pt1 (F:Fo) (P:Nat→Int×Node) (w first p:Nat) (A B:List Nat) (F1:Fo) (P1:Nat→Int×Node):Prop where
 okF:F.ok
 rk:Rk F
 hw:w<F.m
 hf:first<F.m
 ext:ExS F P F1 P1
 up:F1.up F.m=none
 lt:F.m<F1.m
 u:F1.up first=some p
 k:F1.kids p=A++first::B
theorem Pt1.pm (h:Pt1 F P w first p A B F1 P1):F.up first=some p∧p<F.m:=by
 have:=h.u
 rw [(h.ext.old first h.hf).1] at this
 exact ⟨this,(h.okF.up this).1⟩
theorem Pt1.sp (h:Pt1 F P w first p A B F1 P1):Sp (F1.hang p A [F.m] (first::B)) F1 p F.m A (first::B):=by
 have hp:=h.pm.2
 have:=h.lt
 have h1:=hang_sp (F:=F1) (p:=p) (c:=F.m) (A:=A) (l:=[]) (B:=first::B) (by rw [hang_nil h.k]; exact h.ext.ok) (by omega) (by omega) h.up (by omega) (by simp)
 rw [hang_nil h.k] at h1
 simpa using h1
theorem Pt1.rk2 (h:Pt1 F P w first p A B F1 P1):Rk (F1.hang p A [F.m] (first::B)):=by
 have hp:=h.pm.2
 refine (h.rk.ext h.okF h.ext).hang fun c hc=>?_
 rw [List.mem_singleton.1 hc]
 exact ⟨h.up,fun ha=>by have:=(anc_old h.okF h.ext hp ha).1; omega⟩
theorem Pt1.kids2 (h:Pt1 F P w first p A B F1 P1) {i:Nat} (hi:i≠p):(F1.hang p A [F.m] (first::B)).kids i=F1.kids i:=by simp [Fo.hang,hi]
theorem Pt1.ge (h:Pt1 F P w first p A B F1 P1) {e:Nat→Bool} {x:Nat} {r:Option Nat} (hi:Inm (F1.hang p A [F.m] (first::B)).kids e x r) (hx:F.m≤x) (hx2:x<F1.m):∀ to,r=some to→F.m≤to∧to<F1.m:=by
 have hp:=h.pm.2
 induction hi with
 | stop=>intro to e; cases e; exact ⟨hx,hx2⟩
 | many=>intro to e; cases e
 | @down x y r hd t ih =>
  have hy:y∈(F1.hang p A [F.m] (first::B)).kids x:=by
   have:y∈((F1.hang p A [F.m] (first::B)).kids x).filter e:=by rw [hd]; simp
   exact (List.mem_filter.1 this).1
  rw [h.kids2 (by omega)] at hy
  have h1:=h.ext.inc x hx y hy
  have h2:=(h.ext.ok.kid hy).2
  exact ih (by omega) h2
theorem Pt1.tok (h:Pt1 F P w first p A B F1 P1) (ht1:F.m≤to) (hl:∀ c∈l,c<F.m):∀ d∈l,d<F1.m∧to≠d∧d∉(F1.hang p A [F.m] (first::B)).kids to:=fun d hd=>by
 have hp:=h.pm.2
 have:=hl d hd
 have:=h.lt
 refine ⟨by omega,by omega,fun hk=>?_⟩
 rw [h.kids2 (by omega)] at hk
 have:=h.ext.inc to ht1 d hk
 omega
theorem Pt1.anc (h:Pt1 F P w first p A B F1 P1) {c i:Nat} (hc:c<F.m) (hi:F.m≤i) (ha:Anc (F1.hang p A [F.m] (first::B)) c i):Anc F c p:=by
 have hp:=h.pm.2
 have old:∀ {b:Nat},b<F.m→Anc (F1.hang p A [F.m] (first::B)) c b→Anc F c b:=fun {b} hb ha=>by
  induction ha with
  | self=>exact .self
  | @up q b hu t ih =>
   have e:b≠F.m:=by omega
   have hu':F.up b=some q:=by
    simp only [Fo.hang,List.mem_singleton,if_neg e] at hu
    rw [← (h.ext.old b hb).1]; exact hu
   exact .up hu' (ih (h.okF.up hu').1)
 induction ha with
 | self=>omega
 | @up q b hu t ih =>
  by_cases e:b=F.m
  ·simp only [Fo.hang,List.mem_singleton,if_pos e] at hu
   cases hu
   exact old hp t
  ·simp only [Fo.hang,List.mem_singleton,if_neg e] at hu
   by_cases hq:q<F.m
   ·have:=(h.ext.ok.up hu).2
    rw [(h.ext.old q hq).2.1] at this
    have:=(h.okF.kid this).2
    omega
   ·exact ih (by omega)
theorem Pt1.rk3 (h:Pt1 F P w first p A B F1 P1) (ht1:F.m≤to) (hl:∀ c∈l,c<F.m) (hfl:first∈l) (hna:∀ c∈l,c≠first→¬ Anc F c first):Rk (mvE (F1.hang p A [F.m] (first::B)) to l):=by
 refine (h.rk2.off).hang fun c hc=>⟨by simp [Fo.off,hc],fun ha=>?_⟩
 have ha2:Anc (F1.hang p A [F.m] (first::B)) c to:=by
  clear ht1
  induction ha with
  | self=>exact .self
  | @up q b hu t ih =>
   simp only [Fo.off] at hu
   by_cases e:b∈l
   ·rw [if_pos e] at hu; cases hu
   ·rw [if_neg e] at hu; exact .up hu ih
 have h3:=h.anc (hl c hc) ht1 ha2
 by_cases e:c=first
 ·subst e
  obtain ⟨r,hr⟩:=h.rk
  have h4:=anc_rank hr h3
  have h5:=hr c p h.pm.1
  omega
 ·exact hna c hc e (.up h.pm.1 h3)
theorem Pt1.up3 (h:Pt1 F P w first p A B F1 P1) {i:Nat} (hi:i<F.m):(mvE (F1.hang p A [F.m] (first::B)) to l).up i=if i∈l then some to else F.up i:=by
 have e:i≠F.m:=by omega
 simp only [mvE,Fo.hang,Fo.off,List.mem_singleton,if_neg e,(h.ext.old i hi).1]
 split <;> rfl
theorem Pt1.kids3 (h:Pt1 F P w first p A B F1 P1) (ht1:F.m≤to) {i:Nat} (hi:i<F.m) (hip:i≠p):(mvE (F1.hang p A [F.m] (first::B)) to l).kids i=(F.kids i).filter fun j=>decide (j∉l):=by
 have e:i≠to:=by omega
 simp only [mvE,Fo.hang,Fo.off,if_neg e,if_neg hip,(h.ext.old i hi).2.1]
end
structure WI (F:Fo) (P:Nat→Int×Node) (w:Nat):Prop where
 ok:F.ok
 rk:Rk F
 m:F.m≤600
 hw:w<F.m
 at_:∀ i,i<F.m→(P i).2.attrs.length≤1000000
 inm:∃ r,Inm F.kids (elB P) w (some r)
structure WG (F:Fo) (l:List Nat):Prop where
 ne:l≠[]
 nd:l.Nodup
 lt:∀ c∈l,c<F.m
 st:∀ c∈l,∃ p,F.up c=some p
theorem WG.len {F:Fo} {l:List Nat} (h:WG F l):l.length≤F.m:=by
 have h:=h.nd.length_le_of_subset (l₂:=List.range F.m) (fun z hz=>List.mem_range.2 (h.lt z hz))
 rwa [List.length_range] at h
theorem wround {F:Fo} {P:Nat→Int×Node} {Z:Nat→Bool} {w i:Nat} {l:List Nat} {gs:List (List (Option Nat))} {ks:List (Option Nat)} (h:WI F P w) (hg:WG F l) (hi:gs[i]?=some (l.map some)) (hgl:gs.length≤1000000) :
  (m_spec_forest_wrap_1 (((),(F.m:Int),false),some w,gs,(i:Int),F.kst P Z,ks)=some (.out (.inr (((),(F.m:Int),false),false,F.kst P Z,ks)))) ∨
  (∃ a' S',m_spec_forest_wrap_1 (((),(F.m:Int),false),some w,gs,(i:Int),F.kst P Z,ks)=some (.out (.inr (((),a',true),true,S',ks)))) ∨
  ∃ F' P' Z',m_spec_forest_wrap_1 (((),(F.m:Int),false),some w,gs,(i:Int),F.kst P Z,ks)=some (.nx (((),(F'.m:Int),false),some w,gs,((i+1:Nat):Int),F'.kst P' Z',ks))∧Wr w l F P F' P'∧F'.ok∧Rk F'∧F'.m≤600∧F.m≤F'.m∧(∀ a k x c:Nat,l[a]?=some x→l[k]?=some c→k≠a→¬ Anc F x c):=by
 have hm:=h.m
 have hlen:=hg.len
 obtain ⟨first,rest,rfl⟩:∃ f r,l=f::r:=by
  cases l with
  | nil=>exact absurd rfl hg.ne
  | cons f r=>exact ⟨f,r,rfl⟩
 have hff:=hg.lt first (by simp)
 obtain ⟨p,hp⟩:=hg.st first (by simp)
 obtain ⟨A,B,hsp⟩:=sp_of h.ok hp
 obtain ⟨n,hb,hn⟩:=big_ge
 have hil:i<gs.length:=(List.getElem?_eq_some_iff.1 hi).1
 obtain ⟨y,g1,g2⟩:=wcheck (P:=P) (Z:=Z) h.ok h.rk hg.lt (by omega) ((),(F.m:Int),false) (some w) gs (i:Int) ks
 have hap:appL ([]:List (Option Nat)) ((first::rest).map some)=some ((first::rest).map some):=by
  rw [appL_some (by simp at hlen ⊢; omega)]; rfl
 have hat:atI ((first::rest).map some) (0:Int)=some (some first):=rfl
 have hat2:((first::rest).map some)[Int.toNat (0:Int)]?=some (some first):=rfl
 simp only [m_spec_forest_wrap_1,cond_dec,atI_nat,Int.toNat_natCast,hi,bind_some,hap]
 rw [if_pos (by omega)]
 rw [g1,bind_some]
 rcases g2 with rfl | ⟨rfl,hck⟩
 ·exact .inl rfl
 right
 have hht:Ht F.kids n w:=ht_all h.ok h.rk h.hw (by omega)
 have hszm:szK F.kids n w≤F.m:=by
  obtain ⟨r,hr⟩:=h.rk.down h.ok
  rw [← szK_ids]
  exact ids_len h.ok hr n h.hw
 obtain ⟨F1,P1,Z1,a1,ob1,q1,q2,qz,qn,q3,q4,q5,q6,q7,q8,q9⟩:=copied_eq (K:=F.kids) (B:=fun y=>(P y).2) (Q:=fun y=>y<F.m) (m0:=F.m) (ks:=ks) (fun y _ z hz=>(h.ok.kid hz).2) (fun _ hy=>hy) (fun y _=>Nat.le_trans (kids_len h.ok y) (by omega)) (fun y hy=>h.at_ y hy) n w F P Z (F.m:Int) false h.hw hht h.ok (Nat.le_refl _) (fun _ _=>⟨rfl,rfl⟩) (by omega) (by omega)
 have hpt:Pt1 F P w first p A B F1 P1:=by
  refine ⟨h.ok,h.rk,h.hw,hff,q2,q3,by omega,by rw [(q2.old first hff).1]; exact hp,?_⟩
  rw [(q2.old p hsp.hp).2.1]; exact hsp.k
 have hfm:F1.m≤2000:=by omega
 have hsp1:Sp F1 (F1.setK p (A++B) first none) p first A B:=⟨q2.ok,by have:=hsp.hp; omega,by omega,hpt.u,hpt.k,rfl⟩
 have hplace:=place_eq (P:=P1) (Z:=Z1) hsp1 (Nat.le_trans (kids_len q2.ok p) (by omega))
 have hsp2:=hpt.sp
 have hok2:=hsp2.okF
 have hput:=put_eq (P:=P1) (Z:=Z1) (cut_none (by omega) q3) hsp2 (Nat.le_trans (kids_len hok2 p) (by show F1.m≤_; omega))
 obtain ⟨r3,hin,hin2⟩:=inmost_eq (P:=P1) (Z:=upd Z1 p false) hok2 hpt.rk2 (fun i=>Nat.le_trans (kids_len hok2 i) (by show F1.m≤_; omega)) (k:=F.m) (by show F.m<F1.m; omega)
 have hgf:(F1.kst P1 Z1)[first]?=some (F1.kn1 P1 Z1 first):=Fo.kget (by omega)
 have huf:(F1.kn1 P1 Z1 first).up=some p:=hpt.u
 simp only [selim,hb,q1,bind_some,hat,hat2,hgf,huf,hplace,hput,hin]
 cases ob1 with
 | true=>exact .inl ⟨_,_,rfl⟩
 | false =>
  right
  obtain ⟨k1,k2,k3⟩:=q9 rfl
  have hFm:F1.m≤600:=by
   by_cases e:600<a1
   ·have:=q8 (fun h=>by omega) e
    cases this
   ·omega
  have hsub:∀ i,F.m≤i→i<F1.m→(F1.hang p A [F.m] (first::B)).kids i=F1.kids i:=fun i h1 _=>hpt.kids2 (by have:=hsp.hp; omega)
  obtain ⟨r0,hr0⟩:=h.inm
  have hr3:r3.isNone↔(some r0).isNone:=Inm.shp (R:=RcS P1 fun y=>(P y).2) (fun c d hcd=>by simp only [elB,show P1 c=_ from hcd]) (shp_cpR hsub k1) hin2 hr0
  cases r3 with
  | none=>simp at hr3
  | some to =>
   have hge:=hpt.ge hin2 (Nat.le_refl _) (by omega) to rfl
   have htok:=hpt.tok (l:=first::rest) hge.1 hg.lt
   obtain ⟨Z',hloop⟩:=puts_loop (P:=P1) hok2 (by show F1.m≤_; omega) (to:=to) hge.2 htok hg.nd ((),a1,false) (some w) gs (i:Int) ks (first::rest).length 0 (upd Z1 p false) (by omega) (Nat.zero_le _)
   rw [List.take_zero,mvE_nil] at hloop
   have hloop':loopO m_spec_forest_wrap_1_1 (((),a1,false),some w,gs,(i:Int),(first::rest).map some,some to,(0:Int),(F1.hang p A [F.m] (first::B)).kst P1 (upd Z1 p false),ks)=_:=hloop
   simp only [cond_false,hloop',bind_some]
   have hna:∀ c∈first::rest,c≠first→¬ Anc F c first:=fun c hc hne=>by
    obtain ⟨k,hk⟩:=List.mem_iff_getElem?.1 hc
    exact hck k 0 c first hk rfl fun e=>by subst e; simp at hk; exact hne hk.symm
   have ha1:a1=(F1.m:Int):=by omega
   subst ha1
   refine ⟨_,P1,Z',?_,⟨F1,first,rest,p,A,B,to,⟨q2,q3,by rw [hb]; exact k1,?_⟩,rfl,hpt.u,hpt.k,hin2,rfl⟩,mvE_ok hok2 hge.2 htok hg.nd,hpt.rk3 hge.1 hg.lt (by simp) hna,hFm,q2.m,hck⟩
   ·rw [w64 (by omega) (by omega)]
    rfl
   ·rw [hb,k3]
    congr 1
    omega
end Go.Proofs.YtkmigbicabfodaaGreat.V
set_option linter.unusedVariables false
set_option linter.unusedSimpArgs false
namespace Go.Proofs.YtkmigbicabfodaaGreat.V
open Go
theorem idz_of_cpR {F1:Fo} {R:Nat→Nat→Prop} {K:Nat→List Nat} {lo hi:Nat}:∀ {n c x y:Nat},CpR F1 R K lo hi n c x→y∈idsF F1.kids n c→∃ z∈idsF K n x,R y z
 | 0,_,_,_,h,_=>h.elim
 | n+1,c,x,y,⟨_,h3,h4⟩,hy=>by
  simp only [idsF,List.mem_cons,List.mem_flatMap] at hy
  rcases hy with rfl | ⟨c',hc',hy⟩
  ·exact ⟨x,by simp [idsF],h3⟩
  ·obtain ⟨x',hx',h5⟩:=h4.mem_l hc'
   obtain ⟨z,hz,hr⟩:=idz_of_cpR h5 hy
   exact ⟨z,by simp only [idsF,List.mem_cons,List.mem_flatMap]; exact .inr ⟨x',hx',hz⟩,hr⟩
theorem Inm.congr {K K':Nat→List Nat} {e e':Nat→Bool} {T:Nat→Prop} (h:∀ y,T y→K' y=K y∧∀ z∈K y,T z∧e' z=e z) {x:Nat} {r:Option Nat} (hx:T x) (hi:Inm K e x r):Inm K' e' x r:=by
 have hf:∀ y,T y→(K' y).filter e'=(K y).filter e:=fun y hy=>by
  rw [(h y hy).1]
  exact List.filter_congr fun z hz=>((h y hy).2 z hz).2
 induction hi with
 | stop h1=>exact .stop (by rw [hf _ hx]; exact h1)
 | many h1=>exact .many (by rw [hf _ hx]; exact h1)
 | @down x y r h1 _ ih =>
  have hy:y∈K x:=by
   have:y∈(K x).filter e:=by rw [h1]; simp
   exact (List.mem_filter.1 this).1
  exact .down (by rw [hf _ hx]; exact h1) (ih ((h x hx).2 y hy).1)
inductive WCh (w:Nat):List (List Nat)→Fo→(Nat→Int×Node)→Fo→(Nat→Int×Node)→Prop
 | nil {F:Fo} {P:Nat→Int×Node}:WCh w [] F P F P
 | cons {l:List Nat} {gs:List (List Nat)} {F F1 F2:Fo} {P P1 P2:Nat→Int×Node} (h:Wr w l F P F1 P1) (hi:WI F1 P1 w) (t:WCh w gs F1 P1 F2 P2):WCh w (l::gs) F P F2 P2
section
variable {F F':Fo} {P P':Nat→Int×Node} {Z:Nat→Bool} {w:Nat} {l:List Nat}
structure WrF (F:Fo) (P:Nat→Int×Node) (w:Nat) (l:List Nat) (F':Fo) (P':Nat→Int×Node):Prop where
 lab:∀ U:Node→Prop,(∀ i,i<F.m→U (P i).2)→∀ i,i<F'.m→U (P' i).2
 old:∀ i,i<F.m→P' i=P i
 up:∀ i,i<F.m→(∃ p,F.up i=some p)→∃ p,F'.up i=some p
 kids:∀ i,i<F.m→(∀ c∈l,F.up c≠some i)→F'.kids i=F.kids i
 neg:∀ i,F.m≤i→i<F'.m→(P' i).1 = -1
theorem wr_facts (hF:F.ok) (hr:Rk F) (hw:w<F.m) (hl:∀ c∈l,c<F.m) (h:Wr w l F P F' P'):WrF F P w l F' P':=by
 obtain ⟨F1,first,rest,p,A,B,to,hc,rfl,hu,hk,hin,rfl⟩:=h
 obtain ⟨n,hb,_⟩:=big_ge
 obtain ⟨hn1,hn2⟩:=hc.n
 rw [hb] at hn1 hn2
 have hlt:F.m<F1.m:=by
  cases n with
  | zero=>exact hn1.elim
  | succ n=>exact hn1.1.2
 have hpt:Pt1 F P w first p A B F1 P':=⟨hF,hr,hw,hl first (by simp),hc.ext,hc.up,hlt,hu,hk⟩
 have hge:=hpt.ge hin (Nat.le_refl _) hlt to rfl
 refine ⟨fun U hU i (hi:i<F1.m)=>?_,fun i hi=>(hc.ext.old i hi).2.2,fun i hi ⟨q,hq⟩=>?_,fun i hi hc2=>?_,fun i h1 (h2:i<F1.m)=>hc.ext.neg i h1 h2⟩
 ·by_cases e:i<F.m
  ·rw [(hc.ext.old i e).2.2]; exact hU i e
  ·have:i∈idsF F1.kids n F.m:=by rw [hn2]; simp; omega
   obtain ⟨z,hz,h3⟩:=idz_of_cpR hn1 this
   have h3:P' i=(-1,(P z).2):=h3
   rw [h3]
   exact hU z (ids_lt hF n w hw z hz)
 ·rw [hpt.up3 hi]
  split
  ·exact ⟨_,rfl⟩
  ·exact ⟨q,hq⟩
 ·have hip:i≠p:=fun e=>by
   subst e
   exact hc2 first (by simp) hpt.pm.1
  rw [hpt.kids3 hge.1 hi hip]
  refine List.filter_eq_self.2 fun j hj=>?_
  have:j∉first::rest:=fun hm=>hc2 j hm (hF.kid hj).1
  simpa using this
theorem wr_keep (hF:F.ok) (hr:Rk F) (hw:w<F.m) (hl:∀ c∈l,c<F.m∧¬ Anc F w c) (hok:F'.ok) (h:Wr w l F P F' P'):(∀ y,Anc F w y→F'.kids y=F.kids y)∧∀ b,Anc F' w b→b<F.m∧Anc F w b:=by
 have hf:=wr_facts hF hr hw (fun c hc=>(hl c hc).1) h
 have lt:∀ y,Anc F w y→y<F.m:=fun y hy=>by
  cases hy with
  | self=>exact hw
  | up h _=>exact (hF.lt h).1
 have k1:∀ y,Anc F w y→F'.kids y=F.kids y:=fun y hy=>hf.kids y (lt y hy) fun c hc hu=>(hl c hc).2 (.up hu hy)
 refine ⟨k1,fun b hb=>?_⟩
 induction hb with
 | self=>exact ⟨hw, .self⟩
 | @up q b hu t ih =>
  have h1:=(hok.up hu).2
  rw [k1 q ih.2] at h1
  have h2:=hF.kid h1
  exact ⟨h2.2, .up h2.1 ih.2⟩
theorem WI.next (h:WI F P w) (hl:∀ c∈l,c<F.m∧¬ Anc F w c) (hok:F'.ok) (hrk:Rk F') (hm:F'.m≤600) (hle:F.m≤F'.m) (hwr:Wr w l F P F' P'):WI F' P' w:=by
 have hf:=wr_facts h.ok h.rk h.hw (fun c hc=>(hl c hc).1) hwr
 obtain ⟨k1,k2⟩:=wr_keep h.ok h.rk h.hw hl hok hwr
 obtain ⟨r,hr⟩:=h.inm
 refine ⟨hok,hrk,hm,by have:=h.hw; omega,fun i hi=>hf.lab (fun n=>n.attrs.length≤1000000) h.at_ i hi,r,?_⟩
 refine Inm.congr (T:=fun y=>Anc F w y) (fun y hy=>⟨k1 y hy,fun z hz=>?_⟩) .self hr
 have h1:=h.ok.kid hz
 exact ⟨.up h1.1 hy,by simp only [elB,hf.old z h1.2]⟩
end
theorem wrounds {w:Nat} {ks:List (Option Nat)} {gl:List (List Nat)} (hgl:gl.length≤1000000):∀ (d i:Nat) (F:Fo) (P:Nat→Int×Node) (Z:Nat→Bool),gl.length - i=d→i≤gl.length→WI F P w→(∀ l∈gl.drop i,WG F l∧∀ c∈l,¬ Anc F w c) →
  ∃ y,loopO m_spec_forest_wrap_1 (((),(F.m:Int),false),some w,gl.map (fun l=>l.map some),(i:Int),F.kst P Z,ks)=some y ∧
   ((∃ f S,y = .inr (f,false,S,ks))∨(∃ a' S,y = .inr (((),a',true),true,S,ks))∨∃ F' P' Z',y = .inl (((),(F'.m:Int),false),F'.kst P' Z',ks)∧WCh w (gl.drop i) F P F' P'∧WI F' P' w):=by
 intro d
 induction d with
 | zero =>
  intro i F P Z hd hi hI hg
  obtain rfl:i=gl.length:=by omega
  refine ⟨_,loopO_out (b := .inl (((),(F.m:Int),false),F.kst P Z,ks)) ?_, .inr (.inr ⟨F,P,Z,rfl,by rw [List.drop_length]; exact .nil,hI⟩)⟩
  simp only [m_spec_forest_wrap_1,cond_dec,List.length_map]
  rw [if_neg (by omega)]
 | succ d ih =>
  intro i F P Z hd hi hI hg
  obtain ⟨l,hl⟩:=get_lt (l:=gl) (k:=i) (by omega)
  have hdr:gl.drop i=l::gl.drop (i+1):=by
   obtain ⟨hlt,he⟩:=List.getElem?_eq_some_iff.1 hl
   rw [List.drop_eq_getElem_cons hlt,he]
  obtain ⟨hgl1,hna⟩:=hg l (by rw [hdr]; simp)
  have hli:(gl.map (fun l=>l.map some))[i]?=some (l.map (some:Nat→Option Nat)):=by rw [List.getElem?_map,hl]; rfl
  rcases wround (Z:=Z) (ks:=ks) hI hgl1 hli (by simpa using hgl) with h1 | ⟨a',S',h1⟩ | ⟨F',P',Z',h1,h2,h3,h4,h5,h6,h7⟩
  ·exact ⟨_,loopO_out h1, .inl ⟨_,_,rfl⟩⟩
  ·exact ⟨_,loopO_out h1, .inr (.inl ⟨_,_,rfl⟩)⟩
  ·have hlx:∀ c∈l,c<F.m∧¬ Anc F w c:=fun c hc=>⟨hgl1.lt c hc,hna c hc⟩
   have hI':=hI.next hlx h3 h4 h5 h6 h2
   have hf:=wr_facts hI.ok hI.rk hI.hw hgl1.lt h2
   obtain ⟨_,hk2⟩:=wr_keep hI.ok hI.rk hI.hw hlx h3 h2
   obtain ⟨y,g1,g2⟩:=ih (i+1) F' P' Z' (by omega) (by omega) hI' (fun l' hl'=>by
    obtain ⟨g3,g4⟩:=hg l' (by rw [hdr]; simp [hl'])
    refine ⟨⟨g3.ne,g3.nd,fun c hc=>by have:=g3.lt c hc; omega,fun c hc=>hf.up c (g3.lt c hc) (g3.st c hc)⟩,fun c hc ha=>g4 c hc (hk2 c ha).2⟩)
   refine ⟨y,by rw [loopO_nx h1]; exact g1,?_⟩
   rcases g2 with g2 | g2 | ⟨F2,P2,Z2,e1,e2,e3⟩
   ·exact .inl g2
   ·exact .inr (.inl g2)
   ·exact .inr (.inr ⟨F2,P2,Z2,e1,by rw [hdr]; exact .cons h2 hI' e2,e3⟩)
end Go.Proofs.YtkmigbicabfodaaGreat.V
set_option linter.unusedVariables false
set_option linter.unusedSimpArgs false
namespace Go.Proofs.YtkmigbicabfodaaGreat.V
open Go
theorem chosen_in (a:Int) (b:Bool) {on:List Int} (r ks:List (Option Nat)) {i:Nat} (hi:i<on.length) (hlen:on.length≤2147483647):∀ d j:Nat,i - j=d→j≤i →
  ∃ y,loopO m_spec_forest_chosen_0_0 (((),a,b),on,r,(i:Int),(j:Int),ks)=some y∧(y = .inr (((),a,b),[],false,ks)∨(y = .inl (((),a,b),on,r,(i:Int),ks)∧∀ k:Nat,j≤k→k<i→on[k]?≠on[i]?)):=by
 intro d
 induction d with
 | zero =>
  intro j hd hj
  refine ⟨_,loopO_out (b := .inl (((),a,b),on,r,(i:Int),ks)) ?_, .inr ⟨rfl,fun k h1 h2=>by omega⟩⟩
  simp only [m_spec_forest_chosen_0_0,cond_dec]
  rw [if_neg (by omega)]
 | succ d ih =>
  intro j hd hj
  obtain ⟨v,hv⟩:=get_lt (l:=on) (k:=j) (by omega)
  obtain ⟨w,hw⟩:=get_lt (l:=on) (k:=i) hi
  by_cases e:v=w
  ·refine ⟨_,loopO_out (b := .inr (((),a,b),[],false,ks)) ?_, .inl rfl⟩
   simp only [m_spec_forest_chosen_0_0,cond_dec,atI_nat,hv,hw,bind_some]
   rw [if_pos (by omega),if_pos e]
  ·have step:m_spec_forest_chosen_0_0 (((),a,b),on,r,(i:Int),(j:Int),ks)=some (.nx (((),a,b),on,r,(i:Int),((j+1:Nat):Int),ks)):=by
    simp only [m_spec_forest_chosen_0_0,cond_dec,atI_nat,hv,hw,bind_some]
    rw [if_pos (by omega),if_neg e,w64 (by omega) (by omega)]
    rfl
   obtain ⟨y,h1,h2⟩:=ih (j+1) (by omega) (by omega)
   refine ⟨y,by rw [loopO_nx step]; exact h1,h2.imp id fun ⟨g1,g2⟩=>⟨g1,fun k k1 k2=>?_⟩⟩
   by_cases e2:k=j
   ·subst e2
    rw [hv,hw]
    exact fun h=>e (Option.some.inj h)
   ·exact g2 k (by omega) k2
theorem chosen_ex (a:Int) (b:Bool) {on:List Int} {n:Nat} (hlen:on.length≤2147483647):∀ d i:Nat,on.length - i=d→i≤on.length→(∀ (k:Nat) (v:Int),k<i→on[k]?=some v→1≤v∧v<n)→(∀ k l:Nat,k<l→l<i→on[k]?≠on[l]?) →
  ∃ y,loopO m_spec_forest_chosen_0 (((),a,b),on,(on.take i).map (fun v=>some v.toNat),(i:Int),(List.range n).map some)=some y∧(y = .inr (((),a,b),[],false,(List.range n).map some)∨(y = .inl (((),a,b),on.map (fun v=>some v.toNat),(List.range n).map some)∧(∀ (k:Nat) (v:Int),on[k]?=some v→1≤v∧v<n)∧∀ k l:Nat,k<l→l<on.length→on[k]?≠on[l]?)):=by
 intro d
 induction d with
 | zero =>
  intro i hd hi h1 h2
  obtain rfl:i=on.length:=by omega
  refine ⟨_,loopO_out (b := .inl (((),a,b),on.map (fun v=>some v.toNat),(List.range n).map some)) ?_, .inr ⟨rfl,fun k v hk=>h1 k v (List.getElem?_eq_some_iff.1 hk).1 hk,h2⟩⟩
  simp only [m_spec_forest_chosen_0,cond_dec]
  rw [if_neg (by omega),List.take_of_length_le (Nat.le_refl _)]
 | succ d ih =>
  intro i hd hi h1 h2
  obtain ⟨v,hv⟩:=get_lt (l:=on) (k:=i) (by omega)
  by_cases e1:v<1
  ·refine ⟨_,loopO_out (b := .inr (((),a,b),[],false,(List.range n).map some)) ?_, .inl rfl⟩
   simp only [m_spec_forest_chosen_0,cond_dec,atI_nat,hv,bind_some]
   rw [if_pos (by omega),if_pos e1]
  by_cases e2:(n:Int)≤v
  ·refine ⟨_,loopO_out (b := .inr (((),a,b),[],false,(List.range n).map some)) ?_, .inl rfl⟩
   simp only [m_spec_forest_chosen_0,cond_dec,atI_nat,hv,bind_some,List.length_map,List.length_range]
   rw [if_pos (by omega),if_neg e1,if_pos e2]
  obtain ⟨x,rfl⟩:=Int.eq_ofNat_of_zero_le (show 0≤v by omega)
  obtain ⟨y,g1,g2⟩:=chosen_in a b ((on.take i).map fun v=>some v.toNat) ((List.range n).map some) (i:=i) (by omega) hlen i 0 (by omega) (Nat.zero_le _)
  have g1':loopO m_spec_forest_chosen_0_0 (((),a,b),on,(on.take i).map (fun v=>some v.toNat),(i:Int),(0:Int),(List.range n).map some)=some y:=g1
  rcases g2 with rfl | ⟨rfl,g3⟩
  ·refine ⟨_,loopO_out (b := .inr (((),a,b),[],false,(List.range n).map some)) ?_, .inl rfl⟩
   simp only [m_spec_forest_chosen_0,cond_dec,atI_nat,hv,bind_some,List.length_map,List.length_range]
   rw [if_pos (by omega),if_neg e1,if_neg e2,g1']
   rfl
  ·have hr:((List.range n).map some)[x]?=some (some x):=by
    have:x<n:=by omega
    simp [this]
   have step:m_spec_forest_chosen_0 (((),a,b),on,(on.take i).map (fun v=>some v.toNat),(i:Int),(List.range n).map some)=some (.nx (((),a,b),on,(on.take (i+1)).map (fun v=>some v.toNat),((i+1:Nat):Int),(List.range n).map some)):=by
    simp only [m_spec_forest_chosen_0,cond_dec,atI_nat,hv,bind_some,List.length_map,List.length_range]
    rw [if_pos (by omega),if_neg e1,if_neg e2,g1']
    simp only [bind_some,selim,atI_nat,hv,hr,Int.toNat_natCast]
    rw [appL_some (by simp; omega),bind_some,w64 (by omega) (by omega),List.take_add_one,hv]
    simp
   rw [loopO_nx step]
   refine ih (i+1) (by omega) (by omega) (fun k w hk hw=>?_) (fun k l hkl hl=>?_)
   ·by_cases e:k=i
    ·subst e
     rw [hv] at hw
     cases hw
     omega
    ·exact h1 k w (by omega) hw
   ·by_cases e:l=i
    ·subst e; exact g3 k (Nat.zero_le _) hkl
    ·exact h2 k l hkl (by omega)
end Go.Proofs.YtkmigbicabfodaaGreat.V
set_option linter.unusedVariables false
set_option linter.unusedSimpArgs false
namespace Go.Proofs.YtkmigbicabfodaaGreat.V
open Go
theorem loop_find {X B α:Type} {body:X→Option (Stp X B)} (l:List α) (p:α→Bool) (st:Nat→X) (no:B) (yes:Nat→B)
  (hs:∀ k v,l[k]?=some v→body (st k)=some (if p v then .out (yes k) else .nx (st (k+1)))) (he:body (st l.length)=some (.out no)) :
  loopO body (st 0)=some (match l.findIdx? p with | some i=>yes i | none=>no):=by
 have key:∀ m k,l.length - k=m→k≤l.length→loopO body (st k)=some (match (l.drop k).findIdx? p with | some i=>yes (k+i) | none=>no):=by
  intro m
  induction m with
  | zero =>
   intro k hm hk
   have:k=l.length:=by omega
   subst this
   rw [loopO_out he,List.drop_length]
   rfl
  | succ m ih =>
   intro k hm hk
   obtain ⟨v,hv⟩:=get_lt (l:=l) (k:=k) (by omega)
   have hd:l.drop k=v::l.drop (k+1):=by
    obtain ⟨h1,h2⟩:=List.getElem?_eq_some_iff.1 hv
    rw [← h2]
    exact List.drop_eq_getElem_cons h1
   have h:=hs k v hv
   rw [hd,List.findIdx?_cons]
   cases hp:p v with
   | true =>
    rw [hp] at h
    rw [loopO_out h]
    simp
   | false =>
    rw [hp] at h
    rw [loopO_nx h,ih (k+1) (by omega) (by omega)]
    simp only [Bool.false_eq_true,if_false]
    cases (l.drop (k+1)).findIdx? p with
    | none=>rfl
    | some i=>simp only [Option.map_some]; rw [show k+1+i=k+(i+1) by omega]
 have h:=key l.length 0 (by omega) (Nat.zero_le _)
 rw [h,List.drop_zero]
 cases l.findIdx? p with
 | none=>rfl
 | some i=>simp
section
variable {t:List Node} {l:List Int}
end
def pts (l:List Int):List (Option Nat):=l.map fun v=>some v.toNat
theorem pts_get {l:List Int} {i:Nat}:(pts l)[i]?=(l[i]?).map fun v=>some v.toNat:=by simp [pts]
theorem pts_len (l:List Int):(pts l).length=l.length:=by simp [pts]
theorem these_eq (t:List Node) (l:List Int) (hl:l.length≤2147483647) (h:∀ (i:Nat) (v:Int),l[i]?=some v→0≤v∧v<t.length):m_impl_these (ptrs t,l)=some (pts l,true):=by
 simp only [m_impl_these]
 have key:∀ m k,l.length - k=m→k≤l.length→loopO m_impl_these_0 (ptrs t,pts (l.take k),l,(l.length:Int),(k:Int))=some (.inl (pts l)):=by
  intro m
  induction m with
  | zero =>
   intro k hm hk
   refine loopO_out ?_
   simp only [m_impl_these_0,cond_dec]
   rw [if_neg (by omega),List.take_of_length_le (by omega)]
  | succ m ih =>
   intro k hm hk
   obtain ⟨v,hv⟩:=get_lt (l:=l) (k:=k) (by omega)
   obtain ⟨h1,h2⟩:=h k v hv
   obtain ⟨a,rfl⟩:=Int.eq_ofNat_of_zero_le h1
   have hlen:(pts (l.take k)).length=k:=by rw [pts_len,List.length_take]; omega
   have step:m_impl_these_0 (ptrs t,pts (l.take k),l,(l.length:Int),(k:Int))=some (.nx (ptrs t,pts (l.take (k+1)),l,(l.length:Int),((k+1:Nat):Int))):=by
    simp only [m_impl_these_0,cond_dec,atI_nat]
    rw [if_pos (by omega),hv]
    simp only [bind_some,ptrs_len]
    rw [if_neg (by omega),if_neg (by omega),atI_nat,ptrs_get (by omega),bind_some,appL_some (by rw [hlen]; simp; omega),bind_some,w64 (by omega) (by omega),List.take_add_one,hv]
    simp [pts]
   rw [loopO_nx step]
   exact ih (k+1) (by omega) (by omega)
 rw [show loopO m_impl_these_0 (ptrs t,[],l,(l.length:Int),(0:Int))=_ from key l.length 0 (by omega) (Nat.zero_le _),bind_some]
 rfl
def pos (l:List (Option Nat)) (v:Option Nat):Int:=match l.findIdx? (fun x=>decide (x=v)) with
 | some i=>(i:Int)
 | none => -1
theorem indexIn_eq (l:List (Option Nat)) (n:Nat) (hl:l.length≤2147483647):m_goquery_indexInSlice (l,some n)=some (pos l (some n)):=by
 simp only [m_goquery_indexInSlice,Option.isNone_some,Bool.not_false,cond_true]
 have h:=loop_find (body:=m_goquery_indexInSlice_0) l (fun x=>decide (x=some n)) (fun k=>(some n,l,(l.length:Int),(k:Int))) (.inl ()) (fun k => .inr (k:Int)) (fun k v hv=>by
  have hk:=(List.getElem?_eq_some_iff.1 hv).1
  simp only [m_goquery_indexInSlice_0,cond_dec,atI_nat]
  rw [if_pos (by omega),hv,bind_some,w64 (by omega) (by omega)]
  by_cases e:v=some n
  ·rw [if_pos e]; simp [e]
  ·rw [if_neg e]; simp [e]) (by
  simp only [m_goquery_indexInSlice_0,cond_dec]
  rw [if_neg (by omega)])
 rw [show loopO m_goquery_indexInSlice_0 (some n,l,(l.length:Int),(0:Int))=_ from h,bind_some]
 unfold pos
 cases l.findIdx? (fun x=>decide (x=some n)) <;> rfl
theorem pos_none {l:List (Option Nat)} {v:Option Nat} (h:v∉l):pos l v = -1:=by
 unfold pos
 have:l.findIdx? (fun x=>decide (x=v))=none:=by
  rw [List.findIdx?_eq_none_iff]
  intro x hx
  have:x≠v:=fun e=>h (e ▸ hx)
  simpa using this
 rw [this]
theorem pos_mem {l:List (Option Nat)} {v:Option Nat} : -1<pos l v↔v∈l:=by
 constructor
 ·intro h
  apply Decidable.byContradiction
  intro hn
  rw [pos_none hn] at h
  omega
 ·intro h
  unfold pos
  cases hf:l.findIdx? (fun x=>decide (x=v)) with
  | none =>
   rw [List.findIdx?_eq_none_iff] at hf
   have:=hf v h
   simp at this
  | some i=>simp only; omega
theorem isIn_eq (l:List (Option Nat)) (n:Nat) (hl:l.length≤2147483647):m_goquery_isInSlice (l,some n)=some (decide (some n∈l)):=by
 simp only [m_goquery_isInSlice,indexIn_eq l n hl,bind_some]
 congr 1
 rw [decide_eq_decide]
 exact pos_mem
theorem appSmall_eq (l:List Int) (hl:l.length<1000) (hn:∀ (i j:Nat) (v w:Int),i<j→l[i]?=some v→l[j]?=some w→v.toNat≠w.toNat):m_goquery_appendWithoutDuplicates_small ([],pts l,())=some (pts l):=by
 simp only [m_goquery_appendWithoutDuplicates_small,cond_dec,List.length_nil,pts_len]
 rw [w64 (by omega) (by omega),if_pos (by omega)]
 have key:∀ m k,l.length - k=m→k≤l.length→loopO m_goquery_appendWithoutDuplicates_small_0 (pts (l.take k),pts l,(l.length:Int),(k:Int))=some (pts l):=by
  intro m
  induction m with
  | zero =>
   intro k hm hk
   refine loopO_out ?_
   simp only [m_goquery_appendWithoutDuplicates_small_0,cond_dec]
   rw [if_neg (by omega),List.take_of_length_le (by omega)]
  | succ m ih =>
   intro k hm hk
   obtain ⟨v,hv⟩:=get_lt (l:=l) (k:=k) (by omega)
   have hlen:(pts (l.take k)).length=k:=by rw [pts_len,List.length_take]; omega
   have hnot:some v.toNat∉pts (l.take k):=fun hm=>by
    obtain ⟨i,hi⟩:=List.mem_iff_getElem?.1 hm
    rw [pts_get] at hi
    cases hu:(l.take k)[i]? with
    | none=>rw [hu] at hi; cases hi
    | some u =>
     rw [hu] at hi
     have hik:i<k:=by
      have:=(List.getElem?_eq_some_iff.1 hu).1
      rw [List.length_take] at this; omega
     rw [List.getElem?_take,if_pos hik] at hu
     have:=hn i k u v hik hu hv
     simp at hi
     exact this hi
   have step:m_goquery_appendWithoutDuplicates_small_0 (pts (l.take k),pts l,(l.length:Int),(k:Int))=some (.nx (pts (l.take (k+1)),pts l,(l.length:Int),((k+1:Nat):Int))):=by
    simp only [m_goquery_appendWithoutDuplicates_small_0,cond_dec,atI_nat]
    rw [if_pos (by omega),pts_get,hv]
    simp only [Option.map_some,bind_some]
    rw [isIn_eq _ _ (by omega),bind_some,decide_eq_false hnot]
    simp only [Bool.not_false,cond_true]
    rw [appL_some (by rw [hlen]; simp; omega),bind_some,w64 (by omega) (by omega),List.take_add_one,hv]
    simp [pts]
   rw [loopO_nx step]
   exact ih (k+1) (by omega) (by omega)
 rw [show loopO m_goquery_appendWithoutDuplicates_small_0 ([],pts l,(l.length:Int),(0:Int))=_ from key l.length 0 (by omega) (Nat.zero_le _),bind_some]
end Go.Proofs.YtkmigbicabfodaaGreat.V
set_option linter.unusedVariables false
set_option linter.unusedSimpArgs false
namespace Go.Proofs.YtkmigbicabfodaaGreat.V
open Go
def posL (l:List Nat) (c:Nat):Int:=if c∈l then (l.idxOf c:Int) else -1
theorem placeOf_pos {l:List Nat} (c:Nat) (hl:l.length≤1000000):m_impl_placeOf (l.map some,some c)=some (posL l c):=by
 have key:∀ d j,l.length - j=d→j≤l.length→c∉l.take j→loopO m_impl_placeOf_0 (l.map some,some c,(l.length:Int),(j:Int))=some (if c∈l then .inr (l.idxOf c:Int) else .inl ()):=by
  intro d
  induction d with
  | zero =>
   intro j hd hj hc
   rw [List.take_of_length_le (by omega)] at hc
   rw [if_neg hc]
   refine loopO_out ?_
   simp only [m_impl_placeOf_0,cond_dec]
   rw [if_neg (by omega)]
  | succ d ih =>
   intro j hd hj hc
   obtain ⟨a,ha⟩:=get_lt (l:=l) (k:=j) (by omega)
   have hg:(l.map some)[j]?=some (some a):=by rw [List.getElem?_map,ha]; rfl
   by_cases e:a=c
   ·subst e
    rw [if_pos (List.mem_of_getElem? ha)]
    have hi:l.idxOf a=j:=by
     have hs:l=l.take j++a::l.drop (j+1):=by
      obtain ⟨hlt,he⟩:=List.getElem?_eq_some_iff.1 ha
      rw [← he,← List.drop_eq_getElem_cons hlt,List.take_append_drop]
     rw [hs,List.idxOf_append,if_neg hc]
     simp; omega
    rw [hi]
    refine loopO_out ?_
    simp only [m_impl_placeOf_0,cond_dec,atI_nat,hg,bind_some]
    rw [if_pos (by omega),if_pos trivial]
   ·have step:m_impl_placeOf_0 (l.map some,some c,(l.length:Int),(j:Int))=some (.nx (l.map some,some c,(l.length:Int),((j+1:Nat):Int))):=by
     simp only [m_impl_placeOf_0,cond_dec,atI_nat,hg,bind_some]
     rw [if_pos (by omega),if_neg (by intro h; exact e (Option.some.inj h)),w64 (by omega) (by omega)]
     rfl
    rw [loopO_nx step]
    refine ih (j+1) (by omega) (by omega) ?_
    rw [List.take_add_one,ha]
    simp [hc,Ne.symm e]
 have h0:=key l.length 0 (by omega) (Nat.zero_le _) (by simp)
 have h0':loopO m_impl_placeOf_0 (l.map some,some c,(((l.map some).length:Nat):Int),(0:Int))=some (if c∈l then .inr (l.idxOf c:Int) else .inl ()):=by rw [List.length_map]; exact h0
 simp only [m_impl_placeOf,h0',bind_some,posL]
 split <;> rfl
theorem placesOf_pos {l m:List Nat} (hl:l.length≤1000000) (hm:m.length≤1000000):m_impl_placesOf (l.map some,m.map some)=some (m.map (posL l)):=by
 have key:∀ d j,m.length - j=d→j≤m.length→loopO m_impl_placesOf_0 (l.map some,(m.take j).map (posL l),m.map some,(m.length:Int),(j:Int))=some (m.map (posL l)):=by
  intro d
  induction d with
  | zero =>
   intro j hd hj
   refine loopO_out ?_
   simp only [m_impl_placesOf_0,cond_dec]
   rw [if_neg (by omega),List.take_of_length_le (by omega)]
  | succ d ih =>
   intro j hd hj
   obtain ⟨a,ha⟩:=get_lt (l:=m) (k:=j) (by omega)
   have hg:(m.map some)[j]?=some (some a):=by rw [List.getElem?_map,ha]; rfl
   have step:m_impl_placesOf_0 (l.map some,(m.take j).map (posL l),m.map some,(m.length:Int),(j:Int))=some (.nx (l.map some,(m.take (j+1)).map (posL l),m.map some,(m.length:Int),((j+1:Nat):Int))):=by
    simp only [m_impl_placesOf_0,cond_dec,atI_nat,hg,bind_some,placeOf_pos a hl]
    rw [if_pos (by omega),appL_some (by simp; omega),bind_some,w64 (by omega) (by omega),List.take_add_one,ha]
    simp
   rw [loopO_nx step]
   exact ih (j+1) (by omega) (by omega)
 have h0:=key m.length 0 (by omega) (Nat.zero_le _)
 have h0':loopO m_impl_placesOf_0 (l.map some,[],m.map some,(((m.map some).length:Nat):Int),(0:Int))=some (m.map (posL l)):=by rw [List.length_map]; exact h0
 simp only [m_impl_placesOf,h0',bind_some]
section
variable {F:Fo} {L:Nat→HN}
theorem ends_eq (hF:F.ok) (ha:∀ i,i<F.m→(L i).attrs.length≤1000000) {n:Nat} (hb:big=n) {m:List Nat} {r:Nat} (hm:m[0]?=some r) (hr:r<F.m) (hh:Ht F.kids n r) (hl:(idsF F.kids n r).length≤1000000) (hml:m.length≤1000000) :
  m_impl_world_ends ((m.map some,()),F.st L)=some (nodesF F.kids (fun i=>kn (L i)) n r,m.map (posL (idsF F.kids n r)),F.st L):=by
 have htk:=taken_eq hF ha n r [] [] hr hh (by simpa using hl) (by simpa using hl)
 rw [List.nil_append,List.nil_append] at htk
 have hg:atI (m.map some) 0=some (some r):=by
  rw [show (0:Int)=((0:Nat):Int) from rfl,atI_nat,List.getElem?_map,hm]; rfl
 simp only [m_impl_world_ends,hg,bind_some,hb,htk,placesOf_pos hl hml]
end
end Go.Proofs.YtkmigbicabfodaaGreat.V
set_option linter.unusedVariables false
set_option linter.unusedSimpArgs false
namespace Go.Proofs.YtkmigbicabfodaaGreat.V
open Go
structure Ds (t:List Node) (l:List Nat):Prop where
 bd:∀ v∈l,v<t.length
 nd:l.Nodup
theorem Ds.len {t:List Node} {l:List Nat} (h:Ds t l) (ht:t.length≤200):l.length≤200:=by
 have h1:l ⊆ List.range t.length:=fun v hv=>List.mem_range.2 (h.bd v hv)
 have h2:=h.nd.length_le_of_subset h1
 rw [List.length_range] at h2
 omega
def intsN (l:List Nat):List Int:=l.map Int.ofNat
theorem intsN_get {l:List Nat} {i:Nat} {v:Int} (h:(intsN l)[i]?=some v):∃ k,l[i]?=some k∧v=(k:Int):=by
 rw [intsN,List.getElem?_map] at h
 cases hk:l[i]? with
 | none=>rw [hk] at h; cases h
 | some k=>rw [hk] at h; exact ⟨k,rfl,(Option.some.inj h).symm⟩
theorem pts_intsN {l:List Nat}:pts (intsN l)=l.map some:=by
 simp [pts,intsN,List.map_map,Function.comp_def]
theorem these_nat {t:List Node} {l:List Nat} (hR:RT t) (h:Ds t l):m_impl_these (ptrs t,intsN l)=some (l.map some,true):=by
 have h1:=h.len hR.len
 rw [these_eq t (intsN l) (by simp [intsN]; omega) (fun i v hv=>by
  obtain ⟨k,hk,rfl⟩:=intsN_get hv
  have:=h.bd k (List.mem_of_getElem? hk)
  omega),pts_intsN]
theorem selected_eq {t:List Node} {l:List Nat} (hf:fits1 t=true) (hR:RT t) (h:Ds t l):m_impl_selected (t,intsN l,[])=some ((ptrs t,()),l.map some,true,store t):=by
 have h1:=hR.pos
 have h2:=hR.len
 have h3:=h.len h2
 have hn:∀ (i j:Nat) (v w:Int),i<j→(intsN l)[i]?=some v→(intsN l)[j]?=some w→v.toNat≠w.toNat:=fun i j v w hij hv hw e=>by
  obtain ⟨a,ha,rfl⟩:=intsN_get hv
  obtain ⟨b,hb,rfl⟩:=intsN_get hw
  obtain ⟨x1,x2⟩:=List.getElem?_eq_some_iff.1 ha
  obtain ⟨y1,y2⟩:=List.getElem?_eq_some_iff.1 hb
  have:=List.pairwise_iff_getElem.1 h.nd i j x1 y1 hij
  rw [x2,y2] at this
  exact this (by simpa using e)
 simp only [m_impl_selected,m_impl_begun,grown_eq t hf hR,bind_some,these_nat hR h,Bool.not_true,cond_false,atI_zero,ptrs_get h1]
 have hz:(ptrs t)[Int.toNat 0]?=some (some 0):=ptrs_get h1
 simp only [hz,bind_some]
 simp only [m_goquery_NewDocumentFromNode,m_goquery_newDocument,m_goquery_newSingleSelection,bind_some,m_goquery_Selection_Eq_nil,cond_dec,List.length_singleton]
 rw [if_neg (by omega),if_pos (by omega)]
 have happ:=appSmall_eq (intsN l) (by simp [intsN]; omega) hn
 rw [pts_intsN] at happ
 simp only [m_goquery_newEmptySelection,bind_some,Bool.not_true,cond_false,these_nat hR h,m_goquery_Selection_AddNodes_nil,happ,m_goquery_pushStack]
end Go.Proofs.YtkmigbicabfodaaGreat.V
set_option linter.unusedVariables false
set_option linter.unusedSimpArgs false
namespace Go.Proofs.YtkmigbicabfodaaGreat.V
open Go
theorem chosen_nat (a:Int) (bb:Bool) {on:List Int} {n:Nat} (hlen:on.length≤2147483647):∃ r b,m_spec_forest_chosen (((),a,bb),on,(List.range n).map some)=some (r,b,((),a,bb),(List.range n).map some)∧(b=true→∃ l:List Nat,on=intsN l∧r=l.map some∧(∀ c∈l,1≤c∧c<n)∧l.Nodup):=by
 obtain ⟨y,h1,h2⟩:=chosen_ex a bb (on:=on) (n:=n) hlen on.length 0 rfl (Nat.zero_le _) (fun k v h=>absurd h (by omega)) (fun k l _ h=>absurd h (by omega))
 have h1':loopO m_spec_forest_chosen_0 (((),a,bb),on,[],(0:Int),(List.range n).map some)=some y:=h1
 simp only [m_spec_forest_chosen,h1',bind_some]
 rcases h2 with rfl | ⟨rfl,g1,g2⟩
 ·exact ⟨_,_,rfl,fun h=>by cases h⟩
 ·refine ⟨_,_,rfl,fun _=>⟨on.map Int.toNat,?_,?_,?_,?_⟩⟩
  ·unfold intsN
   rw [List.map_map]
   refine ((List.map_congr_left fun v hv=>?_).trans (List.map_id on)).symm
   obtain ⟨k,hk⟩:=List.mem_iff_getElem?.1 hv
   have:=g1 k v hk
   simp only [Function.comp_apply,id_eq]
   show ((v.toNat:Nat):Int)=v
   omega
  ·rw [List.map_map]; rfl
  ·intro c hc
   obtain ⟨v,hv,rfl⟩:=List.mem_map.1 hc
   obtain ⟨k,hk⟩:=List.mem_iff_getElem?.1 hv
   have:=g1 k v hk
   omega
  ·unfold List.Nodup
   rw [List.pairwise_map,List.pairwise_iff_getElem]
   intro i j hi hj hij e
   have:=g2 i j hij hj
   rw [List.getElem?_eq_getElem hi,List.getElem?_eq_getElem hj] at this
   have b1:=g1 i _ (List.getElem?_eq_getElem hi)
   have b2:=g1 j _ (List.getElem?_eq_getElem hj)
   exact this (by congr 1; omega)
end Go.Proofs.YtkmigbicabfodaaGreat.V
set_option linter.unusedVariables false
set_option linter.unusedSimpArgs false
namespace Go.Proofs.YtkmigbicabfodaaGreat.V
open Go
def putP (P:Nat→Int×Node):List Nat→Nat→List Int→List Int
 | [],_,at'=>at'
 | z::l,k,at'=>putP P l (k+1) (if 0≤(P z).1∧(P z).1<at'.length then at'.set (P z).1.toNat (k:Int) else at')
theorem putP_len {P:Nat→Int×Node}:∀ {l:List Nat} {k:Nat} {at':List Int},(putP P l k at').length=at'.length
 | [],_,_=>rfl
 | z::l,k,at'=>by
  simp only [putP,putP_len]
  split <;> simp
theorem putP_app {P:Nat→Int×Node}:∀ {l m:List Nat} {k:Nat} {at':List Int},putP P (l++m) k at'=putP P m (k+l.length) (putP P l k at')
 | [],_,_,_=>rfl
 | z::l,m,k,at'=>by
  simp only [List.cons_append,putP,putP_app,List.length_cons]
  rw [show k+1+l.length=k+(l.length+1) by omega]
section
variable {F:Fo} {P:Nat→Int×Node} {Z:Nat→Bool}
theorem listed_eq (hF:F.ok):∀ (n x:Nat) (T:List Node) (A:List Int),x<F.m→Ht F.kids n x→T.length+(idsF F.kids n x).length≤1000000→A.length≤1000000 →
  m_spec_knot_listed n (some x,T,A,F.kst P Z)=some (T++nodesF F.kids (fun i=>(P i).2) n x,putP P (idsF F.kids n x) T.length A,F.kst P Z)
 | 0,_,_,_,_,h,_,_=>h.elim
 | n+1,x,T,A,hx,hh,hT,hA=>by
  have hg:=Fo.kget (F:=F) (P:=P) (Z:=Z) hx
  have hkk:(F.kn1 P Z x).kids=(F.kids x).map some:=rfl
  have hkn:(F.kn1 P Z x).n=(P x).2:=rfl
  have hkp:(F.kn1 P Z x).pl=(P x).1:=rfl
  simp only [idsF,List.length_cons,List.length_flatMap] at hT
  have hklen:((F.kids x).map fun y=>(idsF F.kids n y).length).sum=((F.kids x).flatMap (idsF F.kids n)).length:=by rw [List.length_flatMap]
  have hle:(F.kids x).length≤((F.kids x).flatMap (idsF F.kids n)).length:=by
   have:∀ l:List Nat,(∀ y∈l,Ht F.kids n y)→l.length≤(l.flatMap (idsF F.kids n)).length:=fun l=>by
    induction l with
    | nil=>simp
    | cons a l ih =>
     intro h
     have h1:=ih fun y hy=>h y (by simp [hy])
     have h2:1≤(idsF F.kids n a).length:=by
      have:=h a (by simp)
      cases n with
      | zero=>exact this.elim
      | succ n=>simp [idsF]
     rw [List.flatMap_cons,List.length_append,List.length_cons]
     omega
   exact this _ hh
  have key:∀ (A:List Int),A.length≤1000000→∀ d j,(F.kids x).length - j=d→j≤(F.kids x).length→loopO (m_spec_knot_listed_0 (m_spec_knot_listed n)) (some x,T++[(P x).2]++((F.kids x).take j).flatMap (nodesF F.kids (fun i=>(P i).2) n),putP P (((F.kids x).take j).flatMap (idsF F.kids n)) (T.length+1) A,(T.length:Int),(j:Int),F.kst P Z)
    = some (T++[(P x).2]++(F.kids x).flatMap (nodesF F.kids (fun i=>(P i).2) n),putP P ((F.kids x).flatMap (idsF F.kids n)) (T.length+1) A,(T.length:Int),F.kst P Z):=by
   intro A hA d
   induction d with
   | zero =>
    intro j hd hj
    obtain rfl:j=(F.kids x).length:=by omega
    refine loopO_out ?_
    simp only [m_spec_knot_listed_0,bind_some,hg,hkk,cond_dec,List.length_map]
    rw [if_neg (by omega),List.take_of_length_le (Nat.le_refl _)]
   | succ d ih =>
    intro j hd hj
    obtain ⟨y,hy⟩:=get_lt (l:=F.kids x) (k:=j) (by omega)
    have hym:=List.mem_of_getElem? hy
    obtain ⟨hu,hym2⟩:=hF.kid hym
    have e1:(F.kids x).take (j+1)=(F.kids x).take j++[y]:=by rw [List.take_add_one,hy]; rfl
    have hsum:(((F.kids x).take (j+1)).map fun y=>(idsF F.kids n y).length).sum≤((F.kids x).map fun y=>(idsF F.kids n y).length).sum:=by
     have h1:F.kids x=(F.kids x).take (j+1)++(F.kids x).drop (j+1):=(List.take_append_drop _ _).symm
     conv=>rhs; rw [h1]
     rw [List.map_append,List.sum_append]
     omega
    rw [e1,List.map_append,List.sum_append] at hsum
    simp only [List.map_cons,List.map_nil,List.sum_cons,List.sum_nil] at hsum
    have hlI:(((F.kids x).take j).flatMap (idsF F.kids n)).length=(((F.kids x).take j).map fun y=>(idsF F.kids n y).length).sum:=by rw [List.length_flatMap]
    have hlN:(((F.kids x).take j).flatMap (nodesF F.kids (fun i=>(P i).2) n)).length=(((F.kids x).take j).map fun y=>(idsF F.kids n y).length).sum:=by
     rw [List.length_flatMap]
     congr 1
     exact List.map_congr_left fun y _=>nodesF_len n y
    have hky:((F.kids x).map some)[j]?=some (some y):=by rw [List.getElem?_map,hy]; rfl
    have step:m_spec_knot_listed_0 (m_spec_knot_listed n) (some x,T++[(P x).2]++((F.kids x).take j).flatMap (nodesF F.kids (fun i=>(P i).2) n),putP P (((F.kids x).take j).flatMap (idsF F.kids n)) (T.length+1) A,(T.length:Int),(j:Int),F.kst P Z)
      = some (.nx (some x,T++[(P x).2]++((F.kids x).take (j+1)).flatMap (nodesF F.kids (fun i=>(P i).2) n),putP P (((F.kids x).take (j+1)).flatMap (idsF F.kids n)) (T.length+1) A,(T.length:Int),((j+1:Nat):Int),F.kst P Z)):=by
     simp only [m_spec_knot_listed_0,bind_some,hg,hkk,cond_dec,List.length_map,atI_nat,Int.toNat_natCast,hky]
     rw [if_pos (by omega),listed_eq hF n y _ _ hym2 (hh y hym) (by simp only [List.length_append,List.length_cons,List.length_nil,hlN]; omega) (by rw [putP_len]; exact hA),bind_some,w64 (by omega) (by omega),e1]
     simp only [List.flatMap_append,List.flatMap_cons,List.flatMap_nil,List.append_nil,List.append_assoc,putP_app]
     have e2:(T++([(P x).2]++((F.kids x).take j).flatMap (nodesF F.kids (fun i=>(P i).2) n))).length=T.length+1+(((F.kids x).take j).flatMap (idsF F.kids n)).length:=by
      simp only [List.length_append,List.length_cons,List.length_nil,hlN,hlI]; omega
     rw [e2]
     rfl
    rw [loopO_nx step]
    exact ih (j+1) (by omega) (by omega)
  have h0:∀ (A:List Int),A.length≤1000000→loopO (m_spec_knot_listed_0 (m_spec_knot_listed n)) (some x,T++[(P x).2],A,(T.length:Int),(0:Int),F.kst P Z)=some (T++[(P x).2]++(F.kids x).flatMap (nodesF F.kids (fun i=>(P i).2) n),putP P ((F.kids x).flatMap (idsF F.kids n)) (T.length+1) A,(T.length:Int),F.kst P Z):=fun A hA=>by
   have h:=key A hA (F.kids x).length 0 (by omega) (Nat.zero_le _)
   simp only [List.take_zero,List.flatMap_nil,List.append_nil,putP] at h
   exact h
  have hlN:((F.kids x).flatMap (nodesF F.kids (fun i=>(P i).2) n)).length=((F.kids x).map fun y=>(idsF F.kids n y).length).sum:=by
   rw [List.length_flatMap]
   congr 1
   exact List.map_congr_left fun y _=>nodesF_len n y
  have hget:(T++[(P x).2]++(F.kids x).flatMap (nodesF F.kids (fun i=>(P i).2) n))[T.length]?=some (P x).2:=by simp
  have hset:∀ v:Node,(T++[(P x).2]++(F.kids x).flatMap (nodesF F.kids (fun i=>(P i).2) n)).set T.length v=T++v::(F.kids x).flatMap (nodesF F.kids (fun i=>(P i).2) n):=fun v=>by
   rw [List.append_assoc,List.set_append_right _ _ (Nat.le_refl _)]
   simp
  have hsz:((T++[(P x).2]++(F.kids x).flatMap (nodesF F.kids (fun i=>(P i).2) n)).length:Int) - (T.length:Int)=1+(((F.kids x).flatMap (nodesF F.kids (fun i=>(P i).2) n)).length:Nat):=by
   simp only [List.length_append,List.length_cons,List.length_nil]
   omega
  have hw:IntKind.wrap .i64 (((T++[(P x).2]++(F.kids x).flatMap (nodesF F.kids (fun i=>(P i).2) n)).length:Int) - (T.length:Int))=1+(((F.kids x).flatMap (nodesF F.kids (fun i=>(P i).2) n)).length:Nat):=by
   rw [w64 (by simp only [List.length_append,List.length_cons,List.length_nil,hlN]; omega) (by simp only [List.length_append,List.length_cons,List.length_nil,hlN]; omega),hsz]
  show b_spec_knot_listed (m_spec_knot_listed n) (some x,T,A,F.kst P Z)=_
  simp only [b_spec_knot_listed,bind_some,hg,hkn,hkp,cond_dec]
  rw [appL_some (by simp; omega)]
  simp only [bind_some]
  by_cases h1:0≤(P x).1
  ·rw [if_pos h1]
   by_cases h2:(P x).1<(A.length:Int)
   ·rw [if_pos h2]
    obtain ⟨v,hv⟩:=get_lt (l:=A) (k:=(P x).1.toNat) (by omega)
    have hv1:atI A (P x).1=some v:=by
     have:(P x).1=(((P x).1.toNat:Nat):Int):=by omega
     rw [this,atI_nat]
     simpa using hv
    rw [hv1,bind_some,hv,bind_some,h0 _ (by simpa using hA),bind_some]
    simp only [atI_nat,Int.toNat_natCast,hget,bind_some,hset,hw]
    simp only [nodesF,idsF,putP]
    rw [if_pos ⟨h1,h2⟩]
   ·rw [if_neg h2,h0 _ hA,bind_some]
    simp only [atI_nat,Int.toNat_natCast,hget,bind_some,hset,hw]
    simp only [nodesF,idsF,putP]
    rw [if_neg (fun h=>h2 h.2)]
  ·rw [if_neg h1,h0 _ hA,bind_some]
   simp only [atI_nat,Int.toNat_natCast,hget,bind_some,hset,hw]
   simp only [nodesF,idsF,putP]
   rw [if_neg (fun h=>h1 h.1)]
end
end Go.Proofs.YtkmigbicabfodaaGreat.V
set_option linter.unusedVariables false
set_option linter.unusedSimpArgs false
namespace Go.Proofs.YtkmigbicabfodaaGreat.V
open Go
section
variable {F:Fo} {P:Nat→Int×Node} {Z:Nat→Bool} {w:Nat} {onl:List Nat} {ks:List (Option Nat)}
def grp (F:Fo) (x:Nat):List (Option Nat):=(F.kids x).map some
structure WOn (F:Fo) (P:Nat→Int×Node) (w x:Nat):Prop where
 kd:(P x).2.kind=3
 ne:F.kids x≠[]
 na:¬ Anc F x w
theorem groups_eq (hF:F.ok) (hr:Rk F) (hm:F.m≤1000000) (hw:w<F.m) (ho:∀ c∈onl,c<F.m) (hl:onl.length≤1000000) (f:PUnit×Int×Bool) :
  ∀ (d j:Nat) (Z:Nat→Bool),onl.length - j=d→j≤onl.length→(∀ x∈onl.take j,WOn F P w x)→∃ Z' y,loopO m_spec_forest_wrap_0 (f,11,onl.map some,some w,(onl.take j).map (grp F),(j:Int),F.kst P Z,ks)=some y ∧
   (y = .inr (f,false,F.kst P Z',ks)∨(y = .inl (f,some w,onl.map (grp F),F.kst P Z',ks)∧∀ x∈onl,WOn F P w x)):=by
 obtain ⟨f1,fa,fb⟩:=f
 intro d
 induction d with
 | zero =>
  intro j Z hd hj hx
  obtain rfl:j=onl.length:=by omega
  rw [List.take_length] at hx ⊢
  refine ⟨Z,_,loopO_out (b := .inl ((f1,fa,fb),some w,onl.map (grp F),F.kst P Z,ks)) ?_, .inr ⟨rfl,hx⟩⟩
  simp only [m_spec_forest_wrap_0,cond_dec,List.length_map]
  rw [if_neg (by omega)]
 | succ d ih =>
  intro j Z hd hj hx
  obtain ⟨x,hxj⟩:=get_lt (l:=onl) (k:=j) (by omega)
  have hxm:=ho x (List.mem_of_getElem? hxj)
  have e1:onl.take (j+1)=onl.take j++[x]:=by rw [List.take_add_one,hxj]; rfl
  have hat:(onl.map some)[j]?=some (some x):=by rw [List.getElem?_map,hxj]; rfl
  have hsub:subL (onl.map some) (j:Int) ((j+1:Nat):Int)=some [some x]:=by
   rw [subL_nat2 _ (by omega) (by simp; omega)]
   congr 1
   rw [← List.map_take,← List.map_drop,e1,List.drop_left' (by simp; omega)]
   rfl
  obtain ⟨b,hb1,hb2⟩:=are_ex (F:=F) (P:=P) (Z:=Z) (on:=[x]) (fun c hc=>by rw [List.mem_singleton.1 hc]; exact hxm) (by simp)
  have hb1':m_spec_are ([some x],F.kst P Z)=some b:=hb1
  have hg:(F.kst P Z)[x]?=some (F.kn1 P Z x):=Fo.kget hxm
  have hkk:(F.kn1 P Z x).kids=(F.kids x).map some:=rfl
  obtain ⟨c,hc1,hc2⟩:=holds_eq (P:=P) (Z:=Z) hF hr (a:=x) hw
  have hlg:((onl.take j).map (grp F)).length=j:=by simp; omega
  have hap:appL ((onl.take j).map (grp F)) [[some x]]=some ((onl.take j).map (grp F)++[[some x]]):=appL_some (by simp only [hlg,List.length_singleton]; omega)
  have hr1:((onl.take j).map (grp F)++[[some x]])[j]?=some [some x]:=by
   rw [List.getElem?_append_right (by omega),hlg]; simp
  have hset:((onl.take j).map (grp F)++[[some x]]).set j ((F.kids x).map some)=(onl.take (j+1)).map (grp F):=by
   rw [List.set_append_right _ _ (by omega),hlg,e1,List.map_append]
   simp [grp]
  have hz:(F.kst P Z).set x ((F.kn1 P Z x).wz true)=F.kst P (upd Z x true):=by
   unfold Fo.kst
   rw [tab_set hxm]
   refine tab_ext fun i hi=>?_
   by_cases e:i=x
   ·subst e; simp [upd,Fo.kn1,KN.wz]
   ·simp [upd,e,Fo.kn1]
  have hw1:IntKind.wrap .i64 ((j:Int)+1)=((j+1:Nat):Int):=by rw [w64 (by omega) (by omega)]; omega
  have hkl:(((F.kids x).map (some:Nat→Option Nat)).length:Int)=((F.kids x).length:Int):=by simp
  cases hbb:b with
  | false =>
   refine ⟨Z,_,loopO_out (b := .inr ((f1,fa,fb),false,F.kst P Z,ks)) ?_, .inl rfl⟩
   simp only [m_spec_forest_wrap_0,cond_dec,atI_nat,hat,bind_some,hap,hw1,hsub,hb1',hbb]
   rw [if_pos (by simp; omega)]
   rfl
  | true =>
   have hkd:=hb2 hbb x (by simp)
   by_cases he:F.kids x=[]
   ·refine ⟨Z,_,loopO_out (b := .inr ((f1,fa,fb),false,F.kst P Z,ks)) ?_, .inl rfl⟩
    simp only [m_spec_forest_wrap_0,cond_dec,atI_nat,hat,bind_some,hap,hw1,hsub,hb1',hbb,hg,hkk,he]
    rw [if_pos (by simp; omega)]
    rfl
   ·have hne:¬ ((F.kids x).length:Int)=0:=fun h=>he (List.length_eq_zero_iff.1 (by omega))
    cases hcc:c with
    | true =>
     refine ⟨Z,_,loopO_out (b := .inr ((f1,fa,fb),false,F.kst P Z,ks)) ?_, .inl rfl⟩
     simp only [m_spec_forest_wrap_0,cond_dec,atI_nat,hat,bind_some,hap,hw1,hsub,hb1',hbb,hg,hkk,hkl,hc1,hcc]
     rw [if_pos (by simp; omega)]
     simp only [Bool.not_true,cond_false]
     rw [if_pos trivial,if_neg hne]
     rfl
    | false =>
     have step:m_spec_forest_wrap_0 ((f1,fa,fb),11,onl.map some,some w,(onl.take j).map (grp F),(j:Int),F.kst P Z,ks)=some (.nx ((f1,fa,fb),11,onl.map some,some w,(onl.take (j+1)).map (grp F),((j+1:Nat):Int),F.kst P (upd Z x true),ks)):=by
      simp only [m_spec_forest_wrap_0,cond_dec,atI_nat,hat,bind_some,hap,hw1,hsub,hb1',hbb,hg,hkk,hkl,hc1,hcc,hr1,Int.toNat_natCast,hset,hz]
      rw [if_pos (by simp; omega)]
      simp only [Bool.not_true,cond_false]
      rw [if_pos trivial,if_neg hne]
     obtain ⟨Z',y,g1,g2⟩:=ih (j+1) (upd Z x true) (by omega) (by omega) (fun z hz'=>by
      rw [e1] at hz'
      rcases List.mem_append.1 hz' with hz' | hz'
      ·exact hx z hz'
      ·rw [List.mem_singleton.1 hz']
       exact ⟨hkd,he,fun h=>by rw [hc2.2 h] at hcc; cases hcc⟩)
     exact ⟨Z',y,by rw [loopO_nx step]; exact g1,g2⟩
structure WSure (F:Fo) (P:Nat→Int×Node) (w:Nat) (onl:List Nat):Prop where
 kd:(P w).2.kind=3
 on:∀ x∈onl,WOn F P w x∧¬ Anc F w x∧∃ p,F.up x=some p
 wi:WI F P w
theorem wrap_eq (hF:F.ok) (hr:Rk F) (hm:F.m≤600) (hw:w<F.m) (hat:∀ i,i<F.m→(P i).2.attrs.length≤1000000) (ho:∀ c∈onl,c<F.m) (hl:onl.length≤1000000) :
  ∃ b f' S',m_spec_forest_wrap (((),(F.m:Int),false),11,onl.map some,some w,ks,F.kst P Z)=some (b,f',ks,S') ∧
   (b=true→f'.2.2=false→∃ F' P' Z',f'=((),(F'.m:Int),false)∧S'=F'.kst P' Z'∧WCh w (onl.map F.kids) F P F' P'∧WI F' P' w∧WSure F P w onl):=by
 have hg:(F.kst P Z)[w]?=some (F.kn1 P Z w):=Fo.kget hw
 have hkn:(F.kn1 P Z w).n=(P w).2:=rfl
 obtain ⟨ri,hi1,hi2⟩:=inmost_eq (P:=P) (Z:=Z) hF hr (fun i=>Nat.le_trans (kids_len hF i) (by omega)) hw
 obtain ⟨ra,ha1,ha2⟩:=apart_ex (P:=P) (Z:=Z) (ws:=[w]) (on:=onl) hF hr (fun c hc=>by rw [List.mem_singleton.1 hc]; exact hw) ho (by simp) hl
 have ha1':m_spec_apart ([some w],onl.map some,F.kst P Z)=some ra:=ha1
 obtain ⟨rs,hs1,hs2⟩:=stand_ex (P:=P) (Z:=Z) ho hl
 obtain ⟨Z',y,hy1,hy2⟩:=groups_eq (P:=P) (ks:=ks) hF hr (by omega) hw ho hl ((),(F.m:Int),false) onl.length 0 Z (by omega) (Nat.zero_le _) (by simp)
 have hy1':loopO m_spec_forest_wrap_0 (((),(F.m:Int),false),11,onl.map some,some w,[],(0:Int),F.kst P Z,ks)=some y:=hy1
 simp only [m_spec_forest_wrap,bind_some,hg,hkn,cond_dec]
 by_cases hkd:(P w).2.kind=3
 ·rw [if_neg (by simp [hkd]),hi1,bind_some]
  cases ri with
  | none=>exact ⟨_,_,_,rfl,fun h=>by cases h⟩
  | some rr =>
   simp only [Option.isNone_some,cond_false,ha1',bind_some]
   cases ra with
   | false=>exact ⟨_,_,_,rfl,fun h=>by cases h⟩
   | true =>
    simp only [Bool.not_true,cond_false,hs1,bind_some]
    cases rs with
    | false=>exact ⟨_,_,_,rfl,fun h=>by cases h⟩
    | true =>
     simp only [Bool.not_true,cond_false]
     rw [if_pos (by decide),hy1',bind_some]
     rcases hy2 with rfl | ⟨rfl,hon⟩
     ·exact ⟨_,_,_,rfl,fun h=>by cases h⟩
     ·have hwi:WI F P w:=⟨hF,hr,hm,hw,hat,rr,hi2⟩
      have hsu:WSure F P w onl:=⟨hkd,fun x hx=>⟨hon x hx,fun h=>(ha2 rfl).2 w (by simp) x hx h,hs2 rfl x hx⟩,hwi⟩
      have hgs:onl.map (grp F)=(onl.map F.kids).map (fun l=>l.map some):=by rw [List.map_map]; rfl
      obtain ⟨y,g1,g2⟩:=wrounds (w:=w) (ks:=ks) (gl:=onl.map F.kids) (by simpa using hl) (onl.map F.kids).length 0 F P Z' (by omega) (Nat.zero_le _) hwi (fun l hll=>by
       obtain ⟨x,hx,rfl⟩:=List.mem_map.1 (show l∈onl.map F.kids from hll)
       obtain ⟨h1,h2,h3⟩:=hsu.on x hx
       refine ⟨⟨h1.ne,hF.nd x,fun c hc=>(hF.kid hc).2,fun c hc=>⟨x,(hF.kid hc).1⟩⟩,fun c hc ha=>?_⟩
       have hu:=(hF.kid hc).1
       cases ha with
       | self=>exact h1.na (.up hu .self)
       | up h t=>rw [hu] at h; cases h; exact h2 t)
      have g1':loopO m_spec_forest_wrap_1 (((),(F.m:Int),false),some w,onl.map (grp F),(0:Int),F.kst P Z',ks)=some y:=by rw [hgs]; exact g1
      simp only [selim,g1',bind_some]
      rcases g2 with ⟨f,S,rfl⟩ | ⟨a',S,rfl⟩ | ⟨F',P',Z2,rfl,g3,g4⟩
      ·exact ⟨_,_,_,rfl,fun h=>by cases h⟩
      ·exact ⟨_,_,_,rfl,fun _ h=>by cases h⟩
      ·exact ⟨_,_,_,rfl,fun _ _=>⟨F',P',Z2,rfl,rfl,by simpa using g3,g4,hsu⟩⟩
 ·rw [if_pos hkd]
  exact ⟨_,_,_,rfl,fun h=>by cases h⟩
end
theorem FT_rk {t:List Node}:Rk (FT t):=⟨fun i=>i,fun c p h=>by
 simp only [FT] at h
 split at h
 ·exact (par_some h).1
 ·cases h⟩
theorem step_w {t:List Node} (hR:RT t) {on:List Int} {o:Int} (hl:on.length≤2147483647) :
  ∃ b f' S',m_spec_forest_step_w (((),(t.length:Int),false),(11,on,[o],[],[],[]),(List.range t.length).map some,(FT t).kst (P0 t) Z0)=some (b,f',(List.range t.length).map some,S') ∧
   (b=true→f'.2.2=false→∃ (onl:List Nat) (w:Nat) (F':Fo) (P':Nat→Int×Node) (Z':Nat→Bool),on=intsN onl∧o=(w:Int)∧f'=((),(F'.m:Int),false)∧S'=F'.kst P' Z'∧WCh w (onl.map (FT t).kids) (FT t) (P0 t) F' P'∧WI F' P' w∧WSure (FT t) (P0 t) w onl∧(1≤w∧w<t.length)∧(∀ c∈onl,1≤c∧c<t.length)∧onl.Nodup):=by
 have hlen:=hR.len
 obtain ⟨r1,b1,h1,h1'⟩:=chosen_nat (t.length:Int) false (on:=on) (n:=t.length) hl
 obtain ⟨r2,b2,h2,h2'⟩:=chosen_nat (t.length:Int) false (on:=[o]) (n:=t.length) (by simp)
 simp only [m_spec_forest_step_w,h1,h2,bind_some,cond_dec]
 cases b1 with
 | false=>exact ⟨_,_,_,rfl,fun h=>by cases h⟩
 | true =>
  cases b2 with
  | false=>exact ⟨_,_,_,rfl,fun h=>by cases h⟩
  | true =>
   obtain ⟨l1,e1,rfl,g1,g2⟩:=h1' rfl
   obtain ⟨l2,e2,rfl,k1,k2⟩:=h2' rfl
   obtain ⟨w,rfl⟩:∃ x,l2=[x]:=by
    have:l2.length=1:=by
     have:=congrArg List.length e2
     simpa [intsN] using this.symm
    exact List.length_eq_one_iff.1 this
   have ho:o=(w:Int):=by
    simp only [intsN,List.map_cons,List.map_nil,List.cons.injEq,and_true] at e2
    exact e2
   have hw:=k1 w (by simp)
   have hds:Ds t l1:=⟨fun c hc=>(g1 c hc).2,g2⟩
   have hll:=hds.len hlen
   simp only [Bool.not_true,cond_false]
   by_cases he:((l1.map (some:Nat→Option Nat)).length:Int)=0
   ·rw [if_pos he]
    exact ⟨_,_,_,rfl,fun h=>by cases h⟩
   ·rw [if_neg he,if_neg (by decide),if_neg (by decide),if_neg (by decide),if_neg (by decide),if_neg (by decide),if_neg (by decide),if_neg (by decide),if_neg (by decide),if_neg (by decide),if_neg (by decide),if_pos trivial,if_pos (by simp)]
    have hat:atI ([w].map some) (0:Int)=some (some w):=rfl
    have hat2:([w].map some)[Int.toNat (0:Int)]?=some (some w):=rfl
    obtain ⟨b,f',S',q1,q2⟩:=wrap_eq (F:=FT t) (P:=P0 t) (Z:=Z0) (w:=w) (onl:=l1) (ks:=(List.range t.length).map some) (FT_ok hR) FT_rk (by show t.length≤600; omega) hw.2 (fun i hi=>by
     have:((P0 t i).2).attrs.length≤20:=by
      obtain ⟨v,hv⟩:=get_lt (l:=t) (k:=i) hi
      have hn:(P0 t i).2=v:=by simp [P0,nd0,hv]
      rw [hn]
      have hN:=hR.node i v hv
      rcases hN.kd with h | h | h | h | h
      ·have:=hN.k4 (by omega); rw [this.2]; simp
      ·have:=hN.k4 (by omega); rw [this.2]; simp
      ·exact (hN.k3 h).2.1
      ·have:=hN.k4 (by omega); rw [this.2]; simp
      ·have:=hN.k4 (by omega); rw [this.2]; simp
     omega) (fun c hc=>(g1 c hc).2) (by omega)
    have q1':m_spec_forest_wrap (((),(t.length:Int),false),11,l1.map some,some w,(List.range t.length).map some,(FT t).kst (P0 t) Z0)=_:=q1
    obtain ⟨f1,f2,f3⟩:=f'
    simp only [hat,hat2,bind_some,q1']
    refine ⟨b,_,S',rfl,fun hb hf=>?_⟩
    obtain ⟨F',P',Z',c1,c2,c3,c4,c5⟩:=q2 hb hf
    exact ⟨l1,w,F',P',Z',e1,ho,c1,c2,c3,c4,c5,hw,g1,g2⟩
theorem fill_w (a:Int) (b:Bool) (S:List KN) (ks:List (Option Nat)) {m:Nat} (hm:m≤1000000):∀ d j:Nat,m - j=d→j≤m→loopO m_spec_Changed_w_1 (((),a,b),List.replicate j (-1)++List.replicate (m - j) 0,(j:Int),S,ks)=some (((),a,b),List.replicate m (-1),S,ks):=by
 intro d
 induction d with
 | zero =>
  intro j hd hj
  obtain rfl:j=m:=by omega
  refine loopO_out ?_
  simp only [m_spec_Changed_w_1,cond_dec]
  rw [if_neg (by simp)]
  simp
 | succ d ih =>
  intro j hd hj
  have hg:(List.replicate j (-1)++List.replicate (m - j) 0:List Int)[j]?=some 0:=by
   rw [List.getElem?_append_right (by simp),List.length_replicate,Nat.sub_self,List.getElem?_replicate,if_pos (by omega)]
  have hs:(List.replicate j (-1)++List.replicate (m - j) 0:List Int).set j (-1)=List.replicate (j+1) (-1)++List.replicate (m - (j+1)) 0:=by
   rw [List.set_append_right _ _ (by simp)]
   rw [show m - j=(m - (j+1))+1 by omega,List.replicate_succ]
   simp only [List.length_replicate,Nat.sub_self,List.set_cons_zero]
   rw [List.replicate_succ',List.append_assoc]
   rfl
  have step:m_spec_Changed_w_1 (((),a,b),List.replicate j (-1)++List.replicate (m - j) 0,(j:Int),S,ks)=some (.nx (((),a,b),List.replicate (j+1) (-1)++List.replicate (m - (j+1)) 0,((j+1:Nat):Int),S,ks)):=by
   simp only [m_spec_Changed_w_1,cond_dec,atI_nat,hg,bind_some,Int.toNat_natCast,hs]
   rw [if_pos (by simp; omega),w64 (by omega) (by omega)]
   rfl
  rw [loopO_nx step]
  exact ih (j+1) (by omega) (by omega)
structure WAns (t:List Node) (on:List Int) (o:Int) (out:List Node) (at':List Int):Prop where
 rt:RT t
 ex:∃ (onl:List Nat) (w:Nat) (F':Fo) (P':Nat→Int×Node),on=intsN onl∧o=(w:Int)∧WCh w (onl.map (FT t).kids) (FT t) (P0 t) F' P'∧WI F' P' w∧WSure (FT t) (P0 t) w onl∧(1≤w∧w<t.length)∧(∀ c∈onl,1≤c∧c<t.length)∧onl.Nodup ∧
  ∀ n,big=n→out=nodesF F'.kids (fun i=>(P' i).2) n 0∧at'=putP P' (idsF F'.kids n 0) 0 (List.replicate t.length (-1))
theorem WCh.le {w:Nat} {gs:List (List Nat)} {F F':Fo} {P P':Nat→Int×Node} (h:WCh w gs F P F' P'):F.m≤F'.m:=by
 induction h with
 | nil=>exact Nat.le_refl _
 | cons h _ t ih =>
  obtain ⟨F1,first,rest,p,A,B,to,hc,rfl,hu,hk,hin,rfl⟩:=h
  exact Nat.le_trans hc.ext.m ih
theorem changedW {t:List Node} (hf:fits1 t=true) {on:List Int} {o:Int} (hl:on.length≤2147483647) :
  ∃ out at' b,m_spec_Changed_w_f (t,[(11,on,[o],[],[],[])])=some (out,at',b)∧(b=true→WAns t on o out at'):=by
 obtain ⟨n,hb,hn⟩:=big_ge
 obtain ⟨b0,h0,h0'⟩:=Right_ex t hf
 suffices h:∃ out at' b S,m_spec_Changed_w (t,[(11,on,[o],[],[],[])],[])=some (out,at',b,S)∧(b=true→WAns t on o out at') by
  obtain ⟨out,at',b,S,g1,g2⟩:=h
  refine ⟨out,at',b,?_,g2⟩
  show (m_spec_Changed_w (t,[(11,on,[o],[],[],[])],[])).map _=_
  rw [g1]; rfl
 simp only [m_spec_Changed_w,h0,bind_some,cond_dec]
 cases b0 with
 | false=>exact ⟨_,_,_,_,rfl,fun h=>by cases h⟩
 | true =>
  have hR:=h0' rfl
  have hlen:=hR.len
  simp only [Bool.not_true,cond_false,knots_eq hR,bind_some]
  obtain ⟨b1,f',S,h1,h1'⟩:=step_w (o:=o) hR hl
  obtain ⟨fu,fa,fb⟩:=f'
  have hat:atI [((11:Int),on,[o],([]:List UInt8),([]:List UInt8),([]:List (List UInt8)))] (0:Int)=some (11,on,[o],[],[],[]):=rfl
  cases b1 with
  | false =>
   have st:m_spec_Changed_w_0 (t,[(11,on,[o],[],[],[])],((),(t.length:Int),false),(0:Int),(FT t).kst (P0 t) Z0,(List.range t.length).map some)=some (.out (.inr ([],[],false,S))):=by
    simp only [m_spec_Changed_w_0,cond_dec,hat,bind_some,h1]
    rw [if_pos (by simp)]
    rfl
   rw [loopO_out st]
   exact ⟨_,_,_,_,rfl,fun h=>by cases h⟩
  | true =>
   cases fb with
   | true =>
    have st:m_spec_Changed_w_0 (t,[(11,on,[o],[],[],[])],((),(t.length:Int),false),(0:Int),(FT t).kst (P0 t) Z0,(List.range t.length).map some)=some (.out (.inr ([],[],false,S))):=by
     simp only [m_spec_Changed_w_0,cond_dec,hat,bind_some,h1]
     rw [if_pos (by simp)]
     rfl
    rw [loopO_out st]
    exact ⟨_,_,_,_,rfl,fun h=>by cases h⟩
   | false =>
    obtain ⟨onl,w,F',P',Z',e1,e2,e3,rfl,e4,e5,e6,e7,e8,e9⟩:=h1' rfl rfl
    cases e3
    have st:m_spec_Changed_w_0 (t,[(11,on,[o],[],[],[])],((),(t.length:Int),false),(0:Int),(FT t).kst (P0 t) Z0,(List.range t.length).map some)=some (.nx (t,[(11,on,[o],[],[],[])],((),(F'.m:Int),false),(1:Int),F'.kst P' Z',(List.range t.length).map some)):=by
     simp only [m_spec_Changed_w_0,cond_dec,hat,bind_some,h1]
     rw [if_pos (by simp)]
     rfl
    have st2:m_spec_Changed_w_0 (t,[(11,on,[o],[],[],[])],((),(F'.m:Int),false),(1:Int),F'.kst P' Z',(List.range t.length).map some)=some (.out (.inl (t,((),(F'.m:Int),false),F'.kst P' Z',(List.range t.length).map some))):=by
     simp only [m_spec_Changed_w_0,cond_dec]
     rw [if_neg (by simp)]
    have hfill:=fill_w (F'.m:Int) false (F'.kst P' Z') ((List.range t.length).map some) (m:=t.length) (by omega) t.length 0 rfl (Nat.zero_le _)
    have hfill':loopO m_spec_Changed_w_1 (((),(F'.m:Int),false),List.replicate (Int.toNat (t.length:Int)) (0:Int),(0:Int),F'.kst P' Z',(List.range t.length).map some)=some (((),(F'.m:Int),false),List.replicate t.length (-1),F'.kst P' Z',(List.range t.length).map some):=hfill
    have hz:((List.range t.length).map some)[0]?=some (some 0):=by
     have:=hR.pos
     rw [List.getElem?_map,List.getElem?_range hR.pos]; rfl
    have hle:=e4.le
    have hle:t.length≤F'.m:=hle
    have hpos:=hR.pos
    have hm6:=e5.m
    obtain ⟨r,hr⟩:=e5.rk.down e5.ok
    have hil:=ids_len e5.ok hr n (x:=0) (by omega)
    have hli:=listed_eq (P:=P') (Z:=Z') e5.ok n 0 [] (List.replicate t.length (-1)) (by omega) (ht_all e5.ok e5.rk (by omega) (by omega)) (by simp; omega) (by simp; omega)
    rw [loopO_nx st,loopO_out st2,bind_some]
    simp only [selim]
    rw [if_pos ⟨by omega,by omega,by omega⟩,hfill',bind_some]
    simp only [atI_zero,hz,bind_some,show Int.toNat 0=0 from rfl,hb,hli]
    refine ⟨_,_,_,_,rfl,fun _=>⟨hR,onl,w,F',P',e1,e2,e4,e5,e6,e7,e8,e9,fun n' hn'=>?_⟩⟩
    rw [← hn',hb]
    exact ⟨List.nil_append _,rfl⟩
end Go.Proofs.YtkmigbicabfodaaGreat.V
