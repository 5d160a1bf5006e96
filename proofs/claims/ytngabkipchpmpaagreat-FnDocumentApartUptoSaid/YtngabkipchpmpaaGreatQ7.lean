/-
  Plain facts and an evaluator for what a law needs.
-/
import Derived.Test.YtngabkipchpmpaaGreatRows
import Derived.Test.YtngabkipchpmpaaGreatQ6
set_option linter.unusedVariables false
set_option linter.unusedSimpArgs false
namespace Go.Proofs.YtngabkipchpmpaaGreat.V
open Go
theorem SX {F:Fo}{p c:Nat}{A B l:List Nat}:(F.br p A l B).br p (A++l) [c] B=F.br p A (l++[c]) B:=Fo.ext rfl (λi=>by
  simp only [Fo.br,List.mem_append,List.mem_singleton]
  by_cases e:i=c <;> by_cases e2:i∈l <;> simp [e,e2]) (λi=>by
  simp only [Fo.br]
  by_cases e:i=p <;> simp [e])
theorem SY {F:Fo}{p c:Nat}{A B l:List Nat}:(F.br p A l B).br p A [c] (l++B)=F.br p A (c::l) B:=Fo.ext rfl (λi=>by
  simp only [Fo.br,List.mem_cons,List.mem_singleton]
  by_cases e:i=c <;> by_cases e2:i∈l <;> simp [e,e2]) (λi=>by
  simp only [Fo.br]
  by_cases e:i=p <;> simp [e])
theorem Qp {F:Fo}{K':Nat->List Nat}(hF:F.ok):∀ {n w:Nat},(∀ y,jZ F w y->K' y=F.kids y)->Ht F.kids n w->Ht K' n w
 | 0,_,_,h=>h
 | n+1,w,hk,h=>λy hy=>by rw [hk w .self] at hy;exact Qp hF (λz hz=>hk z (zL (.up (hF.iG hy).1 .self) hz)) (h y hy)
section
variable {Q:Int×Node->HN->Prop}{D:Nat->Prop}{φ:Nat->Nat}{op:Int}{F F1 F' G H:Fo}{P P1 P':Nat->Int×Node}{M:Nat->HN}{n x p c w s:Nat}{A B l ws cs aI:List Nat}
theorem Em (hQ:NG Q)(hb:lY=n)(aen:F1.ok)(h:qB Q D φ F1 P1 G M)(mC:∀ i,i<G.m->(M i).attrs.length<=1000000)(hx:D x)(hp:D p)(hk:F1.kids p=A++B)(hc:Ie op x p A B)(hw:D w)(Li:Ht F1.kids n w)(hD:∀ i,c<=i->i<c+s->¬ D i)(ht:Zu F1 P1 n w c s) :
  ∃ G' M' nD,om op true (some (φ x)) (some (φ w)) (G.st M)=some (G'.st M')/\qB Q (λi=>D i∨(c<=i/\i<c+s)) nD (F1.br p A [c] B) P1 G' M'/\(∀ i,i<G'.m->(M' i).attrs.length<=1000000)/\(∀ i,D i->nD i=φ i)/\(∀ i,c<=i->i<c+s->G.m<=nD i)/\G.m<=G'.m /\
   ∀ j,j<G.m->(∀ i,D i->φ i≠j)->G'.kids j=G.kids j/\G'.up j=G.up j/\M' j=M j:=by
 obtain⟨G1,M1,c1,c2,c3,c4,S1⟩:=M3 hQ h mC hw Li ht.hi hD ht.up ht.ids ht.cp;generalize VZ:TO φ c s G.m=ik at S1;have AZ:∀ i,D i->ik i=φ i:=λi hi=>by rw [<- VZ];exact if_neg λ⟨h1,h2⟩=>hD i h1 h2 hi
 have M0:∀ i,c<=i->i<c+s->ik i=G.m+(i - c):=λi h1 h2=>by rw [<- VZ];exact if_pos ⟨h1,h2⟩
 have j4:=ht.pos;have abw:ik c=G.m:=by rw [M0 c (Nat.le_refl _) (by omega),Nat.sub_self,Nat.add_zero]
 have V1:p≠c:=λe=>hD c (Nat.le_refl _) (by omega) (e ▸ hp)
 have WB:D c∨(c<=c/\c<c+s) := .inr ⟨Nat.le_refl _,by omega⟩;have S2:=S1.br (p:=p) (.inl hp) hk (l:=[c]) (λd hd=>by rw [List.mem_singleton.1 hd];exact⟨WB,ht.up,V1⟩) (by simp);rw [List.map_cons,List.map_nil,abw] at S2;have P_:G1.kids (ik p)=A.map ik++B.map ik:=by rw [S1.kids p (.inl hp),hk,List.map_append]
 have V2:ik p<G1.m:=S1.gm p (.inl hp);have XD:=h.gm p hp;have V3:ik p≠G.m:=by rw [AZ p hp];omega
 have E3:=vN (F:=G1) (p:=ik p) (c:=G.m) (A:=A.map ik) (l:=[]) (B:=B.map ik) (by rw [lX P_];exact c2.ok) V2 (by omega) c3 V3 (by simp);rw [lX P_] at E3;have tN:Sp (G1.br (ik p) (A.map ik) [G.m] (B.map ik)) G1 (ik p) G.m (A.map ik) (B.map ik):=by simpa using E3
 have mW:=Lq (L:=M1) tN (hc.map ik);rw [AZ x hx] at mW;refine⟨_,M1,ik,?_,S2,λi hi=>?_,AZ,λi h1 h2=>by rw [M0 i h1 h2];omega,by show G.m<=G1.m;exact c2.m,λj hj hn=>?_⟩
 ·show Option.bind (ak lY (some (φ w),G.st M)) _=_;rw [hb,c1,bind_some];exact mW
 ·have hi:i<G1.m:=hi
  by_cases e:i<G.m
  ·rw [(c2.fe i e).2.2];exact mC i e
  ·exact c2.rN i (by omega) hi
 ·obtain⟨o1,o2,o3⟩:=c2.fe j hj;have e1:j≠ik p:=λe=>hn p hp (by rw [<- AZ p hp];exact e.symm)
  have e2:j∉[G.m]:=λe=>by have:=List.mem_singleton.1 e;omega
  simp only [Fo.br,if_neg e1,if_neg e2];exact⟨o2,o1,o3⟩
theorem CG (hQ:NG Q)(hb:lY=n)(hF:F.ok)(RH:F1.ok)(hold:∀ y,y<F.m->F1.kids y=F.kids y)(yR:p<F.m)(ue:x<F.m)(hk:F1.kids p=A++B)(hc:Ie op x p A B) :
  ∀ (T:List (Nat×Nat×Nat)) (D:Nat->Prop) (φ:Nat->Nat) (l:List Nat) (G:Fo) (M:Nat->HN),qB Q D φ (F1.br p A l B) P1 G M->(∀ i,i<G.m->(M i).attrs.length<=1000000)->(∀ i,i<F.m->D i)->(∀ c∈l,D c) ->
   (∀ t∈T,Zu F1 P1 n t.1 t.2.1 t.2.2/\F.m<=t.2.1/\(t.1<F.m/\¬ jZ F t.1 p/\Ht F.kids n t.1)/\∀ i,t.2.1<=i->i<t.2.1+t.2.2->¬ D i)->T.Pairwise YD ->
   ∃ G' M' nD l',nj (om op true (some (φ x))) (T.map λt=>some (φ t.1)) (G.st M)=some (G'.st M')/\(fwd op->l'=l++T.map (·.2.1))/\(¬ fwd op->l'=(T.map (·.2.1)).reverse++l)/\qB Q (λi=>D i∨∃ t∈T,t.2.1<=i/\i<t.2.1+t.2.2) nD (F1.br p A l' B) P1 G' M'/\(∀ i,i<G'.m->(M' i).attrs.length<=1000000)/\(∀ i,D i->nD i=φ i) /\
    (∀ i,(∃ t∈T,t.2.1<=i/\i<t.2.1+t.2.2)->G.m<=nD i)/\G.m<=G'.m/\∀ j,j<G.m->(∀ i,D i->φ i≠j)->G'.kids j=G.kids j/\G'.up j=G.up j/\M' j=M j
 | [],D,φ,l,G,M,h,mC,_,_,_,_=>⟨G,M,φ,l,rfl,λ_=>by simp,λ_=>by simp,h.iff λi=>by simp,mC,λ_ _=>rfl,λi ⟨t,ht,_⟩=>(by cases ht),Nat.le_refl _,λ_ _ _=>⟨rfl,rfl,rfl⟩⟩
 | (w,c,s)::T,D,φ,l,G,M,h,mC,hD,hl,hT,hP=>by
  obtain⟨ht,qq,⟨NI,iB,Li⟩,WB⟩:=hT (w,c,s) (by simp);simp only [] at ht qq NI iB Li WB;have j4:=ht.pos;have l6:c∉l:=λhm=>WB c (Nat.le_refl _) (by omega) (hl c hm)
  have m9:∀ i,i≠p->(F1.br p A l B).kids i=F1.kids i:=λi hi=>by simp only [Fo.br,if_neg hi]
  have M7:∀ y,jZ F w y->(F1.br p A l B).kids y=F.kids y:=λy hy=>by rw [m9 y λe=>iB (e ▸ hy)];exact hold y (xO hF NI hy)
  have ht2:Zu (F1.br p A l B) P1 n w c s:=by
   refine⟨ht.hi,ht.pos,?_,?_,?_⟩
   ·simp only [Fo.br,if_neg l6];exact ht.up
   ·rw [<- ht.ids];exact vO (λi h1 _=>m9 i (by omega)) ht.cp
   ·refine Ag.mono (Q:=jZ F w) (Nat.le_refl _) (Nat.le_refl _) (λi h1 _=>m9 i (by omega)) (λ_ _ _ _ _ h=>h) (λy hy=>?_) (λy hy z hz=>?_) .self ht.cp
    ·rw [M7 y hy,hold y (xO hF NI hy)]
    ·rw [hold y (xO hF NI hy)] at hz;exact Lp hF hy hz
  have NC:(F1.br p A l B).kids p=A++l++B:=if_pos rfl;have YE:Ht (F1.br p A l B).kids n w:=Qp hF M7 Li;obtain⟨G1,M1,ik,l1,e1,e2,e3,k1,k2,k3,k4,k5,k6⟩:∃ G1 M1 ik l1,om op true (some (φ x)) (some (φ w)) (G.st M)=some (G1.st M1)/\(fwd op->l1=l++[c])/\(¬ fwd op->l1=c::l)/\qB Q (λi=>D i∨(c<=i/\i<c+s)) ik (F1.br p A l1 B) P1 G1 M1/\(∀ i,i<G1.m->(M1 i).attrs.length<=1000000)/\(∀ i,D i->ik i=φ i)/\(∀ i,c<=i->i<c+s->G.m<=ik i)/\G.m<=G1.m /\
    ∀ j,j<G.m->(∀ i,D i->φ i≠j)->G1.kids j=G.kids j/\G1.up j=G.up j/\M1 j=M j:=by
   by_cases ho:fwd op
   ·obtain⟨G1,M1,ik,a1,a2,a3⟩:=Em (A:=A++l) (B:=B) hQ hb h.okF h mC (hD x ue) (hD p yR) NC (hc.fw ho) (hD w NI) YE WB ht2;rw [SX] at a2;exact⟨G1,M1,ik,l++[c],a1,λ_=>rfl,λh=>absurd ho h,a2,a3⟩
   ·obtain⟨G1,M1,ik,a1,a2,a3⟩:=Em (A:=A) (B:=l++B) hQ hb h.okF h mC (hD x ue) (hD p yR) (by rw [NC,List.append_assoc]) (hc.bw ho) (hD w NI) YE WB ht2;rw [SY] at a2;exact⟨G1,M1,ik,c::l,a1,λh=>absurd h ho,λ_=>rfl,a2,a3⟩
  have hcD:D c∨(c<=c/\c<c+s) := .inr ⟨Nat.le_refl _,by omega⟩;obtain⟨hP1,hP2⟩:=List.pairwise_cons.1 hP;obtain⟨G2,M2,NH,l2,q1,q2,q3,q4,q5,q6,q7,q8,q9⟩:=CG hQ hb hF RH hold yR ue hk hc T (λi=>D i∨(c<=i/\i<c+s)) ik l1 G1 M1 k1 k2 (λi hi => .inl (hD i hi)) (λd hd=>by
   by_cases ho:fwd op
   ·rw [e2 ho] at hd;rcases List.mem_append.1 hd with hd | hd
    ·exact .inl (hl d hd)
    ·rw [List.mem_singleton.1 hd];exact hcD
   ·rw [e3 ho] at hd;rcases List.mem_cons.1 hd with rfl | hd
    ·exact hcD
    ·exact .inl (hl d hd)) (λt TT=>by
   obtain⟨a1,a2,a3,a4⟩:=hT t (by simp [TT]);refine⟨a1,a2,a3,λi h1 h2 hd=>?_⟩;rcases hd with hd | hd
   ·exact a4 i h1 h2 hd
   ·have:=hP1 t TT
    unfold YD at this;simp only [] at this
    omega) hP2
  have zf:(T.map λt=>some (ik t.1))=T.map λt=>some (φ t.1):=List.map_congr_left λt TT=>by rw [k3 t.1 (hD _ (hT t (by simp [TT])).2.2.1.1)]
  rw [zf,k3 x (hD x ue)] at q1;refine⟨G2,M2,NH,l2,?_,λho=>?_,λho=>?_,q4.iff λi=>?_,q5,λi hi=>(q6 i (.inl hi)).trans (k3 i hi),λi hi=>?_,by omega,λj hj hn=>?_⟩
  ·show (om op true (some (φ x)) (some (φ w)) (G.st M)).bind _=_;rw [e1,bind_some];exact q1
  ·rw [q2 ho,e2 ho];simp
  ·rw [q3 ho,e3 ho];simp
  ·constructor
   ·rintro (h | ⟨t,ht,h⟩)
    ·exact .inl (.inl h)
    ·rcases List.mem_cons.1 ht with rfl | ht
     ·exact .inl (.inr h)
     ·exact .inr ⟨t,ht,h⟩
   ·rintro ((h | h) | ⟨t,ht,h⟩)
    ·exact .inl h
    ·exact .inr ⟨_,List.mem_cons_self,h⟩
    ·exact .inr ⟨t,List.mem_cons_of_mem _ ht,h⟩
  ·obtain⟨t,TT,h1,h2⟩:=hi;rcases List.mem_cons.1 TT with rfl | TT
   ·rw [q6 i (.inr ⟨h1,h2⟩)];exact k4 i h1 h2
   ·have:=q7 i ⟨t,TT,h1,h2⟩
    omega
  ·obtain⟨b1,b2,b3⟩:=k6 j hj hn;obtain⟨d1,d2,d3⟩:=q9 j (by omega) λi hi=>by
    rcases hi with hi | hi
    ·rw [k3 i hi];exact hn i hi
    ·have:=k4 i hi.1 hi.2
     omega
   exact⟨d1.trans b1,d2.trans b2,d3.trans b3⟩
def A3 (op:Int)(ws:List Nat):List Nat:=if op=1∨op=4 then ws else ws.reverse
theorem V5 (hQ:NG Q)(h:SL op ws aI F P F' P'):∀ {φ:Nat->Nat} {G:Fo} {M:Nat->HN},vP Q φ F P G M->∃ G' M' nD,wy op ((A3 op ws).map λw=>some (φ w)) (aI.map λx=>some (φ x)) (G.st M)=some (G'.st M')/\vg Q φ F G M nD F' P' G' M':=by
 obtain⟨n,hb,hn⟩:=vf
 induction h with
 | @last x p A B F P hI hm hp =>
  intro φ G M h;have S:=h.sH;obtain⟨ue,Gv,_⟩:=hI.on x (by simp);have iB:=λ{w:Nat} (hw:w∈ws)=>hI.np (x:=x) (by simp) hp hw
  have hw:∀ c∈ws,c<F.m/\p≠c/\x≠c:=λc hc=>⟨hI.wm c hc,λe=>iB hc (by rw [e];exact .self),λe=>Gv c hc (by rw [e];exact .self)⟩
  have S2:=S.vh (p:=p) (A:=A) (B:=B) hp.hp hp.hk (λc hc=>⟨(hw c hc).1,(hw c hc).2.1⟩) hI.nd;have hpG:Pl op G (φ x) (φ p) (A.map φ) (B.map φ):=⟨S.gm p hp.hp,by rw [S.kids p hp.hp,hp.hk,List.map_append],hp.hc.map φ,hp.hu.imp (λe=>by rw [e]) λe=>by rw [S.up x ue,e];rfl⟩;have TU:∀ d∈ws.map φ,d<G.m/\φ p≠d/\φ x≠d:=λd hd=>by obtain⟨c,hc,rfl⟩:=List.mem_map.1 hd;obtain⟨h1,h2,h3⟩:=hw c hc;exact⟨S.gm c h1,λe=>h2 (S.inj p c hp.hp h1 e),λe=>h3 (S.inj x c ue h1 e)⟩
  have hnG:(ws.map φ).Nodup:=S.nodup (λc hc=>(hw c hc).1) hI.nd;have Zs:=hpG.hk;refine⟨_,M,φ,?_,⟨S2,h.at_⟩,λ_ _=>rfl,λi h1 (h2:i<F.m)=>by omega,Nat.le_refl _,Nat.le_refl _,λj hj eH=>?_⟩
  ·show (nj (om op false (some (φ x))) ((A3 op ws).map λw=>some (φ w)) (G.st M)).bind _=_
   by_cases ho:fwd op
   ·have hl:=Lt (M:=M) S.xg hpG ho (ws.map φ) [] (by simpa using TU) (by simpa using hnG);rw [FW Zs,List.nil_append,List.map_map] at hl;rw [show A3 op ws=ws from if_pos ho];rw [show (ws.map λw=>some (φ w))=ws.map (some ∘ φ) from rfl,hl];rfl
   ·have hl:=F4 (M:=M) S.xg hpG ho (ws.map φ).reverse [] (by simpa using TU) (by simpa using hnG);rw [FW Zs,List.append_nil,List.reverse_reverse,<- List.map_reverse,List.map_map] at hl;rw [show A3 op ws=ws.reverse from if_neg ho];rw [show (ws.reverse.map λw=>some (φ w))=ws.reverse.map (some ∘ φ) from rfl,hl];rfl
  ·have NF:∀ c∈ws,c<F.m:=λc hc=>(hw c hc).1
   obtain⟨a1,a2⟩:=S.Qb (l:=ws) NF eH;obtain⟨b1,b2⟩:=SJ (G:=G.off (ws.map φ)) (A:=(A.map φ).filter λj=>decide (j∉ws.map φ)) (B:=(B.map φ).filter λj=>decide (j∉ws.map φ)) NF hp.hp eH;exact⟨b1.trans a1,b2.trans a2,rfl⟩
 | @more x y p l A B cs F F1 F2 P P1 P2 hI hm hp hc t ih =>
  intro φ G M h;have S:=h.sH;obtain⟨ue,Gv,_⟩:=hI.on x (by simp);obtain⟨g1,g2,g3,g4⟩:=hc.facts hI.ok hI.wm;obtain⟨T,t1,t2,t3,t4,t5⟩:=hc.trp hb hI.ok hI.wm;have Gz:=g1.m;have rG:F1.kids p=A++B:=by rw [(g1.fe p hp.hp).2.1];exact hp.hk
  have S1:=S.grow g1;have hS1:qB Q (λi=>i<F.m) φ (F1.br p A [] B) P1 G M:=by rw [lX rG];exact S1
  let T':=if op=1∨op=4 then T else T.reverse
  have sj:∀ u,u∈T'↔u∈T:=λu=>by
   show u∈(if op=1∨op=4 then T else T.reverse)↔_
   split <;> simp
  have hpw:T'.Pairwise YD:=by
   show (if op=1∨op=4 then T else T.reverse).Pairwise YD;split
   ·exact t4
   ·rw [List.pairwise_reverse];exact t4.imp λh=>Or.symm h
  obtain⟨G1,M1,ik,l1,q1,q2,q3,q4,q5,q6,q7,q8,q9⟩:=CG (F:=F) hQ hb hI.ok g1.ok (λy hy=>(g1.fe y hy).2.1) hp.hp ue rG hp.hc T' (λi=>i<F.m) φ [] G M hS1 h.at_ (λi hi=>hi) (by simp) (λu hu=>by
   have hu:=(sj u).1 hu;obtain⟨a1,a2⟩:=t3 u hu;have hwu:u.1∈ws:=by rw [<- t1];exact List.mem_map.2 ⟨u,hu,rfl⟩
   exact⟨a1,a2,⟨hI.wm _ hwu,hI.np (x:=x) (by simp) hp hwu,tA hI.ok hI.rk (hI.wm _ hwu) (by omega)⟩,λi h1 h2 h3=>by omega⟩) hpw
  have Nt:l1=cs:=by
   by_cases ho:fwd op
   ·rw [q2 ho,List.nil_append,<- t2];have ho:op=1∨op=4:=ho;show (if op=1∨op=4 then T else T.reverse).map _=_;rw [if_pos ho]
   ·rw [q3 ho,List.append_nil,<- t2];have ho:¬ (op=1∨op=4):=ho;show ((if op=1∨op=4 then T else T.reverse).map _).reverse=_;rw [if_neg ho,<- List.map_reverse,List.reverse_reverse]
  subst Nt;have hmT:(T'.map λt=>some (φ t.1))=(A3 op ws).map λw=>some (φ w):=by
   rw [<- t1];show (if op=1∨op=4 then T else T.reverse).map _=(if op=1∨op=4 then T.map (·.1) else (T.map (·.1)).reverse).map _;split
   ·rw [List.map_map];rfl
   ·rw [<- List.map_reverse,List.map_map];rfl
  rw [hmT] at q1;have S2:qB Q (λi=>i<(F1.br p A l1 B).m) ik (F1.br p A l1 B) P1 G1 M1:=q4.iff λi=>by
   constructor
   ·intro hi;have hi:i<F1.m:=hi
    by_cases e:i<F.m
    ·exact .inl e
    ·obtain⟨u,hu,h3⟩:=t5 i (by omega) hi;exact .inr ⟨u,(sj u).2 hu,h3⟩
   ·rintro (hi | ⟨u,hu,h1,h2⟩)
    ·show i<F1.m;omega
    ·have:=(t3 u ((sj u).1 hu)).1.hi
     show i<F1.m;omega
  have hA:vg Q φ F G M ik (F1.br p A l1 B) P1 G1 M1:=⟨⟨S2,q5⟩,q6,λi h1 h2=>by obtain⟨u,hu,h3⟩:=t5 i h1 h2;exact q7 i ⟨u,(sj u).2 hu,h3⟩,Gz,q8,q9⟩
  obtain⟨G2,M2,NH,r1,r2⟩:=ih hA.JZ;obtain⟨_,hJ,_⟩:=hI.round hp g1 g3 g2;have pK:((A3 op ws).map λw=>some (ik w))=(A3 op ws).map λw=>some (φ w):=List.map_congr_left λw hw=>by
   have:w∈ws:=by
    unfold A3 at hw
    split at hw
    ·exact hw
    ·exact List.mem_reverse.1 hw
   rw [q6 w (hI.wm w this)]
  have vn:((y::l).map λx=>some (ik x))=(y::l).map λx=>some (φ x):=List.map_congr_left λz hz=>by rw [q6 z (hI.on z (by simp at hz ⊢;exact .inr hz)).1]
  rw [pK,vn] at r1;refine⟨G2,M2,NH,?_,hA.trans r2⟩;show (nj (om op true (some (φ x))) ((A3 op ws).map λw=>some (φ w)) (G.st M)).bind _=_;rw [q1,bind_some];exact r1
end
def xP (F:Fo):List Nat->Fo
 | []=>F
 | x::l=>xP (F.off (F.kids x)) l
section
variable {Q:Int×Node->HN->Prop}{φ:Nat->Nat}{F G:Fo}{P:Nat->Int×Node}{Z:Nat->Bool}{M:Nat->HN}{x:Nat}{l aI:List Nat}{f:PUnit×Int×Bool}{ks on:List (Option Nat)}
theorem YF (a:Int)(b:Bool)(ks:List (Option Nat))(hF:F.ok)(Gz:F.m<=1000000)(hm:∀ c∈l,c<F.m)(hlen:l.length<=1000000) :
  ∀ d j:Nat,∀ Z,l.length - j=d->j<=l.length->∃ Z',ab dT (((),a,b),l.map some,(j:Int),(F.off (l.take j)).aZ P Z,ks)=some (((),a,b),(F.off l).aZ P Z',ks):=by
 intro d
 induction d with
 | zero =>
  intro j Z hd hj;refine⟨Z,ae ?_⟩;simp only [dT,aa];rw [if_neg (by simp;omega),List.take_of_length_le (by omega)]
 | succ d ih =>
  intro j Z hd hj;obtain⟨c,hc⟩:=ay (l:=l) (k:=j) (by omega);obtain⟨Z1,rv⟩:=vM (P:=P) (Z:=Z) (jz (l:=l.take j) hF) (hm c (List.mem_of_getElem? hc)) (λi=>Nat.le_trans (yG i) (Nat.le_trans (fZ hF i) Gz));have e1:l.take j++[c]=l.take (j+1):=by rw [List.take_add_one,hc];rfl
  rw [tz,e1] at rv;have step:dT (((),a,b),l.map some,(j:Int),(F.off (l.take j)).aZ P Z,ks)=some (.nx (((),a,b),l.map some,((j+1:Nat):Int),(F.off (l.take (j+1))).aZ P Z1,ks)):=by simp only [dT,aa,ad,Int.toNat_natCast,cm hc,bind_some,rv];rw [if_pos (by simp;omega),cD (by omega) (by omega)];rfl
  obtain⟨Z',h⟩:=ih (j+1) Z1 (by omega) (by omega);exact⟨Z',by rw [aj step];exact h⟩
theorem Io (hn:l.Nodup)(j:Nat):l.filter (λi=>decide (i∉l.take j))=l.drop j:=by
 conv=>lhs;rw [<- List.take_append_drop j l]
 rw [<- List.take_append_drop j l,List.nodup_append] at hn;rw [List.filter_append];have h1:(l.take j).filter (λi=>decide (i∉(l.take j++l.drop j).take j))=[]:=by
  refine List.filter_eq_nil_iff.2 λa ha=>?_
  rw [List.take_append_drop];simpa using ha
 have h2:(l.drop j).filter (λi=>decide (i∉(l.take j++l.drop j).take j))=l.drop j:=by
  refine List.filter_eq_self.2 λa ha=>?_
  rw [List.take_append_drop]
  have:a∉l.take j:=λh=>hn.2.2 a h a ha rfl
  simpa using this
 rw [h1,h2,List.nil_append]
theorem Qq (a:Int)(b:Bool){i:Nat}(hF:F.ok)(Gz:F.m<=1000000)(hx:on[i]?=some (some x))(ue:x<F.m) :
  ∀ d j:Nat,∀ Z,(F.kids x).length - j=d->j<=(F.kids x).length->∃ Z',ab ei (((),a,b),on,(i:Int),(F.off ((F.kids x).take j)).aZ P Z,ks)=some (((),a,b),on,(i:Int),(F.off (F.kids x)).aZ P Z',ks):=by
 have ud:∀ j,(F.off ((F.kids x).take j)).kids x=(F.kids x).drop j:=λj=>Io (hF.nd x) j
 intro d
 induction d with
 | zero =>
  intro j Z hd hj;obtain rfl:j=(F.kids x).length:=by omega
  have hk:=ud (F.kids x).length;rw [List.take_length,List.drop_length] at hk;rw [List.take_length];have hg:=Fo.mx (F:=F.off (F.kids x)) (P:=P) (Z:=Z) (i:=x) ue;have JC:((F.off (F.kids x)).jw P Z x).kids=[]:=by show ((F.off (F.kids x)).kids x).map some=_;rw [hk];rfl
  refine⟨Z,ae ?_⟩;simp only [ei,aa,ad,Int.toNat_natCast,hx,bind_some,hg,JC];rw [if_neg (by simp)]
 | succ d ih =>
  intro j Z hd hj;obtain⟨c,hc⟩:=ay (l:=F.kids x) (k:=j) (by omega);have qq:=(hF.iG (List.mem_of_getElem? hc)).2;obtain⟨Z1,rv⟩:=vM (P:=P) (Z:=Z) (jz (l:=(F.kids x).take j) hF) qq (λi=>Nat.le_trans (yG i) (Nat.le_trans (fZ hF i) Gz));have e1:(F.kids x).take j++[c]=(F.kids x).take (j+1):=by rw [List.take_add_one,hc];rfl
  rw [tz,e1] at rv;have hg:=Fo.mx (F:=F.off ((F.kids x).take j)) (P:=P) (Z:=Z) (i:=x) ue;have rn:(F.kids x).drop j=c::(F.kids x).drop (j+1):=by obtain⟨h1,h2⟩:=List.getElem?_eq_some_iff.1 hc;rw [<- h2];exact List.drop_eq_getElem_cons h1
  have JC:((F.off ((F.kids x).take j)).jw P Z x).kids=some c::((F.kids x).drop (j+1)).map some:=by show ((F.off ((F.kids x).take j)).kids x).map some=_;rw [ud,rn];rfl
  have step:ei (((),a,b),on,(i:Int),(F.off ((F.kids x).take j)).aZ P Z,ks)=some (.nx (((),a,b),on,(i:Int),(F.off ((F.kids x).take (j+1))).aZ P Z1,ks)):=by
   have e0:bl on (i:Int)=some (some x):=by rw [ad];exact hx
   have e2:on[Int.toNat (i:Int)]?=some (some x):=by rw [Int.toNat_natCast];exact hx
   have h0:bl (some c::((F.kids x).drop (j+1)).map some) (0:Int)=some (some c):=by rw [pj];rfl
   have h1:(some c::((F.kids x).drop (j+1)).map some)[Int.toNat (0:Int)]?=some (some c):=rfl;have hp:(0:Int)<(((some c::((F.kids x).drop (j+1)).map some).length:Nat):Int):=by simp only [List.length_cons];omega
   simp only [ei,aa,e0,e2,bind_some,hg,JC,if_pos hp,h0,h1,rv]
  obtain⟨Z',h⟩:=ih (j+1) Z1 (by omega) (by omega);exact⟨Z',by rw [aj step];exact h⟩
theorem zM:∀ {l:List Nat} {F:Fo},(xP F l).m=F.m
 | [],_=>rfl
 | _::l,F=>(zM (l:=l)).trans rfl
theorem Lu:∀ {l:List Nat} {F:Fo},F.ok->(xP F l).ok
 | [],_,h=>h
 | x::l,F,h=>by show (xP (F.off (F.kids x)) l).ok;exact Lu (jz h)
theorem Lw:∀ {l:List Nat} {F:Fo},Rk F->Rk (xP F l)
 | [],_,h=>h
 | x::l,F,h=>by show Rk (xP (F.off (F.kids x)) l);exact Lw h.off
theorem M9 (a:Int)(b:Bool)(FV:aI.length<=1000000):∀ (d i:Nat) (F:Fo) (Z:Nat->Bool),aI.length - i=d->i<=aI.length->F.ok->F.m<=1000000->(∀ c∈aI,c<F.m)->∃ Z',ab dU (((),a,b),aI.map some,(i:Int),F.aZ P Z,ks)=some (((),a,b),aI.map some,(xP F (aI.drop i)).aZ P Z',ks):=by
 intro d
 induction d with
 | zero =>
  intro i F Z hd hi hF Gz hm;obtain rfl:i=aI.length:=by omega
  rw [List.drop_length];refine⟨Z,ae ?_⟩;simp only [dU,aa];rw [if_neg (by simp)];rfl
 | succ d ih =>
  intro i F Z hd hi hF Gz hm;obtain⟨x,hx⟩:=ay (l:=aI) (k:=i) (by omega);have rn:aI.drop i=x::aI.drop (i+1):=by obtain⟨h1,h2⟩:=List.getElem?_eq_some_iff.1 hx;rw [<- h2];exact List.drop_eq_getElem_cons h1
  obtain⟨Z1,h1⟩:=Qq (P:=P) (ks:=ks) (on:=aI.map some) (i:=i) a b hF Gz (cm hx) (hm x (List.mem_of_getElem? hx)) (F.kids x).length 0 Z rfl (Nat.zero_le _);rw [List.take_zero,tv] at h1;have step:dU (((),a,b),aI.map some,(i:Int),F.aZ P Z,ks)=some (.nx (((),a,b),aI.map some,((i+1:Nat):Int),(F.off (F.kids x)).aZ P Z1,ks)):=by simp only [dU,aa,h1,bind_some];rw [if_pos (by simp;omega),cD (by omega) (by omega)];rfl
  obtain⟨Z',h⟩:=ih (i+1) (F.off (F.kids x)) Z1 (by omega) (by omega) (jz hF) Gz hm;exact⟨Z',by rw [aj step,rn];exact h⟩
theorem xQ (hG:G.ok)(hm:∀ c∈l,c<G.m)(hlen:l.length<=1000000):c7 (l.map some,G.st M)=some ((),(G.off l).st M):=by
 have key:∀ d j,l.length - j=d->j<=l.length->ab bU (l.map some,l.map some,(l.length:Int),(j:Int),(G.off (l.take j)).st M)=some (l.map some,(G.off l).st M):=by
  intro d
  induction d with
  | zero =>
   intro j hd hj;refine ae ?_;simp only [bU,aa];rw [if_neg (by omega),List.take_of_length_le (by omega)]
  | succ d ih =>
   intro j hd hj;obtain⟨c,hc⟩:=ay (l:=l) (k:=j) (by omega);have e1:l.take j++[c]=l.take (j+1):=by rw [List.take_add_one,hc];rfl
   have lI:=jz (l:=l.take j) hG;have qq:c<(G.off (l.take j)).m:=hm c (List.mem_of_getElem? hc);have hg:=Fo.get (L:=M) qq;have step:bU (l.map some,l.map some,(l.length:Int),(j:Int),(G.off (l.take j)).st M)=some (.nx (l.map some,l.map some,(l.length:Int),((j+1:Nat):Int),(G.off (l.take (j+1))).st M)):=by
    simp only [bU,aa,ad,cm hc,bind_some,hg];rw [if_pos (by omega),<- e1,<- tz];cases hu:(G.off (l.take j)).up c with
    | none =>
     have t_:((G.off (l.take j)).a7 M c).par=none:=hu;simp only [t_,Option.isNone_none,Bool.not_true,cond_false];rw [yH lI hu,cD (by omega) (by omega)];rfl
    | some q =>
     have t_:((G.off (l.take j)).a7 M c).par=some q:=hu;simp only [t_,Option.isNone_some,Bool.not_false,cond_true,yK lI hu,bind_some];rw [cD (by omega) (by omega)];rfl
   rw [aj step];exact ih (j+1) (by omega) (by omega)
 have h:=key l.length 0 rfl (Nat.zero_le _);rw [List.take_zero,tv] at h;have h':ab bU (l.map some,l.map some,(((l.map (some:Nat->Option Nat)).length:Nat):Int),(0:Int),G.st M)=some (l.map some,(G.off l).st M):=by rw [List.length_map];exact h
 simp only [c7,h',bind_some]
theorem Qr (hG:G.ok)(hx:x<G.m){s s':List (Option Nat)}{nn i:Int}:∀ (d j:Nat) (k:Int),(G.kids x).length - j=d->j<=(G.kids x).length->0<=k->k+d<=1000000->ab cU (s,k,(G.kids x)[j]?,s',nn,i,G.st M)=some (s,k+d,s',nn,i,G.st M):=by
 intro d
 induction d with
 | zero =>
  intro j k hd hj h0 h1;obtain rfl:j=(G.kids x).length:=by omega
  refine ae ?_;simp only [cU];rw [List.getElem?_eq_none (Nat.le_refl _)];simp
 | succ d ih =>
  intro j k hd hj h0 h1;obtain⟨c,hc⟩:=ay (l:=G.kids x) (k:=j) (by omega);obtain⟨hu,hm⟩:=hG.iG (List.mem_of_getElem? hc);have hg:=Fo.get (F:=G) (L:=M) hm;have II:(G.a7 M c).aX=(G.kids x)[j+1]?:=by simp only [Fo.a7,hu,Option.bind_some];exact pE (hG.nd x) hc
  have step:cU (s,k,(G.kids x)[j]?,s',nn,i,G.st M)=some (.nx (s,k+1,(G.kids x)[j+1]?,s',nn,i,G.st M)):=by simp only [cU,hc,Option.isNone_some,Bool.not_false,cond_true,bind_some,hg,II];rw [cD (by omega) (by omega)]
  rw [aj step,ih (j+1) (k+1) (by omega) (by omega) (by omega) (by omega)]
  congr 3
  omega
theorem M_ (hG:G.ok){N:Nat}(hN:∀ c∈aI,(G.kids c).length<=N)(hm:∀ c∈aI,c<G.m)(hl:N*aI.length<=1000000)(hlen:aI.length<=1000000):∀ (d i:Nat) (k:Int),aI.length - i=d->i<=aI.length->0<=k->k<=N*i->∃ k':Int,0<=k'/\k'<=1000000/\ab cG (aI.map some,k,aI.map some,(aI.length:Int),(i:Int),G.st M)=some (aI.map some,k',G.st M):=by
 intro d
 induction d with
 | zero =>
  intro i k hd hi h0 h1;obtain rfl:i=aI.length:=by omega
  have h2:k<=1000000:=by
   have:((N*aI.length:Nat):Int)<=1000000:=by omega
   rw [Int.natCast_mul] at this;omega
  refine⟨k,h0,h2,ae ?_⟩;simp only [cG,aa];rw [if_neg (by omega)]
 | succ d ih =>
  intro i k hd hi h0 h1;obtain⟨x,hx⟩:=ay (l:=aI) (k:=i) (by omega);have ue:=hm x (List.mem_of_getElem? hx);have hxN:=hN x (List.mem_of_getElem? hx);have hg:=Fo.get (F:=G) (L:=M) ue;have hmul:N*(i+1)<=N*aI.length:=Nat.mul_le_mul_left _ (by omega);have Y1:N*(i+1)=N*i+N:=Nat.mul_succ _ _;have CQ:k<=((N*i:Nat):Int):=by rw [Int.natCast_mul];exact h1
  have lH:=Qr (M:=M) (s:=aI.map some) (s':=aI.map some) (nn:=(aI.length:Int)) (i:=(i:Int)) hG ue (G.kids x).length 0 k rfl (Nat.zero_le _) h0 (by omega);have hf:(G.a7 M x).fst=(G.kids x)[0]?:=by simp only [Fo.a7,List.head?_eq_getElem?]
  have step:cG (aI.map some,k,aI.map some,(aI.length:Int),(i:Int),G.st M)=some (.nx (aI.map some,k+((G.kids x).length:Nat),aI.map some,(aI.length:Int),((i+1:Nat):Int),G.st M)):=by simp only [cG,aa,ad,cm hx,bind_some,hg,hf,lH];rw [if_pos (by omega),cD (by omega) (by omega)];rfl
  rw [aj step];exact ih (i+1) _ (by omega) (by omega) (by omega) (by
   have:((N*(i+1):Nat):Int)=(N:Int)*((i+1:Nat):Int):=Int.natCast_mul _ _
   rw [<- this,Y1]
   omega)
theorem Na (hG:G.ok)(hx:x<G.m){s s':List (Option Nat)}{nn i:Int}:∀ (d j:Nat) (r:List (Option Nat)),(G.kids x).length - j=d->j<=(G.kids x).length->r.length+d<=2000000->∃ r',r'.length=r.length+d/\ab cV (s,r,some x,(G.kids x)[j]?,s',nn,i,(G.off ((G.kids x).take j)).st M)=some (s,r',s',nn,i,(G.off (G.kids x)).st M):=by
 have ud:∀ j,(G.off ((G.kids x).take j)).kids x=(G.kids x).drop j:=λj=>Io (hG.nd x) j
 intro d
 induction d with
 | zero =>
  intro j r hd hj hr;obtain rfl:j=(G.kids x).length:=by omega
  refine⟨r,rfl,ae ?_⟩;simp only [cV];rw [List.getElem?_eq_none (Nat.le_refl _),List.take_length];rfl
 | succ d ih =>
  intro j r hd hj hr;obtain⟨c,hc⟩:=ay (l:=G.kids x) (k:=j) (by omega);have e1:(G.kids x).take j++[c]=(G.kids x).take (j+1):=by rw [List.take_add_one,hc];rfl
  have lI:=jz (l:=(G.kids x).take j) hG;have hu:(G.off ((G.kids x).take j)).up c=some x:=by
   have:c∈(G.off ((G.kids x).take j)).kids x:=by rw [ud];obtain⟨h1,h2⟩:=List.getElem?_eq_some_iff.1 hc;rw [List.drop_eq_getElem_cons h1,h2];simp
   exact (lI.iG this).1
  have JY:=yK (L:=M) lI hu;rw [tz,e1] at JY;have hg:=Fo.get (F:=G.off ((G.kids x).take (j+1))) (L:=M) (i:=x) hx;have hf:((G.off ((G.kids x).take (j+1))).a7 M x).fst=(G.kids x)[j+1]?:=by simp only [Fo.a7,ud,List.head?_eq_getElem?,List.getElem?_drop]
  have step:cV (s,r,some x,(G.kids x)[j]?,s',nn,i,(G.off ((G.kids x).take j)).st M)=some (.nx (s,r++[some c],some x,(G.kids x)[j+1]?,s',nn,i,(G.off ((G.kids x).take (j+1))).st M)):=by simp only [cV,hc,Option.isNone_some,Bool.not_false,cond_true,JY,bind_some,hg,hf];rw [a6 (by simp;omega),bind_some]
  obtain⟨r',h1,h2⟩:=ih (j+1) (r++[some c]) (by omega) (by omega) (by simp;omega);exact⟨r',by rw [h1];simp;omega,by rw [aj step];exact h2⟩
theorem J1 {N:Nat}(hl:N*aI.length<=1000000)(hlen:aI.length<=1000000):∀ (d i:Nat) (G:Fo) (r:List (Option Nat)),aI.length - i=d->i<=aI.length->G.ok->(∀ c∈aI,c<G.m/\(G.kids c).length<=N)->r.length<=N*i->∃ r',ab cH (aI.map some,r,aI.map some,(aI.length:Int),(i:Int),G.st M)=some (aI.map some,r',(xP G (aI.drop i)).st M):=by
 intro d
 induction d with
 | zero =>
  intro i G r hd hi hG hm hr;obtain rfl:i=aI.length:=by omega
  rw [List.drop_length];refine⟨r,ae ?_⟩;simp only [cH,aa];rw [if_neg (by omega)];rfl
 | succ d ih =>
  intro i G r hd hi hG hm hr;obtain⟨x,hx⟩:=ay (l:=aI) (k:=i) (by omega);have rn:aI.drop i=x::aI.drop (i+1):=by obtain⟨h1,h2⟩:=List.getElem?_eq_some_iff.1 hx;rw [<- h2];exact List.drop_eq_getElem_cons h1
  obtain⟨ue,hxN⟩:=hm x (List.mem_of_getElem? hx);have hg:=Fo.get (F:=G) (L:=M) ue;have hmul:N*(i+1)<=N*aI.length:=Nat.mul_le_mul_left _ (by omega);have Y1:N*(i+1)=N*i+N:=Nat.mul_succ _ _;obtain⟨r1,h1,h2⟩:=Na (M:=M) (s:=aI.map some) (s':=aI.map some) (nn:=(aI.length:Int)) (i:=(i:Int)) hG ue (G.kids x).length 0 r rfl (Nat.zero_le _) (by omega);rw [List.take_zero,tv] at h2;have hf:(G.a7 M x).fst=(G.kids x)[0]?:=by simp only [Fo.a7,List.head?_eq_getElem?]
  have step:cH (aI.map some,r,aI.map some,(aI.length:Int),(i:Int),G.st M)=some (.nx (aI.map some,r1,aI.map some,(aI.length:Int),((i+1:Nat):Int),(G.off (G.kids x)).st M)):=by simp only [cH,aa,ad,cm hx,bind_some,hg,hf,h2];rw [if_pos (by omega),cD (by omega) (by omega)];rfl
  obtain⟨r',h3⟩:=ih (i+1) (G.off (G.kids x)) r1 (by omega) (by omega) (jz hG) (λc hc=>⟨(hm c hc).1,Nat.le_trans (yG c) (hm c hc).2⟩) (by omega);exact⟨r',by rw [aj step,rn];exact h3⟩
theorem Nb (hG:G.ok){N:Nat}(hm:∀ c∈aI,c<G.m/\(G.kids c).length<=N)(hl:N*aI.length<=1000000)(hlen:aI.length<=1000000):gB (aI.map some,G.st M)=some ((),(xP G aI).st M):=by
 obtain⟨k,h0,h1,h2⟩:=M_ (M:=M) hG (λc hc=>(hm c hc).2) (λc hc=>(hm c hc).1) hl hlen aI.length 0 0 rfl (Nat.zero_le _) (Int.le_refl _) (by simp);obtain⟨r,h3⟩:=J1 (M:=M) hl hlen aI.length 0 G [] rfl (Nat.zero_le _) hG hm (by simp);rw [List.drop_zero] at h3;have M8:ab cG (aI.map some,(0:Int),aI.map some,(((aI.map (some:Nat->Option Nat)).length:Nat):Int),(0:Int),G.st M)=some (aI.map some,k,G.st M):=by rw [List.length_map];exact h2
 have KQ:ab cH (aI.map some,[],aI.map some,(((aI.map (some:Nat->Option Nat)).length:Nat):Int),(0:Int),G.st M)=some (aI.map some,r,(xP G aI).st M):=by rw [List.length_map];exact h3
 have U5:List.replicate (Int.toNat (0:Int)) (none:Option Nat)=[]:=rfl;simp only [gB,M8,bind_some,aa,U5,KQ,bk];rw [if_pos ⟨h0,by omega,by omega⟩]
theorem vg.same (h:vP Q φ F P G M){F' G':Fo}(hs:qB Q (λi=>i<F.m) φ F' P G' M)(hm:F'.m=F.m)(hg:G'.m=G.m)(hf:∀ j,(∀ i,i<F.m->φ i≠j)->G'.kids j=G.kids j/\G'.up j=G.up j):vg Q φ F G M φ F' P G' M :=
 ⟨⟨hs.iff λi=>by rw [hm],λi hi=>h.at_ i (by omega)⟩,λ_ _=>rfl,λi h1 h2=>by omega,by omega,by omega,λj _ hn=>⟨(hf j hn).1,(hf j hn).2,rfl⟩⟩
theorem F5 (h:vP Q φ F P G M)(hl:∀ c∈l,c<F.m):vg Q φ F G M φ (F.off l) P (G.off (l.map φ)) M :=
 vg.same h (h.sH.off hl) rfl rfl λj hn=>h.sH.Qb hl hn
theorem Ip:∀ {l:List Nat} {F G:Fo},vP Q φ F P G M->(∀ c∈l,c<F.m)->vg Q φ F G M φ (xP F l) P (xP G (l.map φ)) M
 | [],_,_,h,_=>vg.refl h
 | x::l,F,G,h,hl=>by
  have h1:=F5 h (l:=F.kids x) λc hc=>(h.sH.okF.iG hc).2
  have e:G.kids (φ x)=(F.kids x).map φ:=h.sH.kids x (hl x (by simp));rw [<- e] at h1;exact h1.trans (Ip h1.JZ λc hc=>hl c (by simp [hc]))
end
theorem sI {p:Nat->Prop}[DecidablePred p]{A:List Nat}(h:∀ y∈A,¬ p y):A.filter (λj=>decide (¬ p j))=A:=List.filter_eq_self.2 λy hy=>by simpa using h y hy
theorem Iq {ws:List Nat}{F:Fo}{c:Nat}(h:c∈ws):(F.off ws).up c=none:=if_pos h
def Uk (G:Fo)(p q:Nat)(A B:List Nat)(k:Nat):Fo :=
 ⟨G.m,λi=>if i∈(G.kids p).take k then some q else G.up i,λi=>if i=q then A++(G.kids p).take k++p::B else if i=p then (G.kids p).drop k else G.kids i⟩
section
variable {G:Fo}{P:Nat->Int×Node}{p q:Nat}{A B:List Nat}{k:Nat}
theorem Zv (hq:G.kids q=A++p::B):Uk G p q A B 0=G:=by
 refine Fo.ext rfl (λi=>?_) (λi=>?_)
 ·simp [Uk]
 ·simp only [Uk,List.take_zero,List.append_nil,List.drop_zero]
  by_cases e:i=q
  ·rw [if_pos e,e,hq]
  ·rw [if_neg e]
   by_cases e2:i=p
   ·rw [if_pos e2,e2]
   ·rw [if_neg e2]
structure Uw (G:Fo)(p q:Nat)(A B:List Nat):Prop where
 ok:G.ok
 hq:G.kids q=A++p::B
 pq:q≠p
 nk:∀ c∈G.kids p,c≠q/\c≠p
theorem Uw.up (h:Uw G p q A B):G.up p=some q/\p<G.m:=h.ok.iG (by rw [h.hq];simp)
theorem Uw.qm (h:Uw G p q A B):q<G.m:=(h.ok.up h.up.1).1
theorem Uw.dis (h:Uw G p q A B){c:Nat}(hc:c∈G.kids p):c∉A/\c∉B:=by
 have hu:=(h.ok.iG hc).1;have key:∀ X:List Nat,(∀ z∈X,z∈G.kids q)->c∉X:=λX hX hx=>by
  have:=(h.ok.iG (hX c hx)).1
  rw [hu] at this;exact h.pq (Option.some.inj this).symm
 exact⟨key A λz hz=>by rw [h.hq];simp [hz],key B λz hz=>by rw [h.hq];simp [hz]⟩
theorem Lx (h:Uw G p q A B)(hU:(Uk G p q A B k).ok){c:Nat}(hc:(G.kids p)[k]?=some c) :
  Sp (Uk G p q A B k) ((Uk G p q A B k).off [c]) p c [] ((G.kids p).drop (k+1))/\Sp (Uk G p q A B (k+1)) ((Uk G p q A B k).off [c]) q c (A++(G.kids p).take k) (p::B):=by
 have qq:=List.mem_of_getElem? hc;have KW:=h.nk c qq;have Zw:=h.ok.iG qq;have my:=h.ok.nd p;have rn:(G.kids p).drop k=c::(G.kids p).drop (k+1):=by obtain⟨h1,h2⟩:=List.getElem?_eq_some_iff.1 hc;rw [<- h2];exact List.drop_eq_getElem_cons h1
 have IK:(G.kids p).take (k+1)=(G.kids p).take k++[c]:=by rw [List.take_add_one,hc];rfl
 have QP:c∉(G.kids p).take k:=λhm=>by have h1:=List.take_append_drop k (G.kids p);rw [<- h1,rn,List.nodup_append] at my;exact my.2.2 c hm c (by simp) rfl
 have hqm:=h.qm;have yR:=h.up.2;have s1:Sp (Uk G p q A B k) ((Uk G p q A B k).eG p ([]++(G.kids p).drop (k+1)) c none) p c [] ((G.kids p).drop (k+1)):=by
  refine⟨hU,yR,Zw.2,?_,?_,rfl⟩
  ·simp only [Uk,if_neg QP];exact Zw.1
  ·simp only [Uk,if_neg (Ne.symm h.pq),if_true,rn];rfl
 have e1:=PX s1;rw [e1] at s1;refine⟨s1,?_⟩;have lI:=jz (l:=[c]) hU;have YG:=h.dis qq;have hk:((Uk G p q A B k).off [c]).kids q=(A++(G.kids p).take k)++(p::B):=by
  show ((Uk G p q A B k).kids q).filter _=_;simp only [Uk,if_true];refine sI λz hz DO=>?_
  have:=List.mem_singleton.1 DO
  subst this;simp only [List.mem_append,List.mem_cons] at hz;rcases hz with (hz | hz) | hz | hz
  ·exact YG.1 hz
  ·exact QP hz
  ·exact KW.2 hz
  ·exact YG.2 hz
 have s2:=Sp.ins (G:=(Uk G p q A B k).off [c]) (p:=q) (c:=c) lI hqm Zw.2 (Iq (by simp)) (Ne.symm KW.1) hk;have e2:((Uk G p q A B k).off [c]).eG q ((A++(G.kids p).take k)++c::p::B) c (some q)=Uk G p q A B (k+1):=by
  refine Fo.ext rfl (λi=>?_) (λi=>?_)
  ·simp only [Fo.eG,Fo.off,Uk,IK,List.mem_append,List.mem_singleton]
   by_cases e:i=c
   ·simp [e]
   ·simp [e]
  ·simp only [Fo.eG]
   by_cases e:i=q
   ·simp only [if_pos e,Uk,IK];simp
   ·rw [if_neg e];show ((Uk G p q A B k).kids i).filter _=_;simp only [Uk,if_neg e]
    by_cases e3:i=p
    ·simp only [if_pos e3];rw [rn];have Q_:c∉(G.kids p).drop (k+1):=by have h1:=(List.drop_sublist k (G.kids p)).nodup my;rw [rn] at h1;exact (List.nodup_cons.1 h1).1
     rw [List.filter_cons_of_neg (by simp)];exact sI λz hz DO=>Q_ (by rw [<- List.mem_singleton.1 DO];exact hz)
    ·simp only [if_neg e3];refine sI λz hz DO=>?_
     have:=List.mem_singleton.1 DO
     subst this
     have:=(h.ok.iG hz).1
     rw [Zw.1] at this;exact e3 (Option.some.inj this).symm
 rw [e2] at s2;exact s2
theorem Ir (h:Uw G p q A B):∀ k,k<=(G.kids p).length->(Uk G p q A B k).ok
 | 0,_=>by rw [Zv h.hq];exact h.ok
 | k+1,hk=>by obtain⟨c,hc⟩:=ay (l:=G.kids p) (k:=k) (by omega);exact (Lx h (Ir h k (by omega)) hc).2.okF
theorem yL (h:Uw G p q A B)(hm:G.m<=1000)(hk:k<=(G.kids p).length)(i:Nat):((Uk G p q A B k).kids i).length<=1000:=by have lI:=Ir h k hk;have h1:=(lI.nd i).length_le_of_subset (l₂:=List.range G.m) (λz hz=>List.mem_range.2 (lI.iG hz).2);rw [List.length_range] at h1;omega
theorem SZ (h:Uw G p q A B)(hm:G.m<=1000)(l:List (Option Nat))(i:Int):∀ d k:Nat,∀ Z,(G.kids p).length - k=d->k<=(G.kids p).length->∃ Z',
  ab eM (l,i,some p,some q,(A.length:Int),(G.kids p).map some,(k:Int),(Uk G p q A B k).aZ P Z)=some (l,i,some p,(Uk G p q A B (G.kids p).length).aZ P Z'):=by
 have vH:=λi=>yL h hm (k:=0) (Nat.zero_le _) i
 rw [Zv h.hq] at vH;have hp:=vH p;have hqq:=vH q;rw [h.hq] at hqq;simp only [List.length_append,List.length_cons] at hqq;intro d
 induction d with
 | zero =>
  intro k Z hd hk;obtain rfl:k=(G.kids p).length:=by omega
  refine⟨Z,ae ?_⟩;simp only [eM,aa];rw [if_neg (by simp)]
 | succ d ih =>
  intro k Z hd hk;obtain⟨c,hc⟩:=ay (l:=G.kids p) (k:=k) (by omega);obtain⟨s1,s2⟩:=Lx h (Ir h k hk) hc;have hg:((G.kids p).map some)[k]?=some (some c):=by rw [List.getElem?_map,hc];rfl
  have rv:=PE (P:=P) (Z:=Z) s1 (by have:=yL h hm hk p;omega);have l8:=put_eq (P:=P) rv s2 (by have:=yL h hm (k:=k+1) (by omega) q;omega);have e1:((A++(G.kids p).take k).length:Int)=(A.length:Int)+(k:Int):=by simp;omega
  rw [e1] at l8;have step:eM (l,i,some p,some q,(A.length:Int),(G.kids p).map some,(k:Int),(Uk G p q A B k).aZ P Z)=some (.nx (l,i,some p,some q,(A.length:Int),(G.kids p).map some,((k+1:Nat):Int),(Uk G p q A B (k+1)).aZ P (dq (dq Z p false) q false))):=by simp only [eM,aa,ad,Int.toNat_natCast,hg,bind_some];rw [if_pos (by simp;omega),cD (n:=(A.length:Int)+(k:Int)) (by omega) (by omega),l8,bind_some,cD (by omega) (by omega)];rfl
  obtain⟨Z',h⟩:=ih (k+1) _ (by omega) (by omega);exact⟨Z',by rw [aj step];exact h⟩
end
def Is (G:Fo)(p q:Nat)(A B:List Nat):Fo:=(Uk G p q A B (G.kids p).length).off [p]
structure Ud (G:Fo):Prop where
 ok:G.ok
 rk:Rk G
 m:G.m<=600
section
variable {G:Fo}{P:Nat->Int×Node}{Z:Nat->Bool}{p q:Nat}{A B:List Nat}
theorem Ud.uw (h:Ud G)(hu:G.up p=some q):∃ A B,Uw G p q A B:=by
 obtain⟨h1,h2⟩:=h.ok.up hu;obtain⟨A,B,e⟩:=List.append_of_mem h2;obtain⟨r,hr⟩:=h.rk;have h3:=hr p q hu;exact⟨A,B,h.ok,e,λe=>by subst e;omega,λc hc=>by have h4:=hr c p (h.ok.iG hc).1;exact⟨λe=>by subst e;omega,λe=>by subst e;omega⟩⟩
theorem F6 (h:Uw G p q A B)(i:Nat):(Is G p q A B).up i=if i=p then none else if i∈G.kids p then some q else G.up i:=by simp only [Is,Fo.off,Uk,List.mem_singleton,List.take_length]
theorem Ud.step (h:Ud G)(hw:Uw G p q A B):Ud (Is G p q A B):=by
 refine⟨jz (Ir hw _ (Nat.le_refl _)),?_,h.m⟩;obtain⟨r,hr⟩:=h.rk;refine⟨r,λc z hz=>?_⟩;rw [F6 hw] at hz
 by_cases e:c=p
 ·rw [if_pos e] at hz;cases hz
 ·rw [if_neg e] at hz
  by_cases e2:c∈G.kids p
  ·rw [if_pos e2] at hz;cases hz;have h1:=hr c p (h.ok.iG e2).1;have h2:=hr p q hw.up.1;omega
  ·rw [if_neg e2] at hz;exact hr c z hz
def pS:Fo->List Nat->Option Fo
 | G,[]=>some G
 | G,p::l=>match G.up p with
  | none=>none
  | some q=>pS (Is G p q ((G.kids q).takeWhile λc=>decide (c≠p)) (((G.kids q).dropWhile λc=>decide (c≠p)).drop 1)) l
theorem It {p:Nat}:∀ {l A B:List Nat},l=A++p::B->p∉A->(l.takeWhile λc=>decide (c≠p))=A/\((l.dropWhile λc=>decide (c≠p)).drop 1)=B
 | _,[],B,rfl,_=>by simp
 | _,a::A,B,rfl,h=>by
  simp only [List.mem_cons,not_or] at h;have ha:a≠p:=λe=>h.1 e.symm
  obtain⟨h1,h2⟩:=It (l:=A++p::B) rfl h.2;simp only [List.cons_append,List.takeWhile_cons,List.dropWhile_cons,decide_eq_true ha,if_true];exact⟨by rw [h1],h2⟩
theorem Uw.pA (h:Uw G p q A B):p∉A:=λhm=>by
 have:=h.ok.nd q
 rw [h.hq,List.nodup_append] at this;exact this.2.2 p hm p (by simp) rfl
theorem Am (h:Uw G p q A B)(l:List Nat):pS G (p::l)=pS (Is G p q A B) l:=by obtain⟨h1,h2⟩:=It h.hq h.pA;simp only [pS,h.up.1,h1,h2]
theorem S0 {l:List Nat}(hl:l.length<=1000)(hn:l.Nodup):∀ (d j:Nat) (G:Fo) (Z:Nat->Bool),l.length - j=d->j<=l.length->Ud G->(∀ p∈l.drop j,∃ q,G.up p=some q) ->
  ∃ H Z',ab fB (l.map some,(j:Int),G.aZ P Z)=some (H.aZ P Z')/\Ud H/\pS G (l.drop j)=some H:=by
 intro d
 induction d with
 | zero =>
  intro j G Z hd hj hU _;obtain rfl:j=l.length:=by omega
  refine⟨G,Z,ae ?_,hU,by rw [List.drop_length];rfl⟩;simp only [fB,aa];rw [if_neg (by simp)]
 | succ d ih =>
  intro j G Z hd hj hU MT;obtain⟨p,hp⟩:=ay (l:=l) (k:=j) (by omega);have rn:l.drop j=p::l.drop (j+1):=by obtain⟨h1,h2⟩:=List.getElem?_eq_some_iff.1 hp;rw [<- h2];exact List.drop_eq_getElem_cons h1
  obtain⟨q,hq⟩:=MT p (by rw [rn];simp);obtain⟨A,B,hw⟩:=hU.uw hq;have yR:=hw.up.2;have hm:G.m<=1000:=by have:=hU.m;omega
  have hg:=Fo.mx (F:=G) (P:=P) (Z:=Z) yR;have ud:(G.jw P Z p).kids=(G.kids p).map some:=rfl;have hku:(G.jw P Z p).up=some q:=hq;have vH:∀ i,(G.kids i).length<=1000:=λi=>by
   have:=yL hw hm (k:=0) (Nat.zero_le _) i
   rwa [Zv hw.hq] at this
  have lC:Sp G (G.eG q (A++B) p none) q p A B:=⟨hw.ok,hw.qm,yR,hq,hw.hq,rfl⟩;have tJ:=u_ (P:=P) (Z:=Z) lC (by have:=vH q;omega);have C1:(l.map some)[j]?=some (some p):=by rw [List.getElem?_map,hp];rfl
  obtain⟨Z1,l8⟩:=SZ (P:=P) hw hm (l.map some) (j:Int) (G.kids p).length 0 Z rfl (Nat.zero_le _);rw [Zv hw.hq] at l8;have YH:ab eM (l.map some,(j:Int),some p,some q,(A.length:Int),(G.kids p).map some,(0:Int),G.aZ P Z)=_:=l8;obtain⟨Z2,rv⟩:=vM (P:=P) (Z:=Z1) (Ir hw _ (Nat.le_refl _)) (c:=p) yR (λi=>by have:=yL hw hm (Nat.le_refl _) i;omega);have step:fB (l.map some,(j:Int),G.aZ P Z)=some (.nx (l.map some,((j+1:Nat):Int),(Is G p q A B).aZ P Z2)):=by simp only [fB,aa,ad,Int.toNat_natCast,C1,bind_some,hg,tJ,ud,hku];rw [if_pos (by simp;omega),a6 (by have:=vH p;simp;omega),bind_some,List.nil_append,YH,bind_some];simp only [rv,bind_some];rw [cD (by omega) (by omega)];rfl
  have hnj:=(List.drop_sublist j l).nodup hn;rw [rn,List.nodup_cons] at hnj;obtain⟨H,Z',g1,g2,g3⟩:=ih (j+1) (Is G p q A B) Z2 (by omega) (by omega) (hU.step hw) (λp' Ay=>by
   have eH:p'≠p:=λe=>hnj.1 (e ▸ Ay)
   rw [F6 hw,if_neg eH];split
   ·exact⟨q,rfl⟩
   ·exact MT p' (by rw [rn];simp [Ay]))
  refine⟨H,Z',by rw [aj step];exact g1,g2,?_⟩;rw [rn,Am hw];exact g3
end
def sf:List Nat->List Nat->List Nat
 | acc,[]=>acc
 | acc,p::l=>sf (if p∈acc then acc else acc++[p]) l
theorem sJ {p:Nat}:∀ {l acc:List Nat},sf acc (l++[p])=if p∈sf acc l then sf acc l else sf acc l++[p]
 | [],_=>rfl
 | a::l,acc=>by simp only [List.cons_append,sf];exact sJ
theorem En:∀ {l acc:List Nat},acc.Nodup->(sf acc l).Nodup
 | [],_,h=>h
 | p::l,acc,h=>by
  simp only [sf];refine En ?_;split
  ·exact h
  ·rename_i hp;rw [List.nodup_append];exact⟨h,by simp,λa ha b hb e=>hp (by rw [<- List.mem_singleton.1 hb,<- e];exact ha)⟩
theorem F7 {z:Nat}:∀ {l acc:List Nat},z∈sf acc l->z∈acc∨z∈l
 | [],_,h => .inl h
 | p::l,acc,h=>by
  simp only [sf] at h;rcases F7 h with h | h
  ·split at h
   ·exact .inl h
   ·rcases List.mem_append.1 h with h | h
    ·exact .inl h
    ·exact .inr (by rw [List.mem_singleton.1 h];simp)
  ·exact .inr (by simp [h])
theorem yM:∀ {l acc:List Nat},(sf acc l).length<=acc.length+l.length
 | [],_=>by simp [sf]
 | p::l,acc=>by
  simp only [sf];refine Nat.le_trans yM ?_
  split <;> simp <;> omega
def YI (F:Fo)(P:Nat->Int×Node)(x:Nat):Prop:=∃ p q:Nat,F.up x=some p/\F.up p=some q/\(P p).2.kind=3/\(P p).2.tag≠[98,111,100,121]
def rO (F:Fo)(x:Nat):Nat:=(F.up x).getD 0
section
variable {F:Fo}{P:Nat->Int×Node}{Z:Nat->Bool}
theorem Qs (on l:List Nat)(i:Int)(p:Nat)(S:List KN)(hl:l.length<=1000000):∀ (d k:Nat) (b:Bool),l.length - k=d->k<=l.length ->
  ab df (on.map some,l.map some,i,some p,b,(k:Int),S)=some (on.map some,l.map some,i,some p,b || decide (p∈l.drop k),S):=by
 intro d
 induction d with
 | zero =>
  intro k b hd hk;obtain rfl:k=l.length:=by omega
  refine ae ?_;simp only [df,aa];rw [if_neg (by simp),List.drop_length];simp
 | succ d ih =>
  intro k b hd hk;obtain⟨c,hc⟩:=ay (l:=l) (k:=k) (by omega);have hg:(l.map some)[k]?=some (some c):=by rw [List.getElem?_map,hc];rfl
  have rn:l.drop k=c::l.drop (k+1):=by obtain⟨h1,h2⟩:=List.getElem?_eq_some_iff.1 hc;rw [<- h2];exact List.drop_eq_getElem_cons h1
  cases b with
  | true =>
   have step:df (on.map some,l.map some,i,some p,true,(k:Int),S)=some (.nx (on.map some,l.map some,i,some p,true,((k+1:Nat):Int),S)):=by simp only [df,aa,cond_true];rw [if_pos (by simp;omega),cD (by omega) (by omega)];rfl
   rw [aj step,ih (k+1) true (by omega) (by omega)];simp
  | false =>
   have step:df (on.map some,l.map some,i,some p,false,(k:Int),S)=some (.nx (on.map some,l.map some,i,some p,decide (c=p),((k+1:Nat):Int),S)):=by simp only [df,aa,cond_false,ad,Int.toNat_natCast,hg,bind_some];rw [if_pos (by simp;omega),cD (by omega) (by omega)];simp
   rw [aj step,ih (k+1) _ (by omega) (by omega),rn]
   have:decide (p∈c::l.drop (k+1))=(decide (c=p) || decide (p∈l.drop (k+1))):=by
    by_cases e:c=p
    ·simp [e]
    ·have e':¬ p=c:=λh=>e h.symm
     simp [e,e']
   rw [this];simp
theorem F8 (hU:Ud F){on:List Nat}(ho:∀ x∈on,x<F.m)(hl:on.length<=200) :
  ∃ b S',mj (on.map some,F.aZ P Z)=some (b,S')/\(b=true->(∀ x∈on,YI F P x)/\∃ H Z',S'=H.aZ P Z'/\Ud H/\pS F (sf [] (on.map (rO F)))=some H):=by
 obtain⟨y,h1,h2⟩:=ni (body:=gG) (st:=λk=>(on.map some,(sf [] ((on.take k).map (rO F))).map some,(k:Int),F.aZ P Z)) (n:=on.length) (good := .inl ((sf [] (on.map (rO F))).map some,F.aZ P Z)) (bad := .inr (false,F.aZ P Z))
  (p:=λi=>∀ x,on[i]?=some x->YI F P x) (λi hi=>by
   obtain⟨x,hx⟩:=ay hi;have PQ:=ho x (List.mem_of_getElem? hx);have Sz:=Fo.mx (F:=F) (P:=P) (Z:=Z) (i:=x) PQ;have hg:(on.map some)[i]?=some (some x):=by rw [List.getElem?_map,hx];rfl
   have Zx:(F.jw P Z x).up=F.up x:=rfl;simp only [gG,aa,ad,hg,bind_some,Sz,Zx];rw [if_pos (by simp;omega)];cases hp:F.up x with
   | none=>exact .inl rfl
   | some p =>
    have tJ:p<F.m:=(hU.ok.up hp).1;have Zy:=Fo.mx (F:=F) (P:=P) (Z:=Z) (i:=p) tJ;have MT:(F.jw P Z p).up=F.up p:=rfl;have iB:(F.jw P Z p).n=(P p).2:=rfl;simp only [Option.isNone_some,cond_false,bind_some,Zy,MT,iB];cases hq:F.up p with
    | none=>exact .inl rfl
    | some q =>
     simp only [Option.isNone_some,cond_false]
     by_cases h3:(P p).2.kind=3
     ·rw [if_neg (by simp [h3])]
      by_cases hb:(P p).2.tag=[98,111,100,121]
      ·rw [if_pos (by rw [hb])];exact .inl rfl
      ·rw [if_neg (λh=>hb (by rw [h]))];have TH:(sf [] ((on.take i).map (rO F))).length<=i:=Nat.le_trans yM (by simp;omega);have ht:=Qs on (sf [] ((on.take i).map (rO F))) (i:Int) p (F.aZ P Z) (by omega) _ 0 false rfl (Nat.zero_le _);have Vf:ab df (on.map some,(sf [] ((on.take i).map (rO F))).map some,(i:Int),some p,false,(0:Int),F.aZ P Z)=_:=ht;rw [Vf,bind_some];simp only [List.drop_zero,Bool.false_or];have YJ:rO F x=p:=by simp [rO,hp]
       have e1:(on.take (i+1)).map (rO F)=(on.take i).map (rO F)++[p]:=by rw [List.take_add_one,hx];simp [YJ]
       refine .inr ⟨?_,λx' Rt=>by rw [hx] at Rt;cases Rt;exact⟨p,q,hp,hq,h3,hb⟩⟩
       rw [e1,sJ]
       by_cases hm:p∈sf [] ((on.take i).map (rO F))
       ·rw [if_pos hm,decide_eq_true hm,cD (by omega) (by omega)];rfl
       ·rw [if_neg hm,decide_eq_false hm];simp only [Bool.not_false,cond_true];rw [a6 (by rw [List.length_map,List.length_singleton];omega),bind_some,cD (by omega) (by omega)];simp
     ·rw [if_pos h3];exact .inl rfl) (by
   simp only [gG,aa];rw [if_neg (by simp),List.take_of_length_le (Nat.le_refl _)]) 0 (Nat.zero_le _)
 have CQ:ab gG (on.map some,[],(0:Int),F.aZ P Z)=some y:=h1;simp only [mj,CQ,bind_some];rcases h2 with rfl | ⟨rfl,h3⟩
 ·exact⟨_,_,rfl,λh=>by cases h⟩
 ·have lI:∀ x∈on,YI F P x:=λx hx=>by obtain⟨k,hk⟩:=List.mem_iff_getElem?.1 hx;exact h3 k (Nat.zero_le _) (List.getElem?_eq_some_iff.1 hk).1 x hk
  have TH:=yM (l:=on.map (rO F)) (acc:=[]);rw [List.length_map] at TH;obtain⟨H,Z',g1,g2,g3⟩:=S0 (P:=P) (l:=sf [] (on.map (rO F))) (by simp at TH;omega) (En (by simp)) _ 0 F Z rfl (Nat.zero_le _) hU (λp hp=>by
   rw [List.drop_zero] at hp;rcases F7 hp with hp | hp
   ·cases hp
   ·obtain⟨x,hx,rfl⟩:=List.mem_map.1 hp;obtain⟨p,q,k1,k2,_⟩:=lI x hx;have YJ:rO F x=p:=by simp [rO,k1]
    rw [YJ];exact⟨q,k2⟩)
  have TV:ab fB ((sf [] (on.map (rO F))).map some,(0:Int),F.aZ P Z)=_:=g1;rw [List.drop_zero] at g3;simp only [bu,TV,bind_some];exact⟨_,_,rfl,λ_=>⟨lI,H,Z',rfl,g2,g3⟩⟩
end
section
variable {G:Fo}{L:Nat->HN}{p q:Nat}{A B:List Nat}
theorem F9 (h:Uw G p q A B):(vh G q (A++[p]) (G.kids p) B).off [p]=Is G p q A B:=by
 have hA:∀ z∈A,z∉G.kids p:=λz hz hc=>(h.dis hc).1 hz
 have hB:∀ z∈B,z∉G.kids p:=λz hz hc=>(h.dis hc).2 hz
 have Ws:p∉G.kids p:=λhc=>(h.nk p hc).2 rfl
 refine Fo.ext rfl (λi=>?_) (λi=>?_)
 ·rw [F6 h];simp only [Fo.off,vh,Fo.br,List.mem_singleton]
  by_cases e:i=p
  ·rw [if_pos e,if_pos e]
  ·rw [if_neg e,if_neg e]
   split <;> rfl
 ·show ((vh G q (A++[p]) (G.kids p) B).kids i).filter _=((Uk G p q A B (G.kids p).length).kids i).filter _;simp only [vh,Fo.br,Uk,List.take_length,List.drop_length]
  by_cases e:i=q
  ·rw [if_pos e,if_pos e];have e1:(A++[p]).filter (λj=>decide (j∉G.kids p))=A++[p]:=sI λz hz=>by
    rcases List.mem_append.1 hz with hz | hz
    ·exact hA z hz
    ·rw [List.mem_singleton.1 hz];exact Ws
   have e2:[p].filter (λj=>decide (j∉[p]))=[]:=by simp
   rw [e1,sI hB,List.filter_append,List.filter_append,List.filter_append,List.filter_append,List.filter_append,e2,List.filter_cons_of_neg (by simp)];simp
  ·rw [if_neg e,if_neg e]
   by_cases e2:i=p
   ·rw [if_pos e2,e2]
    have:(((G.off (G.kids p)).kids p).filter λj=>decide (j∉[p]))=[]:=by
     show (((G.kids p).filter λj=>decide (j∉G.kids p)).filter _)=[];have e3:(G.kids p).filter (λj=>decide (j∉G.kids p))=[]:=by rw [List.filter_eq_nil_iff];intro z hz;simp [hz]
     rw [e3];rfl
    rw [this];rfl
   ·rw [if_neg e2]
    have:(G.off (G.kids p)).kids i=G.kids i:=sI λz hz hc=>by have h1:=(h.ok.iG hz).1;have h2:=(h.ok.iG hc).1;rw [h1] at h2;exact e2 (Option.some.inj h2)
    rw [this]
theorem S5 (h:Uw G p q A B)(vH:(G.kids p).length<=1000)(hb:(L p).data≠[98,111,100,121])(i:Int):bf (i,[some p],G.st L)=some ((Is G p q A B).st L):=by
 have yR:=h.up.2;have hg:=Fo.get (F:=G) (L:=L) yR;have hd:(G.a7 L p).data=(L p).data:=rfl;have e:bl ([some p]:List (Option Nat)) 0=some (some p):=rfl;have rG:∀ d∈G.kids p,d<G.m/\q≠d:=λd hd=>⟨(h.ok.iG hd).2,λe=>(h.nk d hd).1 e.symm⟩
 have YK:G.kids q=(A++[p])++B:=by rw [h.hq];simp
 have tJ:Pl 3 G p q (A++[p]) B:=⟨h.qm,YK, .inr (.inr (.inl ⟨.inl rfl,A,rfl⟩)), .inr h.up.1⟩;have hbw:=F4 (M:=L) h.ok tJ (λh=>by rcases h with h | h <;> omega) (G.kids p).reverse [] (λd hd=>by simp only [List.reverse_reverse,List.append_nil] at hd;exact⟨(rG d hd).1,(rG d hd).2,λe=>(h.nk d hd).2 e.symm⟩) (by simp only [List.reverse_reverse,List.append_nil];exact h.ok.nd p)
 rw [FW YK,List.reverse_reverse,List.append_nil] at hbw;have xV:wy 3 ((G.kids p).map some).reverse [some p] (G.st L)=some ((vh G q (A++[p]) (G.kids p) B).st L):=by show (nj (om 3 false (some p)) ((G.kids p).map some).reverse (G.st L)).bind _=_;rw [<- List.map_reverse,hbw];rfl
 have abA:=CF (by simp;omega) (by simp) xV;have Bh:=FY (F:=G) (p:=q) (A:=A++[p]) (B:=B) (l:=G.kids p) h.ok h.qm YK rG (h.ok.nd p);have JY:=xQ (M:=L) Bh (l:=[p]) (λc hc=>by rw [List.mem_singleton.1 hc];exact yR) (by simp);rw [F9 h] at JY;have YL:c7 ([some p],(vh G q (A++[p]) (G.kids p) B).st L)=some ((),(Is G p q A B).st L):=JY;simp only [bf,e,bind_some,hg,hd,aa];rw [if_pos (by first | exact hb | exact λh=>hb (by rw [h];first | rfl | decide))];simp only [gH,lp,Ak h.ok yR vH,bind_some,dY,bE,abA,YL]
theorem Qt (l:List (Option Nat×Bool))(o o':Option Nat)(b:Bool):yX (yY l o b) o'=if o'=o then b else yX l o':=by
 induction l with
 | nil=>simp only [yY,yX]
 | cons p l ih =>
  obtain⟨k,v⟩:=p;simp only [yY]
  by_cases h:o=k
  ·subst h;rw [if_pos rfl];simp only [yX]
   by_cases h':o'=o
   ·rw [if_pos h',if_pos h']
   ·rw [if_neg h',if_neg h',if_neg h']
  ·rw [if_neg h];simp only [yX]
   by_cases h':o'=k
   ·subst h';rw [if_pos rfl,if_pos rfl,if_neg (λe=>h e.symm)]
   ·rw [if_neg h',if_neg h',ih]
end
theorem V6 {G:Fo}{L:Nat->HN}(hG:G.ok){on:List Nat}(hl:on.length<=200)(lI:∀ x∈on,∃ p,G.up x=some p/\(L p).ty=3):gP (on.map some,G.st L)=some ((sf [] (on.map (rO G))).map some):=by
 have key:∀ d j m,on.length - j=d->j<=on.length->(∀ p:Nat,yX m (some p)=decide (p∈sf [] ((on.take j).map (rO G))))->ab bM ((sf [] ((on.take j).map (rO G))).map some,m,on.map some,(on.length:Int),(j:Int),G.st L)=some ((sf [] (on.map (rO G))).map some,G.st L):=by
  intro d
  induction d with
  | zero =>
   intro j m hd hj _;obtain rfl:j=on.length:=by omega
   refine ae ?_;simp only [bM,aa];rw [if_neg (by omega),List.take_length]
  | succ d ih =>
   intro j m hd hj hm;obtain⟨x,hx⟩:=ay (l:=on) (k:=j) (by omega);obtain⟨p,h1,h2⟩:=lI x (List.mem_of_getElem? hx);obtain⟨PQ,tJ⟩:=hG.lt h1;have Sz:=Fo.get (F:=G) (L:=L) (i:=x) PQ;have Zy:=Fo.get (F:=G) (L:=L) (i:=p) tJ;have Zx:(G.a7 L x).par=some p:=h1;have Sc:(G.a7 L p).ty=3:=h2;have hg:(on.map some)[j]?=some (some x):=by rw [List.getElem?_map,hx];rfl
   have YJ:rO G x=p:=by simp [rO,h1]
   have e1:(on.take (j+1)).map (rO G)=(on.take j).map (rO G)++[p]:=by rw [List.take_add_one,hx];simp [YJ]
   have TH:=yM (l:=(on.take j).map (rO G)) (acc:=[]);simp only [List.length_nil,List.length_map,List.length_take] at TH
   by_cases e:p∈sf [] ((on.take j).map (rO G))
   ·have step:bM ((sf [] ((on.take j).map (rO G))).map some,m,on.map some,(on.length:Int),(j:Int),G.st L)=some (.nx ((sf [] ((on.take (j+1)).map (rO G))).map some,m,on.map some,(on.length:Int),((j+1:Nat):Int),G.st L)):=by simp only [bM,aa,ad,hg,bind_some,Sz,Zx,Option.isNone_some,cond_false,Zy,Sc,hm p,decide_eq_true e,cond_true];rw [if_pos (by omega),if_neg (by simp),cD (by omega) (by omega),e1,sJ,if_pos e];rfl
    rw [aj step];exact ih (j+1) m (by omega) (by omega) (by rw [e1,sJ,if_pos e];exact hm)
   ·have step:bM ((sf [] ((on.take j).map (rO G))).map some,m,on.map some,(on.length:Int),(j:Int),G.st L)=some (.nx ((sf [] ((on.take (j+1)).map (rO G))).map some,yY m (some p) true,on.map some,(on.length:Int),((j+1:Nat):Int),G.st L)):=by simp only [bM,aa,ad,hg,bind_some,Sz,Zx,Option.isNone_some,cond_false,Zy,Sc,hm p,decide_eq_false e];rw [if_pos (by omega),if_neg (by simp),a6 (by rw [List.length_map,List.length_singleton];omega),bind_some,cD (by omega) (by omega),e1,sJ,if_neg e];simp
    rw [aj step];refine ih (j+1) _ (by omega) (by omega) (λp'=>?_);rw [Qt,e1,sJ,if_neg e,hm p']
    by_cases e2:p'=p
    ·subst e2;simp
    ·have:¬ (some p'=some p):=λh=>e2 (Option.some.inj h)
     simp [e2]
 have h:=key on.length 0 [] rfl (Nat.zero_le _) (λp=>by simp [yX,sf]);have h':ab bM ([],[],on.map some,(((on.map (some:Nat->Option Nat)).length:Nat):Int),(0:Int),G.st L)=some ((sf [] (on.map (rO G))).map some,G.st L):=by rw [List.length_map];exact h
 simp only [gP,h',bind_some]
section
variable {Q:Int×Node->HN->Prop}{φ:Nat->Nat}{F H G:Fo}{P:Nat->Int×Node}{M:Nat->HN}{p q:Nat}{A B:List Nat}
theorem S6 (h:vP Q φ F P G M)(hw:Uw F p q A B):Uw G (φ p) (φ q) (A.map φ) (B.map φ)/\vg Q φ F G M φ (Is F p q A B) P (Is G (φ p) (φ q) (A.map φ) (B.map φ)) M:=by
 have S:=h.sH;have hp:=hw.up.2;have hq:=hw.qm;have Zz:∀ c∈F.kids p,c<F.m:=λc hc=>(hw.ok.iG hc).2
 have TU:Uw G (φ p) (φ q) (A.map φ) (B.map φ):=by refine⟨S.xg,by rw [S.kids q hq,hw.hq,List.map_append,List.map_cons],λe=>hw.pq (S.inj q p hq hp e),λc hc=>?_⟩;rw [S.kids p hp] at hc;obtain⟨d,hd,rfl⟩:=List.mem_map.1 hc;exact⟨λe=>(hw.nk d hd).1 (S.inj d q (Zz d hd) hq e),λe=>(hw.nk d hd).2 (S.inj d p (Zz d hd) hp e)⟩
 have YK:F.kids q=(A++[p])++B:=by rw [hw.hq];simp
 have S2:=(S.vh (p:=q) (A:=A++[p]) (B:=B) hq YK (l:=F.kids p) (λc hc=>⟨Zz c hc,λe=>(hw.nk c hc).1 e.symm⟩) (hw.ok.nd p)).off (l:=[p]) (λc hc=>by rw [List.mem_singleton.1 hc];exact hp);rw [<- S.kids p hp,List.map_append,List.map_cons,List.map_nil,F9 hw,F9 TU] at S2;refine⟨TU,vg.same h S2 rfl rfl λj hn=>?_⟩;have hj1:j≠φ p:=λe=>hn p hp e.symm
 have hj2:j≠φ q:=λe=>hn q hq e.symm
 have Uy:j∉G.kids (φ p):=λhm=>by rw [S.kids p hp] at hm;obtain⟨d,hd,e⟩:=List.mem_map.1 hm;exact hn d (Zz d hd) e
 refine⟨?_,by rw [F6 TU,if_neg hj1,if_neg Uy]⟩;show ((Uk G (φ p) (φ q) (A.map φ) (B.map φ) _).kids j).filter _=_;simp only [Uk,if_neg hj1,if_neg hj2];refine List.filter_eq_self.2 λz hz=>?_
 have:z≠φ p:=λe=>S.out hn hp (e ▸ hz)
 simpa using this
end
section
variable {Q:Int×Node->HN->Prop}{φ:Nat->Nat}{P:Nat->Int×Node}{M:Nat->HN}
theorem Iu (hT:∀ a x,Q a x->a.2.kind=3->x.data=a.2.tag):∀ {l:List Nat} {F H G:Fo},Ud F->vP Q φ F P G M->(∀ p∈l,(P p).2.kind=3/\(P p).2.tag≠[98,111,100,121])->pS F l=some H ->
  ∃ G',nj (λv S=>bf (0,[v],S)) (l.map λp=>some (φ p)) (G.st M)=some (G'.st M)/\vg Q φ F G M φ H P G' M
 | [],F,H,G,_,h,_,hu=>by cases hu;exact⟨G,rfl,vg.refl h⟩
 | p::l,F,H,G,hU,h,hp,hu=>by
  cases hq:F.up p with
  | none=>simp only [pS,hq] at hu;cases hu
  | some q =>
   obtain⟨A,B,hw⟩:=hU.uw hq;rw [Am hw] at hu;obtain⟨TU,hA⟩:=S6 h hw;have S:=h.sH;have yR:=hw.up.2;obtain⟨p1,p2⟩:=hp p (by simp);have hd:(M (φ p)).data≠[98,111,100,121]:=by rw [hT _ _ (S.rN p yR) p1];exact p2
   have vH:(G.kids (φ p)).length<=1000:=by rw [S.kids p yR,List.length_map];exact Nat.le_trans (fZ hU.ok p) (by have:=hU.m;omega)
   have h1:=S5 TU vH hd 0;obtain⟨G',q1,q2⟩:=Iu hT (hU.step hw) hA.JZ (λz hz=>hp z (by simp [hz])) hu;refine⟨G',?_,hA.trans q2⟩;show (bf (0,[some (φ p)],G.st M)).bind _=_;rw [h1];exact q1
end
theorem F_ {φ:Nat->Nat}:∀ {l acc:List Nat},(∀ a∈acc++l,∀ b∈acc++l,φ a=φ b->a=b)->sf (acc.map φ) (l.map φ)=(sf acc l).map φ
 | [],_,_=>rfl
 | p::l,acc,h=>by
  have hm:φ p∈acc.map φ↔p∈acc:=by
   constructor
   ·intro hm;obtain⟨a,ha,e⟩:=List.mem_map.1 hm;rw [<- h a (by simp [ha]) p (by simp) e];exact ha
   ·exact λhm=>List.mem_map.2 ⟨p,hm,rfl⟩
  simp only [List.map_cons,sf,hm]
  by_cases e:p∈acc
  ·rw [if_pos e,if_pos e];exact F_ λa ha b hb=>h a (by simp at ha ⊢;rcases ha with ha | ha <;> simp [ha]) b (by simp at hb ⊢;rcases hb with hb | hb <;> simp [hb])
  ·rw [if_neg e,if_neg e]
   have:=F_ (φ:=φ) (l:=l) (acc:=acc++[p]) λa ha b hb=>h a (by simpa using ha) b (by simpa using hb)
   simpa using this
section
variable {Q:Int×Node->HN->Prop}{φ:Nat->Nat}{F H G:Fo}{P:Nat->Int×Node}{M:Nat->HN}
theorem Qu {on:List (Option Nat)}{S S':List HN}(hl:on.length<=1000000)(h:nj (λv S=>bf (0,[v],S)) on S=some S'):fQ (on,(),S)=some ((),S'):=by
 have Aj:ab dL (on,(),on,(on.length:Int),(0:Int),S)=some (on,S'):=by
  refine oU (f:=λv S=>bf (0,[v],S)) on (λk S=>(on,(),on,(on.length:Int),(k:Int),S)) (λS=>(on,S)) (λk v S S' hk hf=>?_) (λS=>?_) on.length 0 S S' rfl (Nat.zero_le _) (by rw [List.drop_zero];exact h)
  ·have vH:=(List.getElem?_eq_some_iff.1 hk).1;have e0:bl on (k:Int)=some v:=by rw [ad];exact hk
   have T5:bf ((k:Int),[v],S)=some S':=hf;simp only [dL,aa,e0,bind_some,aM,T5];rw [if_pos (by omega),cD (by omega) (by omega)];rfl
  ·simp only [dL,aa];rw [if_neg (by omega)]
 simp only [fQ,Aj,bind_some]
theorem J2 (hQ:NG Q)(hT:∀ a x,Q a x->a.2.kind=3->x.data=a.2.tag){aI:List Nat}(hU:Ud F)(h:vP Q φ F P G M)(hl:aI.length<=200)(lI:∀ x∈aI,YI F P x)(hu:pS F (sf [] (aI.map (rO F)))=some H) :
  ∃ G',d_ (aI.map (λx=>some (φ x)),G.st M)=some ((),G'.st M)/\vg Q φ F G M φ H P G' M:=by
 have S:=h.sH;have MT:∀ x∈aI,∃ p,F.up x=some p/\x<F.m/\p<F.m/\(P p).2.kind=3/\(P p).2.tag≠[98,111,100,121]:=λx hx=>by obtain⟨p,q,h1,_,h3,h4⟩:=lI x hx;exact⟨p,h1,(hU.ok.lt h1).1,(hU.ok.lt h1).2,h3,h4⟩
 have t_:=V6 (G:=G) (L:=M) S.xg (on:=aI.map φ) (by simpa using hl) (λz hz=>by obtain⟨x,hx,rfl⟩:=List.mem_map.1 hz;obtain⟨p,h1,h2,h3,h4,_⟩:=MT x hx;exact⟨φ p,by rw [S.up x h2,h1];rfl,(hQ.el _ _ (S.rN p h3)).1 h4⟩)
 have hm:(aI.map φ).map (rO G)=(aI.map (rO F)).map φ:=by
  rw [List.map_map,List.map_map];refine List.map_congr_left λx hx=>?_
  obtain⟨p,h1,h2,_⟩:=MT x hx;simp [rO,S.up x h2,h1]
 have jC:∀ z∈aI.map (rO F),z<F.m/\(P z).2.kind=3/\(P z).2.tag≠[98,111,100,121]:=λz hz=>by
  obtain⟨x,hx,rfl⟩:=List.mem_map.1 hz;obtain⟨p,h1,h2,h3,h4,h5⟩:=MT x hx
  have:rO F x=p:=by simp [rO,h1]
  rw [this];exact⟨h3,h4,h5⟩
 have hd:sf [] ((aI.map (rO F)).map φ)=(sf [] (aI.map (rO F))).map φ:=F_ (acc:=[]) λa ha b hb e=>S.inj a b (jC a (by simpa using ha)).1 (jC b (by simpa using hb)).1 e
 obtain⟨G',q1,q2⟩:=Iu hT hU h (λp hp=>by
  rcases F7 hp with hp | hp
  ·cases hp
  ·exact (jC p hp).2) hu
 refine⟨G',?_,q2⟩;have e1:aI.map (λx=>some (φ x))=(aI.map φ).map some:=by rw [List.map_map];rfl
 have e2:((sf [] (aI.map (rO F))).map φ).map (some:Nat->Option Nat)=(sf [] (aI.map (rO F))).map λp=>some (φ p):=by rw [List.map_map];rfl
 have TH:=yM (l:=aI.map (rO F)) (acc:=[]);simp only [List.length_nil,List.length_map] at TH;have YM:=Qu (by simp;omega) q1;simp only [d_,jo,e1,t_,hm,hd,e2,bind_some,bk,YM]
end
structure QA (B:Nat)(xs ys:List Attr):Prop where
 ux:UK xs
 uy:UK ys
 Ny:∀ k,k≠cA->vl ys k=vl xs k
 sub:vl xs cA=none->vl ys cA=none
 wd:aC (cl xs)=aC (cl ys)
 sc:SC (cl xs)->SC (cl ys)
 bx:(cl xs).length<=B
 WC:(cl ys).length<=B
theorem QA.len {B:Nat}{xs ys:List Attr}(h:QA B xs ys):ys.length<=xs.length:=VL h.uy λk hk=>by
 by_cases e:k=cA
 ·rw [e] at hk ⊢;exact h.sub hk
 ·rw [h.Ny k e,hk]
theorem QA.mono {B C:Nat}{xs ys:List Attr}(h:QA B xs ys)(hc:B<=C):QA C xs ys:=⟨h.ux,h.uy,h.Ny,h.sub,h.wd,h.sc,Nat.le_trans h.bx hc,Nat.le_trans h.WC hc⟩
theorem QA.refl {B:Nat}{xs:List Attr}(h:UK xs)(hb:(cl xs).length<=B):QA B xs xs:=⟨h,h,λ_ _=>rfl,id,rfl,id,hb,hb⟩
theorem yN {k v:List UInt8}{l:List Attr}:cl (wA k v l)=if cA=k then v else cl l:=by
 unfold cl;rw [yy]
 split <;> rfl
theorem Qv {op:Int}{s:List UInt8}{cs:Wd}(hs:NV s)(h:AT cs):aC (jL (vd op (aC s) cs))=vd op (aC s) cs:=by
 refine xL λc hc=>?_
 have hw:c∈aC s∨c∈cs:=by
  unfold vd at hc;rcases List.mem_append.1 hc with hc | hc
  ·left
   split at hc
   ·exact hc
   ·exact (List.mem_filter.1 hc).1
  ·right
   split at hc
   ·cases hc
   ·exact (List.mem_filter.1 hc).1
 rcases hw with hw | hw
 ·exact⟨(zD hw).1,(zD hw).2.1⟩
 ·exact⟨(h.nw c hw).ne,(h.nw c hw).sp⟩
theorem QA.step {B:Nat}{op:Int}{k v:List UInt8}{cs:Wd}{xs ys IG ZA:List Attr}(h:QA B xs ys)(hs:AS op k v cs xs IG)(hp:AP op k v cs ys ZA)(hv:v.length<=1048576)(ht:pH cs<=1048576)(hC:14<=op->AT cs):QA (B+3000000) IG ZA/\IG.length<=xs.length+1:=by
 have CM:=h.bx;have Bd:=h.WC
 by_cases h2:op=12
 ·rw [hs.set h2,hp.set h2];refine⟨⟨H3 h.ux,H3 h.uy,λj hj=>?_,λhn=>?_,?_,?_,?_,?_⟩,vc k v xs⟩
  ·rw [yy,yy,h.Ny j hj]
  ·rw [yy] at hn ⊢
   split at hn
   ·cases hn
   ·rename_i e;rw [if_neg e];exact h.sub hn
  ·rw [yN,yN];split
   ·rfl
   ·exact h.wd
  ·rw [yN,yN];split
   ·exact id
   ·exact h.sc
  ·rw [yN];split <;> omega
  ·rw [yN];split <;> omega
 by_cases h3:op=13
 ·rw [hs.rm h3];obtain⟨p1,p2⟩:=hp.rm h3;have cx:cl (oA k xs)=if cA=k then [] else cl xs:=by unfold cl;rw [Cs];split <;> rfl
  have cy:cl ZA=if cA=k then [] else cl ys:=by unfold cl;rw [p2];split <;> rfl
  refine⟨⟨H4 h.ux,p1,λj hj=>?_,λhn=>?_,?_,?_,?_,?_⟩,Nat.le_succ_of_le PH⟩
  ·rw [Cs,p2,h.Ny j hj]
  ·rw [Cs] at hn;rw [p2]
   split at hn
   ·rename_i e;rw [if_pos e]
   ·rename_i e;rw [if_neg e];exact h.sub hn
  ·rw [cx,cy];split
   ·rfl
   ·exact h.wd
  ·rw [cx,cy];split
   ·exact id
   ·exact h.sc
  ·rw [cx];split
   ·exact Nat.zero_le _
   ·omega
  ·rw [cy];split
   ·exact Nat.zero_le _
   ·omega
 have h4:14<=op:=by have:=hs.rg;omega
 have hCs:=hC h4;obtain⟨c0,c1,c2⟩:=hs.cls h4;obtain⟨p1,t,t1,t2,t3,t4,t5⟩:=hp.cls h4;have cx:cl IG=jL (vd op (aC (cl xs)) cs):=by rw [c2,yN,if_pos rfl]
 have cy:cl ZA=t:=by
  unfold cl;rw [t5,if_pos rfl];split
  ·rename_i e;rw [e];rfl
  ·rfl
 have GA:=yA (vd op (aC (cl xs)) cs);have J4:=JQ (op:=op) (ws:=aC (cl xs)) (cs:=cs);have htw:=zG (cl xs);refine⟨⟨by rw [c2];exact H3 h.ux,p1,λj hj=>?_,λhn=>?_,?_,λ_=>?_,?_,?_⟩,by rw [c2];exact vc _ _ _⟩
 ·rw [c2,yy,t5,if_neg hj,if_neg hj,h.Ny j hj]
 ·rw [c2,yy,if_pos rfl] at hn;cases hn
 ·rw [cx,cy,Qv c1.nv hCs,t1,h.wd]
 ·rw [cy];exact⟨t2,t3,by rw [t1,<- h.wd];exact vL c1.nd hCs.nd⟩
 ·rw [cx];omega
 ·rw [cy];omega
structure QL (B:Nat)(a:Int×Node)(x:HN):Prop where
 kd:(kn x).kind=a.2.kind
 tg:(kn x).tag=a.2.tag
 tx:(kn x).text=a.2.text
 ne:a.2.kind≠3->a.2.attrs=[]
 qa:QA B a.2.attrs (aH x.attrs)
theorem TX (x:HN):(kn x).kind=3↔x.ty=3:=by
 unfold kn
 by_cases h3:x.ty=3
 ·simp [h3]
 ·constructor
  ·intro h
   split at h
   ·cases h
   split at h
   ·cases h
   split at h
   ·cases h
   split at h
   ·cases h
   ·cases h
  ·intro h;exact absurd h h3
theorem CH {x:HN}(h3:x.ty=3):kn x=⟨3,x.data,[],aH x.attrs,0⟩:=by unfold kn aH;simp [h3]
theorem S7 {x y:HN}(h1:y.ty=x.ty)(h2:y.data=x.data)(h3:y.attrs=x.attrs):kn y=kn x:=by unfold kn;rw [h1,h2,h3]
section
variable {B:Nat}{a:Int×Node}{x:HN}
theorem QL.el (h:QL B a x):a.2.kind=3↔x.ty=3:=by rw [<- h.kd];exact TX x
theorem QL.dat (h:QL B a x)(h3:a.2.kind=3):x.data=a.2.tag:=by rw [<- h.tg,CH (h.el.1 h3)]
theorem QL.mono {C:Nat}(h:QL B a x)(hc:B<=C):QL C a x:=⟨h.kd,h.tg,h.tx,h.ne,h.qa.mono hc⟩
theorem Eo (B:Nat):NG (QL B):=by
 refine⟨λa x h=>h.el,λa b x y h hb hc=>?_⟩;subst hb;have e:kn y=kn x/\y.attrs=x.attrs:=by
  obtain⟨h1,h2,h3⟩:y.ty=x.ty/\y.data=x.data/\y.attrs=x.attrs:=by
   unfold Sb at hc
   first
    | exact⟨hc.1,hc.2.1,hc.2.2⟩
    | (rcases hc with⟨h1,h2,h3,h4⟩;first | exact⟨h1,h3,h4⟩ | exact⟨h1,h2,h3⟩ | exact⟨h1,h2,h4⟩)
    | (rcases hc with⟨h1,h2,h3,h4,h5⟩;exact⟨h1,h3,h5⟩)
  exact⟨S7 h1 h2 h3,h3⟩
 exact⟨by rw [e.1];exact h.kd,by rw [e.1];exact h.tg,by rw [e.1];exact h.tx,h.ne,by rw [e.2];exact h.qa⟩
theorem vP.mono {Q Q':Int×Node->HN->Prop}{φ:Nat->Nat}{F G:Fo}{P:Nat->Int×Node}{M:Nat->HN}(h:vP Q φ F P G M)(hq:∀ a x,Q a x->Q' a x):vP Q' φ F P G M :=
 ⟨⟨h.sH.okF,h.sH.xg,h.sH.dm,h.sH.gm,h.sH.inj,h.sH.dk,h.sH.du,h.sH.kids,h.sH.up,λi hi=>hq _ _ (h.sH.rN i hi)⟩,h.at_⟩
end
theorem S8 {B:Nat}{φ:Nat->Nat}{F G:Fo}{P P':Nat->Int×Node}{M M':Nat->HN}{l:List Nat}{op:Int}{k v:List UInt8}{cs:Wd}(h:vP (QL B) φ F P G M)(hm:∀ c∈l,c<F.m)(hP:∀ i,i<F.m->(P i).2.attrs.length<=999999)(h3:∀ c∈l,(P c).2.kind=3)
  (hs:∀ c∈l,∃ xs,P' c=wN (P c) xs/\AS op k v cs (P c).2.attrs xs) (xm:∀ c,c∉l->P' c=P c) (hp:∀ c∈l.map φ,∃ zs,M' c=(M c).wa zs/\AP op k v cs (aH (M c).attrs) (aH zs)) (Ay:∀ c,c∉l.map φ->M' c=M c)
  (hv:v.length<=1048576) (ht:pH cs<=1048576) (hC:14<=op->AT cs):vg (QL (B+3000000)) φ F G M φ F P' G M':=by
 have S:=h.sH;have S9:∀ i,i<F.m->QL (B+3000000) (P' i) (M' (φ i)):=λi hi=>by
  by_cases e:i∈l
  ·obtain⟨xs,e1,hA⟩:=hs i e;obtain⟨zs,e2,hB⟩:=hp (φ i) (List.mem_map.2 ⟨i,e,rfl⟩);have hq:=S.rN i hi;have ZB:=h3 i e;have ty3:=hq.el.1 ZB;obtain⟨s1,_⟩:=hq.qa.step hA hB hv ht hC;have ek:kn (M' (φ i))=⟨3,(M (φ i)).data,[],aH zs,0⟩:=by rw [e2,CH (by exact ty3)];rfl
   have ek0:kn (M (φ i))=_:=CH ty3;refine⟨?_,?_,?_,λhn=>absurd (by rw [e1];exact ZB) hn,?_⟩
   ·rw [ek,e1];exact ZB.symm
   ·rw [ek,e1];exact hq.dat ZB
   ·rw [ek,e1,wN,<- hq.tx,ek0]
   ·rw [e1,e2];exact s1
  ·have e2:φ i∉l.map φ:=λvn=>e ((S.mem (D:=λi=>i<F.m) hi hm).1 vn)
   rw [xm i e,Ay _ e2];exact (S.rN i hi).mono (Nat.le_add_right _ _)
 have hlen:∀ i,i<F.m->(P' i).2.attrs.length<=1000000:=λi hi=>by
  have h9:=hP i hi
  by_cases e:i∈l
  ·obtain⟨xs,e1,hA⟩:=hs i e;obtain⟨zs,e2,hB⟩:=hp (φ i) (List.mem_map.2 ⟨i,e,rfl⟩);obtain⟨_,s2⟩:=(S.rN i hi).qa.step hA hB hv ht hC;rw [e1];show xs.length<=1000000;omega
  ·rw [xm i e];omega
 refine⟨⟨⟨S.okF,S.xg,S.dm,S.gm,S.inj,S.dk,S.du,S.kids,S.up,S9⟩,λi hi=>?_⟩,λ_ _=>rfl,λi h1 h2=>by omega,Nat.le_refl _,Nat.le_refl _,λj hj hn=>⟨rfl,rfl,?_⟩⟩
 ·by_cases e:i∈l.map φ
  ·obtain⟨c,hc,rfl⟩:=List.mem_map.1 e;have h1:=(S9 c (hm c hc)).qa.len;have h2:=hlen c (hm c hc);rw [sd] at h1;omega
  ·rw [Ay i e];exact h.at_ i hi
 ·refine Ay j λe=>?_
  obtain⟨c,hc,e2⟩:=List.mem_map.1 e;exact hn c (hm c hc) e2
section
variable {F:Fo}{P:Nat->Int×Node}{Z:Nat->Bool}{w:Nat}{aI:List Nat}{ks:List (Option Nat)}
def Ly (F:Fo)(x:Nat):List (Option Nat):=(F.kids x).map some
structure ZC (F:Fo)(P:Nat->Int×Node)(w x:Nat):Prop where
 kd:(P x).2.kind=3
 ne:F.kids x≠[]
 na:¬ jZ F x w
theorem Nc (hF:F.ok)(hr:Rk F)(hm:F.m<=1000000)(hw:w<F.m)(ho:∀ c∈aI,c<F.m)(hl:aI.length<=1000000)(f:PUnit×Int×Bool) :
  ∀ (d j:Nat) (Z:Nat->Bool),aI.length - j=d->j<=aI.length->(∀ x∈aI.take j,ZC F P w x)->∃ Z' y,ab a9 (f,11,aI.map some,some w,(aI.take j).map (Ly F),(j:Int),F.aZ P Z,ks)=some y /\
   (y = .inr (f,false,F.aZ P Z',ks)∨(y = .inl (f,some w,aI.map (Ly F),F.aZ P Z',ks)/\∀ x∈aI,ZC F P w x)):=by
 obtain⟨f1,fa,fb⟩:=f;intro d
 induction d with
 | zero =>
  intro j Z hd hj hx;obtain rfl:j=aI.length:=by omega
  rw [List.take_length] at hx ⊢;refine⟨Z,_,ae (b := .inl ((f1,fa,fb),some w,aI.map (Ly F),F.aZ P Z,ks)) ?_, .inr ⟨rfl,hx⟩⟩;simp only [a9,aa,List.length_map];rw [if_neg (by omega)]
 | succ d ih =>
  intro j Z hd hj hx;obtain⟨x,hxj⟩:=ay (l:=aI) (k:=j) (by omega);have ue:=ho x (List.mem_of_getElem? hxj);have e1:aI.take (j+1)=aI.take j++[x]:=by rw [List.take_add_one,hxj];rfl
  have mC:(aI.map some)[j]?=some (some x):=by rw [List.getElem?_map,hxj];rfl
  have iC:gn (aI.map some) (j:Int) ((j+1:Nat):Int)=some [some x]:=by
   rw [oR _ (by omega) (by simp;omega)]
   congr 1
   rw [<- List.map_take,<- List.map_drop,e1,List.drop_left' (by simp;omega)];rfl
  obtain⟨b,CM,Bd⟩:=FI (F:=F) (P:=P) (Z:=Z) (on:=[x]) (λc hc=>by rw [List.mem_singleton.1 hc];exact ue) (by simp);have S_:jl ([some x],F.aZ P Z)=some b:=CM;have hg:(F.aZ P Z)[x]?=some (F.jw P Z x):=Fo.mx ue;have ud:(F.jw P Z x).kids=(F.kids x).map some:=rfl;obtain⟨c,tF,o8⟩:=yE (P:=P) (Z:=Z) hF hr (a:=x) hw;have hlg:((aI.take j).map (Ly F)).length=j:=by simp;omega
  have w9:eC ((aI.take j).map (Ly F)) [[some x]]=some ((aI.take j).map (Ly F)++[[some x]]):=a6 (by simp only [hlg,List.length_singleton];omega);have sK:((aI.take j).map (Ly F)++[[some x]])[j]?=some [some x]:=by rw [List.getElem?_append_right (by omega),hlg];simp
  have tM:((aI.take j).map (Ly F)++[[some x]]).set j ((F.kids x).map some)=(aI.take (j+1)).map (Ly F):=by rw [List.set_append_right _ _ (by omega),hlg,e1,List.map_append];simp [Ly]
  have hz:(F.aZ P Z).set x ((F.jw P Z x).wz true)=F.aZ P (dq Z x true):=by
   unfold Fo.aZ;rw [cz ue];refine gQ λi hi=>?_
   by_cases e:i=x
   ·subst e;simp [dq,Fo.jw,KN.wz]
   ·simp [dq,e,Fo.jw]
  have QI:IntKind.wrap .i64 ((j:Int)+1)=((j+1:Nat):Int):=by rw [cD (by omega) (by omega)];omega
  have vH:(((F.kids x).map (some:Nat->Option Nat)).length:Int)=((F.kids x).length:Int):=by simp
  cases YN:b with
  | false =>
   refine⟨Z,_,ae (b := .inr ((f1,fa,fb),false,F.aZ P Z,ks)) ?_, .inl rfl⟩;simp only [a9,aa,ad,mC,bind_some,w9,QI,iC,S_,YN];rw [if_pos (by simp;omega)];rfl
  | true =>
   have JC:=Bd YN x (by simp)
   by_cases he:F.kids x=[]
   ·refine⟨Z,_,ae (b := .inr ((f1,fa,fb),false,F.aZ P Z,ks)) ?_, .inl rfl⟩;simp only [a9,aa,ad,mC,bind_some,w9,QI,iC,S_,YN,hg,ud,he];rw [if_pos (by simp;omega)];rfl
   ·have eH:¬ ((F.kids x).length:Int)=0:=λh=>he (List.length_eq_zero_iff.1 (by omega))
    cases RA:c with
    | true =>
     refine⟨Z,_,ae (b := .inr ((f1,fa,fb),false,F.aZ P Z,ks)) ?_, .inl rfl⟩;simp only [a9,aa,ad,mC,bind_some,w9,QI,iC,S_,YN,hg,ud,vH,tF,RA];rw [if_pos (by simp;omega)];simp only [Bool.not_true,cond_false];rw [if_pos trivial,if_neg eH];rfl
    | false =>
     have step:a9 ((f1,fa,fb),11,aI.map some,some w,(aI.take j).map (Ly F),(j:Int),F.aZ P Z,ks)=some (.nx ((f1,fa,fb),11,aI.map some,some w,(aI.take (j+1)).map (Ly F),((j+1:Nat):Int),F.aZ P (dq Z x true),ks)):=by simp only [a9,aa,ad,mC,bind_some,w9,QI,iC,S_,YN,hg,ud,vH,tF,RA,sK,Int.toNat_natCast,tM,hz];rw [if_pos (by simp;omega)];simp only [Bool.not_true,cond_false];rw [if_pos trivial,if_neg eH]
     obtain⟨Z',y,g1,g2⟩:=ih (j+1) (dq Z x true) (by omega) (by omega) (λz Vt=>by
      rw [e1] at Vt;rcases List.mem_append.1 Vt with Vt | Vt
      ·exact hx z Vt
      ·rw [List.mem_singleton.1 Vt];exact⟨JC,he,λh=>by rw [o8.2 h] at RA;cases RA⟩)
     exact⟨Z',y,by rw [aj step];exact g1,g2⟩
structure TY (F:Fo)(P:Nat->Int×Node)(w:Nat)(aI:List Nat):Prop where
 kd:(P w).2.kind=3
 on:∀ x∈aI,ZC F P w x/\¬ jZ F w x/\∃ p,F.up x=some p
 wi:WI F P w
theorem Ta (hF:F.ok)(hr:Rk F)(hm:F.m<=600)(hw:w<F.m)(mC:∀ i,i<F.m->(P i).2.attrs.length<=1000000)(ho:∀ c∈aI,c<F.m)(hl:aI.length<=1000000) :
  ∃ b f' S',dS (((),(F.m:Int),false),11,aI.map some,some w,ks,F.aZ P Z)=some (b,f',ks,S') /\
   (b=true->f'.2.2=false->∃ F' P' Z',f'=((),(F'.m:Int),false)/\S'=F'.aZ P' Z'/\Lj w (aI.map F.kids) F P F' P'/\WI F' P' w/\TY F P w aI):=by
 have hg:(F.aZ P Z)[w]?=some (F.jw P Z w):=Fo.mx hw;have Tt:(F.jw P Z w).n=(P w).2:=rfl;obtain⟨ri,Rz,Bf⟩:=zK (P:=P) (Z:=Z) hF hr (λi=>Nat.le_trans (fZ hF i) (by omega)) hw;obtain⟨ra,Sm,QT⟩:=yF (P:=P) (Z:=Z) (ws:=[w]) (on:=aI) hF hr (λc hc=>by rw [List.mem_singleton.1 hc];exact hw) ho (by simp) hl;have V7:cE ([some w],aI.map some,F.aZ P Z)=some ra:=Sm;obtain⟨rs,qQ,tN⟩:=Cw (P:=P) (Z:=Z) ho hl;obtain⟨Z',y,DB,Gp⟩:=Nc (P:=P) (ks:=ks) hF hr (by omega) hw ho hl ((),(F.m:Int),false) aI.length 0 Z (by omega) (Nat.zero_le _) (by simp);have abD:ab a9 (((),(F.m:Int),false),11,aI.map some,some w,[],(0:Int),F.aZ P Z,ks)=some y:=DB;simp only [dS,bind_some,hg,Tt,aa]
 by_cases JC:(P w).2.kind=3
 ·rw [if_neg (by simp [JC]),Rz,bind_some];cases ri with
  | none=>exact⟨_,_,_,rfl,λh=>by cases h⟩
  | some rr =>
   simp only [Option.isNone_some,cond_false,V7,bind_some];cases ra with
   | false=>exact⟨_,_,_,rfl,λh=>by cases h⟩
   | true =>
    simp only [Bool.not_true,cond_false,qQ,bind_some];cases rs with
    | false=>exact⟨_,_,_,rfl,λh=>by cases h⟩
    | true =>
     simp only [Bool.not_true,cond_false];rw [if_pos (by decide),abD,bind_some];rcases Gp with rfl | ⟨rfl,FV⟩
     ·exact⟨_,_,_,rfl,λh=>by cases h⟩
     ·have WD:WI F P w:=⟨hF,hr,hm,hw,mC,rr,Bf⟩;have hsu:TY F P w aI:=⟨JC,λx hx=>⟨FV x hx,λh=>(QT rfl).2 w (by simp) x hx h,tN rfl x hx⟩,WD⟩;have hgs:aI.map (Ly F)=(aI.map F.kids).map (λl=>l.map some):=by rw [List.map_map];rfl
      obtain⟨y,g1,g2⟩:=Lk (w:=w) (ks:=ks) (gl:=aI.map F.kids) (by simpa using hl) (aI.map F.kids).length 0 F P Z' (by omega) (Nat.zero_le _) WD (λl Gw=>by
       obtain⟨x,hx,rfl⟩:=List.mem_map.1 (show l∈aI.map F.kids from Gw);obtain⟨h1,h2,h3⟩:=hsu.on x hx;refine⟨⟨h1.ne,hF.nd x,λc hc=>(hF.iG hc).2,λc hc=>⟨x,(hF.iG hc).1⟩⟩,λc hc ha=>?_⟩;have hu:=(hF.iG hc).1;cases ha with
       | self=>exact h1.na (.up hu .self)
       | up h t=>rw [hu] at h;cases h;exact h2 t)
      have TV:ab bQ (((),(F.m:Int),false),some w,aI.map (Ly F),(0:Int),F.aZ P Z',ks)=some y:=by rw [hgs];exact g1
      simp only [bu,TV,bind_some];rcases g2 with⟨f,S,rfl⟩ | ⟨a',S,rfl⟩ | ⟨F',P',Z2,rfl,g3,g4⟩
      ·exact⟨_,_,_,rfl,λh=>by cases h⟩
      ·exact⟨_,_,_,rfl,λ_ h=>by cases h⟩
      ·exact⟨_,_,_,rfl,λ_ _=>⟨F',P',Z2,rfl,rfl,by simpa using g3,g4,hsu⟩⟩
 ·rw [if_pos JC];exact⟨_,_,_,rfl,λh=>by cases h⟩
end
def Dt (op:Int)(F:Fo)(aI:List Nat):List (List Nat):=if op=10 then [aI] else if op=11 then aI.map F.kids else aI.map λx=>[x]
section
variable {op:Int}{F F':Fo}{P P':Nat->Int×Node}{Z:Nat->Bool}{w:Nat}{aI:List Nat}{ks:List (Option Nat)}
theorem Tb (hl:aI.length<=1000000)(f:PUnit×Int×Bool)(wo:Option Nat)(S:List KN) :
  ∀ (d j:Nat),aI.length - j=d->j<=aI.length->ab a9 (f,9,aI.map some,wo,(aI.take j).map (λx=>[some x]),(j:Int),S,ks)=some (.inl (f,wo,aI.map (λx=>[some x]),S,ks)):=by
 obtain⟨f1,fa,fb⟩:=f;intro d
 induction d with
 | zero =>
  intro j hd hj;obtain rfl:j=aI.length:=by omega
  rw [List.take_length];refine ae ?_;simp only [a9,aa,List.length_map];rw [if_neg (by omega)]
 | succ d ih =>
  intro j hd hj;obtain⟨x,hx⟩:=ay (l:=aI) (k:=j) (by omega);have e1:aI.take (j+1)=aI.take j++[x]:=by rw [List.take_add_one,hx];rfl
  have w9:eC ((aI.take j).map (λx=>[some x])) [[some x]]=some ((aI.take (j+1)).map (λx=>[some x])):=by rw [a6 (by simp;omega),e1];simp
  have step:a9 ((f1,fa,fb),9,aI.map some,wo,(aI.take j).map (λx=>[some x]),(j:Int),S,ks)=some (.nx ((f1,fa,fb),9,aI.map some,wo,(aI.take (j+1)).map (λx=>[some x]),((j+1:Nat):Int),S,ks)):=by simp only [a9,aa,ad,cm hx,bind_some,w9];rw [if_pos (by simp;omega),if_neg (by decide),cD (by omega) (by omega)];rfl
  rw [aj step];exact ih (j+1) (by omega) (by omega)
structure Qw (op:Int)(w:Nat)(aI:List Nat)(F:Fo)(P:Nat->Int×Node)(F':Fo)(P':Nat->Int×Node):Prop where
 ch:Lj w (Dt op F aI) F P F' P'
 wi:WI F P w
 wi':WI F' P' w
 gr:∀ l∈Dt op F aI,WG F l/\∀ c∈l,¬ jZ F w c
 on:op=11->∀ x∈aI,ZC F P w x/\¬ jZ F w x
theorem Nd (ho:op=9∨op=10∨op=11)(hF:F.ok)(hr:Rk F)(hm:F.m<=600)(hw:w<F.m)(mC:∀ i,i<F.m->(P i).2.attrs.length<=1000000)(FV:∀ c∈aI,c<F.m)(hl:aI.length<=200)(eH:aI≠[])(my:aI.Nodup) :
  ∃ b f' S',dS (((),(F.m:Int),false),op,aI.map some,some w,ks,F.aZ P Z)=some (b,f',ks,S') /\
   (b=true->f'.2.2=false->∃ F' P' Z',f'=((),(F'.m:Int),false)/\S'=F'.aZ P' Z'/\Qw op w aI F P F' P'):=by
 by_cases Tx:op=11
 ·subst Tx;obtain⟨b,f',S',h1,h2⟩:=Ta (ks:=ks) (Z:=Z) hF hr hm hw mC FV (by omega);refine⟨b,f',S',h1,λhb hf=>?_⟩;obtain⟨F',P',Z',e1,e2,e3,e4,e5⟩:=h2 hb hf;refine⟨F',P',Z',e1,e2,e3,e5.wi,e4,λl Gw=>?_,λ_ x hx=>⟨(e5.on x hx).1,(e5.on x hx).2.1⟩⟩;obtain⟨x,hx,rfl⟩:=List.mem_map.1 (show l∈aI.map F.kids from Gw);obtain⟨h1,h2,h3⟩:=e5.on x hx;refine⟨⟨h1.ne,hF.nd x,λc hc=>(hF.iG hc).2,λc hc=>⟨x,(hF.iG hc).1⟩⟩,λc hc ha=>?_⟩;have hu:=(hF.iG hc).1;cases ha with
  | self=>exact h1.na (.up hu .self)
  | up h t=>rw [hu] at h;cases h;exact h2 t
 have hg:(F.aZ P Z)[w]?=some (F.jw P Z w):=Fo.mx hw;have Tt:(F.jw P Z w).n=(P w).2:=rfl;obtain⟨ri,Rz,Bf⟩:=zK (P:=P) (Z:=Z) hF hr (λi=>Nat.le_trans (fZ hF i) (by omega)) hw;obtain⟨ra,Sm,QT⟩:=yF (P:=P) (Z:=Z) (ws:=[w]) (on:=aI) hF hr (λc hc=>by rw [List.mem_singleton.1 hc];exact hw) FV (by simp) (by omega);have V7:cE ([some w],aI.map some,F.aZ P Z)=some ra:=Sm;obtain⟨rs,qQ,tN⟩:=Cw (P:=P) (Z:=Z) FV (by omega);have R5:=Tb (aI:=aI) (ks:=ks) (by omega) ((),(F.m:Int),false) (some w) (F.aZ P Z) aI.length 0 (by omega) (Nat.zero_le _);have abF:ab a9 (((),(F.m:Int),false),9,aI.map some,some w,[],(0:Int),F.aZ P Z,ks)=_:=R5;have YY:∀ (gl:List (List Nat)),gl=Dt op F aI->ra=true->rs=true->(P w).2.kind=3->(∃ r,ri=some r)->gl.length<=1000000->∃ b f' S',(Option.bind (ab bQ (((),(F.m:Int),false),some w,gl.map (λl=>l.map some),(0:Int),F.aZ P Z,ks)) λy=>bu (λy=>some (true,((),y.1.2.1,y.1.2.2),y.2.2,y.2.1)) (λy=>some (y.2.1,((),y.1.2.1,y.1.2.2),y.2.2.2,y.2.2.1)) y)=some (b,f',ks,S') /\
   (b=true->f'.2.2=false->∃ F' P' Z',f'=((),(F'.m:Int),false)/\S'=F'.aZ P' Z'/\Qw op w aI F P F' P'):=by
  intro gl C1 e1 e2 e3 ⟨rr,e4⟩ e5;subst e1;subst e2;subst e4;have WD:WI F P w:=⟨hF,hr,hm,hw,mC,rr,Bf⟩;have J4:∀ c∈aI,(∃ p,F.up c=some p)/\¬ jZ F w c:=λc hc=>⟨tN rfl c hc,λh=>(QT rfl).2 w (by simp) c hc h⟩
  have Zr:∀ l∈gl,WG F l/\∀ c∈l,¬ jZ F w c:=λl Gw=>by
   rw [C1] at Gw;unfold Dt at Gw
   by_cases Mo:op=10
   ·rw [if_pos Mo] at Gw;rw [List.mem_singleton.1 Gw];exact⟨⟨eH,my,FV,λc hc=>(J4 c hc).1⟩,λc hc=>(J4 c hc).2⟩
   ·rw [if_neg Mo,if_neg Tx] at Gw;obtain⟨x,hx,rfl⟩:=List.mem_map.1 Gw;refine⟨⟨by simp,by simp,λc hc=>?_,λc hc=>?_⟩,λc hc=>?_⟩ <;> rw [List.mem_singleton.1 hc]
    ·exact FV x hx
    ·exact (J4 x hx).1
    ·exact (J4 x hx).2
  obtain⟨y,g1,g2⟩:=Lk (w:=w) (ks:=ks) (gl:=gl) e5 gl.length 0 F P Z (by omega) (Nat.zero_le _) WD (by rw [List.drop_zero];exact Zr);have TV:ab bQ (((),(F.m:Int),false),some w,gl.map (λl=>l.map some),(0:Int),F.aZ P Z,ks)=some y:=g1;rw [TV,bind_some];rcases g2 with⟨f,S,rfl⟩ | ⟨a',S,rfl⟩ | ⟨F',P',Z2,rfl,g3,g4⟩
  ·exact⟨_,_,_,rfl,λh=>by cases h⟩
  ·exact⟨_,_,_,rfl,λ_ h=>by cases h⟩
  ·rw [List.drop_zero] at g3;exact⟨_,_,_,rfl,λ_ _=>⟨F',P',Z2,rfl,rfl,by rw [<- C1];exact g3,WD,g4,by rw [<- C1];exact Zr,λh=>absurd h Tx⟩⟩
 simp only [dS,bind_some,hg,Tt,aa]
 by_cases JC:(P w).2.kind=3
 ·rw [if_neg (by simp [JC]),Rz,bind_some];cases ri with
  | none=>exact⟨_,_,_,rfl,λh=>by cases h⟩
  | some rr =>
   simp only [Option.isNone_some,cond_false,V7,bind_some];cases ra with
   | false=>exact⟨_,_,_,rfl,λh=>by cases h⟩
   | true =>
    simp only [Bool.not_true,cond_false,qQ,bind_some];cases rs with
    | false=>exact⟨_,_,_,rfl,λh=>by cases h⟩
    | true =>
     simp only [Bool.not_true,cond_false];rcases ho with rfl | rfl | rfl
     ·rw [if_pos (by decide),abF,bind_some];simp only [bu];have e:aI.map (λx=>[some x])=(aI.map λx=>[x]).map (λl=>l.map some):=by rw [List.map_map];rfl
      rw [e];exact YY _ rfl rfl rfl JC ⟨_,rfl⟩ (by simp;omega)
     ·rw [if_neg (by decide)];exact YY [aI] rfl rfl rfl JC ⟨_,rfl⟩ (by simp)
     ·exact absurd rfl Tx
 ·rw [if_pos JC];exact⟨_,_,_,rfl,λh=>by cases h⟩
end
section
variable {Q:Int×Node->HN->Prop}{φ:Nat->Nat}{F F' G:Fo}{P P':Nat->Int×Node}{M:Nat->HN}{w x:Nat}{l:List Nat}
theorem vi (hQ:NG Q)(h:vP Q φ F P G M)(hI:WI F P w)(hg:WG F l)(hr:Wr w l F P F' P') :
  ∃ G' M' nD,aK ((l.map φ).map some,some (φ w),G.st M)=some ((),G'.st M')/\vg Q φ F G M nD F' P' G' M':=by
 obtain⟨G',M',nD,e1,e2,e3,e4,e5,e6⟩:=Ic hQ h hI hg hr;exact⟨G',M',nD,e1,e2,e3,e6,hr.grow,by omega,e5⟩
theorem Nf (hQ:NG Q)(h:vP Q φ F P G M)(hI:WI F P w)(hx:x<F.m)(eH:F.kids x≠[])(hr:Wr w (F.kids x) F P F' P')(i:Int) :
  ∃ G' M' nD,aL (i,[some (φ x)],[some (φ w)],G.st M)=some (G'.st M')/\vg Q φ F G M nD F' P' G' M':=by
 have S:=h.sH;have hm:=hI.m;have hg:WG F (F.kids x):=⟨eH,hI.ok.nd x,λc hc=>(hI.ok.iG hc).2,λc hc=>⟨x,(hI.ok.iG hc).1⟩⟩;obtain⟨G',M',nD,e1,e2⟩:=vi hQ h hI hg hr;refine⟨G',M',nD,?_,e2⟩;have yi:=Ak (L:=M) S.xg (S.gm x hx) (by rw [S.kids x hx,List.length_map];exact Nat.le_trans (fZ hI.ok x) (by omega));rw [S.kids x hx] at yi;have hlen:0<(((F.kids x).map φ).map (some:Nat->Option Nat)).length:=by simp only [List.length_map];exact List.length_pos_iff.2 eH
 have mC:bl ([some (φ w)]:List (Option Nat)) (0:Int)=some (some (φ w)):=rfl;simp only [aL,iz,yi,bk,bind_some,aQ,bL,aa];rw [if_pos (by omega)];simp only [dj,aa];rw [if_pos (by simp)];simp only [mC,bind_some,e1]
theorem wr9 (hQ:NG Q):∀ {aI:List Nat} {F G:Fo} {P:Nat->Int×Node} {M:Nat->HN} {φ:Nat->Nat},Lj w (aI.map λx=>[x]) F P F' P'->WI F P w->(∀ x∈aI,x<F.m/\¬ jZ F w x/\∃ p,F.up x=some p)->vP Q φ F P G M ->
  ∃ G' M' nD,nj (λv S=>(aK ([v],some (φ w),S)).map (·.2)) (aI.map λx=>some (φ x)) (G.st M)=some (G'.st M')/\vg Q φ F G M nD F' P' G' M'
 | [],F,G,P,M,φ,hc,_,_,h=>by cases hc;exact⟨G,M,φ,rfl,vg.refl h⟩
 | x::aI,F,G,P,M,φ,hc,hI,ho,h=>by
  rw [List.map_cons] at hc;obtain⟨F1,P1,hr,V4,ht⟩:∃ F1 P1,Wr w [x] F P F1 P1/\WI F1 P1 w/\Lj w (aI.map λx=>[x]) F1 P1 F' P':=by cases hc with | cons h hi t=>exact⟨_,_,h,hi,t⟩
  obtain⟨x1,x2,x3⟩:=ho x (by simp);have jC:∀ c∈[x],c<F.m/\¬ jZ F w c:=λc hc=>by rw [List.mem_singleton.1 hc];exact⟨x1,x2⟩
  have hg:WG F [x]:=⟨by simp,by simp,λc hc=>(jC c hc).1,λc hc=>by rw [List.mem_singleton.1 hc];exact x3⟩;obtain⟨G1,M1,ik,e1,e2⟩:=vi hQ h hI hg hr;have hf:=sG hI.ok hI.rk hI.hw (λc hc=>(jC c hc).1) hr;obtain⟨_,NC⟩:=Bm hI.ok hI.rk hI.hw jC V4.ok hr;have Wa:=e2.fm;obtain⟨G2,M2,NH,q1,q2⟩:=wr9 hQ ht V4 (λz hz=>by obtain⟨z1,z2,z3⟩:=ho z (by simp [hz]);exact⟨by omega,λha=>z2 (NC z ha).2,hf.up z z1 z3⟩) e2.JZ
  have hm:(aI.map λx=>some (ik x))=aI.map λx=>some (φ x):=List.map_congr_left λz hz=>by rw [e2.Lo z (ho z (by simp [hz])).1]
  rw [hm,e2.Lo w hI.hw] at q1;refine⟨G2,M2,NH,?_,e2.trans q2⟩;have e1':aK ([some (φ x)],some (φ w),G.st M)=some ((),G1.st M1):=e1;show ((aK ([some (φ x)],some (φ w),G.st M)).map (·.2)).bind _=_;rw [e1'];exact q1
theorem YO (hQ:NG Q){K0:Nat->List Nat}:∀ {aI:List Nat} {F G:Fo} {P:Nat->Int×Node} {M:Nat->HN} {φ:Nat->Nat},Lj w (aI.map K0) F P F' P'->WI F P w->aI.Nodup->(∀ x∈aI,x<F.m/\F.kids x=K0 x/\K0 x≠[]/\¬ jZ F w x/\w∉K0 x)->vP Q φ F P G M ->
  ∃ G' M' nD,nj (λv S=>aL (0,[v],[some (φ w)],S)) (aI.map λx=>some (φ x)) (G.st M)=some (G'.st M')/\vg Q φ F G M nD F' P' G' M'
 | [],F,G,P,M,φ,hc,_,_,_,h=>by cases hc;exact⟨G,M,φ,rfl,vg.refl h⟩
 | x::aI,F,G,P,M,φ,hc,hI,hn,ho,h=>by
  rw [List.map_cons] at hc;obtain⟨F1,P1,hr,V4,ht⟩:∃ F1 P1,Wr w (K0 x) F P F1 P1/\WI F1 P1 w/\Lj w (aI.map K0) F1 P1 F' P':=by cases hc with | cons h hi t=>exact⟨_,_,h,hi,t⟩
  obtain⟨x1,x2,x3,x4,x5⟩:=ho x (by simp);rw [<- x2] at hr x3 x5;obtain⟨hxo,BJ⟩:=List.nodup_cons.1 hn;have jC:∀ c∈F.kids x,c<F.m/\¬ jZ F w c:=λc hc=>⟨(hI.ok.iG hc).2,λha=>by
   have hu:=(hI.ok.iG hc).1;cases ha with
   | self=>exact x5 hc
   | up h t=>rw [hu] at h;cases h;exact x4 t⟩
  obtain⟨G1,M1,ik,e1,e2⟩:=Nf hQ h hI x1 x3 hr 0;have hf:=sG hI.ok hI.rk hI.hw (λc hc=>(jC c hc).1) hr;obtain⟨_,NC⟩:=Bm hI.ok hI.rk hI.hw jC V4.ok hr;have Wa:=e2.fm;obtain⟨G2,M2,NH,q1,q2⟩:=YO hQ (K0:=K0) ht V4 BJ (λz hz=>by
   obtain⟨z1,z2,z3,z4,z5⟩:=ho z (by simp [hz]);have hzx:z≠x:=λe=>hxo (e ▸ hz)
   refine⟨by omega,?_,z3,λha=>z4 (NC z ha).2,z5⟩;rw [hf.kids z z1 λc hc hu=>by rw [(hI.ok.iG hc).1] at hu;cases hu;exact hzx rfl];exact z2) e2.JZ
  have hm:(aI.map λx=>some (ik x))=aI.map λx=>some (φ x):=List.map_congr_left λz hz=>by rw [e2.Lo z (ho z (by simp [hz])).1]
  rw [hm,e2.Lo w hI.hw] at q1;refine⟨G2,M2,NH,?_,e2.trans q2⟩;show (aL (0,[some (φ x)],[some (φ w)],G.st M)).bind _=_;rw [e1];exact q1
end
section
variable {on:List (Option Nat)}{wo:Option Nat}{S S':List HN}
theorem Iv (hl:on.length<=1000000)(h:nj (λv S=>(aK ([v],wo,S)).map (·.2)) on S=some S'):fx (on,wo,S)=some ((),S'):=by
 have Aj:ab dM (on,[wo],on,(on.length:Int),(0:Int),S)=some (on,S'):=by
  refine oU (f:=λv S=>(aK ([v],wo,S)).map (·.2)) on (λk S=>(on,[wo],on,(on.length:Int),(k:Int),S)) (λS=>(on,S)) (λk v S S' hk hf=>?_) (λS=>?_) on.length 0 S S' rfl (Nat.zero_le _) (by rw [List.drop_zero];exact h)
  ·have vH:=(List.getElem?_eq_some_iff.1 hk).1;obtain⟨r,h1,h2⟩:=Option.map_eq_some_iff.1 hf;have mC:bl ([wo]:List (Option Nat)) (0:Int)=some wo:=rfl;have e0:bl on (k:Int)=some v:=by rw [ad];exact hk
   have CQ:eK ((k:Int),[v],[wo],S)=some S':=by simp only [eK,dj,aa];rw [if_pos (by simp)];simp only [mC,bind_some,h1,h2]
   simp only [dM,aa,e0,bind_some,aM,CQ];rw [if_pos (by omega),cD (by omega) (by omega)];rfl
  ·simp only [dM,aa];rw [if_neg (by omega)]
 simp only [fx,gX,iN,Aj,bind_some]
theorem Gc (hl:on.length<=1000000)(h:nj (λv S=>aL (0,[v],[wo],S)) on S=some S'):ee (on,wo,S)=some ((),S'):=by
 have Aj:ab eb (on,[wo],on,(on.length:Int),(0:Int),S)=some (on,S'):=by
  refine oU (f:=λv S=>aL (0,[v],[wo],S)) on (λk S=>(on,[wo],on,(on.length:Int),(k:Int),S)) (λS=>(on,S)) (λk v S S' hk hf=>?_) (λS=>?_) on.length 0 S S' rfl (Nat.zero_le _) (by rw [List.drop_zero];exact h)
  ·have vH:=(List.getElem?_eq_some_iff.1 hk).1;have e0:bl on (k:Int)=some v:=by rw [ad];exact hk
   have T5:aL ((k:Int),[v],[wo],S)=some S':=hf;simp only [eb,aa,e0,bind_some,aM,T5];rw [if_pos (by omega),cD (by omega) (by omega)];rfl
  ·simp only [eb,aa];rw [if_neg (by omega)]
 simp only [ee,fE,jq,Aj,bind_some,aa];rw [if_neg (by simp)];rfl
end
theorem Ng (a:Int)(b:Bool){on:List Int}(r ks:List (Option Nat)){i:Nat}(hi:i<on.length)(hlen:on.length<=2147483647):∀ d j:Nat,i - j=d->j<=i ->
  ∃ y,ab cN (((),a,b),on,r,(i:Int),(j:Int),ks)=some y/\(y = .inr (((),a,b),[],false,ks)∨(y = .inl (((),a,b),on,r,(i:Int),ks)/\∀ k:Nat,j<=k->k<i->on[k]?≠on[i]?)):=by
 intro d
 induction d with
 | zero =>
  intro j hd hj;refine⟨_,ae (b := .inl (((),a,b),on,r,(i:Int),ks)) ?_, .inr ⟨rfl,λk h1 h2=>by omega⟩⟩;simp only [cN,aa];rw [if_neg (by omega)]
 | succ d ih =>
  intro j hd hj;obtain⟨v,hv⟩:=ay (l:=on) (k:=j) (by omega);obtain⟨w,hw⟩:=ay (l:=on) (k:=i) hi
  by_cases e:v=w
  ·refine⟨_,ae (b := .inr (((),a,b),[],false,ks)) ?_, .inl rfl⟩;simp only [cN,aa,ad,hv,hw,bind_some];rw [if_pos (by omega),if_pos e]
  ·have step:cN (((),a,b),on,r,(i:Int),(j:Int),ks)=some (.nx (((),a,b),on,r,(i:Int),((j+1:Nat):Int),ks)):=by simp only [cN,aa,ad,hv,hw,bind_some];rw [if_pos (by omega),if_neg e,cD (by omega) (by omega)];rfl
   obtain⟨y,h1,h2⟩:=ih (j+1) (by omega) (by omega);refine⟨y,by rw [aj step];exact h1,h2.imp id λ⟨g1,g2⟩=>⟨g1,λk k1 k2=>?_⟩⟩
   by_cases e2:k=j
   ·subst e2;rw [hv,hw];exact λh=>e (Option.some.inj h)
   ·exact g2 k (by omega) k2
theorem Nh (a:Int)(b:Bool){on:List Int}{n:Nat}(hlen:on.length<=2147483647):∀ d i:Nat,on.length - i=d->i<=on.length->(∀ (k:Nat) (v:Int),k<i->on[k]?=some v->1<=v/\v<n)->(∀ k l:Nat,k<l->l<i->on[k]?≠on[l]?) ->
  ∃ y,ab bZ (((),a,b),on,(on.take i).map (λv=>some v.toNat),(i:Int),(List.range n).map some)=some y/\(y = .inr (((),a,b),[],false,(List.range n).map some)∨(y = .inl (((),a,b),on.map (λv=>some v.toNat),(List.range n).map some)/\(∀ (k:Nat) (v:Int),on[k]?=some v->1<=v/\v<n)/\∀ k l:Nat,k<l->l<on.length->on[k]?≠on[l]?)):=by
 intro d
 induction d with
 | zero =>
  intro i hd hi h1 h2;obtain rfl:i=on.length:=by omega
  refine⟨_,ae (b := .inl (((),a,b),on.map (λv=>some v.toNat),(List.range n).map some)) ?_, .inr ⟨rfl,λk v hk=>h1 k v (List.getElem?_eq_some_iff.1 hk).1 hk,h2⟩⟩;simp only [bZ,aa];rw [if_neg (by omega),List.take_of_length_le (Nat.le_refl _)]
 | succ d ih =>
  intro i hd hi h1 h2;obtain⟨v,hv⟩:=ay (l:=on) (k:=i) (by omega)
  by_cases e1:v<1
  ·refine⟨_,ae (b := .inr (((),a,b),[],false,(List.range n).map some)) ?_, .inl rfl⟩;simp only [bZ,aa,ad,hv,bind_some];rw [if_pos (by omega),if_pos e1]
  by_cases e2:(n:Int)<=v
  ·refine⟨_,ae (b := .inr (((),a,b),[],false,(List.range n).map some)) ?_, .inl rfl⟩;simp only [bZ,aa,ad,hv,bind_some,List.length_map,List.length_range];rw [if_pos (by omega),if_neg e1,if_pos e2]
  obtain⟨x,rfl⟩:=Int.eq_ofNat_of_zero_le (show 0<=v by omega);obtain⟨y,g1,g2⟩:=Ng a b ((on.take i).map λv=>some v.toNat) ((List.range n).map some) (i:=i) (by omega) hlen i 0 (by omega) (Nat.zero_le _);have TV:ab cN (((),a,b),on,(on.take i).map (λv=>some v.toNat),(i:Int),(0:Int),(List.range n).map some)=some y:=g1;rcases g2 with rfl | ⟨rfl,g3⟩
  ·refine⟨_,ae (b := .inr (((),a,b),[],false,(List.range n).map some)) ?_, .inl rfl⟩;simp only [bZ,aa,ad,hv,bind_some,List.length_map,List.length_range];rw [if_pos (by omega),if_neg e1,if_neg e2,TV];rfl
  ·have hr:((List.range n).map some)[x]?=some (some x):=by
    have:x<n:=by omega
    simp [this]
   have step:bZ (((),a,b),on,(on.take i).map (λv=>some v.toNat),(i:Int),(List.range n).map some)=some (.nx (((),a,b),on,(on.take (i+1)).map (λv=>some v.toNat),((i+1:Nat):Int),(List.range n).map some)):=by simp only [bZ,aa,ad,hv,bind_some,List.length_map,List.length_range];rw [if_pos (by omega),if_neg e1,if_neg e2,TV];simp only [bind_some,bu,ad,hv,hr,Int.toNat_natCast];rw [a6 (by simp;omega),bind_some,cD (by omega) (by omega),List.take_add_one,hv];simp
   rw [aj step];refine ih (i+1) (by omega) (by omega) (λk w hk hw=>?_) (λk l vH hl=>?_)
   ·by_cases e:k=i
    ·subst e;rw [hv] at hw;cases hw;omega
    ·exact h1 k w (by omega) hw
   ·by_cases e:l=i
    ·subst e;exact g3 k (Nat.zero_le _) vH
    ·exact h2 k l vH (by omega)
theorem CI (a:Int)(bb:Bool){on:List Int}{n:Nat}(hlen:on.length<=2147483647):∃ r b,gV (((),a,bb),on,(List.range n).map some)=some (r,b,((),a,bb),(List.range n).map some)/\(b=true->∃ l:List Nat,on=eF l/\r=l.map some/\(∀ c∈l,1<=c/\c<n)/\l.Nodup):=by
 obtain⟨y,h1,h2⟩:=Nh a bb (on:=on) (n:=n) hlen on.length 0 rfl (Nat.zero_le _) (λk v h=>absurd h (by omega)) (λk l _ h=>absurd h (by omega));have CQ:ab bZ (((),a,bb),on,[],(0:Int),(List.range n).map some)=some y:=h1;simp only [gV,CQ,bind_some];rcases h2 with rfl | ⟨rfl,g1,g2⟩
 ·exact⟨_,_,rfl,λh=>by cases h⟩
 ·refine⟨_,_,rfl,λ_=>⟨on.map Int.toNat,?_,?_,?_,?_⟩⟩
  ·unfold eF;rw [List.map_map];refine ((List.map_congr_left λv hv=>?_).trans (List.map_id on)).symm;obtain⟨k,hk⟩:=List.mem_iff_getElem?.1 hv
   have:=g1 k v hk
   simp only [Function.comp_apply,id_eq];show ((v.toNat:Nat):Int)=v;omega
  ·rw [List.map_map];rfl
  ·intro c hc;obtain⟨v,hv,rfl⟩:=List.mem_map.1 hc;obtain⟨k,hk⟩:=List.mem_iff_getElem?.1 hv
   have:=g1 k v hk
   omega
  ·unfold List.Nodup;rw [List.pairwise_map,List.pairwise_iff_getElem];intro i j hi hj NX e
   have:=g2 i j NX hj
   rw [List.getElem?_eq_getElem hi,List.getElem?_eq_getElem hj] at this;have b1:=g1 i _ (List.getElem?_eq_getElem hi);have b2:=g1 j _ (List.getElem?_eq_getElem hj);exact this (by congr 1;omega)
inductive pY (op:Int)(k v:List UInt8)(cs:Wd)(aI ws:List Nat)(F:Fo)(P:Nat->Int×Node):Fo->(Nat->Int×Node)->Prop
 | ins {F1:Fo} {P1:Nat->Int×Node} (ho:op=1∨op=2∨op=3∨op=4∨op=5) (h:SL op ws aI F P F1 P1):pY op k v cs aI ws F P (if op=5 then F1.off aI else F1) P1
 | rem (ho:op=6):pY op k v cs aI ws F P (F.off aI) P
 | emp (ho:op=7):pY op k v cs aI ws F P (xP F aI) P
 | Is {H:Fo} (ho:op=8) (h1:∀ x∈aI,YI F P x) (h2:pS F (sf [] (aI.map (rO F)))=some H) (h3:Ud H):pY op k v cs aI ws F P H P
 | ZD {w:Nat} {F1:Fo} {P1:Nat->Int×Node} (ho:op=9∨op=10∨op=11) (hw:ws=[w]) (h:Qw op w aI F P F1 P1):pY op k v cs aI ws F P F1 P1
 | rN {P1:Nat->Int×Node} (ho:12<=op/\op<=16) (h3:∀ c∈aI,(P c).2.kind=3) (hC:14<=op->AT cs/\cs≠[]) (h1:∀ c∈aI,∃ xs,P1 c=wN (P c) xs/\AS op k v cs (P c).2.attrs xs) (h2:∀ c,c∉aI->P1 c=P c):pY op k v cs aI ws F P F P1
structure SI (T A B:Nat)(F:Fo)(P:Nat->Int×Node):Prop where
 ok:F.ok
 rk:Rk F
 m:F.m<=600
 le:T<=F.m
 at_:∀ i,i<F.m->(P i).2.attrs.length<=A/\(cl (P i).2.attrs).length<=B
section
variable {op:Int}{k v:List UInt8}{cs:Wd}{aI ws:List Nat}{F F' H:Fo}{P P':Nat->Int×Node}{T A B w:Nat}
theorem CJ:∀ {l:List Nat} {F H:Fo},pS F l=some H->H.m=F.m
 | [],F,H,h=>by cases h;rfl
 | p::l,F,H,h=>by
  rw [pS] at h;cases hu:F.up p with
  | none=>rw [hu] at h;cases h
  | some q =>
   rw [hu] at h;exact (CJ (l:=l) h).trans rfl
theorem Tc {gs:List (List Nat)}(h:Lj w gs F P F' P'):F.ok->Rk F->w<F.m->(∀ l∈gs,∀ c∈l,c<F.m)->∀ U:Node->Prop,(∀ i,i<F.m->U (P i).2)->∀ i,i<F'.m->U (P' i).2:=by
 induction h with
 | nil=>exact λ_ _ _ _ U hU=>hU
 | cons h hi t ih =>
  intro h1 h2 h3 h4 U hU;have hf:=sG h1 h2 h3 (h4 _ (by simp)) h;have hle:=h.grow;exact ih hi.ok hi.rk hi.hw (λl hl c hc=>Nat.lt_of_lt_of_le (h4 l (by simp [hl]) c hc) hle) U (hf.rN U hU)
theorem pY.si (h:pY op k v cs aI ws F P F' P')(hI:SI T A B F P)(hv:v.length<=1048576)(ht:pH cs<=1048576):SI T (A+1) (B+3000000) F' P':=by
 have up:∀ i,i<F.m->(P i).2.attrs.length<=A+1/\(cl (P i).2.attrs).length<=B+3000000:=λi hi=>by have:=hI.at_ i hi;omega
 cases h with
 | @ins F1 P1 ho h =>
  have hl:=h.led;have mC:∀ i,i<F1.m->(P' i).2.attrs.length<=A+1/\(cl (P' i).2.attrs).length<=B+3000000:=λi hi=>by
   by_cases e:i<F.m
   ·rw [hl.fe i e];exact up i e
   ·obtain⟨j,h1,h2⟩:=hl.rN i (by omega) hi;rw [h2];exact up j h1
  have h0:SI T (A+1) (B+3000000) F1 P':=⟨hl.ok,hl.rk,hl.m,Nat.le_trans hI.le hl.le,mC⟩;split
  ·exact⟨jz h0.ok,h0.rk.off,h0.m,h0.le,h0.at_⟩
  ·exact h0
 | rem ho=>exact⟨jz hI.ok,hI.rk.off,hI.m,hI.le,up⟩
 | emp ho=>exact⟨Lu hI.ok,Lw hI.rk,by rw [zM];exact hI.m,by rw [zM];exact hI.le,by rw [zM];exact up⟩
 | Is ho h1 h2 h3 =>
  have hm:=CJ h2;exact⟨h3.ok,h3.rk,h3.m,by rw [hm];exact hI.le,by rw [hm];exact up⟩
 | @ZD w F1 P1 ho hw h =>
  have hle:=h.ch.le;have hl:=Tc h.ch hI.ok hI.rk h.wi.hw (λl hl=>(h.gr l hl).1.lt) (λn=>n.attrs.length<=A+1/\(cl n.attrs).length<=B+3000000) up;exact⟨h.wi'.ok,h.wi'.rk,h.wi'.m,Nat.le_trans hI.le hle,hl⟩
 | rN ho h3 hC h1 h2 =>
  refine⟨hI.ok,hI.rk,hI.m,hI.le,λi hi=>?_⟩
  by_cases e:i∈aI
  ·obtain⟨xs,e1,hA⟩:=h1 i e;have h9:=hI.at_ i hi;rw [e1];show xs.length<=A+1/\(cl xs).length<=B+3000000
   by_cases h2:op=12
   ·rw [hA.set h2,yN]
    have:=vc k v (P i).2.attrs
    split <;> omega
   by_cases h3:op=13
   ·rw [hA.rm h3];have e2:cl (oA k (P i).2.attrs)=if cA=k then [] else cl (P i).2.attrs:=by unfold cl;rw [Cs];split <;> rfl
    have:=PH (k:=k) (l:=(P i).2.attrs)
    rw [e2];split
    ·exact⟨by omega,Nat.zero_le _⟩
    ·omega
   obtain⟨_,_,c2⟩:=hA.cls (by omega);have h6:=vc cA (jL (vd op (aC (cl (P i).2.attrs)) cs)) (P i).2.attrs;have GA:=yA (vd op (aC (cl (P i).2.attrs)) cs);have J4:=JQ (op:=op) (ws:=aC (cl (P i).2.attrs)) (cs:=cs);have htw:=zG (cl (P i).2.attrs);rw [c2,yN,if_pos rfl];omega
  ·rw [h2 i e];exact up i hi
end
section
variable {op:Int}{k v:List UInt8}{cs:Wd}{F:Fo}{P:Nat->Int×Node}{Z:Nat->Bool}{T A B:Nat}{on wi:List Int}
theorem qD {T:Nat}{l:List Nat}(h:∀ c∈l,1<=c/\c<T)(hn:l.Nodup):l.length<=T:=by
 have h2:=hn.length_le_of_subset (l₂:=List.range T) λv hv=>List.mem_range.2 (h v hv).2
 rwa [List.length_range] at h2
theorem Ni (hI:SI T A B F P)(hT:T<=200)(hA:A<=999999)(hB:B<=900000000)(FV:on.length<=1048576)(WD:wi.length<=1048576)(hk:k.length<=1048576)(ht:pH cs<=1048576) :
  ∃ b f' S',jH (((),(F.m:Int),false),(op,on,wi,k,v,cs),(List.range T).map some,F.aZ P Z)=some (b,f',(List.range T).map some,S') /\
   (b=true->f'.2.2=false->∃ F' P' Z' aI ws,f'=((),(F'.m:Int),false)/\S'=F'.aZ P' Z'/\on=eF aI/\wi=eF ws/\(∀ c∈aI,1<=c/\c<T)/\aI.Nodup/\(∀ c∈ws,1<=c/\c<T)/\ws.Nodup/\aI≠[]/\pY op k v cs aI ws F P F' P'):=by
 obtain⟨r1,b1,h1,CQ⟩:=CI (F.m:Int) false (on:=on) (n:=T) (by omega);obtain⟨r2,b2,h2,M8⟩:=CI (F.m:Int) false (on:=wi) (n:=T) (by omega);simp only [jH,h1,h2,bind_some];cases b1 with
 | false=>exact⟨_,_,_,rfl,λh=>by cases h⟩
 | true =>
 cases b2 with
 | false=>exact⟨_,_,_,rfl,λh=>by cases h⟩
 | true =>
 obtain⟨aI,rfl,rfl,o1,o2⟩:=CQ rfl;obtain⟨ws,rfl,rfl,w1,w2⟩:=M8 rfl;have oll:=qD o1 o2;have wll:=qD w1 w2;have hle:=hI.le;have Y2:=hI.m;have A4:∀ c∈aI,c<F.m:=λc hc=>by have:=o1 c hc;omega
 have wnm:∀ c∈ws,c<F.m:=λc hc=>by have:=w1 c hc;omega
 have mC:∀ i,i<F.m->(P i).2.attrs.length<=1000000:=λi hi=>by have:=hI.at_ i hi;omega
 simp only [Bool.not_true,cond_false,aa,List.length_map]
 by_cases eH:aI=[]
 ·subst eH;exact⟨_,_,_,if_pos rfl,λh=>by cases h⟩
 rw [if_neg (λh=>eH (List.length_eq_zero_iff.1 (by omega)))];have fin:∀ {f':PUnit×Int×Bool} {F':Fo} {P':Nat->Int×Node} {Z':Nat->Bool},f'=((),(F'.m:Int),false)->pY op k v cs aI ws F P F' P'->∃ Wc QU Ww vj Lz,f'=((),(Wc.m:Int),false)/\F'.aZ P' Z'=Wc.aZ QU Ww/\eF aI=eF vj/\eF ws=eF Lz/\(∀ c∈vj,1<=c/\c<T)/\vj.Nodup/\(∀ c∈Lz,1<=c/\c<T)/\Lz.Nodup/\vj≠[]/\pY op k v cs vj Lz F P Wc QU :=
  λ{f' F' P' Z'} h h'=>⟨F',P',Z',aI,ws,h,rfl,rfl,rfl,o1,o2,w1,w2,eH,h'⟩
 by_cases Dq:op=1∨op=2∨op=3∨op=4∨op=5
 ·obtain⟨b,f',S',q1,q2⟩:=Ii (Z:=Z) (ks:=(List.range T).map some) Dq hI.ok hI.rk hI.m mC A4 (by omega) eH wnm w2 (by omega);have go:∃ b f' S',(de (((),(F.m:Int),false),op,aI.map some,ws.map some,(List.range T).map some,F.aZ P Z)).bind (λr=>some (r.1,((),r.2.1.2.1,r.2.1.2.2),r.2.2.1,r.2.2.2))=some (b,f',(List.range T).map some,S')/\(b=true->f'.2.2=false->∃ F' P' Z' vj Lz,f'=((),(F'.m:Int),false)/\S'=F'.aZ P' Z'/\eF aI=eF vj/\eF ws=eF Lz/\(∀ c∈vj,1<=c/\c<T)/\vj.Nodup/\(∀ c∈Lz,1<=c/\c<T)/\Lz.Nodup/\vj≠[]/\pY op k v cs vj Lz F P F' P'):=by
   refine⟨b,f',S',by rw [q1];rfl,λh h'=>?_⟩;obtain⟨F1,P1,Z1,e1,e2,rfl⟩:=q2 h h';have hm:(if op=5 then F1.off aI else F1).m=F1.m:=by split <;> rfl
   exact fin (by rw [hm];exact e1) (.ins Dq e2)
  rcases Dq with rfl | rfl | rfl | rfl | rfl
  ·rw [if_pos rfl];exact go
  ·rw [if_neg (by decide),if_pos rfl];exact go
  ·rw [if_neg (by decide),if_neg (by decide),if_pos rfl];exact go
  ·rw [if_neg (by decide),if_neg (by decide),if_neg (by decide),if_pos rfl];exact go
  ·rw [if_neg (by decide),if_neg (by decide),if_neg (by decide),if_neg (by decide),if_pos rfl];exact go
 rw [if_neg (by omega),if_neg (by omega),if_neg (by omega),if_neg (by omega),if_neg (by omega)]
 by_cases h6:op=6
 ·rw [if_pos h6];obtain⟨Z',hZ⟩:=YF (P:=P) (F.m:Int) false ((List.range T).map some) hI.ok (by omega) A4 (by omega) aI.length 0 Z rfl (Nat.zero_le _);have e0:F.off (aI.take 0)=F:=by exact Fo.ext rfl (λi=>by simp [Fo.off]) (λi=>by simp [Fo.off])
  rw [e0] at hZ;rw [show ab dT (((),(F.m:Int),false),aI.map some,(0:Int),F.aZ P Z,(List.range T).map some)=_ from hZ];exact⟨_,_,_,rfl,λ_ _=>fin rfl (.rem h6)⟩
 rw [if_neg h6]
 by_cases h7:op=7
 ·rw [if_pos h7];obtain⟨Z',hZ⟩:=M9 (P:=P) (ks:=(List.range T).map some) (F.m:Int) false (aI:=aI) (by omega) aI.length 0 F Z rfl (Nat.zero_le _) hI.ok (by omega) A4;rw [show ab dU (((),(F.m:Int),false),aI.map some,(0:Int),F.aZ P Z,(List.range T).map some)=_ from hZ,bind_some,List.drop_zero];obtain⟨b3,h3,_⟩:=FI (F:=xP F aI) (P:=P) (Z:=Z') (on:=aI) (by rw [zM];exact A4) (by omega);simp only [h3,bind_some];exact⟨_,_,_,rfl,λ_ _=>fin (by rw [zM]) (.emp h7)⟩
 rw [if_neg h7]
 by_cases h8:op=8
 ·rw [if_pos h8];obtain⟨b,S',q1,q2⟩:=F8 (P:=P) (Z:=Z) ⟨hI.ok,hI.rk,hI.m⟩ (on:=aI) A4 (by omega);rw [q1,bind_some];refine⟨_,_,_,rfl,λh _=>?_⟩;obtain⟨u1,H,Z',rfl,u2,u3⟩:=q2 h;exact fin (by rw [CJ u3]) (.Is h8 u1 u3 u2)
 rw [if_neg h8]
 by_cases TP:op=9∨op=10∨op=11
 ·have go:∃ b f' S',(if ((ws.length:Nat):Int)=1 then (bl (ws.map some) (0:Int)).bind (λsv=>((ws.map some)[Int.toNat (0:Int)]?).bind λv=>(dS (((),(F.m:Int),false),op,aI.map some,v,(List.range T).map some,F.aZ P Z)).bind λr=>some (r.1,((),r.2.1.2.1,r.2.1.2.2),r.2.2.1,r.2.2.2)) else some (false,((),(F.m:Int),false),(List.range T).map some,F.aZ P Z))=some (b,f',(List.range T).map some,S')/\(b=true->f'.2.2=false->∃ F' P' Z' vj Lz,f'=((),(F'.m:Int),false)/\S'=F'.aZ P' Z'/\eF aI=eF vj/\eF ws=eF Lz/\(∀ c∈vj,1<=c/\c<T)/\vj.Nodup/\(∀ c∈Lz,1<=c/\c<T)/\Lz.Nodup/\vj≠[]/\pY op k v cs vj Lz F P F' P'):=by
   by_cases Nt:ws.length=1
   ·obtain⟨w,hw⟩:=List.length_eq_one_iff.1 Nt;have ha:bl (ws.map some) (0:Int)=some (some w):=by rw [hw];rfl
    have hb:(ws.map some)[Int.toNat (0:Int)]?=some (some w):=by rw [hw];rfl
    obtain⟨b,f',S',q1,q2⟩:=Nd (Z:=Z) (ks:=(List.range T).map some) TP hI.ok hI.rk hI.m (wnm w (by rw [hw];simp)) mC A4 (by omega) eH o2;rw [if_pos (by omega),ha,bind_some,hb,bind_some,q1,bind_some];refine⟨_,_,_,rfl,λh h'=>?_⟩;obtain⟨F1,P1,Z1,e1,rfl,e3⟩:=q2 h h';exact fin e1 (.ZD TP hw e3)
   ·rw [if_neg (by omega)];exact⟨_,_,_,rfl,λh=>by cases h⟩
  rcases TP with rfl | rfl | rfl
  ·rw [if_pos rfl];exact go
  ·rw [if_neg (by decide),if_pos rfl];exact go
  ·rw [if_neg (by decide),if_neg (by decide),if_pos rfl];exact go
 rw [if_neg (by omega),if_neg (by omega),if_neg (by omega)];obtain⟨b3,h3,KQ⟩:=FI (F:=F) (P:=P) (Z:=Z) (on:=aI) A4 (by omega);rw [h3,bind_some];cases b3 with
 | false=>exact⟨_,_,_,rfl,λh=>by cases h⟩
 | true =>
  obtain⟨b,S',q1,q2⟩:=AW (P:=P) (Z:=Z) (op:=op) (on:=eF aI) (wi:=eF ws) (k:=k) (v:=v) (cs:=cs) o2 eH A4 (by omega) (λc hc=>⟨mC c (A4 c hc),by have:=hI.at_ c (A4 c hc);omega⟩) ht (by omega);simp only [cond_true,q1,bind_some];refine⟨_,_,_,rfl,λh _=>?_⟩;obtain⟨u1,u2,P',rfl,u3,u4⟩:=q2 h;exact fin rfl (.rN u1 (KQ rfl) u2 u3 u4)
end
def rh (φ:Nat->Nat)(l:List Nat):List (Option Nat):=l.map λi=>some (φ i)
theorem tB (φ:Nat->Nat)(l:List Nat):rh φ l=(l.map φ).map some:=by simp [rh]
theorem Bn (φ:Nat->Nat)(l:List Nat):(rh φ l).length=l.length:=by simp [rh]
theorem Td {φ:Nat->Nat}{l:List Nat}{i c:Nat}(h:l[i]?=some c):(rh φ l)[i]?=some (some (φ c)):=by simp [rh,h]
theorem Ep {φ ψ:Nat->Nat}{l:List Nat}(h:∀ c∈l,φ c=ψ c):rh φ l=rh ψ l:=List.map_congr_left λc hc=>by rw [h c hc]
theorem Er (φ:Nat->Nat){T:Nat}(hT:T<=200){l:List Nat}(hl:∀ c∈l,1<=c/\c<T)(hn:l.Nodup):nR (rh φ (List.range T),eF l)=some (rh φ l,true):=by
 have Gw:=qD hl hn;simp only [nR];have key:∀ m k,l.length - k=m->k<=l.length->ab jg (rh φ (List.range T),rh φ (l.take k),eF l,(l.length:Int),(k:Int))=some (.inl (rh φ l)):=by
  intro m
  induction m with
  | zero =>
   intro k hm hk;refine ae ?_;simp only [jg,aa];rw [if_neg (by omega),List.take_of_length_le (by omega)]
  | succ m ih =>
   intro k hm hk;obtain⟨c,hc⟩:=ay (l:=l) (k:=k) (by omega);have h1:=hl c (List.mem_of_getElem? hc);have hv:(eF l)[k]?=some (c:Int):=by simp [eF,hc]
   have hlen:(rh φ (l.take k)).length=k:=by rw [Bn,List.length_take];omega
   have hg:(rh φ (List.range T))[c]?=some (some (φ c)):=Td (List.getElem?_range h1.2);have zO:(rh φ (List.range T)).length=T:=by rw [Bn,List.length_range]
   have step:jg (rh φ (List.range T),rh φ (l.take k),eF l,(l.length:Int),(k:Int))=some (.nx (rh φ (List.range T),rh φ (l.take (k+1)),eF l,(l.length:Int),((k+1:Nat):Int))):=by simp only [jg,aa,ad];rw [if_pos (by omega),hv];simp only [bind_some,zO];rw [if_neg (by omega),if_neg (by omega),ad,hg,bind_some,a6 (by rw [hlen];simp;omega),bind_some,cD (by omega) (by omega),List.take_add_one,hc];simp [rh]
   rw [aj step];exact ih (k+1) (by omega) (by omega)
 have K6:(eF l).length=l.length:=by simp [eF]
 rw [K6,show ab jg (rh φ (List.range T),[],eF l,(l.length:Int),(0:Int))=_ from key l.length 0 (by omega) (Nat.zero_le _),bind_some];rfl
theorem Gd {l:List Nat}(hn:l.Nodup)(hl:l.length<=200):eD ((),l.map some)=some (l.map some):=by
 have hd:∀ (i j:Nat) (v w:Int),i<j->(eF l)[i]?=some v->(eF l)[j]?=some w->v.toNat≠w.toNat:=λi j v w NX hv hw e=>by
  obtain⟨a,ha,rfl⟩:=Ek hv;obtain⟨b,hb,rfl⟩:=Ek hw;obtain⟨x1,x2⟩:=List.getElem?_eq_some_iff.1 ha;obtain⟨y1,y2⟩:=List.getElem?_eq_some_iff.1 hb
  have:=List.pairwise_iff_getElem.1 hn i j x1 y1 NX
  rw [x2,y2] at this;exact this (by simpa using e)
 have AR:=H_ (eF l) (by simp [eF];omega) hd;rw [MZ] at AR;simp only [eD,AR,bk,bind_some]
theorem YP (cl:Bool)(x v:Option Nat)(S:List HN):om 5 cl x v S=om 3 cl x v S:=by
 have:∀ q,Ig 5 q=Ig 3 q:=λq=>by unfold Ig;rw [if_neg (by decide),if_neg (by decide),if_neg (by decide),if_neg (by decide),if_neg (by decide),if_neg (by decide)]
 simp only [om,this]
theorem TZ (ns:List (Option Nat)):∀ (on:List (Option Nat)) (S:List HN),wy 5 ns on S=wy 3 ns on S
 | [],_=>rfl
 | x::xs,S=>by
  have h1:om 5 (!xs.isEmpty) x=om 3 (!xs.isEmpty) x:=funext λv=>funext λS=>YP _ x v S
  rw [wy,wy,h1]
  congr 1
  exact funext λS=>TZ ns xs S
section
variable {op:Int}{k v:List UInt8}{cs:Wd}{aI ws:List Nat}{F F' G:Fo}{P P':Nat->Int×Node}{M:Nat->HN}{φ:Nat->Nat}{T A B:Nat}{on wi:List Int}
theorem Iw {C:Nat}{nD:Nat->Nat}{G':Fo}{M':Nat->HN}(h:vg (QL B) φ F G M nD F' P' G' M')(hc:B<=C):vg (QL C) φ F G M nD F' P' G' M' :=
 ⟨h.JZ.mono λ_ _ hq=>hq.mono hc,h.Lo,h.new,h.fm,h.gm,h.fr⟩
theorem Nj (h:pY op k v cs aI ws F P F' P')(Sv:op<12)(hI:SI T A B F P)(hT:T<=200)(hB:vP (QL B) φ F P G M)(o1:∀ c∈aI,1<=c/\c<T)(o2:aI.Nodup)(w1:∀ c∈ws,1<=c/\c<T)(w2:ws.Nodup)(eH:aI≠[]) :
  ∃ G' M' nD,fy (rh φ aI,(op,on,wi,k,v,cs),rh φ ws,G.st M)=some (true,G'.st M')/\vg (QL B) φ F G M nD F' P' G' M':=by
 have oll:=qD o1 o2;have wll:=qD w1 w2;have hle:=hI.le;have Y2:=hI.m;have A4:∀ c∈aI,c<F.m:=λc hc=>by have:=o1 c hc;omega
 have wnm:∀ c∈ws,c<F.m:=λc hc=>by have:=w1 c hc;omega
 have S:=hB.sH;have l1:(rh φ ws).length<=1000000:=by rw [Bn];omega
 have l2:(rh φ aI).length<=1000000:=by rw [Bn];omega
 have gm:∀ c∈aI.map φ,c<G.m:=λc hc=>by obtain⟨d,hd,rfl⟩:=List.mem_map.1 hc;exact S.gm d (A4 d hd)
 have rev:∀ l:List Nat,l.reverse.map (λw=>some (φ w))=(rh φ l).reverse:=λl=>by simp [rh]
 cases h with
 | @ins F1 P1 ho h =>
  obtain⟨G1,M1,ik,q1,q2⟩:=V5 (Eo B) h hB;rcases ho with rfl | rfl | rfl | rfl | rfl
  ·refine⟨G1,M1,ik,?_,q2⟩
   have:=Qj l1 l2 (S:=G.st M) (S':=G1.st M1) q1
   simp only [fy,aa,this,bind_some];rw [if_pos trivial]
  ·refine⟨G1,M1,ik,?_,q2⟩;unfold A3 at q1;rw [if_neg (by decide),rev] at q1
   have:=Qm l1 l2 (S:=G.st M) (S':=G1.st M1) q1
   simp only [fy,aa,this,bind_some];rw [if_neg (by decide),if_pos trivial]
  ·refine⟨G1,M1,ik,?_,q2⟩;unfold A3 at q1;rw [if_neg (by decide),rev] at q1
   have:=CF l1 l2 (S:=G.st M) (S':=G1.st M1) q1
   simp only [fy,aa,this,bind_some];rw [if_neg (by decide),if_neg (by decide),if_pos trivial]
  ·refine⟨G1,M1,ik,?_,q2⟩
   have:=Qk l1 l2 (S:=G.st M) (S':=G1.st M1) q1
   simp only [fy,aa,this,bind_some];rw [if_neg (by decide),if_neg (by decide),if_neg (by decide),if_pos trivial]
  ·unfold A3 at q1;rw [if_neg (by decide),rev,TZ] at q1;have hm:=CF l1 l2 (S:=G.st M) (S':=G1.st M1) q1;have abI:rh φ aI=(aI.map ik).map some:=by rw [<- tB];exact Ep λc hc=>(q2.Lo c (A4 c hc)).symm
   have YQ:∀ c∈aI,c<F1.m:=λc hc=>Nat.lt_of_lt_of_le (A4 c hc) q2.fm
   have hr:=xQ (M:=M1) q2.JZ.sH.xg (l:=aI.map ik) (λc hc=>by obtain⟨d,hd,rfl⟩:=List.mem_map.1 hc;exact q2.JZ.sH.gm d (YQ d hd)) (by simp;omega)
   refine⟨G1.off (aI.map ik),M1,ik,?_,?_⟩
   ·have hrw:bE (rh φ aI,rh φ ws,G.st M)=some ((),(G1.off (aI.map ik)).st M1):=by simp only [bE,hm,bind_some];rw [abI,hr];rfl
    simp only [fy,aa,hrw,bind_some];rw [if_neg (by decide),if_neg (by decide),if_neg (by decide),if_neg (by decide),if_pos trivial]
   ·rw [if_pos rfl];exact q2.trans (F5 q2.JZ YQ)
 | rem ho =>
  subst ho;refine⟨G.off (aI.map φ),M,φ,?_,F5 hB A4⟩;have hr:=xQ (M:=M) S.xg (l:=aI.map φ) gm (by simp;omega);rw [<- tB] at hr;simp only [fy,aa,hr,bind_some];rw [if_neg (by decide),if_neg (by decide),if_neg (by decide),if_neg (by decide),if_neg (by decide),if_pos trivial]
 | emp ho =>
  subst ho;refine⟨xP G (aI.map φ),M,φ,?_,Ip hB A4⟩;have hr:=Nb (M:=M) S.xg (N:=600) (aI:=aI.map φ) (λc hc=>by obtain⟨d,hd,rfl⟩:=List.mem_map.1 hc;refine⟨S.gm d (A4 d hd),?_⟩;rw [S.kids d (A4 d hd),List.length_map];exact Nat.le_trans (fZ S.okF d) Y2) (by simp;omega) (by simp;omega)
  rw [<- tB] at hr;simp only [fy,aa,hr,bind_some];rw [if_neg (by decide),if_neg (by decide),if_neg (by decide),if_neg (by decide),if_neg (by decide),if_neg (by decide),if_pos trivial]
 | Is ho h1 h2 h3 =>
  subst ho;obtain⟨G',e1,e2⟩:=J2 (Eo B) (λa x hq=>hq.dat) ⟨hI.ok,hI.rk,hI.m⟩ hB (by omega) h1 h2;refine⟨G',M,φ,?_,e2⟩;have e1:d_ (rh φ aI,G.st M)=_:=e1;simp only [fy,aa,e1,bind_some];rw [if_neg (by decide),if_neg (by decide),if_neg (by decide),if_neg (by decide),if_neg (by decide),if_neg (by decide),if_neg (by decide),if_pos trivial]
 | @ZD w F1 P1 ho hw h =>
  subst hw;have main:∃ G' M' nD,mm (rh φ aI,(op,on,wi,k,v,cs),some (φ w),G.st M)=some (true,G'.st M')/\vg (QL B) φ F G M nD F' P' G' M':=by
   rcases ho with rfl | rfl | rfl
   ·have hg:Dt 9 F aI=aI.map λx=>[x]:=by unfold Dt;rw [if_neg (by decide),if_neg (by decide)]
    have yi:=h.ch;have R5:=h.gr;rw [hg] at yi R5;obtain⟨G',M',nD,e1,e2⟩:=wr9 (Eo B) yi h.wi (λx hx=>by obtain⟨a1,a2⟩:=R5 [x] (List.mem_map.2 ⟨x,hx,rfl⟩);exact⟨A4 x hx,a2 x (by simp),a1.st x (by simp)⟩) hB
    have hr:=Iv (wo:=some (φ w)) l2 e1;refine⟨G',M',nD,?_,e2⟩;simp only [mm,aa,hr,bind_some];rw [if_pos trivial]
   ·have hg:Dt 10 F aI=[aI]:=by unfold Dt;rw [if_pos rfl]
    have yi:=h.ch;have R5:=h.gr;rw [hg] at yi R5;obtain⟨F2,P2,TP,_,ht⟩:∃ F2 P2,Wr w aI F P F2 P2/\WI F2 P2 w/\Lj w [] F2 P2 F' P':=by cases yi with | cons h hi t=>exact⟨_,_,h,hi,t⟩
    cases ht;obtain⟨G',M',nD,e1,e2⟩:=vi (Eo B) hB h.wi (R5 aI (by simp)).1 TP;rw [<- tB] at e1;refine⟨G',M',nD,?_,e2⟩;simp only [mm,aa,e1,bind_some];rw [if_neg (by decide),if_pos trivial]
   ·have hg:Dt 11 F aI=aI.map F.kids:=by unfold Dt;rw [if_neg (by decide),if_pos rfl]
    have yi:=h.ch;rw [hg] at yi;obtain⟨G',M',nD,e1,e2⟩:=YO (Eo B) yi h.wi o2 (λx hx=>by obtain⟨a1,a2⟩:=h.on rfl x hx;exact⟨A4 x hx,rfl,a1.ne,a2,λhm=>a1.na (.up (hI.ok.iG hm).1 .self)⟩) hB
    have hr:=Gc (wo:=some (φ w)) l2 e1;refine⟨G',M',nD,?_,e2⟩;simp only [mm,aa,hr,bind_some];rw [if_neg (by decide),if_neg (by decide),if_pos trivial]
  obtain⟨G',M',nD,e1,e2⟩:=main;refine⟨G',M',nD,?_,e2⟩;have ha:bl (rh φ [w]) (0:Int)=some (some (φ w)):=rfl;have hb:(rh φ [w])[Int.toNat (0:Int)]?=some (some (φ w)):=rfl;have hc:(rh φ [w]).length=1:=rfl;simp only [fy,aa,ha,hb,hc,bind_some,e1];rw [if_neg (by omega),if_neg (by omega),if_neg (by omega),if_neg (by omega),if_neg (by omega),if_neg (by omega),if_neg (by omega),if_neg (by omega),if_pos (by decide)]
 | rN ho h3 hC h1 h2=>exact absurd ho.1 (by omega)
theorem Nk (h:pY op k v cs aI ws F P F' P')(hI:SI T A B F P)(hT:T<=200)(hA:A<=999999)(Wi:B<=900000000)(hB:vP (QL B) φ F P G M)(o1:∀ c∈aI,1<=c/\c<T)(o2:aI.Nodup)(w1:∀ c∈ws,1<=c/\c<T)(w2:ws.Nodup)(eH:aI≠[])(hv:v.length<=1048576)(ht:pH cs<=1048576)
  {ss:List K9} {i:Nat} (hi:ss[i]?=some (op,eF aI,eF ws,k,v,cs)) (Bc:ss.length<=1000000) :
  ∃ G' M' nD,cJ ((rh φ (List.range T),()),ss,(ss.length:Int),(i:Int),G.st M)=some (.nx ((rh φ (List.range T),()),ss,(ss.length:Int),((i+1:Nat):Int),G'.st M'))/\vg (QL (B+3000000)) φ F G M nD F' P' G' M':=by
 have oll:=qD o1 o2;have hle:=hI.le;have K6:=(List.getElem?_eq_some_iff.1 hi).1;have S:=hB.sH;have A4:∀ c∈aI,c<F.m:=λc hc=>by have:=o1 c hc;omega
 have gm:∀ c∈aI.map φ,c<G.m:=λc hc=>by obtain⟨d,hd,rfl⟩:=List.mem_map.1 hc;exact S.gm d (A4 d hd)
 have my:(aI.map φ).Nodup:=S.nodup A4 o2;have FJ:=Gd my (by simp;omega);rw [<- tB] at FJ;have t1:=Er φ hT o1 o2;have t2:=Er φ hT w1 w2;have hw:IntKind.wrap .i64 ((i:Int)+1)=((i+1:Nat):Int):=by rw [cD (by omega) (by omega)];rfl
 by_cases Sv:op<12
 ·obtain⟨G',M',nD,e1,e2⟩:=Nj (on:=eF aI) (wi:=eF ws) h Sv hI hT hB o1 o2 w1 w2 eH;refine⟨G',M',nD,?_,Iw e2 (Nat.le_add_right _ _)⟩;have hm:=PT (S:=G.st M) (l:=aI.map φ) (on:=eF aI) (wi:=eF ws) (k:=k) (v:=v) (cs:=cs) (op:=op) (.inl Sv);rw [<- tB] at hm;simp only [cJ,aa,ad,hi,bind_some,t1,t2,Bool.not_true,cond_false,FJ,hm,Bool.not_false,cond_true,e1,hw];rw [if_pos (by omega)]
 ·have S9:(12<=op/\op<=16)/\(∀ c∈aI,(P c).2.kind=3)/\(14<=op->AT cs/\cs≠[])/\(∀ c∈aI,∃ xs,P' c=wN (P c) xs/\AS op k v cs (P c).2.attrs xs)/\(∀ c,c∉aI->P' c=P c)/\F'=F:=by
   cases h with
   | ins ho _=>omega
   | rem ho=>omega
   | emp ho=>omega
   | Is ho _ _ _=>omega
   | ZD ho _ _=>omega
   | rN ho h3 hC h1 h2=>exact⟨ho,h3,hC,h1,h2,rfl⟩
  obtain⟨ho,h3,hC,h1,h2,rfl⟩:=S9;have RW:∀ c∈aI,QL B (P c) (M (φ c)):=λc hc=>S.rN c (A4 c hc)
  obtain⟨M',e1,e2,e3⟩:=PU (G:=G) (M:=M) (l:=aI.map φ) (on:=eF aI) (wi:=eF ws) (k:=k) (v:=v) (cs:=cs) ho.1 ho.2 my gm (λc hc=>by
   obtain⟨d,hd,rfl⟩:=List.mem_map.1 hc;have hq:=RW d hd;exact⟨hq.el.1 (h3 d hd),hB.at_ _ (gm _ hc),hq.qa.uy⟩) (by simp;omega) (λh14=>⟨λc hc=>by
   obtain⟨d,hd,rfl⟩:=List.mem_map.1 hc;have hq:=RW d hd;obtain⟨xs,_,hAS⟩:=h1 d hd;exact⟨hq.el.1 (h3 d hd),hB.at_ _ (gm _ hc),hq.qa.uy,hq.qa.sc (hAS.cls h14).2.1,by have:=hq.qa.WC;omega⟩,hC h14⟩)
  rw [<- tB] at e1;refine⟨G,M',φ,?_,S8 hB A4 (λj hj=>by have:=hI.at_ j hj;omega) h3 h1 h2 e2 e3 hv ht λh=>(hC h).1⟩;simp only [cJ,aa,ad,hi,bind_some,t1,t2,Bool.not_true,cond_false,FJ,e1,hw];rw [if_pos (by omega)]
end
def vk (P:Nat->Int×Node):List Nat->Nat->List Int->List Int
 | [],_,Ge=>Ge
 | z::l,k,Ge=>vk P l (k+1) (if 0<=(P z).1/\(P z).1<Ge.length then Ge.set (P z).1.toNat (k:Int) else Ge)
theorem Ix {P:Nat->Int×Node}:∀ {l:List Nat} {k:Nat} {Ge:List Int},(vk P l k Ge).length=Ge.length
 | [],_,_=>rfl
 | z::l,k,Ge=>by
  simp only [vk,Ix]
  split <;> simp
theorem Iy {P:Nat->Int×Node}:∀ {l m:List Nat} {k:Nat} {Ge:List Int},vk P (l++m) k Ge=vk P m (k+l.length) (vk P l k Ge)
 | [],_,_,_=>rfl
 | z::l,m,k,Ge=>by simp only [List.cons_append,vk,Iy,List.length_cons];rw [show k+1+l.length=k+(l.length+1) by omega]
section
variable {F:Fo}{P:Nat->Int×Node}{Z:Nat->Bool}
theorem Es (hF:F.ok):∀ (n x:Nat) (T:List Node) (A:List Int),x<F.m->Ht F.kids n x->T.length+(cd F.kids n x).length<=1000000->A.length<=1000000 ->
  aF n (some x,T,A,F.aZ P Z)=some (T++bH F.kids (λi=>(P i).2) n x,vk P (cd F.kids n x) T.length A,F.aZ P Z)
 | 0,_,_,_,_,h,_,_=>h.elim
 | n+1,x,T,A,hx,hh,hT,hA=>by
  have hg:=Fo.mx (F:=F) (P:=P) (Z:=Z) hx;have ud:(F.jw P Z x).kids=(F.kids x).map some:=rfl;have Tt:(F.jw P Z x).n=(P x).2:=rfl;have NC:(F.jw P Z x).pl=(P x).1:=rfl;simp only [cd,List.length_cons,List.length_flatMap] at hT;have acN:((F.kids x).map λy=>(cd F.kids n y).length).sum=((F.kids x).flatMap (cd F.kids n)).length:=by rw [List.length_flatMap]
  have hle:(F.kids x).length<=((F.kids x).flatMap (cd F.kids n)).length:=by
   have:∀ l:List Nat,(∀ y∈l,Ht F.kids n y)->l.length<=(l.flatMap (cd F.kids n)).length:=λl=>by
    induction l with
    | nil=>simp
    | cons a l ih =>
     intro h;have h1:=ih λy hy=>h y (by simp [hy])
     have h2:1<=(cd F.kids n a).length:=by
      have:=h a (by simp)
      cases n with
      | zero=>exact this.elim
      | succ n=>simp [cd]
     rw [List.flatMap_cons,List.length_append,List.length_cons];omega
   exact this _ hh
  have key:∀ (A:List Int),A.length<=1000000->∀ d j,(F.kids x).length - j=d->j<=(F.kids x).length->ab (cM (aF n)) (some x,T++[(P x).2]++((F.kids x).take j).flatMap (bH F.kids (λi=>(P i).2) n),vk P (((F.kids x).take j).flatMap (cd F.kids n)) (T.length+1) A,(T.length:Int),(j:Int),F.aZ P Z)
    = some (T++[(P x).2]++(F.kids x).flatMap (bH F.kids (λi=>(P i).2) n),vk P ((F.kids x).flatMap (cd F.kids n)) (T.length+1) A,(T.length:Int),F.aZ P Z):=by
   intro A hA d
   induction d with
   | zero =>
    intro j hd hj;obtain rfl:j=(F.kids x).length:=by omega
    refine ae ?_;simp only [cM,bind_some,hg,ud,aa,List.length_map];rw [if_neg (by omega),List.take_of_length_le (Nat.le_refl _)]
   | succ d ih =>
    intro j hd hj;obtain⟨y,hy⟩:=ay (l:=F.kids x) (k:=j) (by omega);have MJ:=List.mem_of_getElem? hy;obtain⟨hu,Sd⟩:=hF.iG MJ;have e1:(F.kids x).take (j+1)=(F.kids x).take j++[y]:=by rw [List.take_add_one,hy];rfl
    have AQ:(((F.kids x).take (j+1)).map λy=>(cd F.kids n y).length).sum<=((F.kids x).map λy=>(cd F.kids n y).length).sum:=by
     have h1:F.kids x=(F.kids x).take (j+1)++(F.kids x).drop (j+1):=(List.take_append_drop _ _).symm
     conv=>rhs;rw [h1]
     rw [List.map_append,List.sum_append];omega
    rw [e1,List.map_append,List.sum_append] at AQ;simp only [List.map_cons,List.map_nil,List.sum_cons,List.sum_nil] at AQ;have hlI:(((F.kids x).take j).flatMap (cd F.kids n)).length=(((F.kids x).take j).map λy=>(cd F.kids n y).length).sum:=by rw [List.length_flatMap]
    have QR:(((F.kids x).take j).flatMap (bH F.kids (λi=>(P i).2) n)).length=(((F.kids x).take j).map λy=>(cd F.kids n y).length).sum:=by
     rw [List.length_flatMap]
     congr 1
     exact List.map_congr_left λy _=>oQ n y
    have Wy:((F.kids x).map some)[j]?=some (some y):=by rw [List.getElem?_map,hy];rfl
    have step:cM (aF n) (some x,T++[(P x).2]++((F.kids x).take j).flatMap (bH F.kids (λi=>(P i).2) n),vk P (((F.kids x).take j).flatMap (cd F.kids n)) (T.length+1) A,(T.length:Int),(j:Int),F.aZ P Z)
      = some (.nx (some x,T++[(P x).2]++((F.kids x).take (j+1)).flatMap (bH F.kids (λi=>(P i).2) n),vk P (((F.kids x).take (j+1)).flatMap (cd F.kids n)) (T.length+1) A,(T.length:Int),((j+1:Nat):Int),F.aZ P Z)):=by
     simp only [cM,bind_some,hg,ud,aa,List.length_map,ad,Int.toNat_natCast,Wy];rw [if_pos (by omega),Es hF n y _ _ Sd (hh y MJ) (by simp only [List.length_append,List.length_cons,List.length_nil,QR];omega) (by rw [Ix];exact hA),bind_some,cD (by omega) (by omega),e1];simp only [List.flatMap_append,List.flatMap_cons,List.flatMap_nil,List.append_nil,List.append_assoc,Iy];have e2:(T++([(P x).2]++((F.kids x).take j).flatMap (bH F.kids (λi=>(P i).2) n))).length=T.length+1+(((F.kids x).take j).flatMap (cd F.kids n)).length:=by simp only [List.length_append,List.length_cons,List.length_nil,QR,hlI];omega
     rw [e2];rfl
    rw [aj step];exact ih (j+1) (by omega) (by omega)
  have h0:∀ (A:List Int),A.length<=1000000->ab (cM (aF n)) (some x,T++[(P x).2],A,(T.length:Int),(0:Int),F.aZ P Z)=some (T++[(P x).2]++(F.kids x).flatMap (bH F.kids (λi=>(P i).2) n),vk P ((F.kids x).flatMap (cd F.kids n)) (T.length+1) A,(T.length:Int),F.aZ P Z):=λA hA=>by have h:=key A hA (F.kids x).length 0 (by omega) (Nat.zero_le _);simp only [List.take_zero,List.flatMap_nil,List.append_nil,vk] at h;exact h
  have QR:((F.kids x).flatMap (bH F.kids (λi=>(P i).2) n)).length=((F.kids x).map λy=>(cd F.kids n y).length).sum:=by
   rw [List.length_flatMap]
   congr 1
   exact List.map_congr_left λy _=>oQ n y
  have Fy:(T++[(P x).2]++(F.kids x).flatMap (bH F.kids (λi=>(P i).2) n))[T.length]?=some (P x).2:=by simp
  have tM:∀ v:Node,(T++[(P x).2]++(F.kids x).flatMap (bH F.kids (λi=>(P i).2) n)).set T.length v=T++v::(F.kids x).flatMap (bH F.kids (λi=>(P i).2) n):=λv=>by rw [List.append_assoc,List.set_append_right _ _ (Nat.le_refl _)];simp
  have qF:((T++[(P x).2]++(F.kids x).flatMap (bH F.kids (λi=>(P i).2) n)).length:Int) - (T.length:Int)=1+(((F.kids x).flatMap (bH F.kids (λi=>(P i).2) n)).length:Nat):=by simp only [List.length_append,List.length_cons,List.length_nil];omega
  have hw:IntKind.wrap .i64 (((T++[(P x).2]++(F.kids x).flatMap (bH F.kids (λi=>(P i).2) n)).length:Int) - (T.length:Int))=1+(((F.kids x).flatMap (bH F.kids (λi=>(P i).2) n)).length:Nat):=by rw [cD (by simp only [List.length_append,List.length_cons,List.length_nil,QR];omega) (by simp only [List.length_append,List.length_cons,List.length_nil,QR];omega),qF]
  show mY (aF n) (some x,T,A,F.aZ P Z)=_;simp only [mY,bind_some,hg,Tt,NC,aa];rw [a6 (by simp;omega)];simp only [bind_some]
  by_cases h1:0<=(P x).1
  ·rw [if_pos h1]
   by_cases h2:(P x).1<(A.length:Int)
   ·rw [if_pos h2];obtain⟨v,hv⟩:=ay (l:=A) (k:=(P x).1.toNat) (by omega);have hv1:bl A (P x).1=some v:=by
     have:(P x).1=(((P x).1.toNat:Nat):Int):=by omega
     rw [this,ad];simpa using hv
    rw [hv1,bind_some,hv,bind_some,h0 _ (by simpa using hA),bind_some];simp only [ad,Int.toNat_natCast,Fy,bind_some,tM,hw];simp only [bH,cd,vk];rw [if_pos ⟨h1,h2⟩]
   ·rw [if_neg h2,h0 _ hA,bind_some];simp only [ad,Int.toNat_natCast,Fy,bind_some,tM,hw];simp only [bH,cd,vk];rw [if_neg (λh=>h2 h.2)]
  ·rw [if_neg h1,h0 _ hA,bind_some];simp only [ad,Int.toNat_natCast,Fy,bind_some,tM,hw];simp only [bH,cd,vk];rw [if_neg (λh=>h1 h.1)]
end
theorem Qx {t:List Node}:Rk (FT t):=⟨λi=>i,λc p h=>by
 simp only [FT] at h
 split at h
 ·exact (fO h).1
 ·cases h⟩
structure Gf (s:K9):Prop where
 on:s.2.1.length<=1048576
 wi:s.2.2.1.length<=1048576
 k:s.2.2.2.1.length<=1048576
 v:s.2.2.2.2.1.length<=1048576
 cs:pH s.2.2.2.2.2<=1048576
inductive Te (T:Nat):List K9->Nat->Nat->Fo->(Nat->Int×Node)->Fo->(Nat->Int×Node)->Prop
 | nil {A B:Nat} {F:Fo} {P:Nat->Int×Node}:Te T [] A B F P F P
 | cons {op:Int} {k v:List UInt8} {cs:Wd} {aI ws:List Nat} {ss:List K9} {A B:Nat} {F F1 F2:Fo} {P P1 P2:Nat->Int×Node} (hI:SI T A B F P) (hA:A<=999999) (hB:B<=900000000) (o1:∀ c∈aI,1<=c/\c<T) (o2:aI.Nodup) (w1:∀ c∈ws,1<=c/\c<T) (w2:ws.Nodup) (eH:aI≠[]) (hv:v.length<=1048576) (ht:pH cs<=1048576) (h:pY op k v cs aI ws F P F1 P1) (t:Te T ss (A+1) (B+3000000) F1 P1 F2 P2):Te T ((op,eF aI,eF ws,k,v,cs)::ss) A B F P F2 P2
theorem Gg {t:List Node}{ss:List K9}{T:Nat}(hss:∀ s∈ss,Gf s)(hT:T<=200)(Bc:ss.length<=1000):∀ (d i A B:Nat) (F:Fo) (P:Nat->Int×Node) (Z:Nat->Bool),ss.length - i=d->i<=ss.length->SI T A B F P->A+d<=999999->B+3000000*d<=900000000 ->
  ∃ y,ab dV (t,ss,((),(F.m:Int),false),(i:Int),F.aZ P Z,(List.range T).map some)=some y/\((∃ S b,y = .inr ([],[],b,S)/\b=false)∨∃ F' P' Z',y = .inl (t,((),(F'.m:Int),false),F'.aZ P' Z',(List.range T).map some)/\SI T (A+d) (B+3000000*d) F' P'/\Te T (ss.drop i) A B F P F' P'):=by
 intro d
 induction d with
 | zero =>
  intro i A B F P Z hd hi hI _ _;refine⟨_,ae (b := .inl (t,((),(F.m:Int),false),F.aZ P Z,(List.range T).map some)) ?_, .inr ⟨F,P,Z,rfl,hI,?_⟩⟩
  ·simp only [dV,aa];rw [if_neg (by omega)]
  ·rw [List.drop_eq_nil_of_le (by omega)];exact .nil
 | succ d ih =>
  intro i A B F P Z hd hi hI hA hB;obtain⟨⟨op,on,wi,k,v,cs⟩,hs⟩:=ay (l:=ss) (k:=i) (by omega);have lI:=hss _ (List.mem_of_getElem? hs);obtain⟨b,f',S',h1,h2⟩:=Ni (Z:=Z) (op:=op) (on:=on) (wi:=wi) (k:=k) (v:=v) (cs:=cs) hI hT (by omega) (by omega) lI.on lI.wi lI.k lI.cs;obtain⟨fu,fa,fb⟩:=f';cases b with
  | false =>
   refine⟨.inr ([],[],false,S'),ae ?_, .inl ⟨S',false,rfl,rfl⟩⟩;simp only [dV,aa,ad,hs,bind_some,h1];rw [if_pos (by omega)];rfl
  | true =>
   cases fb with
   | true =>
    refine⟨.inr ([],[],false,S'),ae ?_, .inl ⟨S',false,rfl,rfl⟩⟩;simp only [dV,aa,ad,hs,bind_some,h1];rw [if_pos (by omega)];rfl
   | false =>
    obtain⟨F1,P1,Z1,aI,ws,e1,rfl,rfl,rfl,o1,o2,w1,w2,eH,hR⟩:=h2 rfl rfl;cases e1;have step:dV (t,ss,((),(F.m:Int),false),(i:Int),F.aZ P Z,(List.range T).map some)=some (.nx (t,ss,((),(F1.m:Int),false),((i+1:Nat):Int),F1.aZ P1 Z1,(List.range T).map some)):=by simp only [dV,aa,ad,hs,bind_some,h1];rw [if_pos (by omega),cD (by omega) (by omega)];rfl
    obtain⟨y,hy,hY⟩:=ih (i+1) (A+1) (B+3000000) F1 P1 Z1 (by omega) (by omega) (hR.si hI lI.v lI.cs) (by omega) (by omega);refine⟨y,by rw [aj step,hy],?_⟩;rcases hY with h | ⟨F2,P2,Z2,q1,q2,q3⟩
    ·exact .inl h
    ·refine .inr ⟨F2,P2,Z2,q1,?_,?_⟩
     ·rw [show A+(d+1)=A+1+d by omega,show B+3000000*(d+1)=B+3000000+3000000*d by omega];exact q2
     ·rw [drop_cons hs];exact .cons hI (by omega) (by omega) o1 o2 w1 w2 eH lI.v lI.cs hR q3
theorem Et {ss:List K9}{T:Nat}(hT:T<=200)(Bc:ss.length<=1000){l:List K9}{A B:Nat}{F F':Fo}{P P':Nat->Int×Node}(h:Te T l A B F P F' P'):∀ {i:Nat} {φ:Nat->Nat} {G:Fo} {M:Nat->HN},ss.drop i=l->i<=ss.length->vP (QL B) φ F P G M ->
  ∃ G' M' nD,ab cJ ((rh φ (List.range T),()),ss,(ss.length:Int),(i:Int),G.st M)=some (.inl (G'.st M'))/\vg (QL (B+3000000*l.length)) φ F G M nD F' P' G' M':=by
 induction h with
 | @nil A B F P =>
  intro i φ G M hd hi hB;have hle:i=ss.length:=by
   have:=congrArg List.length hd
   simp at this;omega
  refine⟨G,M,φ,ae ?_,vg.refl hB⟩;simp only [cJ,aa];rw [if_neg (by omega)]
 | @cons op k v cs aI ws l A B F F1 F2 P P1 P2 hI hA hB o1 o2 w1 w2 eH hv ht h t ih =>
  intro i φ G M hd hi hBs;have jC:i<ss.length:=by
   have:=congrArg List.length hd
   simp at this;omega
  have hs:ss[i]?=some (op,eF aI,eF ws,k,v,cs):=by
   have:=congrArg (λx=>x[0]?) hd
   simpa using this
  obtain⟨G1,M1,ik,e1,e2⟩:=Nk h hI hT hA hB hBs o1 o2 w1 w2 eH hv ht hs (by omega);have RM:ss.drop (i+1)=l:=by rw [drop_cons hs] at hd;exact (List.cons.inj hd).2
  obtain⟨G2,M2,NH,g1,g2⟩:=ih RM (by omega) e2.JZ;have hph:rh ik (List.range T)=rh φ (List.range T):=Ep λc hc=>e2.Lo c (Nat.lt_of_lt_of_le (List.mem_range.1 hc) hI.le)
  rw [hph] at g1;refine⟨G2,M2,NH,by rw [aj e1,g1],?_⟩;have e:B+3000000*((op,eF aI,eF ws,k,v,cs)::l).length=B+3000000+3000000*l.length:=by rw [List.length_cons];omega
  rw [e];exact (Iw e2 (Nat.le_add_right _ _)).trans g2
theorem V8 (a:Int)(b:Bool)(S:List KN)(ks:List (Option Nat)){m:Nat}(hm:m<=1000000):∀ d j:Nat,m - j=d->j<=m->ab fC (((),a,b),List.replicate j (-1)++List.replicate (m - j) 0,(j:Int),S,ks)=some (((),a,b),List.replicate m (-1),S,ks):=by
 intro d
 induction d with
 | zero =>
  intro j hd hj;obtain rfl:j=m:=by omega
  refine ae ?_;simp only [fC,aa];rw [if_neg (by simp)];simp
 | succ d ih =>
  intro j hd hj;have hg:(List.replicate j (-1)++List.replicate (m - j) 0:List Int)[j]?=some 0:=by rw [List.getElem?_append_right (by simp),List.length_replicate,Nat.sub_self,List.getElem?_replicate,if_pos (by omega)]
  have hs:(List.replicate j (-1)++List.replicate (m - j) 0:List Int).set j (-1)=List.replicate (j+1) (-1)++List.replicate (m - (j+1)) 0:=by rw [List.set_append_right _ _ (by simp)];rw [show m - j=(m - (j+1))+1 by omega,List.replicate_succ];simp only [List.length_replicate,Nat.sub_self,List.set_cons_zero];rw [List.replicate_succ',List.append_assoc];rfl
  have step:fC (((),a,b),List.replicate j (-1)++List.replicate (m - j) 0,(j:Int),S,ks)=some (.nx (((),a,b),List.replicate (j+1) (-1)++List.replicate (m - (j+1)) 0,((j+1:Nat):Int),S,ks)):=by simp only [fC,aa,ad,hg,bind_some,Int.toNat_natCast,hs];rw [if_pos (by simp;omega),cD (by omega) (by omega)];rfl
  rw [aj step];exact ih (j+1) (by omega) (by omega)
theorem YR {l:List Attr}(h:UA l):UK l:=by
 refine List.pairwise_iff_getElem.2 λi j hi hj NX e=>?_
 rw [List.length_map] at hi hj;have h1:=List.getElem?_eq_getElem hi;have h2:=List.getElem?_eq_getElem hj;refine h.uq j i _ _ NX h2 h1 ?_;simpa using e
theorem T2 {t:List Node}{i:Nat}{v:Node}(h:RN t i v):UK v.attrs/\v.attrs.length<=20:=by
 by_cases h3:v.kind=3
 ·exact⟨YR (h.k5 h3),(h.k3 h3).2.1⟩
 ·rw [(h.k4 h3).2];exact⟨List.nodup_nil,Nat.zero_le _⟩
theorem T3 {l:List Attr}{n:Nat}(h:∀ (j:Nat) (a:Attr),l[j]?=some a->a.val.length<=n):(cl l).length<=n:=by
 have:∀ {l:List Attr},(∀ a∈l,a.val.length<=n)->((vl l cA).getD []).length<=n:=λ{l}=>by
  induction l with
  | nil=>exact λ_=>Nat.zero_le _
  | cons a l ih =>
   intro h;rw [vl];split
   ·exact h a (by simp)
   ·exact ih λb hb=>h b (by simp [hb])
 exact this λa ha=>by obtain⟨j,hj⟩:=List.mem_iff_getElem?.1 ha;exact h j a hj
theorem si0 {t:List Node}(hR:RT t):SI t.length 20 4000 (FT t) (P0 t):=by
 have hlen:=hR.len;refine⟨KX hR,Qx,by show t.length<=600;omega,Nat.le_refl _,λi hi=>?_⟩;obtain⟨v,hv⟩:=ay (l:=t) (k:=i) hi;have hn:(P0 t i).2=v:=by simp [P0,Zn,hv]
 rw [hn];exact⟨(T2 (hR.node i v hv)).2,T3 (hR.txt i v hv).2⟩
theorem Iz {t:List Node}(hf:w8 t=true){ss:List K9}(hss:∀ s∈ss,Gf s)(hl:ss.length<=4) :
  ∃ out Ge b,kN (t,ss)=some (out,Ge,b)/\(b=true->RT t/\∃ F' P' A B,A<=1000/\SI t.length A B F' P'/\Te t.length ss 20 4000 (FT t) (P0 t) F' P'/\∀ n,lY=n->out=bH F'.kids (λi=>(P' i).2) n 0):=by
 obtain⟨n,hb,hn⟩:=vf;obtain⟨b0,h0,VG⟩:=Pm t hf
 suffices h:∃ out Ge b S,ja (t,ss,[])=some (out,Ge,b,S)/\(b=true->RT t/\∃ F' P' A B,A<=1000/\SI t.length A B F' P'/\Te t.length ss 20 4000 (FT t) (P0 t) F' P'/\∀ n,lY=n->out=bH F'.kids (λi=>(P' i).2) n 0) by obtain⟨out,Ge,b,S,g1,g2⟩:=h;refine⟨out,Ge,b,?_,g2⟩;show (ja (t,ss,[])).map _=_;rw [g1];rfl
 simp only [ja,h0,bind_some,aa];cases b0 with
 | false=>exact⟨_,_,_,_,rfl,λh=>by cases h⟩
 | true =>
  have hR:=VG rfl;have hlen:=hR.len;have j4:=hR.pos;simp only [Bool.not_true,cond_false,PD hR,bind_some];obtain⟨y,hy,hY⟩:=Gg (t:=t) hss hlen (by omega) ss.length 0 20 4000 (FT t) (P0 t) Z0 (by omega) (Nat.zero_le _) (si0 hR) (by omega) (by omega);rw [show ab dV (t,ss,((),(t.length:Int),false),(0:Int),(FT t).aZ (P0 t) Z0,(List.range t.length).map some)=_ from hy,bind_some];rcases hY with⟨S,b,rfl,rfl⟩ | ⟨F',P',Z',rfl,hI,hC⟩
  ·exact⟨_,_,_,_,rfl,λh=>by cases h⟩
  ·have hle:=hI.le;have hm6:=hI.m;have KB:=V8 (F'.m:Int) false (F'.aZ P' Z') ((List.range t.length).map some) (m:=t.length) (by omega) t.length 0 rfl (Nat.zero_le _);have V9:ab fC (((),(F'.m:Int),false),List.replicate (Int.toNat (t.length:Int)) (0:Int),(0:Int),F'.aZ P' Z',(List.range t.length).map some)=some (((),(F'.m:Int),false),List.replicate t.length (-1),F'.aZ P' Z',(List.range t.length).map some):=KB;have hz:((List.range t.length).map some)[0]?=some (some 0):=by rw [List.getElem?_map,List.getElem?_range j4];rfl
   obtain⟨r,hr⟩:=hI.rk.down hI.ok;have K6:=yJ hI.ok hr n (x:=0) (by omega);have hli:=Es (P:=P') (Z:=Z') hI.ok n 0 [] (List.replicate t.length (-1)) (by omega) (tA hI.ok hI.rk (by omega) (by omega)) (by simp;omega) (by simp;omega);simp only [bu];rw [if_pos ⟨by omega,by omega,by omega⟩,V9,bind_some];simp only [pj,hz,bind_some,show Int.toNat 0=0 from rfl,hb,hli];refine⟨_,_,_,_,rfl,λ_=>⟨hR,F',P',20+ss.length,_,by omega,hI,by rw [List.drop_zero] at hC;exact hC,λn' IH=>?_⟩⟩;subst IH;exact List.nil_append _
theorem Qy {K:Nat->List Nat}{G:Fo}{M B:Nat->HN}{lo hi:Nat}:∀ {n d x:Nat},Cp G M K B lo hi n d x->MV K G.kids (λy z=>Sb (M z) (B y)) n x d
 | 0,_,_,h=>h
 | n+1,d,x,⟨_,h2,h3⟩=>⟨h2,by
  have flip:∀ {l m:List Nat},F2 (Cp G M K B lo hi n) l m->F2 (MV K G.kids (λy z=>Sb (M z) (B y)) n) m l:=λ{l m} h=>by
   induction h with
   | nil=>exact .nil
   | cons h _ ih=>exact .cons (Qy h) ih
  exact flip h3⟩
section
variable {t:List Node}
theorem ql0 (hR:RT t){i:Nat}(hi:i<t.length):QL 4000 (P0 t i) (yS t i):=by
 obtain⟨v,hv⟩:=ay (l:=t) (k:=i) hi;have hn:(P0 t i).2=v:=by simp [P0,Zn,hv]
 have hN:=hR.node i v hv;have hk:=VD hR hv;have hu:=T2 hN;have haH:aH (yS t i).attrs=v.attrs:=by
  by_cases h3:v.kind=3
  ·have h4:(yS t i).ty=3:=(TX _).1 (by rw [hk];exact h3)
   have:=congrArg Node.attrs hk
   rw [CH h4] at this;exact this
  ·have hb:yS t i=base v:=by simp only [yS,hv]
   rw [hb,(hN.k4 h3).2];rcases hN.kd with h | h | h | h | h <;> first | exact absurd h h3 | simp [base,aH,h]
 refine⟨by rw [hk,hn],by rw [hk,hn],by rw [hk,hn],λh=>?_,?_⟩
 ·rw [hn] at h ⊢;exact (hN.k4 h).2
 ·rw [hn,haH];exact QA.refl hu.1 (T3 (hR.txt i v hv).2)
theorem abL (hR:RT t):vP (QL 4000) (λi=>i) (FT t) (P0 t) (FT t) (yS t):=by have lI:=KX hR;exact⟨⟨lI,lI,λ_ h=>h,λ_ h=>h,λ_ _ _ _ h=>h,λi hi c hc=>(lI.iG hc).2,λi hi p hp=>(lI.up hp).1,λi _=>by simp,λi _=>by cases (FT t).up i <;> rfl,λi hi=>ql0 hR hi⟩,λi hi=>by have:=zC hR i;omega⟩
theorem Nl (hR:RT t){n:Nat}(hb:lY=n)(hn:1000000<=n):∃ G M,ak n (some 0,(FT t).st (yS t))=some (some t.length,G.st M)/\vP (QL 4000) (λi=>i) (FT t) (P0 t) G M/\vP (QL 4000) (λi=>t.length+i) (FT t) (P0 t) G M/\cd G.kids n t.length=List.range' t.length t.length:=by
 have lI:=KX hR;have hlen:=hR.len;have j4:=hR.pos;have hit:cd (FT t).kids n 0=List.range' 0 t.length:=by
  have:=HW hR n 0 j4 (by rw [hR.root];omega)
  rwa [hR.root] at this
 have Li:Ht (FT t).kids n 0:=tA lI Qx (show 0<t.length from j4) (by show t.length<=n;omega);obtain⟨G,M,c1,c2,c3,c4,c5,c6⟩:=yI (K:=(FT t).kids) (B:=yS t) (m0:=t.length) (λi _ y hy=>(lI.iG hy).2) (λi _=>lI.nd i) (λi _=>by have:=zC hR i;omega) n 0 (FT t) (yS t) lI (Nat.le_refl _) (λi _=>⟨rfl,rfl⟩) j4 Li;have hs:lW (FT t).kids n 0=t.length:=by rw [<- oY,hit];simp
 have hTm:(FT t).m=t.length:=rfl;rw [hs,hTm] at c4 c6;rw [hTm] at c1 c3 c5;have CM:=abL hR;have fe:∀ i,i<t.length->G.up i=(FT t).up i/\G.kids i=(FT t).kids i/\M i=yS t i:=λi hi=>c2.fe i hi
 have mC:∀ i,i<G.m->(M i).attrs.length<=1000000:=λi hi=>by
  by_cases e:i<t.length
  ·rw [(fe i e).2.2];have:=zC hR i;omega
  ·exact c2.rN i (by show t.length<=i;omega) hi
 obtain⟨_,_,_,_,Ns⟩:=zI (a0:=0) (b0:=t.length) (p:=0) (Qy c5) (by rw [hit]) c6;have lH:∀ i,i<t.length->G.kids (t.length+i)=((FT t).kids i).map (λj=>t.length+j)/\Sb (M (t.length+i)) (yS t i):=λi hi=>by obtain⟨k1,k2,_⟩:=Ns i (Nat.zero_le _) (by omega);simp only [Nat.zero_add,Nat.sub_zero] at k1 k2;exact⟨k1,k2⟩
 refine⟨G,M,c1,⟨⟨lI,c2.ok,λ_ h=>h,λi hi=>Nat.lt_of_lt_of_le hi c2.m,λ_ _ _ _ h=>h,CM.sH.dk,CM.sH.du,λi hi=>?_,λi hi=>?_,λi hi=>?_⟩,mC⟩,⟨⟨lI,c2.ok,λ_ h=>h,λi hi=>?_,λi j _ _ h=>by omega,CM.sH.dk,CM.sH.du,λi hi=>(lH i hi).1,λi hi=>?_,λi hi=>?_⟩,mC⟩,c6⟩
 ·rw [(fe i hi).2.1];simp
 ·rw [(fe i hi).1];cases (FT t).up i <;> rfl
 ·rw [(fe i hi).2.2];exact ql0 hR hi
 ·have hi:i<t.length:=hi;rw [c4];omega
 ·cases hu:(FT t).up i with
  | none =>
   have:i=0:=by
    apply Classical.byContradiction;intro h0;have hp:(FT t).up i=par t i:=if_pos hi;rw [hp] at hu
    have:=D9 hu 0 (by omega)
    have h1:=hR.root;have hi:i<t.length:=hi;omega
   subst this;exact c3
  | some p =>
   obtain⟨h1,h2⟩:=lI.up hu
   have:=(lH p h1).1
   exact (c2.ok.iG (p:=t.length+p) (by rw [this];exact List.mem_map.2 ⟨i,h2,rfl⟩)).1
 ·exact (Eo 4000).cp (P0 t i) (-1,(P0 t i).2) (yS t i) _ (ql0 hR hi) rfl (lH i hi).2 |> λh=>⟨h.kd,h.tg,h.tx,h.ne,h.qa⟩
theorem LA {R:Type}{a b:Option R}{r:R}(h1:a=some r)(h2:b=some r):both a b=some r:=by unfold both;rw [if_pos (h1.trans h2.symm),h1]
theorem Nm (hf:w8 t=true)(hR:RT t){n:Nat}(hb:lY=n)(hn:1000000<=n){s1 s2:List K9}(l1:s1.length<=4)(l2:s2.length<=4){F1 F2:Fo}{P1 P2:Nat->Int×Node}{A1 B1 A2 B2:Nat}(i1:SI t.length A1 B1 F1 P1)(i2:SI t.length A2 B2 F2 P2)(h1:Te t.length s1 20 4000 (FT t) (P0 t) F1 P1)(h2:Te t.length s2 20 4000 (FT t) (P0 t) F2 P2) :
  ∃ G M φ ψ,kP (t,s1,s2)=some (bH G.kids (λi=>kn (M i)) n (φ 0),bH G.kids (λi=>kn (M i)) n (ψ 0),true)/\vP (QL 20000000) φ F1 P1 G M/\vP (QL 20000000) ψ F2 P2 G M:=by
 have hlen:=hR.len;have j4:=hR.pos;obtain⟨G,M,c1,b1,b2,cid⟩:=Nl hR hb hn;obtain⟨Ga,Ma,φ,q1,q2⟩:=Et (ss:=s1) hlen (by omega) h1 (i:=0) (φ:=λi=>i) (G:=G) (M:=M) (by rw [List.drop_zero]) (Nat.zero_le _) b1;obtain⟨k1,k2⟩:=q2.Yv b2 (λi j hi hj=>by
  have hi:i<t.length:=hi
  omega)
 obtain⟨Gb,Mb,ψ,q3,q4⟩:=Et (ss:=s2) hlen (by omega) h2 (i:=0) (φ:=λi=>t.length+i) (G:=Ga) (M:=Ma) (by rw [List.drop_zero]) (Nat.zero_le _) k1;obtain⟨k3,k4⟩:=q4.Yv q2.JZ (λi j hi hj e=>k2 j i hj hi e.symm);have m1:vP (QL 20000000) φ F1 P1 Gb Mb:=k3.mono λ_ _ h=>h.mono (by omega)
 have m2:vP (QL 20000000) ψ F2 P2 Gb Mb:=q4.JZ.mono λ_ _ h=>h.mono (by omega)
 refine⟨Gb,Mb,φ,ψ,?_,m1,m2⟩;have DQ:rh (λi=>i) (List.range t.length)=zz t:=by simp [rh,zz]
 have f0:φ 0=0:=q2.Lo 0 j4;have p0:ψ 0=t.length:=by
  have:=q4.Lo 0 j4
  simpa using this
 have fm1:0<F1.m:=Nat.lt_of_lt_of_le j4 i1.le;have fm2:0<F2.m:=Nat.lt_of_lt_of_le j4 i2.le;have ends:∀ {nD:Nat->Nat} {F':Fo} {P':Nat->Int×Node} {A B:Nat} (m:List Nat) (r:Nat),vP (QL 20000000) nD F' P' Gb Mb->SI t.length A B F' P'->nD 0=r->m[0]?=some r->m.length<=1000000->∃ x,db ((m.map some,()),Gb.st Mb)=some (bH Gb.kids (λi=>kn (Mb i)) n r,x,Gb.st Mb):=λ{nD F' P' A B} m r hB hI hr hm Gs=>by
  subst hr;have fm:0<F'.m:=Nat.lt_of_lt_of_le j4 hI.le;have hm6:=hI.m;have hh:Ht Gb.kids n (nD 0):=hB.sH.ht fm (tA hI.ok hI.rk fm (by omega));have hl:(cd Gb.kids n (nD 0)).length<=1000000:=by
   rw [oY,hB.sH.lW fm,<- oY];obtain⟨r,hr⟩:=hI.rk.down hI.ok
   have:=yJ hI.ok hr n (x:=0) fm
   omega
  exact⟨_,SF hB.sH.xg hB.at_ hb hm (hB.sH.gm 0 fm) hh hl Gs⟩
 obtain⟨x1,e1⟩:=ends (List.range t.length) 0 m1 i1 f0 (List.getElem?_range j4) (by simp;omega);obtain⟨x2,e2⟩:=ends (List.range' t.length t.length) t.length m2 i2 p0 (by rw [List.getElem?_range' j4];rfl) (by simp;omega);have IK:=Cn (L:=M) b1.sH.xg b1.at_ n t.length [] [] (by have:=b2.sH.gm 0 j4;simpa using this) (by
  have:=b2.sH.ht (show 0<(FT t).m from j4) (tA (KX hR) Qx (show 0<(FT t).m from j4) (by show t.length<=n;omega))
  simpa using this) (by rw [cid];simp;omega) (by rw [cid];simp;omega)
 rw [cid] at IK;have BG:(List.range' t.length t.length).map some=rh (λi=>t.length+i) (List.range t.length):=by rw [List.range'_eq_map_range];simp [rh]
 have sK:(List.range t.length).map some=zz t:=rfl;have e1':db ((zz t,()),Gb.st Mb)=_:=e1;rw [BG] at e2;have YA:ab cJ ((zz t,()),s1,(s1.length:Int),(0:Int),G.st M)=some (.inl (Ga.st Ma)):=by rw [<- DQ];exact q1
 have q3':ab cJ ((rh (λi=>t.length+i) (List.range t.length),()),s2,(s2.length:Int),(0:Int),Ga.st Ma)=some (.inl (Gb.st Mb)):=q3;have w1:cc ((zz t,()),s1,G.st M)=some (true,Ga.st Ma):=by simp only [cc,YA,bind_some,oW]
 have w2:cc ((rh (λi=>t.length+i) (List.range t.length),()),s2,Ga.st Ma)=some (true,Gb.st Mb):=by simp only [cc,q3',bind_some,oW]
 rw [List.nil_append,List.nil_append,BG] at IK;have hz:bl (zz t) (0:Int)=some (some 0):=by rw [pj,HS j4]
 have XP:(zz t)[Int.toNat (0:Int)]?=some (some 0):=HS j4;have heq:∀ x:Option Nat,dD ([x],(1:Int))=some ():=λx=>by simp only [dD,aa,dw,bind_some];rw [if_neg (by decide),if_pos (by simp)]
 have Sm:bl [some t.length] (0:Int)=some (some t.length):=rfl;show (fN (t,s1,s2,[])).map _=_;have main:∃ S,fN (t,s1,s2,[])=some (bH Gb.kids (λi=>kn (Mb i)) n 0,bH Gb.kids (λi=>kn (Mb i)) n t.length,true,S):=by refine⟨Gb.st Mb,?_⟩;simp only [fN,Ps t hf hR,bind_some,Bool.not_true,cond_false,hz,XP,gT,jt,aM,kj,PC hR,hb,c1,heq,Sm,IK,w1,w2,e1',e2];exact LA rfl (LA rfl rfl)
 obtain⟨S,hS⟩:=main;rw [hS,f0,p0];rfl
end
structure WR (xs ys:List Attr):Prop where
 uk:UK xs
 Ny:∀ k,k≠cA->∀ v,vl xs k=some v->vl ys k=some v
 wd:∀ w∈aC (cl xs),w∈aC (cl ys)
 lx:xs.length<=1000000
 ly:ys.length<=1000000
 bx:(cl xs).length<=1000000000
 WC:(cl ys).length<=1000000000
theorem Nn (a b:Node)(i:Int){l m:Wd}(hl:l.length<=2000000000)(hm:m.length<=2000000000)(h:∀ w∈l,w∈m):ab ig (a,b,i,l,m,(0:Int))=some (.inl (a,b,i)):=by
 obtain⟨y,hy,rfl⟩:=js (body:=ig) (n:=l.length) (λ(j:Nat) (_:Unit)=>(a,b,i,l,m,(j:Int))) (λ_ _=>True) (λy=>y = .inl (a,b,i)) (λj _ hj _=>by
  obtain⟨w,hw⟩:=ay hj;left;refine⟨(),?_,trivial⟩;have hi:=vJ m w (by omega);rw [decide_eq_true (h w (List.mem_of_getElem? hw))] at hi;simp only [ig,aa,ad,Int.toNat_natCast,hw,bind_some,hi,Bool.not_true,cond_false];rw [if_pos (by omega),cD (by omega) (by omega)]
  rfl) (λ_ _=>⟨_,by
  simp only [ig,aa];rw [if_neg (by omega)],rfl⟩) l.length 0 () rfl (Nat.zero_le _) trivial
 exact hy
theorem Eu (a b:Node)(h:WR a.attrs b.attrs):mO (a,b)=some true:=by
 have QH:=h.lx;simp only [mO];obtain⟨y,hy,rfl⟩:=js (body:=iA) (n:=a.attrs.length) (λ(j:Nat) (_:Unit)=>(a,b,(j:Int))) (λ_ _=>True) (λy=>y = .inl ()) (λj _ hj _=>by
  obtain⟨x,hx⟩:=ay hj;have ue:=List.mem_of_getElem? hx;have hv:vl a.attrs x.key=some x.val:=(FC h.uk).2 ue;left;refine⟨(),?_,trivial⟩
  by_cases e:x.key=cA
  ·have e':x.key=[(99:UInt8),(108:UInt8),(97:UInt8),(115:UInt8),(115:UInt8)]:=e;have l6:cl a.attrs=x.val:=by unfold cl;rw [<- e,hv];rfl
   obtain⟨q,hq,E6⟩:=K_ b h.ly;have hbx:=h.bx;have hby:=h.WC;have w1:=yx x.val (by rw [<- l6];omega);have w2:=yx q.1 (by rw [E6];omega);have t1:=xH x.val;have t2:=xH q.1;have lH:=Nn a b (j:Int) (l:=aC x.val) (m:=aC q.1) (by rw [<- l6] at t1 ⊢;omega) (by rw [E6] at t2 ⊢;omega) (by rw [E6,<- l6];exact h.wd);simp only [iA,aa,ad,hx,bind_some];rw [if_pos (by omega),if_pos e',hq,bind_some,w1,bind_some,w2,bind_some,lH,bind_some];simp only [oW];rw [cD (by omega) (by omega)];rfl
  ·have hq:=K5 b x.key h.ly;rw [h.Ny x.key e x.val hv] at hq;simp only [iA,aa,ad,hx,bind_some];rw [if_pos (by omega),if_neg (show ¬ x.key=[(99:UInt8),(108:UInt8),(97:UInt8),(115:UInt8),(115:UInt8)] from e),hq,bind_some];simp only [Bool.not_true,cond_false,ne_eq,not_true_eq_false,if_false];rw [cD (by omega) (by omega)]
   rfl) (λ_ _=>⟨_,by
  simp only [iA,aa];rw [if_neg (by omega)],rfl⟩) a.attrs.length 0 () rfl (Nat.zero_le _) trivial
 rw [show ab iA (a,b,(0:Int))=_ from hy];rfl
structure NA (u v:Node):Prop where
 kd:u.kind=v.kind
 tg:u.tag=v.tag
 tx:u.text=v.text
 sz:u.size=v.size
 w1:WR u.attrs v.attrs
 w2:WR v.attrs u.attrs
theorem Qz {a b:List Node}(h:F2 NA a b)(hl:a.length<=1000000):ij (a,b)=some true:=by
 have hlen:a.length=b.length:=by
  clear hl
  induction h with
  | nil=>rfl
  | cons _ _ ih=>simp [ih]
 have Fy:∀ i:Nat,i<a.length->∃ u v,a[i]?=some u/\b[i]?=some v/\NA u v:=λi hi=>by
  clear hlen hl
  induction h generalizing i with
  | nil=>simp at hi
  | cons h _ ih =>
   cases i with
   | zero=>exact⟨_,_,rfl,rfl,h⟩
   | succ i=>simpa using ih i (by simpa using hi)
 simp only [ij,aa,ne_eq];rw [if_neg (by omega)];obtain⟨y,hy,rfl⟩:=js (body:=gg) (n:=a.length) (λ(j:Nat) (_:Unit)=>(a,b,(j:Int))) (λ_ _=>True) (λy=>y = .inl ()) (λj _ hj _=>by
  obtain⟨u,v,hu,hv,hN⟩:=Fy j hj;left;refine⟨(),?_,trivial⟩;simp only [gg,aa,ad,hu,hv,bind_some,Eu u v hN.w1,Eu v u hN.w2,Bool.not_true,cond_false,hN.kd,hN.tg,hN.tx,hN.sz,ne_eq,not_true_eq_false,if_false];rw [if_pos (by omega),cD (by omega) (by omega)]
  rfl) (λ_ _=>⟨_,by
  simp only [gg,aa];rw [if_neg (by omega)],rfl⟩) a.length 0 () rfl (Nat.zero_le _) trivial
 rw [show ab gg (a,b,(0:Int))=_ from hy];rfl
theorem YS {B:Nat}{p:Int×Node}{x:HN}{s:Int}(hB:B<=900000000)(h:QL B p x)(ha:p.2.attrs.length<=1000000):NA ⟨(kn x).kind,(kn x).tag,(kn x).text,(kn x).attrs,s⟩ ⟨p.2.kind,p.2.tag,p.2.text,p.2.attrs,s⟩:=by
 have hq:=h.qa;have q1:=hq.bx;have q2:=hq.WC;have q3:=hq.len;have hka:(kn x).attrs=aH x.attrs∨(kn x).attrs=[]/\p.2.attrs=[]:=by
  by_cases h3:p.2.kind=3
  ·left;rw [CH (h.el.1 h3)]
  ·right;refine⟨?_,h.ne h3⟩
   have:x.ty≠3:=λe=>h3 (h.el.2 e)
   unfold kn;simp only [this,if_false];split
   ·rfl
   split
   ·rfl
   split
   ·rfl
   split <;> rfl
 have both:WR (kn x).attrs p.2.attrs/\WR p.2.attrs (kn x).attrs:=by
  rcases hka with e | ⟨e1,e2⟩
  ·rw [e];exact⟨⟨hq.uy,λk hk v hv=>by rw [hq.Ny k hk] at hv;exact hv,λw hw=>by rw [hq.wd];exact hw,by omega,ha,by omega,by omega⟩,⟨hq.ux,λk hk v hv=>by rw [hq.Ny k hk];exact hv,λw hw=>by rw [<- hq.wd];exact hw,ha,by omega,by omega,by omega⟩⟩
  ·rw [e1,e2]
   have:WR [] []:=⟨List.nodup_nil,λ_ _ _ h=>h,λ_ h=>h,by simp,by simp,by simp [cl,vl],by simp [cl,vl]⟩
   exact⟨this,this⟩
 exact⟨h.kd,h.tg,h.tx,rfl,both.1,both.2⟩
theorem An {B:Nat}(hB:B<=900000000){φ:Nat->Nat}{F G:Fo}{P:Nat->Int×Node}{M:Nat->HN}(h:vP (QL B) φ F P G M)(ha:∀ i,i<F.m->(P i).2.attrs.length<=1000000):∀ (n i:Nat),i<F.m->F2 NA (bH G.kids (λi=>kn (M i)) n (φ i)) (bH F.kids (λi=>(P i).2) n i)
 | 0,_,_ => .nil
 | n+1,i,hi=>by
  have S:=h.sH;have hl:∀ l:List Nat,(∀ c∈l,c<F.m)->F2 NA ((l.map φ).flatMap (bH G.kids (λi=>kn (M i)) n)) (l.flatMap (bH F.kids (λi=>(P i).2) n)):=by
   intro l
   induction l with
   | nil=>exact λ_ => .nil
   | cons c l ih =>
    intro hl;rw [List.map_cons,List.flatMap_cons,List.flatMap_cons];have app:∀ {a b c d:List Node},F2 NA a b->F2 NA c d->F2 NA (a++c) (b++d):=λ{a b c d} h h'=>by
     induction h with
     | nil=>exact h'
     | cons h _ ih=>exact .cons h ih
    exact app (An hB h ha n c (hl c (by simp))) (ih λd hd=>hl d (by simp [hd]))
  have hk:=hl (F.kids i) λc hc=>(S.okF.iG hc).2
  have hlen:((F.kids i).map φ |>.flatMap (bH G.kids (λi=>kn (M i)) n)).length=((F.kids i).flatMap (bH F.kids (λi=>(P i).2) n)).length:=by
   have:∀ {a b:List Node},F2 NA a b->a.length=b.length:=λ{a b} h=>by
    induction h with
    | nil=>rfl
    | cons _ _ ih=>simp [ih]
   exact this hk
  rw [bH,bH,S.kids i hi,hlen];exact .cons (YS hB (S.rN i hi) (ha i hi)) hk
theorem Ev {K:Nat->List Nat}{N:Nat->Node}:∀ n x:Nat,(bH K N n x).length=(cd K n x).length
 | 0,_=>rfl
 | n+1,x=>by
  rw [bH,cd,List.length_cons,List.length_cons]
  congr 1
  induction K x with
  | nil=>rfl
  | cons c l ih=>rw [List.flatMap_cons,List.flatMap_cons,List.length_append,List.length_append,ih,Ev n c]
theorem zz8 (l:Wd)(hl:l.length<=2147483647)(hc:∀ c∈l,c.length<=2147483647):nN l=some true:=by
 simp only [nN,aa];rw [if_neg (by omega)];obtain⟨y,hy,rfl⟩:=js (body:=iV) (n:=l.length) (λ(j:Nat) (_:Unit)=>(l,(l.length:Int),(j:Int))) (λ_ _=>True) (λy=>y = .inl ()) (λj _ hj _=>by
  obtain⟨x,hx⟩:=ay hj
  have:=hc x (List.mem_of_getElem? hx)
  left;refine⟨(),?_,trivial⟩;simp only [iV,aa,ad,hx,bind_some];rw [if_pos (by omega),if_neg (by omega),cD (by omega) (by omega)]
  rfl) (λ_ _=>⟨_,by
  simp only [iV,aa];rw [if_neg (by omega)],rfl⟩) l.length 0 () rfl (Nat.zero_le _) trivial
 rw [show ab iV (l,(l.length:Int),(0:Int))=_ from hy];rfl
theorem zz9 (l:List K9)(hl:l.length<=2147483647)(hc:∀ s∈l,Gf s):lQ l=some true:=by
 simp only [lQ,aa];rw [if_neg (by omega)];obtain⟨y,hy,rfl⟩:=js (body:=iW) (n:=l.length) (λ(j:Nat) (_:Unit)=>(l,(l.length:Int),(j:Int))) (λ_ _=>True) (λy=>y = .inl ()) (λj _ hj _=>by
  obtain⟨⟨op,on,wi,k,v,cs⟩,hx⟩:=ay hj;obtain⟨a1,a2,a3,a4,a5⟩:=hc _ (List.mem_of_getElem? hx);have t1:=oZ cs;have h8:=zz8 cs (by simp only at a5;omega) λc hc=>by have:=yz hc;simp only at a5;omega
  simp only at a1 a2 a3 a4 a5;have Mo:mR (op,on,wi,k,v,cs)=some true:=by simp only [mR,aa,h8,bind_some];rw [if_neg (by omega),if_neg (by omega),if_neg (by omega),if_neg (by omega)];rfl
  left;refine⟨(),?_,trivial⟩;simp only [iW,aa,ad,hx,bind_some,Mo,Bool.not_true,cond_false];rw [if_pos (by omega),cD (by omega) (by omega)]
  rfl) (λ_ _=>⟨_,by
  simp only [iW,aa];rw [if_neg (by omega)],rfl⟩) l.length 0 () rfl (Nat.zero_le _) trivial
 rw [show ab iW (l,(l.length:Int),(0:Int))=_ from hy];rfl
theorem zN (t:List Node)(s1 s2:List K9)(h1:s1.length<=1048576)(h2:s2.length<=1048576)(o1:∀ s∈s1,Gf s)(o2:∀ s∈s2,Gf s):iQ (t,s1,s2)=some true:=by
 simp only [iQ,zz1,zz9 s1 (by omega) o1,zz9 s2 (by omega) o2,bind_some,Bool.not_true,cond_false,aa];cases hf:w8 t with
 | false=>rfl
 | true =>
  simp only [Bool.not_true,cond_false]
  by_cases l1:s1.length<=4
  ·by_cases l2:s2.length<=4
   ·rw [if_neg (by omega),if_neg (by omega)];obtain⟨VI,at1,b1,c1,d1⟩:=Iz hf o1 l1;obtain⟨aeL,at2,b2,c2,d2⟩:=Iz hf o2 l2;simp only [c1,c2,bind_some];cases b1 with
    | false=>rfl
    | true =>
     cases b2 with
     | false=>rfl
     | true =>
      obtain⟨hR,F1,P1,A1,B1,a1,i1,k1,e1⟩:=d1 rfl;obtain⟨_,F2',P2,A2,B2,a2,i2,k2,e2⟩:=d2 rfl;obtain⟨n,hb,hn⟩:=vf;obtain⟨G,M,φ,ψ,q1,q2,q3⟩:=Nm hf hR hb hn l1 l2 i1 i2 k1 k2;have j4:=hR.pos;have alike:∀ {nD:Nat->Nat} {F':Fo} {P':Nat->Int×Node} {A B:Nat} {out:List Node},A<=1000->vP (QL 20000000) nD F' P' G M->SI t.length A B F' P'->(∀ n,lY=n->out=bH F'.kids (λi=>(P' i).2) n 0)->ij (bH G.kids (λi=>kn (M i)) n (nD 0),out)=some true:=λ{nD F' P' A B out} hA hB hI ho=>by
       rw [ho n hb];have fm:0<F'.m:=Nat.lt_of_lt_of_le j4 hI.le;have hm6:=hI.m;refine Qz (An (by omega) hB (λi hi=>?_) n 0 fm) ?_
       ·have:=hI.at_ i hi;omega
       ·rw [Ev,oY,hB.sH.lW fm,<- oY];obtain⟨r,hr⟩:=hI.rk.down hI.ok
        have:=yJ hI.ok hr n (x:=0) fm
        omega
      simp only [Bool.not_true,cond_false,q1,bind_some,cond_true,alike a1 q2 i1 e1,alike a2 q3 i2 e2]
   ·rw [if_neg (by omega),if_pos (by omega)]
  ·rw [if_pos (by omega)]
end Go.Proofs.YtngabkipchpmpaaGreat.V
namespace Go.Proofs.YtngabkipchpmpaaGreat.V
open Go Go.WideShapes Go.ChangeShapes Go.ChangeAt Go.RowKit
section
variable {H:Type}
theorem IA (d:DataW H):1<=Rows.uptoBulk d:=by
 cases d with
 | lit l=>cases l <;> simp [Rows.uptoBulk]
 | nil=>simp [Rows.uptoBulk]
 | ptr d=>simp [Rows.uptoBulk]
 | slice e s=>simp [Rows.uptoBulk]
 | agg p=>simp [Rows.uptoBulk]
 | iface n d=>simp [Rows.uptoBulk]
 | map e=>simp [Rows.uptoBulk]
 | held h=>simp [Rows.uptoBulk]
theorem CK:∀ l:List (DataW H),Rows.uptoBulkAll l=(l.map Rows.uptoBulk).sum
 | []=>rfl
 | d::r=>by rw [Rows.uptoBulkAll,CK r];rfl
theorem Gi:∀ {l:List Nat} {n:Nat},n∈l->n<=l.sum
 | a::l,n,h=>by
  rw [List.sum_cons];rcases List.mem_cons.1 h with rfl | h
  ·omega
  ·have:=Gi h;omega
theorem CL {l:List (DataW H)}{d:DataW H}(h:d∈l):Rows.uptoBulk d<=Rows.uptoBulkAll l:=by rw [CK];exact Gi (List.mem_map.2 ⟨d,h,rfl⟩)
end
theorem mapM_mem {α β:Type}{f:α->Option β}:∀ {l:List α} {xs:List β},l.mapM f=some xs->∀ a∈l,∃ y∈xs,f a=some y
 | [],_,_,_,h=>by cases h
 | b::l,xs,h,a,ha=>by
  rw [List.mapM_cons] at h;obtain⟨y,hy,h⟩:=Option.bind_eq_some_iff.1 h;obtain⟨ys,OI,h⟩:=Option.bind_eq_some_iff.1 h;have h:y::ys=xs:=Option.some.inj h;subst h;rcases List.mem_cons.1 ha with rfl | ha
  ·exact⟨y,by simp,hy⟩
  ·obtain⟨z,hz,e⟩:=mapM_mem OI a ha;exact⟨z,by simp [hz],e⟩
section
variable {P:Program}{t T:TypeId}{e:E}
def ZE (P:Program)(t:TypeId)(e:E)(p:e.T->Nat->Prop):Prop:=∀ {H:Type} (enc:TypeId×Value->H) (w:World) (base:Nat) (spare:Nat->Bool) (held:Bool) (fuel:Nat) (cs:List Value) (y:DataW H×List MemPlace),DataW.trod enc P w base spare held fuel t cs=some y->∃ x:e.T,Rd (F0 w.heap) (e.enc x) cs/\p x (Rows.uptoBulk y.1)
def QB (P:Program)(t:TypeId)(e:E)(p:e.T->Nat->Prop):Prop:=∀ {H:Type} (enc:TypeId×Value->H) (w:World) (base:Nat) (spare:Nat->Bool) (held:Bool) (fuel:Nat) (cs:List Value) (y:DataW H×List MemPlace),DataW.trod enc P w base spare held fuel t cs=some y ->
 ∃ (xs:List e.T) (ns:List Nat),Rd (F0 w.heap) [.aB e xs] cs/\ns.length=xs.length/\(∀ (i:Nat) (x:e.T) (n:Nat),xs[i]?=some x->ns[i]?=some n->p x n)/\(∀ n∈ns,1<=n)/\ns.sum<=Rows.uptoBulk y.1
theorem LB (hu:P.underlying t=some (.int .i64)):ZE P t .int λ_ n=>1<=n:=λenc w base spare held fuel cs y h=>by obtain⟨n,rfl,_⟩:=K.N0 hu h;exact⟨n, .int .nil,IA _⟩
theorem Gj (hu:P.underlying t=some .string):ZE P t .str λs n=>s.length+1<=n:=λenc w base spare held fuel cs y h=>by obtain⟨s,rfl,rfl,_⟩:=DataW.trod_string hu h;exact⟨s.data.toList, .str .nil,by simp [Rows.uptoBulk]⟩
theorem Gk {p:e.T->Nat->Prop}{sz:Nat}(hu:P.underlying T=some (.slice t))(hc:P.cellsOf t=sz)(hs:sz=e.sz)(hr:ZE P t e p):QB P T e p:=λenc w base spare held fuel cs y h=>by
 obtain⟨fu,h1⟩:=K.GI hu h;rcases DataW.trod_slice hu h with⟨rfl,rfl⟩ | ⟨a,len,cap,elems,rest,n,rfl,rfl,rfl,hb,k1,k2,k3,k4,_⟩
 ·exact⟨[],[], .aB (λ_=>[]) (Nat.le_refl _) (λi x hx=>by simp at hx) (λi x hx=>by simp at hx) .nil,rfl,λi x n hx=>by simp at hx,λn hn=>by simp at hn,Nat.zero_le _⟩
 ·rcases h1 with h1 | ⟨a',aeM,aeN,h1,g1,g2,g3⟩
  ·cases h1
  ·cases h1;subst hs;rw [hc] at g3 k4;have j4:=EH e;obtain⟨xs,hl,hx⟩:=K.xh (λi (x:e.T)=>(∃ cs,some a=some ⟨K.lb (some a),K.ka (some a),none⟩/\jO (F0 w.heap) (K.lb (some a)) (K.ka (some a)+i*e.sz) cs/\Rd (F0 w.heap) (e.enc x) cs)/\∀ d,elems[i]?=some d->p x (Rows.uptoBulk d.1)) len (λi hi=>by have hi4:=k4 i hi;rw [List.getElem?_eq_getElem (by omega)] at hi4;obtain⟨ys,DB,Gp⟩:=Option.bind_eq_some_iff.1 hi4;obtain⟨zs,z,XO,XP⟩:=g3 0 (by omega);obtain⟨q1,q2,q3⟩:=K.GG j4 ⟨zs,XO⟩ DB;obtain⟨x,hx,hxp⟩:=hr enc w base spare held n ys _ Gp;refine⟨x,⟨ys,q1,zm q3,hx⟩,λd hd=>?_⟩;rw [List.getElem?_eq_getElem (by omega)] at hd;cases hd;exact hxp)
   refine⟨xs,elems.map λd=>Rows.uptoBulk d.1,?_,by simp;omega,λi x n XQ hn=>?_,λn hn=>?_,?_⟩
   ·rw [<- hl];exact Rd.GZ (by omega) λi x XQ=>(hx i x XQ).1
   ·rw [List.getElem?_map] at hn;obtain⟨d,hd,rfl⟩:=Option.map_eq_some_iff.1 hn;exact (hx i x XQ).2 d hd
   ·obtain⟨d,_,rfl⟩:=List.mem_map.1 hn;exact IA _
   ·have e1:Rows.uptoBulk (DataW.slice (elems.map (·.1)) (rest.map (·.1)))=Rows.uptoBulkAll (elems.map (·.1))+Rows.uptoBulkAll (rest.map (·.1))+1:=by simp [Rows.uptoBulk]
    show _<=Rows.uptoBulk (DataW.slice (elems.map (·.1)) (rest.map (·.1)));rw [e1,CK,List.map_map];show (elems.map λd=>Rows.uptoBulk d.1).sum<=(elems.map λd=>Rows.uptoBulk d.1).sum+_+1;omega
theorem Bo:∀ {ns:List Nat},(∀ n∈ns,1<=n)->ns.length<=ns.sum
 | [],_=>Nat.le_refl _
 | a::l,h=>by
  have h1:=h a (by simp)
  have:=Bo (ns:=l) λn hn=>h n (by simp [hn])
  rw [List.length_cons,List.sum_cons];omega
theorem LC:∀ {xs:Wd} {ns:List Nat},ns.length=xs.length->(∀ (i:Nat) (x:List UInt8) (n:Nat),xs[i]?=some x->ns[i]?=some n->x.length+1<=n)->pH xs<=ns.sum
 | [],_,_,_=>Nat.zero_le _
 | x::xs,[],h,_=>by simp at h
 | x::xs,n::ns,h,hp=>by
  have h1:=hp 0 x n rfl rfl
  have:=LC (xs:=xs) (ns:=ns) (by simpa using h) λi y m hy hm=>hp (i+1) y m (by simpa using hy) (by simpa using hm)
  rw [gY,List.sum_cons];omega
theorem J3 {H:Type}{enc:TypeId×Value->H}{w:World}{base:Nat}{spare:Nat->Bool}{held:Bool}{fuel:Nat}{cs:List Value}{x:DataW H×List MemPlace}{fs:Array Field}(hu:P.underlying t=some (.struct fs))(h:DataW.trod enc P w base spare held fuel t cs=some x) :
  ∃ GH,cs.length=P.cellsOf t/\∀ f∈fs.toList,∃ y,DataW.trod enc P w base spare held GH f.type ((cs.drop f.offset).take (P.cellsOf f.type))=some y/\Rows.uptoBulk y.1<=Rows.uptoBulk x.1:=by
 cases fuel with
 | zero=>simp [DataW.trod] at h
 | succ n =>
  refine⟨n,?_⟩;unfold DataW.trod at h;rw [hu] at h
  split at h <;> try (simp_all;done)
  rename_i fs' cs' he;simp only [Option.some.injEq,TypeDesc.struct.injEq] at he;subst he
  split at h
  ·rename_i hl;refine⟨hl,λf hf=>?_⟩;rw [Option.map_eq_some_iff] at h;obtain⟨xs,QD,rfl⟩:=h;obtain⟨y,hy,e⟩:=mapM_mem QD f hf;refine⟨y,e,?_⟩;have e1:Rows.uptoBulk (DataW.agg (xs.map (·.1)))=Rows.uptoBulkAll (xs.map (·.1))+1:=by simp [Rows.uptoBulk]
   show _<=Rows.uptoBulk (DataW.agg (xs.map (·.1)));rw [e1]
   have:=CL (List.mem_map.2 ⟨y,hy,rfl⟩:y.1∈xs.map (·.1))
   omega
  ·simp at h
abbrev YT:E := .rc (.int .i64) [.ints, .ints, .str, .str, .strs] 0
theorem QC {fs:Array Field}{ti ts tl tw:TypeId}(hu:P.underlying t=some (.struct fs))(hc:P.cellsOf t=6)(CP:fs.toList.map (λf=>(f.type,f.offset))=[(ti,0),(tl,1),(tl,2),(ts,3),(ts,4),(tw,5)])(ui:P.underlying ti=some (.int .i64))(us:P.underlying ts=some .string)(ci:P.cellsOf ti=1)(cs':P.cellsOf ts=1)(cl:P.cellsOf tl=1)(cw:P.cellsOf tw=1)
  (hl:QB P tl .int λ_ n=>1<=n) (hw:QB P tw .str λs n=>s.length+1<=n):ZE P t YT λs n=>n<=1048576->Gf s:=λenc w base spare held fuel cs y h=>by
 obtain⟨fu,h1,h2⟩:=J3 hu h;rw [hc] at h1
 match cs,h1 with
 | [a,b,c,d,e,g],_ =>
  obtain⟨f0,hf0,e0,o0⟩:=ma CP (p:=(ti,0)) (by simp);obtain⟨f1,RS,e1,o1⟩:=ma CP (p:=(tl,1)) (by simp);obtain⟨f2,W_,e2,o2⟩:=ma CP (p:=(tl,2)) (by simp);obtain⟨f3,hf3,e3,o3⟩:=ma CP (p:=(ts,3)) (by simp);obtain⟨f4,hf4,e4,o4⟩:=ma CP (p:=(ts,4)) (by simp);obtain⟨f5,hf5,e5,o5⟩:=ma CP (p:=(tw,5)) (by simp);obtain⟨y0,Rq,b0⟩:=h2 f0 hf0;obtain⟨y1,DB,b1⟩:=h2 f1 RS;obtain⟨y2,Gp,b2⟩:=h2 f2 W_;obtain⟨y3,XR,b3⟩:=h2 f3 hf3;obtain⟨y4,XS,b4⟩:=h2 f4 hf4;obtain⟨y5,hy5,b5⟩:=h2 f5 hf5;rw [e0,o0,ci] at Rq;rw [e1,o1,cl] at DB;rw [e2,o2,cl] at Gp;rw [e3,o3,cs'] at XR;rw [e4,o4,cs'] at XS;rw [e5,o5,cw] at hy5;obtain⟨x0,Kx,_⟩:=LB ui enc w base spare held fu _ y0 Rq;obtain⟨x1,n1,hx1,l1,_,q1,s1⟩:=hl enc w base spare held fu _ y1 DB;obtain⟨x2,n2,XT,l2,_,q2,s2⟩:=hl enc w base spare held fu _ y2 Gp;obtain⟨x3,hx3,s3⟩:=Gj us enc w base spare held fu _ y3 XR;obtain⟨x4,hx4,s4⟩:=Gj us enc w base spare held fu _ y4 XS;obtain⟨x5,n5,hx5,l5,p5,_,s5⟩:=hw enc w base spare held fu _ y5 hy5;have t1:=Bo q1;have t2:=Bo q2;have t5:=LC l5 p5;exact⟨(x0,x1,x2,x3,x4,x5),Kx.cons (hx1.cons (XT.cons (hx3.cons (hx4.cons hx5)))),λhn=>⟨by show x1.length<=_;omega,by show x2.length<=_;omega,by show x3.length<=_;omega,by show x4.length<=_;omega,by show pH x5<=_;omega⟩⟩
variable {H:Type}{enc:TypeId×Value->H}{w:World}{base b0:Nat}{spare:Nat->Bool}{held:Bool}{v:Value}{d:DataW H}{ps:List MemPlace}
theorem Ew (hu:P.underlying T=some (.slice t))(hr:QB P T YT λs n=>n<=1048576->Gf s)(Az:Value.okWide P w .any b0 T v)(hd:DataW.Trod enc P w base spare held T v d ps)(hb:Rows.uptoBulk d<=1048576):∃ xs:List K9,Rd (F0 w.heap) [.aB YT xs] [v]/\xs.length<=1048576/\∀ s∈xs,Gf s:=by
 obtain⟨q0,XU,XV,rfl⟩:=okWide_slice hu Az;obtain⟨fuel,hf⟩:=hd;obtain⟨xs,ns,h1,h2,h3,h4,h5⟩:=hr enc w base spare held fuel _ _ hf;have h1:Rd (F0 w.heap) [.aB YT xs] [.slice q0 XU XV]:=by simpa [Value.cells] using h1
 have h6:=Bo h4;have h5:ns.sum<=Rows.uptoBulk d:=h5;refine⟨xs,h1,by rw [<- h2];omega,λs hs=>?_⟩;obtain⟨i,hi⟩:=List.mem_iff_getElem?.1 hs;have K6:=(List.getElem?_eq_some_iff.1 hi).1;obtain⟨n,hn⟩:=ay (l:=ns) (k:=i) (by omega);refine h3 i s n hi hn ?_
 have:=Gi (List.mem_of_getElem? hn)
 omega
end
end Go.Proofs.YtngabkipchpmpaaGreat.V
