/-
  Plain facts and an evaluator for what a law needs.
-/
import Derived.Test.YtngabkipchpmpaaGreatProg
import Derived.Test.YtngabkipchpmpaaGreatQ2
set_option linter.unusedVariables false
set_option linter.unusedSimpArgs false
namespace Go.Proofs.YtngabkipchpmpaaGreat.V
open Go K
section
variable {P:Program}{C:Cx}{R:Type}{F F' F1:iH}{ι ι' gS:Gh}{s s':St}{ρ:List Value}{d:D}{v:Value}{t dt:Nat}{L0:List gJ}{r:R}{dst:Option Tmp}{ty:TypeId}{p:String}{af:Array Edge}{gd:Option (Nat×Bool)}{h:Array Obj}
def M1 (F:iH)(ι:Gh)(i:Nat)(k:Kd)(x:k.T)(v:Value):Prop:=kQ F ι (a7 i k x).1 v/\∀ q∈(a7 i k x).2,kS F ι q.1 q.2
theorem KE {i j n:Nat}(e:ι' j=ι i):∀ {f:FX} {x:f.T} {v:Value},(f = .own->ι' (j3 j n)=ι (j3 i n))->jM F ι (f.enc i n x) v->jM F ι' (f.enc j n x) v
 | .fl f,x,v,_,h => .aU (jM.mn h (xX f x))
 | .own,_,v,hs,h=>by have h:v=(ι (j3 i n)).1:=h;show v=(ι' (j3 j n)).1;rw [hs rfl];exact h
 | .self,b,v,_,h=>by obtain⟨B,h1,h2⟩:=h;exact⟨B,by rw [e];exact h1,h2⟩
theorem vz {n:Nat}{f:FX}{fs:List FX}(h:f = .own):n∈qI n (f::fs):=by subst h;simp [qI]
theorem BN {n k:Nat}{f:FX}{fs:List FX}(h:k∈qI (n+1) fs):k∈qI n (f::fs):=by cases f <;> simp [qI,h]
theorem Jl {i j:Nat}(e:ι' j=ι i):∀ {n:Nat} {fs:List FX} {x:Re fs} {cs:List Value},(∀ k∈qI n fs,ι' (j3 j k)=ι (j3 i k))->F2 (jM F ι) (so i n fs x) cs->F2 (jM F ι') (so j n fs x) cs
 | _,[],_,_,_, .nil => .nil
 | n,[f],x,_,hs, .cons h .nil => .cons (KE e (λhf=>hs n (vz hf)) h) .nil
 | n,f::g::fs,x,_,hs, .cons h t => .cons (KE e (λhf=>hs n (vz hf)) h) (Jl (n:=n+1) (fs:=g::fs) e (λk hk=>hs k (BN hk)) t)
theorem M1.ren {i j:Nat}{k:Kd}{x:k.T}{nb:Bool}(h:M1 F ι i k x v)(hA:k.Rg nb=true)(e:ι' j=ι i)(hs:∀ y∈k.Rf,ι' (j3 j y)=ι (j3 i y))(hj:i=NT->j=NT)(Nv:nb=true->ι' NT=ι NT):M1 F ι' j k x v:=by
 cases k with
 | dI i0 jj e' T =>
  obtain⟨_,h2⟩:=h;obtain⟨q,n,cp,rows,a,b,c⟩:=h2 (i, .rows e' T x) (by simp [a7]);refine⟨trivial,λq' hq=>?_⟩;simp only [a7,List.mem_singleton] at hq;subst hq;exact⟨q,n,cp,rows,by rw [e];exact a,by rw [e];exact b,c⟩
 | dA T fs =>
  obtain⟨h1,h2⟩:=h;obtain⟨B,g1,g2⟩:=h1;obtain⟨B',cs,a,b,c⟩:=h2 (i, .cells T (so i 0 fs x)) (by simp [a7]);refine⟨⟨B,by rw [e];exact g1,g2⟩,λq' hq=>?_⟩;simp only [a7,List.mem_singleton] at hq;subst hq;exact⟨B',cs,by rw [e];exact a,by rw [e];exact b,Jl e hs c⟩
 | CV f T fs es =>
  obtain⟨h1,h2⟩:=h;obtain⟨B,Nu,g1,g2,g3⟩:=h1;obtain⟨B',cs,a,b,c⟩:=h2 (i, .cells T (so i 0 fs x.1)) (by simp [a7]);refine⟨⟨B,Nu,by rw [e];exact g1,g2,g3⟩,λq' hq=>?_⟩;simp only [a7,List.mem_singleton] at hq;subst hq;exact⟨B',cs,by rw [e];exact a,by rw [e];exact b,Jl e hs c⟩
 | ns cl T A =>
  obtain⟨h1,h2⟩:=h;obtain⟨h0,j6,a,b,c⟩:=h2 (i, .nodes cl T A x none) (by simp [a7]);refine⟨trivial,λq' hq=>?_⟩;simp only [a7,List.mem_singleton] at hq;subst hq;exact⟨hj h0,j6,by rw [e];exact a,by rw [e];exact b,c⟩
 | mz cl =>
  obtain⟨h1,h2⟩:=h;obtain⟨a,b⟩:=h2 (i, .oD cl x) (by simp [a7]);refine⟨trivial,λq' hq=>?_⟩;simp only [a7,List.mem_singleton] at hq;subst hq;exact⟨by rw [e];exact a,b⟩
 | own e' T =>
  obtain⟨h1,h2⟩:=h;have h1:v=(ι i).1:=h1;obtain⟨q,n,cp,rows,a,b,c⟩:=h2 (i, .rows e' T x) (by simp [a7]);refine⟨by show v=(ι' j).1;rw [e];exact h1,λq' hq=>?_⟩;simp only [a7,List.mem_singleton] at hq;subst hq;exact⟨q,n,cp,rows,by rw [e];exact a,by rw [e];exact b,c⟩
 | lb e' T =>
  obtain⟨h1,h2⟩:=h;obtain⟨B,g1,g2⟩:=h1;obtain⟨B',cs,a,b,c⟩:=h2 (i, .cells T (e'.enc x)) (by simp [a7]);refine⟨⟨B,by rw [e];exact g1,g2⟩,λq' hq=>?_⟩;simp only [a7,List.mem_singleton] at hq;subst hq;exact⟨B',cs,by rw [e];exact a,by rw [e];exact b,(c.rd (y_ _ _)).f2⟩
 | al j=>cases hA
 | QF=>cases hA
 | vo =>
  refine⟨?_,λq hq=>by simp [a7] at hq⟩;show L5 (ι' NT).1 x v;rw [Nv hA];exact h.1
 | mp =>
  obtain⟨h1,h2⟩:=h;have h1:v=(ι i).1:=h1;obtain⟨B,cs,a,b,c⟩:=h2 (i, .mp x) (by simp [a7]);refine⟨by show v=(ι' j).1;rw [e];exact h1,λq' hq=>?_⟩;simp only [a7,List.mem_singleton] at hq;subst hq;exact⟨B,cs,by rw [e];exact a,by rw [e];exact b,c⟩
 | ug =>
  obtain⟨h1,h2⟩:=h;obtain⟨B,g1,g2⟩:=h1;obtain⟨B',a,b⟩:=h2 (i, .ug x.1 x.2) (by simp [a7]);refine⟨⟨B,by rw [e];exact g1,g2⟩,λq' hq=>?_⟩;simp only [a7,List.mem_singleton] at hq;subst hq;exact⟨B',by rw [e];exact a,by rw [e];exact b⟩
 | _=>exact⟨h.1,λq hq=>by simp [a7] at hq⟩
theorem M1.mono {i:Nat}{k:Kd}{x:k.T}(h:M1 F ι i k x v)(hf:F.le F')(hn:F'.fF=F.fF):M1 F' ι i k x v:=⟨h.1.mono hf,λq hq=>(h.2 q hq).mono hf λ_=>hn⟩
def D.still:D->Bool
 | .int _ _=>true | .bool _=>true | .str _=>true | .np _=>true | .kA=>true | .nil=>true | .any=>true | .err _=>true
 | _=>false
theorem nJ (hn:F'.fF=F.fF):∀ {ds:List D} {vs:List Value},ds.all D.still=true->Rd F ds vs->Rd F' ds vs
 | [],_,_,h=>by cases h;exact .nil
 | d::ds,_,hd,h=>by obtain⟨v,BA,rfl,h1,h2⟩:=h.az;rw [List.all_cons,Bool.and_eq_true] at hd;have h3:=nJ hn hd.2 h2;have h4:=hd.1;cases h1 <;> first | exact .int h3 | exact .bool h3 | exact .str h3 | exact .Ar h3 | exact .kA h3 | exact .I_ h3 | (rename_i hB _;exact .Gr (by rw [hn];exact hB) h3) | (rename_i h1 _;exact .any h1 h3) | (rename_i h1 _;exact .err h1 h3) | (simp [D.still] at h4)
theorem BO:∀ {f:Fl} {x:f.T},f.flat=true->(f.enc x).still=true:=by intro f x h;cases f <;> first | rfl | (simp [Fl.flat] at h)
theorem DR:∀ {f:Fl} {fs:List Fl} {x:CT f fs},f.flat=true->fs.all Fl.flat=true->(oC f fs x).all D.still=true
 | f,[],x,h,_=>by simp [oC,BO h]
 | f,g::fs,x,h,hs=>by rw [List.all_cons,Bool.and_eq_true] at hs;simp only [oC,List.all_cons,BO h,DR hs.1 hs.2,Bool.and_self]
theorem Mj:∀ {e:E} {x:e.T},e.flat=true->(e.enc x).all D.still=true:=by
 intro e x h;cases e with
 | rc f fs k =>
  simp only [E.flat,Bool.and_eq_true] at h;simp only [E.enc,List.all_append,DR h.1 h.2,Bool.true_and];simp [D.still]
 | node=>simp [E.flat] at h
 | _=>rfl
theorem yd {e:E}{x:e.T}{vs:List Value}(hn:F'.fF=F.fF)(hf:e.flat=true)(h:Rd F (e.enc x) vs):Rd F' (e.enc x) vs:=nJ hn (Mj hf) h
theorem NR.flat {T A:TypeId}{hole:Option Nat}(hn:F'.fF=F.fF):∀ {i:Nat} {hs:List (Cl.R .h)} {j6:List Value} {L:List gJ},NR F (c := .h) T A hole i hs j6 L->NR F' (c := .h) T A hole i hs j6 L
 | _,_,_,_, .nil => .nil
 | _,_,_,_, .cons hB hc h1 ha hh t => .cons (by rw [hn];exact hB) (nJ hn (by rfl) hc) h1 (λeH=>by obtain⟨q,n,cp,rows,a,b,c⟩:=(ha eH).own rfl;exact .mk a b (cT (λ_ _ h=>yd hn rfl h) c) rfl) hh (NR.flat hn t)
theorem DS:∀ {l:List (Option Nat×Bool)},(QG l).all D.still=true
 | []=>rfl
 | p::l=>by simp only [QG,List.all_cons,D.still,Bool.true_and];exact DS
theorem RB {i:Nat}(hn:F'.fF=F.fF):∀ {n:Nat} {fs:List FX} {x:Re fs} {cs:List Value},fs.all FX.flat=true->F2 (jM F ι) (so i n fs x) cs->F2 (jM F' ι) (so i n fs x) cs:=by
 have one:∀ {n:Nat} {f:FX} {x:f.T} {v:Value},f.flat=true->jM F ι (f.enc i n x) v->jM F' ι (f.enc i n x) v:=λ{n f x v} hf h=>by
  cases f with
  | fl f =>
   have T5:f.flat=true:=by cases f <;> first | rfl | (simp [FX.flat] at hf)
   exact .aU (nJ hn (by show (f.enc x::[]).all D.still=true;simp [BO T5]) (jM.mn h (xX f x)))
  | own=>exact h
  | self=>exact h
 intro n fs
 induction fs generalizing n with
 | nil=>intro x cs _ h;cases h;exact .nil
 | cons f fs ih =>
  intro x cs hf h;rw [List.all_cons,Bool.and_eq_true] at hf;cases fs with
  | nil =>
   cases h with
   | cons h t=>cases t;exact .cons (one hf.1 h) .nil
  | cons g fs =>
   cases h with
   | cons h t=>exact .cons (one hf.1 h) (ih hf.2 t)
theorem M1.flat {i:Nat}{k:Kd}{x:k.T}(hn:F'.fF=F.fF)(h:M1 F ι i k x v)(hk:k.flat=true):M1 F' ι i k x v:=by
 cases k with
 | int k=>exact⟨by have:=Rd.c_ h.1;rw [this];exact Rd.int .nil,λq hq=>by simp [a7] at hq⟩
 | bool=>exact⟨by have:=Rd.iD h.1;rw [this];exact Rd.bool .nil,λq hq=>by simp [a7] at hq⟩
 | str=>exact⟨by have:=Rd.g_ h.1;rw [this];exact Rd.str .nil,λq hq=>by simp [a7] at hq⟩
 | np=>exact⟨.aU (nJ hn (by rfl) (kQ.mn h.1 rfl)),λq hq=>by simp [a7] at hq⟩
 | any=>exact⟨.aU (nJ hn (by rfl) (kQ.mn h.1 rfl)),λq hq=>by simp [a7] at hq⟩
 | mT=>exact⟨by have:=Rd.uB h.1;rw [this];exact Rd.mT .nil,λq hq=>by simp [a7] at hq⟩
 | N_=>exact⟨by have:=Rd.nH h.1;rw [this];exact Rd.Ar .nil,λq hq=>by simp [a7] at hq⟩
 | emp =>
  obtain⟨cs,hv,nq⟩:=Rd.qd h.1;exact⟨by rw [hv];exact Rd.agg (nJ hn (by rfl) nq) .nil,λq hq=>by simp [a7] at hq⟩
 | aB e=>simp [Kd.flat] at hk
 | fp e=>simp [Kd.flat] at hk
 | mq f es=>simp [Kd.flat] at hk
 | zQ T e=>simp [Kd.flat] at hk
 | N9 k n=>exact⟨by have:=Rd.c_ h.1;rw [this];exact Rd.int .nil,λq hq=>by simp [a7] at hq⟩
 | mA=>exact⟨by have:=Rd.G9 h.1;rw [this];exact Rd.mA .nil,λq hq=>by simp [a7] at hq⟩
 | vR=>exact⟨by have:=Rd.Ro h.1;rw [this];exact Rd.vR .nil,λq hq=>by simp [a7] at hq⟩
 | mz c=>simp [Kd.flat] at hk
 | err=>exact⟨.aU (nJ hn (by rfl) (kQ.mn h.1 rfl)),λq hq=>by simp [a7] at hq⟩
 | CV f T fs es=>simp [Kd.flat] at hk
 | dI i0 j e T =>
  refine⟨trivial,λq hq=>?_⟩
  have:=h.2 q hq
  simp only [a7,List.mem_singleton] at hq;subst hq;obtain⟨q,n,cp,rows,a,b,c⟩:=this;exact⟨q,n,cp,rows,a,b,cT (λ_ _ h=>yd hn hk h) c⟩
 | dA T fs =>
  refine⟨h.1,λq hq=>?_⟩
  have:=h.2 q hq
  simp only [a7,List.mem_singleton] at hq;subst hq;obtain⟨B,cs,a,b,c⟩:=this;exact⟨B,cs,a,b,RB hn hk c⟩
 | al j=>exact⟨h.1,λq hq=>by simp [a7] at hq⟩
 | QF=>exact⟨h.1,λq hq=>by simp [a7] at hq⟩
 | vo=>exact⟨h.1,λq hq=>by simp [a7] at hq⟩
 | mp =>
  refine⟨h.1,λq hq=>?_⟩
  have:=h.2 q hq
  simp only [a7,List.mem_singleton] at hq;subst hq;obtain⟨B,cs,a,b,c⟩:=this;exact⟨B,cs,a,b,nJ hn DS c⟩
 | ug=>exact⟨h.1,λq hq=>by
  have:=h.2 q hq
  simp only [a7,List.mem_singleton] at hq;subst hq;exact this⟩
 | ns cl T A =>
  cases cl with
  | k=>simp [Kd.flat] at hk
  | h =>
  refine⟨trivial,λq hq=>?_⟩
  have:=h.2 q hq
  simp only [a7,List.mem_singleton] at hq;subst hq;obtain⟨h0,j6,a,b,c⟩:=this;exact⟨h0,j6,a,b.flat hn,by rw [hn];exact c⟩
 | el e =>
  obtain⟨cs,hv,nq⟩:=Rd.qd h.1;exact⟨by rw [hv];exact Rd.agg (yd hn hk nq) .nil,λq hq=>by simp [a7] at hq⟩
 | own e T =>
  refine⟨h.1,λq hq=>?_⟩
  have:=h.2 q hq
  simp only [a7,List.mem_singleton] at hq;subst hq;obtain⟨q,n,cp,rows,a,b,c⟩:=this;exact⟨q,n,cp,rows,a,b,cT (λ_ _ h=>yd hn hk h) c⟩
 | lb e T =>
  refine⟨h.1,λq hq=>?_⟩
  have:=h.2 q hq
  simp only [a7,List.mem_singleton] at hq;subst hq;obtain⟨B,cs,a,b,c⟩:=this;exact⟨B,cs,a,b,(yd hn hk (c.rd (y_ _ _))).f2⟩
def MP (F:iH)(ι:Gh)(ρ:Nat->Value):(p:Pt)->er p->Prop
 | [],_=>True
 | [q],x=>M1 F ι q.1 q.2 x (ρ q.1)
 | q::q'::ps,x=>M1 F ι q.1 q.2 x.1 (ρ q.1)/\MP F ι ρ (q'::ps) x.2
theorem MP.mono {ρ:Nat->Value}(hn:F'.fF=F.fF):∀ {p:Pt} {x:er p},MP F ι ρ p x->F.le F'->MP F' ι ρ p x
 | [],_,_,_=>trivial
 | [_],_,h,hf=>M1.mono h hf hn
 | _::q'::ps,_,h,hf=>⟨h.1.mono hf hn,MP.mono hn (p:=q'::ps) h.2 hf⟩
theorem MP.flat {ρ:Nat->Value}(hn:F'.fF=F.fF):∀ {p:Pt} {x:er p},MP F ι ρ p x->(p.all λq=>q.2.flat)=true->MP F' ι ρ p x
 | [],_,_,_=>trivial
 | [_],_,h,hf=>M1.flat hn h (by simpa using hf)
 | _::q'::ps,_,h,hf=>by rw [List.all_cons,Bool.and_eq_true] at hf;exact⟨h.1.flat hn hf.1,MP.flat hn (p:=q'::ps) h.2 hf.2⟩
theorem BP {i:Nat}{k:Kd}{x:k.T}:∀ q∈(a7 i k x).2,q.1=i:=by intro q hq;cases k <;> simp [a7] at hq <;> rw [hq]
theorem RC {i:Nat}{k:Kd}{x:k.T}:(a7 i k x).2.length<=1:=by cases k <;> simp [a7]
theorem vA:∀ {p:Pt} {x:er p},∀ q∈jb p x,q.1∈p.map (·.1)
 | [],_,q,hq=>by simp [jb] at hq
 | [_],_,q,hq=>by simp [BP q hq]
 | q0::q'::ps,x,q,hq=>by
  rcases List.mem_append.1 hq with hq | hq
  ·simp [BP q hq]
  ·have:=vA (p:=q'::ps) q hq
   simp only [List.map_cons,List.mem_cons] at this ⊢;exact .inr this
theorem gK:∀ {l:List Nat},mu l=true->l.Nodup
 | [],_ => .nil
 | t::ts,h=>by simp only [mu,Bool.and_eq_true,Bool.not_eq_true',List.any_eq_false,beq_iff_eq] at h;exact List.nodup_cons.2 ⟨λlH=>h.1 t lH rfl,gK h.2⟩
theorem DT {i:Nat}{k:Kd}{x:k.T}:(((a7 i k x).2).map (·.1)).Nodup:=by
 have h1:=RC (i:=i) (k:=k) (x:=x);generalize (a7 i k x).2=l at *
 match l,h1 with
 | [],_=>exact .nil
 | [a],_=>simp
theorem xp:∀ {p:Pt} {x:er p},(p.map (·.1)).Nodup->((jb p x).map (·.1)).Nodup
 | [],_,_ => .nil
 | [q],x,_=>DT
 | q::q'::ps,x,hn=>by rw [List.map_cons,List.nodup_cons] at hn;show (((a7 q.1 q.2 x.1).2++jb (q'::ps) x.2).map (·.1)).Nodup;rw [List.map_append,List.nodup_append];refine⟨DT,xp hn.2,λa ha b hb e=>?_⟩;subst e;obtain⟨c,hc,rfl⟩:=List.mem_map.1 ha;obtain⟨e,he,hee⟩:=List.mem_map.1 hb;have h1:=BP c hc;have h2:=vA e he;rw [hee,h1] at h2;exact hn.1 h2
theorem MP.ow {ρ:Nat->Value}:∀ {p:Pt} {x:er p},MP F ι ρ p x->∀ q∈jb p x,kS F ι q.1 q.2
 | [],_,_,q,hq=>by simp [jb] at hq
 | [_],_,h,q,hq=>h.2 q hq
 | _::q'::ps,_,h,q,hq=>by
  rcases List.mem_append.1 hq with hq | hq
  ·exact h.1.2 q hq
  ·exact MP.ow (p:=q'::ps) h.2 q hq
theorem MP.sl {ρ:Nat->Value}:∀ {p:Pt} {x:er p},MP F ι ρ p x->∀ i,kQ F ι (Of p x i) (ρ i)
 | [],_,_,i=>trivial
 | [q],x,h,i=>by
  simp only [Of]
  by_cases e:i=q.1
  ·subst e;simp;exact h.1
  ·have:(i == q.1)=false:=by simp [e]
   rw [this];trivial
 | q::q'::ps,x,h,i=>by
  simp only [Of]
  by_cases e:i=q.1
  ·subst e;simp;exact h.1.1
  ·have:(i == q.1)=false:=by simp [e]
   rw [this];exact MP.sl (p:=q'::ps) h.2 i
theorem MP.rel {n np:Nat}{nw:Bool}{p:Pt}{x:er p}(h:MP F ι (λi=>ρ.getD i undef) p x)(hn:(p.map (·.1)).Nodup)(hl:ρ.length=n):Rel F ι (Nq n np nw p x) ρ:=⟨hl,h.sl,h.ow,xp hn⟩
def Xs (s:St)(i:Nat):D:=if SB<=i then CW s ((i - SB) / 64) ((i - SB) % 64) else s.sl i
def uH (ι:Gh)(s:St):Gh:=λi=>if i=gZ then ((ι i).1,[]) else if (s.np / 1000<=i/\i<s.np % 1000)∨i=NT then ι i else match Xs s i with
 | .own t=>ι t
 | .op t _=>ι t
 | .mU _ t _=>ι t
 | .nil=>(.slice none 0 0,[])
 | _=>ι i
theorem U6 {i:Nat}(h:s.np / 1000<=i/\i<s.np % 1000):(uH ι s i).1=(ι i).1:=by
 unfold uH;split
 ·rfl
 ·rw [if_pos (.inl h)]
theorem zg:uH ι s NT=ι NT:=by unfold uH;rw [if_neg (by decide),if_pos (.inr rfl)]
theorem EX:(uH ι s gZ).2=[]:=by unfold uH;rw [if_pos rfl]
theorem EY {np i:Nat}:xk np i=true↔¬ (np / 1000<=i/\i<np % 1000):=by simp only [xk,Bool.or_eq_true,Nat.ble_eq,Nat.blt_eq];omega
theorem OL {i:Nat}(h:Nat.ble gZ i=false):i<gZ:=by
 rcases Nat.lt_or_ge i gZ with h1 | h1
 ·exact h1
 ·rw [Nat.ble_eq_true_of_le h1] at h;cases h
theorem OM:gZ<SB:=by decide
theorem ON {i:Nat}(h:i<gZ):Xs s i=s.sl i:=by unfold Xs;rw [if_neg (by have:=OM;omega)]
theorem j7 {i o t:Nat}(hc:((xk s.np i || t == i) && !(i == NT) && !(Nat.ble gZ i))=true)(hk:s.sl i = .own t∨s.sl i = .op t o∨∃ f cs,s.sl i = .mU f t cs):uH ι s i=ι t:=by
 simp only [Bool.and_eq_true,Bool.or_eq_true,EY,beq_iff_eq,Bool.not_eq_true',beq_eq_false_iff_ne] at hc;obtain⟨⟨hc,h1⟩,h2⟩:=hc;have h2:=OL h2;unfold uH;rw [if_neg (by omega)];split
 ·rename_i jC;rcases jC with jC | jC
  ·rcases hc with hc | hc
   ·omega
   ·rw [hc]
  ·exact absurd jC h1
 ·rw [ON h2];rcases hk with hk | hk | ⟨f,cs,hk⟩ <;> rw [hk]
theorem EZ {i:Nat}(hc:(xk s.np i && !(i == NT) && !(Nat.ble gZ i))=true)(hk:s.sl i = .nil):uH ι s i=(.slice none 0 0,[]):=by simp only [Bool.and_eq_true,EY,Bool.not_eq_true',beq_eq_false_iff_ne] at hc;obtain⟨⟨hc,h1⟩,h2⟩:=hc;have h2:=OL h2;unfold uH;rw [if_neg (by omega),if_neg (λh=>h.elim (λh=>by omega) h1),ON h2,hk]
theorem RD {i0 j:Nat}(hj:j<64):Xs s (j3 i0 j)=CW s i0 j:=by unfold Xs j3;rw [if_pos (by omega),show (SB+64*i0+j - SB) / 64=i0 by omega,show (SB+64*i0+j - SB) % 64=j by omega]
theorem Bg {i0 j:Nat}(hj:j<64):uH ι s (j3 i0 j)=match CW s i0 j with
 | .own t=>ι t
 | .op t _=>ι t
 | .mU _ t _=>ι t
 | .nil=>(.slice none 0 0,[])
 | _=>ι (j3 i0 j):=by
 have h1:=OM;have h2:NT<SB:=by decide
 have h3:1000<SB:=by decide
 have h4:SB<=j3 i0 j:=by unfold j3;omega
 unfold uH;rw [if_neg (by omega),if_neg (by omega),RD hj]
theorem zh {q:Nat×Kd}{ps:Pt}:kf s (q::ps)=kf s [q]++kf s ps:=by
 obtain⟨i,k⟩:=q;cases k <;> simp only [kf,List.nil_append]
 ·split <;> simp
 ·split <;> simp
 ·split
  ·simp
  ·split <;> simp
theorem KF {e:E}{T q n cp:Nat}{qa:Option Addr}{xs:List e.T}{rows:List (List Value)}{Lv:List gJ}(hf:F.le F1)(h1:yO e.sz T qa n cp Lv rows)(h2:F2 (λx r=>Rd F (e.enc x) r) xs rows)(hF:∀ p∈Lv,vW (F1.m p.1) p):Rd F1 [.aB e xs] [.slice qa n cp] :=
 EN (ι:=λ_=>(.slice qa n cp,Lv)) (t:=0) (T:=T) ⟨qa,n,cp,rows,rfl,h1,h2⟩ hf hF
theorem RE {c:Cl}{T A:TypeId}{hs:List c.R}{j6:List Value}{L:List gJ}(hn:NR F T A none 0 hs j6 L)(hf:F.le F1)(hF:∀ p∈L,vW (F1.m p.1) p){i:Nat}{x:c.R}(hx:hs[i]?=some x):∃ B cs,F1.fF i=some B/\jO F1 B 0 cs/\Rd F1 (c.enc x++[.aB c.e (c.xs x)]) cs:=by
 obtain⟨qQ,tN,su,qh,L1,L2,hd,B,cs,Lv,e1,e2,e3,e4,e5,e6,e7,e8⟩:=hn.split hx;obtain⟨q,n,cp,rows,nC,a1,a2,a3,a4⟩:=e7.ha (by simp);have hB:=e7.hB;rw [Nat.zero_add] at hB;refine⟨B,cs++[hd],hf.2.1 _ _ hB,?_,(e7.hc.mono hf).append ?_⟩
 ·obtain⟨fz,_,this⟩:=(hF (B,cs++[hd],BT.c T) (by rw [e5];simp)).cells;exact qL (cs++[hd]) [] [] 0 (by simpa using this) rfl
 ·rw [a1];refine KF (q:=0) (e:=c.e) hf a2 a3 λp hp=>?_
  rcases a4 with⟨_,rfl⟩ | ⟨_,_,a4⟩
  ·exact hF p (by rw [e5];simp [hp])
  ·exact (a4 p hp).mono hf
structure Mk (F:iH)(ι:Gh)(s:St)(σ:Nat->Value):Prop where
 sl:∀ i,kQ F ι (s.sl i) (σ i)
 ow:∀ p∈s.ow,kS F ι p.1 p.2
 nd:(s.ow.map (·.1)).Nodup
theorem Mk.look {σ:Nat->Value}{b:OB}(hr:Mk F ι s σ)(h:s.look t=some b):kS F ι t b:=hr.ow _ (gR h)
theorem Rel.toV (hr:Rel F ι s ρ):Mk F ι s λi=>ρ.getD i undef:=⟨hr.sl,hr.ow,hr.nd⟩
theorem M1.ref {i:Nat}{k:Kd}{x:k.T}(h:M1 F ι i k x v)(hk:k.isRef=true):v=(ι i).1:=by
 cases k with
 | own e T=>exact h.1
 | lb e T =>
  obtain⟨B,h1,h2⟩:=h.1;rw [h1,h2]
 | dA T fs =>
  obtain⟨B,h1,h2⟩:=h.1;rw [h1,h2]
 | mp=>exact h.1
 | _=>simp [Kd.isRef] at hk
theorem MP.ref {σ:Nat->Value}:∀ {p:Pt} {x:er p} {q:Nat×Kd},MP F ι σ p x->q∈p->q.2.isRef=true->σ q.1=(ι q.1).1
 | [],_,_,_,hq,_=>by cases hq
 | [q0],x,q,h,hq,hk=>by
  obtain rfl:q=q0:=by simpa using hq
  exact M1.ref h hk
 | q0::q'::ps,x,q,h,hq,hk=>by
  rcases List.mem_cons.1 hq with rfl | hq
  ·exact M1.ref h.1 hk
  ·exact MP.ref (p:=q'::ps) h.2 hq hk
theorem RF {e:E}{ds:List D}{x:e.T}(h:o9 [e] ds=some x):∃ CO,ds=[.fp CO 0]/\e.dec CO=some x:=by
 rcases ds with _ | ⟨d,_ | ⟨d2,r⟩⟩
 ·simp [o9] at h
 ·cases d with
  | fp CO off =>
   rcases off with _ | off
   ·exact⟨_,rfl,by simpa [o9] using h⟩
   ·simp [o9] at h
  | _=>simp [o9] at h
 ·cases d with
  | fp CO off=>rcases off with _ | off <;> simp [o9] at h
  | _=>simp [o9] at h
theorem RG {e e':E}{es:List E}{ds:List D}{x:UD (e::e'::es)}(h:o9 (e::e'::es) ds=some x):∃ CO r,ds = .fp CO 0::r/\e.dec CO=some x.1/\o9 (e'::es) r=some x.2:=by
 rcases ds with _ | ⟨d,r⟩
 ·simp [o9] at h
 ·cases d with
  | fp CO off =>
   rcases off with _ | off
   ·refine⟨_,_,rfl,?_⟩;simp only [o9] at h
    split at h
    ·cases h
    ·rename_i a ha
     split at h
     ·cases h
     ·rename_i b hb;cases h;exact⟨ha,hb⟩
   ·simp [o9] at h
  | _=>simp [o9] at h
theorem OO:∀ {es:List E} {ds:List D} {vs:List Value} {x:UD es},o9 es ds=some x->Rd F ds vs->Rd F (Ke es x) vs
 | [],[],vs,x,_,hr=>hr
 | [],_::_,vs,x,h,_=>by cases h
 | [e],ds,vs,x,h,hr=>by obtain⟨CO,rfl,h0⟩:=RF h;obtain⟨v,BA,rfl,h1,h2⟩:=hr.az;cases h2;obtain⟨B,o,cs,hv,g1,g2⟩:=Rd.uu h1;rw [hv];exact .fp g1 (kB h0 g2) .nil
 | e::e'::es,ds,vs,x,h,hr=>by obtain⟨CO,r,rfl,ha,hb⟩:=RG h;obtain⟨v,BA,rfl,h1,h2⟩:=hr.az;obtain⟨B,o,cs,hv,g1,g2⟩:=Rd.uu h1;rw [hv];exact .fp g1 (kB ha g2) (OO (es:=e'::es) hb h2)
theorem DU {i t n:Nat}(hf:F.le F1)(hg:ι' i=ι t)(hB:∃ B,(ι t).1 = .pointer (some ⟨B,0,none⟩)){f:FX}{d:D}{x:f.T}{v:Value}(h:f.dec t d=some x)(hs:f = .own->(∀ t',d = .own t'->(ι' (j3 i n)).1=(ι t').1)/\(d = .nil->(ι' (j3 i n)).1 = .slice none 0 0))(hr:jM F ι d v):jM F1 ι' (f.enc i n x) v:=by
 cases f with
 | fl f =>
  have h:f.dec d=some x:=h;exact .aU (On h (jM.mn (hr.mono hf) (uF h)))
 | own =>
  have hs:=hs rfl;cases d with
  | own t' =>
   have hr:v=(ι t').1:=hr;show v=_;rw [hs.1 _ rfl];exact hr
  | nil =>
   show v=_;rw [hs.2 rfl];exact Rd.nH hr
  | _=>simp [FX.dec] at h
 | self =>
  cases d with
  | CN t' b =>
   simp only [FX.dec] at h;cases ht:(t' == t) with
   | false=>rw [ht] at h;cases h
   | true =>
    rw [ht] at h;cases h;have ht:t'=t:=by simpa using ht
    subst ht;obtain⟨B,h1,h2⟩:=hr;exact⟨B,by rw [hg];exact h1,h2⟩
  | op t' o =>
   match o,h,hr with
   | 0,h,hr =>
    simp only [FX.dec] at h;cases ht:(t' == t) with
    | false=>rw [ht] at h;cases h
    | true =>
     rw [ht] at h;cases h;have ht:t'=t:=by simpa using ht
     subst ht;obtain⟨B,h1,h2⟩:=hr;exact⟨B,by rw [hg];exact h1,h2⟩
   | o+1,h,_=>simp [FX.dec] at h
  | kA =>
   cases h;obtain⟨B,h1⟩:=hB;exact⟨B,by rw [hg];exact h1,Rd.lK hr⟩
  | _=>simp [FX.dec] at h
theorem BQ:∀ {n k:Nat} {fs:List FX},k∈qI n fs->n<=k/\k<n+fs.length
 | _,_,[],h=>by simp [qI] at h
 | n,k,f::fs,h=>by
  have key:k=n∨k∈qI (n+1) fs:=by cases f <;> simp [qI] at h <;> first | exact .inr h | exact h
  rcases key with rfl | h
  ·simp
  ·have:=BQ h
   simp only [List.length_cons];omega
theorem Hs {i t:Nat}(hf:F.le F1)(hg:ι' i=ι t)(hB:∃ B,(ι t).1 = .pointer (some ⟨B,0,none⟩)):∀ {n:Nat} {fs:List FX} {ds:List D} {x:Re fs} {cs:List Value},um t fs ds=some x->(∀ k∈qI n fs,(∀ t',ds.getD (k - n) .u = .own t'->(ι' (j3 i k)).1=(ι t').1)/\(ds.getD (k - n) .u = .nil->(ι' (j3 i k)).1 = .slice none 0 0))->F2 (jM F ι) ds cs->F2 (jM F1 ι') (so i n fs x) cs
 | _,[],[],_,_,_,_, .nil => .nil
 | _,[],_::_,_,_,h,_,_=>by simp [um] at h
 | n,[f],[d],x,_,h,hs, .cons hd .nil => .cons (DU hf hg hB (show f.dec t d=some x from h) (λe=>by have:=hs n (vz e);simpa using this) hd) .nil
 | n,[f],[],x,_,h,_,_=>by simp [um] at h
 | n,[f],_::_::_,x,_,h,_,_=>by simp [um] at h
 | n,f::g::fs,[],x,_,h,_,_=>by simp [um] at h
 | n,f::g::fs,d::ds,x,_,h,hs, .cons hd ht=>by
  simp only [um] at h;cases h1:f.dec t d with
  | none=>rw [h1] at h;cases h
  | some a =>
   rw [h1] at h;simp only at h;cases h2:um t (g::fs) ds with
   | none=>rw [h2] at h;cases h
   | some b =>
    rw [h2] at h;cases h;refine .cons (DU hf hg hB h1 (λe=>by have:=hs n (vz e);simpa using this) hd) (Hs (n:=n+1) (fs:=g::fs) hf hg hB h2 (λk hk=>?_) ht);have h3:=BQ hk;have h4:=hs k (BN hk);rw [show k - n=(k - (n+1))+1 by omega,List.getD_cons_succ] at h4;exact h4
theorem OP {i t:Nat}{T:TypeId}{ds:List D}{fs:List FX}{x:Re fs}{cs:List Value}(hf:F.le F1)(hg:uH ι s i=ι t)(hB:∃ B,(ι t).1 = .pointer (some ⟨B,0,none⟩))(hl:fs.length<=64)(hF:∀ k,CW s i k=ds.getD k .u)(h:um t fs ds=some x)(hr:F2 (jM F ι) ds cs):F2 (jM F1 (uH ι s)) (so i 0 fs x) cs :=
 Hs hf hg hB h (λk hk=>by
  have h1:=BQ hk;rw [Nat.sub_zero];constructor
  ·intro t' e;rw [Bg (by omega),hF k,e]
  ·intro e;rw [Bg (by omega),hF k,e]) hr
theorem DV {σ:Nat->Value}{lax:Bool}{i:Nat}{k:Kd}{x:k.T}(hr:Mk F ι s σ)(hf:F.le F1)(hn:F1.fF=F.fF)(hF:lax=true->∀ t∈kf s [(i,k)],∀ q∈(ι t).2,vW (F1.m q.1) q)(h:qc s lax i k=some x):M1 F1 (uH ι s) i k x (σ i):=by
 have hd:=hr.sl i;cases k with
 | int k =>
  simp only [qc] at h
  split at h
  ·rename_i k' n hk;cases he:decide (k'=k) with
   | false=>rw [he] at h;cases h
   | true =>
    rw [he] at h;cases h
    have:k'=k:=by simpa using he
    subst this;rw [hk] at hd;exact⟨.aU (Rd.mono hd hf),λq hq=>by simp [a7] at hq⟩
  ·cases h
 | bool =>
  simp only [qc] at h
  split at h
  ·rename_i b hk;cases h;rw [hk] at hd;exact⟨.aU (Rd.mono hd hf),λq hq=>by simp [a7] at hq⟩
  ·cases h
 | str =>
  simp only [qc] at h
  split at h
  ·rename_i b hk;cases h;rw [hk] at hd;exact⟨.aU (Rd.mono hd hf),λq hq=>by simp [a7] at hq⟩
  ·cases h
 | np =>
  simp only [qc] at h;exact⟨.aU (nG h (kQ.mn (hd.mono hf) (xo h))),λq hq=>by simp [a7] at hq⟩
 | any =>
  simp only [qc] at h;refine⟨?_,λq hq=>by simp [a7] at hq⟩
  split at h
  ·rename_i t o hk;rw [hk] at hd;obtain⟨B,h1,h2⟩:=hd;refine .aU (.any ?_ .nil);rw [h2];rfl
  ·cases hp:(s.sl i).plain with
   | false=>rw [hp] at h;cases h
   | true=>exact .aU ((kQ.mn (hd.mono hf) hp).BB hp)
 | mT =>
  simp only [qc] at h
  split at h
  ·rename_i hk;rw [hk] at hd;exact⟨.aU (Rd.mono hd hf),λq hq=>by simp [a7] at hq⟩
  ·cases h
 | N_ =>
  simp only [qc] at h
  split at h
  ·rename_i hk;rw [hk] at hd;exact⟨.aU (Rd.mono hd hf),λq hq=>by simp [a7] at hq⟩
  ·cases h
 | emp =>
  simp only [qc] at h
  split at h
  ·rename_i hk;rw [hk] at hd;exact⟨.aU (Rd.mono hd hf),λq hq=>by simp [a7] at hq⟩
  ·cases h
 | fp e =>
  simp only [qc] at h
  split at h
  ·rename_i ds hk;rw [hk] at hd;obtain⟨B,o,cs,hv,h1,h2⟩:=Rd.uu (Rd.mono hd hf);refine⟨?_,λq hq=>by simp [a7] at hq⟩;rw [hv];exact .aU (.fp h1 (kB h h2) .nil)
  ·rename_i t hk;rw [hk] at hd;cases lax with
   | false=>cases h
   | true =>
    simp only [cond_true] at h
    split at h
    ·rename_i T0 ds dB;cases hp:ds.all D.plain with
     | false=>rw [hp] at h;cases h
     | true =>
      rw [hp] at h;simp only [cond_true] at h;obtain⟨B,cs,a,b,c⟩:=hr.look dB;obtain⟨B',g1,g2⟩:=hd;rw [a] at g1;cases g1;refine⟨?_,λq hq=>by simp [a7] at hq⟩;obtain⟨fz,_,hB⟩:=(hF rfl t (by simp [kf,hk]) (B,cs,BT.c T0) (by rw [b];simp)).cells;have nq:jO F1 B 0 cs:=qL cs [] [] 0 (by simpa using hB) rfl;rw [g2]
      have:=Rd.fp (off:=0) nq (kB h ((c.rd hp).mono hf)) .nil
      rw [Nat.zero_add] at this;exact .aU this
    ·cases h
  ·cases h
 | mq f es =>
  simp only [qc] at h
  split at h
  ·rename_i f' ds hk;cases he:decide (f'=f) with
   | false=>rw [he] at h;cases h
   | true =>
    rw [he] at h;simp only [cond_true] at h
    have:f'=f:=by simpa using he
    subst this;rw [hk] at hd;obtain⟨cs,hv,nq⟩:=Rd.Kv (Rd.mono hd hf);refine⟨?_,λq hq=>by simp [a7] at hq⟩;rw [hv];exact .aU (.mq (OO h nq) .nil)
  ·cases h
 | N9 k n =>
  simp only [qc] at h
  split at h
  ·rename_i k' n' hk;cases he:decide (k'=k/\n'=n) with
   | false=>rw [he] at h;cases h
   | true =>
    have:k'=k/\n'=n:=by simpa using he
    obtain⟨rfl,rfl⟩:=this;rw [hk] at hd;exact⟨.aU (Rd.mono hd hf),λq hq=>by simp [a7] at hq⟩
  ·cases h
 | mA =>
  simp only [qc] at h
  split at h
  ·rename_i hk;rw [hk] at hd;exact⟨.aU (Rd.mono hd hf),λq hq=>by simp [a7] at hq⟩
  ·cases h
 | vR =>
  simp only [qc] at h
  split at h
  ·rename_i hk;rw [hk] at hd;exact⟨.aU (Rd.mono hd hf),λq hq=>by simp [a7] at hq⟩
  ·cases h
 | err =>
  simp only [qc] at h;refine⟨?_,λq hq=>by simp [a7] at hq⟩
  split at h
  ·rename_i hk;cases h;rw [hk] at hd;exact .aU (.err (Rd.G9 hd) .nil)
  ·rename_i T0 l0 hk;cases h;rw [hk] at hd;obtain⟨Nu,e1,_⟩:=Rd.Kw hd;exact .aU (.err ⟨_,_,e1⟩ .nil)
  ·rename_i b hk;cases h;rw [hk] at hd;exact .aU (Rd.mono hd hf)
  ·cases h
 | zQ T e =>
  simp only [qc] at h;refine⟨?_,λq hq=>by simp [a7] at hq⟩
  split at h
  ·rename_i T' ds hk;cases he:(T' == T) with
   | false=>rw [he] at h;cases h
   | true =>
    rw [he] at h;simp only [cond_true] at h
    have:T'=T:=by simpa using he
    subst this;rw [hk] at hd;obtain⟨cs,hv,nq⟩:=Rd.Kw (Rd.mono hd hf);rw [hv];exact .aU (.zQ (kB h nq) .nil)
  ·cases h
 | dI i0 j e T =>
  simp only [qc] at h;cases hc:(i == j3 i0 j && Nat.blt j 64) with
  | false=>rw [hc] at h;cases h
  | true =>
   rw [hc] at h;simp only [cond_true] at h;rw [Bool.and_eq_true,beq_iff_eq,Nat.blt_eq] at hc;obtain⟨rfl,hj⟩:=hc;refine⟨trivial,λq' hq=>?_⟩;simp only [a7,List.mem_singleton] at hq;subst hq;have hg:=Bg (ι:=ι) (s:=s) (i0:=i0) hj
   split at h
   ·rename_i t hk;rw [hk] at hg
    split at h
    ·rename_i e' T' xs dB;cases hT:(T' == T) with
     | false=>rw [hT] at h;cases h
     | true =>
      rw [hT] at h;simp only [cond_true] at h;have hT:T'=T:=by simpa using hT
      subst hT;obtain⟨rfl,rfl⟩:=jc h;obtain⟨q,n,cp,rows,a,b,c⟩:=hr.look dB;exact⟨q,n,cp,rows,by rw [hg];exact a,by rw [hg];exact b,cT (λ_ _ h=>h.mono hf) c⟩
    ·cases h
   ·rename_i hk;rw [hk] at hg;cases h;exact⟨none,0,0,[],by rw [hg],by rw [hg];exact yO.nil _ _, .nil⟩
   ·cases h
 | dA T fs =>
  simp only [qc] at h
  split at h
  ·rename_i t hk;cases hc:((xk s.np i || t == i) && !(i == NT) && !(Nat.ble gZ i)) with
   | false=>rw [hc] at h;cases h
   | true =>
    rw [hc] at h;simp only [cond_true] at h
    split at h
    ·rename_i T' ds dB;cases hT:(T' == T && Nat.ble fs.length 64) with
     | false=>rw [hT] at h;cases h
     | true =>
      rw [hT] at h;simp only [cond_true] at h;rw [Bool.and_eq_true,beq_iff_eq,Nat.ble_eq] at hT;obtain⟨rfl,hl⟩:=hT;have hg:=j7 (ι:=ι) (o:=0) hc (.inr (.inl hk));have hF:∀ k,CW s i k=ds.getD k .u:=λk=>by unfold CW;rw [hk];simp only;rw [dB]
      rw [hk] at hd;obtain⟨B,g1,g2⟩:=hd;obtain⟨B',cs,a,b,c⟩:=hr.look dB;refine⟨⟨B,by rw [hg];exact g1,g2⟩,λq' hq=>?_⟩;simp only [a7,List.mem_singleton] at hq;subst hq;exact⟨B',cs,by rw [hg];exact a,by rw [hg];exact b,OP (T:=T') hf hg ⟨B,g1⟩ hl hF h c⟩
    ·cases h
  ·cases h
 | CV f T fs es =>
  simp only [qc] at h
  split at h
  ·rename_i f' t Nu hk;cases hc:((xk s.np i || t == i) && !(i == NT) && !(Nat.ble gZ i)) with
   | false=>rw [hc] at h;cases h
   | true =>
    rw [hc] at h;simp only [cond_true] at h
    split at h
    ·rename_i T' ds dB;cases hT:(T' == T && Nat.ble fs.length 64 && decide (f'=f)) with
     | false=>rw [hT] at h;cases h
     | true =>
      rw [hT] at h;simp only [cond_true] at h;rw [Bool.and_eq_true,Bool.and_eq_true,beq_iff_eq,Nat.ble_eq,decide_eq_true_eq] at hT;obtain⟨⟨rfl,hl⟩,rfl⟩:=hT
      split at h
      ·cases h
      ·rename_i a ha
       split at h
       ·cases h
       ·rename_i b hb;cases h;have hg:=j7 (ι:=ι) (o:=0) hc (.inr (.inr ⟨_,_,hk⟩));have hF:∀ k,CW s i k=ds.getD k .u:=λk=>by unfold CW;rw [hk];simp only;rw [dB]
        rw [hk] at hd;obtain⟨B,cv,g1,g2,g3⟩:=hd;obtain⟨B',cs,p1,p2,p3⟩:=hr.look dB;refine⟨⟨B,cv,by rw [hg];exact g1,g2,OO hb (g3.mono hf)⟩,λq' hq=>?_⟩;simp only [a7,List.mem_singleton] at hq;subst hq;exact⟨B',cs,by rw [hg];exact p1,by rw [hg];exact p2,OP (T:=T') hf hg ⟨B,g1⟩ hl hF ha p3⟩
    ·cases h
  ·cases h
 | ns cl T A =>
  simp only [qc] at h;cases hi:(i == NT) with
  | false=>rw [hi] at h;cases h
  | true =>
   rw [hi] at h;simp only [cond_true] at h;have hi:i=NT:=by simpa using hi
   subst hi
   split at h
   ·rename_i cl' T' A' hs dB;cases hc:(T' == T && A' == A) with
    | false=>rw [hc] at h;cases h
    | true =>
     rw [hc] at h;simp only [cond_true] at h;obtain⟨ec,h⟩:=Cl.cast_eq h;subst ec;have h:hs=x:=h;subst h;simp only [Bool.and_eq_true,beq_iff_eq] at hc;obtain⟨rfl,rfl⟩:=hc;refine⟨trivial,λq hq=>?_⟩;simp only [a7,List.mem_singleton] at hq;subst hq;obtain⟨h0,j6,a,b,c⟩:=hr.look dB;exact⟨rfl,j6,by rw [zg];exact a,by rw [zg];exact b.mono hf,by rw [hn];exact c⟩
   ·cases h
 | mz cl =>
  simp only [qc] at h;cases hi:(i == gZ) with
  | false=>rw [hi] at h;cases h
  | true =>
   rw [hi] at h;simp only [cond_true] at h;have hi:i=gZ:=by simpa using hi
   subst hi;refine⟨trivial,λq hq=>?_⟩;simp only [a7,List.mem_singleton] at hq;subst hq
   split at h
   ·rename_i cl' hs dB;obtain⟨ec,h⟩:=Cl.cast_eq h;subst ec;have h:hs=x:=h;subst h;obtain⟨a,b⟩:=hr.look dB;exact⟨EX,λi y hy=>by obtain⟨B,cs,g1,g2,g3⟩:=b i y hy;exact⟨B,cs,hf.2.1 _ _ g1,g2.mono hf,g3.mono hf⟩⟩
   ·rename_i N5;cases lax with
    | false=>cases h
    | true =>
     simp only [cond_true] at h
     split at h
     ·rename_i cl' TN A hs dB;obtain⟨ec,h⟩:=Cl.cast_eq h;subst ec;have h:hs=x:=h;subst h;obtain⟨_,j6,a,b,c⟩:=hr.look dB;have hl:kf s [(gZ, .mz cl')]=[NT]:=by simp only [kf];rw [dB]
      exact⟨EX,λi y hy=>RE b hf (hF rfl NT (by rw [hl];simp)) hy⟩
     ·cases h
 | aB e =>
  simp only [qc] at h;refine⟨?_,λq hq=>by simp [a7] at hq⟩
  split at h
  ·rename_i e' xs hk;obtain⟨rfl,rfl⟩:=jc h;rw [hk] at hd;exact .aU (Rd.mono hd hf)
  ·rename_i hk;cases h;rw [hk] at hd;exact .aU (Rd.EI _ (Rd.mono hd hf))
  ·rename_i t hk;cases lax with
   | false=>cases h
   | true =>
    simp only [cond_true] at h
    split at h
    ·rename_i e' T xs dB;obtain⟨rfl,rfl⟩:=jc h;rw [hk] at hd;have hd:σ i=(ι t).1:=hd;rw [hd];exact .aU (EN (hr.look dB) hf (hF rfl t (by simp [kf,hk])))
    ·cases h
  ·cases h
 | el e =>
  simp only [qc] at h
  split at h
  ·rename_i ds hk;rw [hk] at hd;obtain⟨cs,hv,nq⟩:=Rd.qd hd;refine⟨?_,λq hq=>by simp [a7] at hq⟩;rw [hv];exact .aU (.agg (kB h (nq.mono hf)) .nil)
  ·cases h
 | own e T =>
  simp only [qc] at h
  split at h
  ·rename_i t hk;cases hc:((xk s.np i || t == i) && !(i == NT) && !(Nat.ble gZ i)) with
   | false=>rw [hc] at h;cases h
   | true =>
    rw [hc] at h;simp only [cond_true] at h
    split at h
    ·rename_i e' T' xs dB;cases hT:(T' == T) with
     | false=>rw [hT] at h;cases h
     | true =>
      rw [hT] at h;simp only [cond_true] at h;have hT:T'=T:=by simpa using hT
      subst hT;obtain⟨rfl,rfl⟩:=jc h;have hg:=j7 (ι:=ι) (o:=0) hc (.inl hk);rw [hk] at hd;have hd:σ i=(ι t).1:=hd;obtain⟨q,n,cp,rows,a,b,c⟩:=hr.look dB;refine⟨by show _=_;rw [hd,hg],λq' hq=>?_⟩;simp only [a7,List.mem_singleton] at hq;subst hq;exact⟨q,n,cp,rows,by rw [hg];exact a,by rw [hg];exact b,cT (λ_ _ h=>h.mono hf) c⟩
    ·cases h
  ·rename_i hk;cases hc:(xk s.np i && !(i == NT) && !(Nat.ble gZ i)) with
   | false=>rw [hc] at h;cases h
   | true =>
    rw [hc] at h;cases h;have hg:=EZ (ι:=ι) hc hk;rw [hk] at hd;refine⟨by show _=_;rw [hg];exact Rd.nH hd,λq' hq=>?_⟩;simp only [a7,List.mem_singleton] at hq;subst hq;exact⟨none,0,0,[],by rw [hg],by rw [hg];exact yO.nil _ _, .nil⟩
  ·cases h
 | lb e T =>
  simp only [qc] at h
  split at h
  ·rename_i t hk;cases hc:((xk s.np i || t == i) && !(i == NT) && !(Nat.ble gZ i)) with
   | false=>rw [hc] at h;cases h
   | true =>
    rw [hc] at h;simp only [cond_true] at h
    split at h
    ·rename_i T' ds dB;cases hT:(T' == T) with
     | false=>rw [hT] at h;cases h
     | true =>
      rw [hT] at h;simp only [cond_true] at h;have hT:T'=T:=by simpa using hT
      subst hT;have hg:=j7 (ι:=ι) (o:=0) hc (.inr (.inl hk));rw [hk] at hd;obtain⟨B,g1,g2⟩:=hd;obtain⟨B',cs,a,b,c⟩:=hr.look dB;refine⟨⟨B,by rw [hg];exact g1,g2⟩,λq' hq=>?_⟩;simp only [a7,List.mem_singleton] at hq;subst hq;exact⟨B',cs,by rw [hg];exact a,by rw [hg];exact b,(kB h ((c.rd (DM h)).mono hf)).f2⟩
    ·cases h
  ·cases h
 | vo =>
  simp only [qc] at h
  split at h
  ·rename_i o hk;cases h;rw [hk] at hd;refine⟨?_,λq hq=>by simp [a7] at hq⟩;show L5 (uH ι s NT).1 x (σ i);rw [zg];exact hd
  ·rename_i z j k hk;rw [hk] at hd;cases hz:(z == 3) with
   | false=>rw [hz] at h;cases h
   | true =>
    rw [hz] at h;cases h;have hz:z=3:=by simpa using hz
    subst hz;refine⟨?_,λq hq=>by simp [a7] at hq⟩;obtain⟨j6,B,n,cp,g1,g2,g3⟩:=hd;exact⟨j6,B,n,cp,by rw [zg];exact g1,g2,by rw [g3,Nat.add_zero]⟩
  ·rename_i hk;cases h;rw [hk] at hd;exact⟨Rd.lK hd,λq hq=>by simp [a7] at hq⟩
  ·cases h
 | QF =>
  simp only [qc] at h
  split at h
  ·rename_i j hk;cases h;rw [hk] at hd;obtain⟨j6,g1,g2⟩:=hd;exact⟨⟨j6,by rw [zg];exact g1,g2⟩,λq hq=>by simp [a7] at hq⟩
  ·cases h
 | al j =>
  simp only [qc] at h
  split at h
  ·rename_i t hk
   split at h
   ·rename_i t' Jg;cases hc:(t == t' && ((xk s.np j || t' == j) && !(j == NT) && !(Nat.ble gZ j))) with
    | false=>rw [hc] at h;cases h
    | true =>
     rw [Bool.and_eq_true,beq_iff_eq] at hc;obtain⟨rfl,hc⟩:=hc;have hg:=j7 (ι:=ι) (o:=0) hc (.inl Jg);rw [hk] at hd;have hd:σ i=(ι t).1:=hd;exact⟨by show _=_;rw [hd,hg],λq hq=>by simp [a7] at hq⟩
   ·cases h
  ·rename_i hk
   split at h
   ·rename_i Jg;cases hc:(xk s.np j && !(j == NT) && !(Nat.ble gZ j)) with
    | false=>rw [hc] at h;cases h
    | true =>
     have hg:=EZ (ι:=ι) hc Jg;rw [hk] at hd;exact⟨by show _=_;rw [hg];exact Rd.nH hd,λq hq=>by simp [a7] at hq⟩
   ·cases h
  ·cases h
 | mp =>
  simp only [qc] at h
  split at h
  ·rename_i t hk;cases hc:((xk s.np i || t == i) && !(i == NT) && !(Nat.ble gZ i)) with
   | false=>rw [hc] at h;cases h
   | true =>
    rw [hc] at h;simp only [cond_true] at h
    split at h
    ·rename_i l dB;cases h;have hg:=j7 (ι:=ι) (o:=0) hc (.inl hk);rw [hk] at hd;have hd:σ i=(ι t).1:=hd;obtain⟨B,cs,a,b,c⟩:=hr.look dB;refine⟨by show _=_;rw [hd,hg],λq' hq=>?_⟩;simp only [a7,List.mem_singleton] at hq;subst hq;exact⟨B,cs,by rw [hg];exact a,by rw [hg];exact b,c.mono hf⟩
    ·cases h
  ·cases h
 | ug =>
  simp only [qc] at h
  split at h
  ·rename_i t hk;cases hc:((xk s.np i || t == i) && !(i == NT) && !(Nat.ble gZ i)) with
   | false=>rw [hc] at h;cases h
   | true =>
    rw [hc] at h;simp only [cond_true] at h
    split at h
    ·rename_i l pos dB;cases h;have hg:=j7 (ι:=ι) (o:=0) hc (.inr (.inl hk));rw [hk] at hd;obtain⟨B,g1,g2⟩:=hd;obtain⟨B',a,b⟩:=hr.look dB;refine⟨⟨B,by rw [hg];exact g1,g2⟩,λq' hq=>?_⟩;simp only [a7,List.mem_singleton] at hq;subst hq;exact⟨B',by rw [hg];exact a,by rw [hg];exact b⟩
    ·cases h
  ·cases h
theorem vB {σ:Nat->Value}{lax:Bool}(hr:Mk F ι s σ)(hf:F.le F1)(hn:F1.fF=F.fF):∀ {p:Pt} {x:er p},(lax=true->∀ t∈kf s p,∀ q∈(ι t).2,vW (F1.m q.1) q)->Kg s lax p=some x->MP F1 (uH ι s) σ p x
 | [],_,_,_=>trivial
 | [q],x,hF,h=>DV hr hf hn hF h
 | q::q'::ps,x,hF,h=>by
  simp only [Kg] at h;cases h1:qc s lax q.1 q.2 with
  | none=>rw [h1] at h;cases h
  | some a =>
   rw [h1] at h;simp only at h;cases h2:Kg s lax (q'::ps) with
   | none=>rw [h2] at h;cases h
   | some b =>
    rw [h2] at h;cases h;exact⟨DV hr hf hn (λhl t ht=>hF hl t (by rw [zh];exact List.mem_append_left _ ht)) h1,vB hr hf hn (p:=q'::ps) (λhl t ht=>hF hl t (by rw [zh];exact List.mem_append_right _ ht)) h2⟩
end
section
variable {P:Program}{C:Cx}{R:Type}{F F' F1 F2':iH}{ι ι' gS:Gh}{s s':St}{ρ:List Value}{d:D}{v:Value}{t dt:Nat}{L0:List gJ}{r:R}{dst:Option Tmp}{ty:TypeId}{p:String}{af:Array Edge}{gd:Option (Nat×Bool)}{h:Array Obj}
def kl (ι:Gh)(ks:List Nat):List gJ:=ks.flatMap λt=>(ι t).2
theorem ye (ow:List (Nat×OB)):lv ι ow=kl ι (ow.map (·.1)):=by simp [lv,kl,List.flatMap_map]
theorem oG (a b:List Nat):kl ι (a++b)=kl ι a++kl ι b:=by simp [kl]
theorem yf {a b:List Nat}(h:a.Perm b):(kl ι a).Perm (kl ι b):=h.flatMap_right _
theorem E0:∀ {a b:List Nat},a.Sublist b->(kl ι a).Sublist (kl ι b)
 | _,_, .slnil => .slnil
 | _,_, .cons x h=>by simp only [kl,List.flatMap_cons];exact (E0 h).trans (List.sublist_append_right _ _)
 | _,_, .cons_cons x h=>by simp only [kl,List.flatMap_cons];exact (List.Sublist.refl _).append (E0 h)
theorem OQ {a:List Nat}(h:∀ t∈a,ι' t=ι t):kl ι' a=kl ι a:=by
 unfold kl
 induction a with
 | nil=>rfl
 | cons t a ih=>simp only [List.flatMap_cons];rw [h t (by simp),ih λq hq=>h q (by simp [hq])]
def cW (ks T:List Nat):List Nat:=ks.filter λk=>!T.contains k
theorem nK {ks T:List Nat}(hk:ks.Nodup)(hT:T.Nodup)(hs:∀ t∈T,t∈ks):ks.Perm (T++cW ks T):=by
 refine (List.perm_ext_iff_of_nodup hk ?_).2 λa=>?_
 ·rw [List.nodup_append];refine⟨hT,hk.sublist List.filter_sublist,λa ha b hb e=>?_⟩;subst e
  have:=(List.mem_filter.1 hb).2
  simp [ha] at this
 ·simp only [List.mem_append,cW,List.mem_filter,List.contains_eq_mem,Bool.not_eq_true',decide_eq_false_iff_not];constructor
  ·intro ha
   by_cases h:a∈T
   ·exact .inl h
   ·exact .inr ⟨ha,h⟩
  ·rintro (h | h)
   ·exact hs a h
   ·exact h.1
theorem wG:∀ {T:List Nat} {s:St},(c8 s T).ow.map (·.1)=cW (s.ow.map (·.1)) T
 | [],s=>by simp only [c8,cW,List.contains_nil,Bool.not_false];exact (List.filter_eq_self.2 λ_ _=>rfl).symm
 | t::T,s=>by
  simp only [c8];rw [wG,mV];simp only [cW]
  have:(s.ow.filter λp=>!(p.1 == t)).map (·.1)=(s.ow.map (·.1)).filter λk=>!(k == t):=by rw [List.filter_map];rfl
  rw [this,List.filter_filter];refine List.filter_congr λx _=>?_
  simp only [List.contains_cons];cases (x == t) <;> simp
theorem yg:∀ {T:List Nat} {s:St} {ι:Gh},Rel F ι s ρ->(∀ t,t∉T->ι' t=ι t)->Rel F ι' (c8 s T) ρ
 | [],s,ι,hr,he=>by
  have:ι'=ι:=funext λt=>he t (by simp)
  rw [this];exact hr
 | t::T,s,ι,hr,he=>by
  show Rel F ι' (c8 (s.au t) T) ρ;refine yg (ι:=λt'=>if t'=t then ι' t else ι t') (hr.EM (t:=t) λt' h=>if_neg h) λt' h=>?_
  by_cases e:t'=t
  ·subst e;simp
  ·simp only [e,if_false];exact he t' (by simp [e,h])
theorem sU:∀ {T:List Nat} {s:St},(c8 s T).n=s.n/\(c8 s T).np=s.np/\(c8 s T).nw=s.nw
 | [],_=>⟨rfl,rfl,rfl⟩
 | _::T,s=>by simp only [c8];rw [sU.1,sU.2.1,sU.2.2];exact⟨rfl,rfl,rfl⟩
theorem ph {b:OB}(h:s.look t=some b):t∈s.ow.map (·.1):=List.mem_map.2 ⟨_,gR h,rfl⟩
theorem tK:∀ {T:List Nat} {s s0:St} {F:iH},Rel F ι s ρ->F.le F1->F1.fF=F.fF->(∀ t∈T,∀ q∈(ι t).2,vW (F1.m q.1) q)->fG s T=some s0->Rel F1 ι s0 ρ/\s0.ow.map (·.1)=cW (s.ow.map (·.1)) T/\s0.n=s.n/\s0.np=s.np/\s0.nw=s.nw
 | [],s,s0,F,hr,hf,hn,_,h=>by cases h;refine⟨hr.mono hf hn,?_,rfl,rfl,rfl⟩;simp only [cW,List.contains_nil,Bool.not_false];exact (List.filter_eq_self.2 λ_ _=>rfl).symm
 | t::T,s,s0,F,hr,hf,hn,hF,h=>by
  simp only [fG] at h;have fin:∀ d,Rd F1 [d] [(ι t).1]->fG (s.freeze t d) T=some s0->Rel F1 ι s0 ρ/\s0.ow.map (·.1)=cW (s.ow.map (·.1)) (t::T)/\s0.n=s.n/\s0.np=s.np/\s0.nw=s.nw:=λd tI h=>by
   have sK:Rel F1 ι (s.freeze t d) ρ:=by
    refine⟨hr.len,λi=>((hr.sl i).mono hf).tH tI,λp hp=>?_,?_⟩
    ·simp only [St.freeze,List.mem_map,List.mem_filter] at hp;obtain⟨q,⟨hq,_⟩,rfl⟩:=hp;exact ((hr.ow q hq).mono hf λ_=>hn).tH tI
    ·rw [pe];exact hr.nd.sublist ((List.filter_sublist).map _)
   obtain⟨a,b,c,d,e⟩:=tK sK (.refl F1) rfl (λt ht=>hF t (by simp [ht])) h;refine⟨a,?_,c,d,e⟩;rw [b,pe];simp only [cW]
   have:(s.ow.filter λp=>!(p.1 == t)).map (·.1)=(s.ow.map (·.1)).filter λk=>!(k == t):=by rw [List.filter_map];rfl
   rw [this,List.filter_filter];refine List.filter_congr λx _=>?_
   simp only [List.contains_cons];cases (x == t) <;> simp
  split at h
  ·rename_i e T' xs dB;exact fin _ (EN (hr.look dB) hf (hF t (by simp))) h
  ·rename_i T' ds dB;cases hp:ds.all D.plain with
   | false=>rw [hp] at h;cases h
   | true =>
    rw [hp] at h;exact fin _ (G4 (hr.look dB) hp hf (hF t (by simp))) h
  ·cases h
theorem KG {lax:Bool}{i:Nat}{k:Kd}{x:k.T}(h:qc s lax i k=some x):(∀ t∈oE s i k,∃ b,s.look t=some b)/\kl (uH ι s) ((a7 i k x).2.map (·.1))=kl ι (oE s i k):=by
 cases k with
 | own e T =>
  simp only [qc] at h
  split at h
  ·rename_i t hk;cases hc:((xk s.np i || t == i) && !(i == NT) && !(Nat.ble gZ i)) with
   | false=>rw [hc] at h;cases h
   | true =>
    rw [hc] at h;simp only [cond_true] at h
    split at h
    ·rename_i dB;refine⟨λt' ht=>?_,?_⟩
     ·simp only [oE,hk,List.mem_singleton] at ht;subst ht;exact⟨_,dB⟩
     ·have hg:=j7 (ι:=ι) (o:=0) hc (.inl hk);simp [oE,hk,a7,kl,hg]
    ·cases h
  ·rename_i hk;refine⟨λt' ht=>by simp [oE,hk] at ht,?_⟩;cases hc:(xk s.np i && !(i == NT) && !(Nat.ble gZ i)) with
   | false=>rw [hc] at h;cases h
   | true =>
    have hg:=EZ (ι:=ι) hc hk;simp [oE,hk,a7,kl,hg]
  ·cases h
 | lb e T =>
  simp only [qc] at h
  split at h
  ·rename_i t hk;cases hc:((xk s.np i || t == i) && !(i == NT) && !(Nat.ble gZ i)) with
   | false=>rw [hc] at h;cases h
   | true =>
    rw [hc] at h;simp only [cond_true] at h
    split at h
    ·rename_i dB;refine⟨λt' ht=>?_,?_⟩
     ·simp only [oE,hk,List.mem_singleton] at ht;subst ht;exact⟨_,dB⟩
     ·have hg:=j7 (ι:=ι) (o:=0) hc (.inr (.inl hk));simp [oE,hk,a7,kl,hg]
    ·cases h
  ·cases h
 | mp =>
  simp only [qc] at h
  split at h
  ·rename_i t hk;cases hc:((xk s.np i || t == i) && !(i == NT) && !(Nat.ble gZ i)) with
   | false=>rw [hc] at h;cases h
   | true =>
    rw [hc] at h;simp only [cond_true] at h
    split at h
    ·rename_i dB;refine⟨λt' ht=>?_,?_⟩
     ·simp only [oE,hk,List.mem_singleton] at ht;subst ht;exact⟨_,dB⟩
     ·have hg:=j7 (ι:=ι) (o:=0) hc (.inl hk);simp [oE,hk,a7,kl,hg]
    ·cases h
  ·cases h
 | ug =>
  simp only [qc] at h
  split at h
  ·rename_i t hk;cases hc:((xk s.np i || t == i) && !(i == NT) && !(Nat.ble gZ i)) with
   | false=>rw [hc] at h;cases h
   | true =>
    rw [hc] at h;simp only [cond_true] at h
    split at h
    ·rename_i dB;refine⟨λt' ht=>?_,?_⟩
     ·simp only [oE,hk,List.mem_singleton] at ht;subst ht;exact⟨_,dB⟩
     ·have hg:=j7 (ι:=ι) (o:=0) hc (.inr (.inl hk));simp [oE,hk,a7,kl,hg]
    ·cases h
  ·cases h
 | ns cl T A =>
  simp only [qc] at h;cases hi:(i == NT) with
  | false=>rw [hi] at h;cases h
  | true =>
   rw [hi] at h;simp only [cond_true] at h;have hi:i=NT:=by simpa using hi
   subst hi
   split at h
   ·rename_i dB;refine⟨λt' ht=>?_,by simp [oE,a7,kl,zg]⟩;simp only [oE,List.mem_singleton] at ht;subst ht;exact⟨_,dB⟩
   ·cases h
 | mz cl =>
  simp only [qc] at h;cases hi:(i == gZ) with
  | false=>rw [hi] at h;cases h
  | true =>
   have hi:i=gZ:=by simpa using hi
   subst hi;exact⟨λt ht=>by simp [oE] at ht,by simp [oE,a7,kl,EX]⟩
 | dA T fs =>
  simp only [qc] at h
  split at h
  ·rename_i t hk;cases hc:((xk s.np i || t == i) && !(i == NT) && !(Nat.ble gZ i)) with
   | false=>rw [hc] at h;cases h
   | true =>
    rw [hc] at h;simp only [cond_true] at h
    split at h
    ·rename_i dB;refine⟨λt' ht=>?_,?_⟩
     ·simp only [oE,hk,List.mem_singleton] at ht;subst ht;exact⟨_,dB⟩
     ·have hg:=j7 (ι:=ι) (o:=0) hc (.inr (.inl hk));simp [oE,hk,a7,kl,hg]
    ·cases h
  ·cases h
 | CV f T fs es =>
  simp only [qc] at h
  split at h
  ·rename_i f' t Nu hk;cases hc:((xk s.np i || t == i) && !(i == NT) && !(Nat.ble gZ i)) with
   | false=>rw [hc] at h;cases h
   | true =>
    rw [hc] at h;simp only [cond_true] at h
    split at h
    ·rename_i dB;refine⟨λt' ht=>?_,?_⟩
     ·simp only [oE,hk,List.mem_singleton] at ht;subst ht;exact⟨_,dB⟩
     ·have hg:=j7 (ι:=ι) (o:=0) hc (.inr (.inr ⟨_,_,hk⟩));simp [oE,hk,a7,kl,hg]
    ·cases h
  ·cases h
 | dI i0 j e T =>
  simp only [qc] at h;cases hc:(i == j3 i0 j && Nat.blt j 64) with
  | false=>rw [hc] at h;cases h
  | true =>
   rw [hc] at h;simp only [cond_true] at h;rw [Bool.and_eq_true,beq_iff_eq,Nat.blt_eq] at hc;obtain⟨rfl,hj⟩:=hc;have hg:=Bg (ι:=ι) (s:=s) (i0:=i0) hj
   split at h
   ·rename_i t hk;rw [hk] at hg
    split at h
    ·rename_i dB;refine⟨λt' ht=>?_,by simp [oE,hk,a7,kl,hg]⟩;simp only [oE,hk,List.mem_singleton] at ht;subst ht;exact⟨_,dB⟩
    ·cases h
   ·rename_i hk;rw [hk] at hg;exact⟨λt' ht=>by simp [oE,hk] at ht,by simp [oE,hk,a7,kl,hg]⟩
   ·cases h
 | _=>exact⟨λt ht=>by simp [oE] at ht,rfl⟩
theorem vC {lax:Bool}:∀ {p:Pt} {x:er p},Kg s lax p=some x->(∀ t∈tags s p,∃ b,s.look t=some b)/\lv (uH ι s) (jb p x)=kl ι (tags s p)
 | [],_,_=>⟨λt ht=>by simp [tags] at ht,rfl⟩
 | [q],x,h=>by obtain⟨a,b⟩:=KG (ι:=ι) (show qc s lax q.1 q.2=some x from h);refine⟨λt ht=>a t (by simpa [tags] using ht),?_⟩;show lv (uH ι s) (a7 q.1 q.2 x).2=_;rw [ye,b];simp [tags]
 | q::q'::ps,x,h=>by
  simp only [Kg] at h;cases h1:qc s lax q.1 q.2 with
  | none=>rw [h1] at h;cases h
  | some a =>
   rw [h1] at h;simp only at h;cases h2:Kg s lax (q'::ps) with
   | none=>rw [h2] at h;cases h
   | some b =>
    rw [h2] at h;cases h;obtain⟨c,d⟩:=KG (ι:=ι) h1;obtain⟨e,f⟩:=vC (p:=q'::ps) h2;have ht:tags s (q::q'::ps)=oE s q.1 q.2++tags s (q'::ps):=by simp [tags]
    rw [ht];refine⟨λt ht=>?_,?_⟩
    ·rcases List.mem_append.1 ht with ht | ht
     ·exact c t ht
     ·exact e t ht
    ·show lv (uH ι s) ((a7 q.1 q.2 a).2++jb (q'::ps) b)=_;rw [eX,f,ye,d,oG]
theorem BR {i:Nat}{k:Kd}{x:k.T}(h:qc s true i k=some x):∀ t∈kf s [(i,k)],∃ b,s.look t=some b:=by
 intro t ht;cases k <;> simp only [kf] at ht <;> try (simp at ht;done)
 ·split at ht
  ·rename_i t' hk;simp only [List.mem_singleton] at ht;subst ht;simp only [qc,hk,cond_true] at h
   split at h
   ·rename_i dB;exact⟨_,dB⟩
   ·cases h
  ·simp at ht
 ·split at ht
  ·rename_i t' hk;simp only [List.mem_singleton] at ht;subst ht;simp only [qc,hk,cond_true] at h
   split at h
   ·rename_i dB;exact⟨_,dB⟩
   ·cases h
  ·simp at ht
 ·split at ht
  ·simp at ht
  ·split at ht
   ·rename_i dB;simp only [List.mem_singleton] at ht;subst ht;exact⟨_,dB⟩
   ·simp at ht
theorem vD:∀ {p:Pt} {x:er p},Kg s true p=some x->∀ t∈kf s p,∃ b,s.look t=some b
 | [],_,_,t,ht=>by simp [kf] at ht
 | [(i,k)],x,h,t,ht=>BR h t ht
 | (i,k)::q'::ps,x,h,t,ht=>by
  simp only [Kg] at h;cases h1:qc s true i k with
  | none=>rw [h1] at h;cases h
  | some a =>
   rw [h1] at h;simp only at h;cases h2:Kg s true (q'::ps) with
   | none=>rw [h2] at h;cases h
   | some b =>
    rw [zh] at ht;rcases List.mem_append.1 ht with ht | ht
    ·exact BR h1 t ht
    ·exact vD (p:=q'::ps) h2 t ht
theorem Ml {p:Pt}{x:er p}(hr:Rel F ι s ρ)(hm:Hp h F (lv ι s.ow++L0))(hu:Gq s p=some x):Rel F (uH ι s) (Nq s.n s.np s.nw p x) ρ/\Hp h F (lv (uH ι s) (jb p x)++L0)/\∀ t,(s.np / 1000<=t/\t<s.np % 1000)->(uH ι s t).1=(ι t).1:=by
 unfold Gq at hu;cases hc:(mu (tags s p) && mu (p.map (·.1))) with
 | false=>rw [hc] at hu;cases hu
 | true =>
  rw [hc] at hu;simp only [cond_true] at hu;rw [Bool.and_eq_true] at hc;have h1:=gK hc.1;have h2:=gK hc.2;obtain⟨h3,h4⟩:=vC (ι:=ι) hu;refine⟨(vB hr.toV (.refl F) rfl (λh=>by cases h) hu).rel h2 hr.len,?_,λt ht=>U6 ht⟩;rw [h4];have h5:=nK hr.nd h1 λt ht=>by obtain⟨b,hb⟩:=h3 t ht;exact ph hb
  rw [ye] at hm;have h6:=hm.perm (((yf (ι:=ι) h5).symm).append_right L0);rw [oG] at h6;exact h6.sub ((List.sublist_append_left _ _).append (List.Sublist.refl _))
theorem OR {σ:Nat->Value}{p:Pt}{x:er p}(hr:Mk F ι s σ)(hm:Hp h F (lv ι s.ow++L0))(hu:Gq s p=some x):MP F (uH ι s) σ p x/\Hp h F (lv (uH ι s) (jb p x)++L0):=by
 unfold Gq at hu;cases hc:(mu (tags s p) && mu (p.map (·.1))) with
 | false=>rw [hc] at hu;cases hu
 | true =>
  rw [hc] at hu;simp only [cond_true] at hu;rw [Bool.and_eq_true] at hc;have h1:=gK hc.1;have h2:=gK hc.2;obtain⟨h3,h4⟩:=vC (ι:=ι) hu;refine⟨vB hr (.refl F) rfl (λh=>by cases h) hu,?_⟩;rw [h4];have h5:=nK hr.nd h1 λt ht=>by obtain⟨b,hb⟩:=h3 t ht;exact ph hb
  rw [ye] at hm;have h6:=hm.perm (((yf (ι:=ι) h5).symm).append_right L0);rw [oG] at h6;exact h6.sub ((List.sublist_append_left _ _).append (List.Sublist.refl _))
end
def zW:List Value->Value
 | [v]=>v
 | vs => .tuple vs.toArray
def vX (vs:List Value)(ι:Gh)(k:Nat):Value:=if k<1000 then vs.getD k undef else if k=NT∨SB<=k then undef else (ι (k - 1000)).1
def Xu (F:iH)(ι:Gh)(bN:vT)(r:er bN.bI)(L0:List gJ)(v:Value)(h':Array Obj):Prop :=
 ∃ F' ι' vs,F.le F'/\(pU bN.bI=false->F'.fF=F.fF)/\vs.length=(fH bN.bI).length/\MP F' ι' (vX vs ι) bN.bI r/\v=zW vs/\Hp h' F' (lv ι' (jb bN.bI r)++L0)/\∀ k∈bN.bI.map (·.1),1000<=k->k≠NT->k<SB->(ι' k).1=(ι (k - 1000)).1
def aE (P:Program)(f:FuncId)(bN:vT):Prop :=
 ∀ (x:er bN.lf) (r:er bN.bI),bN.m x=some r->∀ (F:iH) (ι:Gh) (h:Array Obj) (L0:List gJ) (h_:List Value),h_.length=(fH bN.lf).length->MP F ι (λi=>h_.getD i undef) bN.lf x->Hp h F (lv ι (jb bN.lf x)++L0)->IL P f h_ h (Xu F ι bN r L0)
def lD (P:Program)(C:Cx):Prop:=vY P C/\∀ f bN,C.fns f=some bN->aE P (f % 1000000) bN/\∀ args w,(callFunc (f % 1000000) args).run P w = .ok (.enter (f % 1000000) args) w
theorem Hu {P:Program}{C:Cx}{f:FuncId}{args:List D}{bN:vT}(hC:lD P C)(h:GV C f args=some bN):aE P f bN/\∀ args w,(callFunc f args).run P w = .ok (.enter f args) w:=by
 unfold GV at h;cases hb:Nat.blt f 1000000 with
 | false=>rw [hb] at h;cases h
 | true =>
  rw [hb] at h;simp only [cond_true] at h;have hf:f<1000000:=by simpa [Nat.blt_eq] using hb
  have e0:f % 1000000=f:=Nat.mod_eq_of_lt hf;have plain:C.fns f=some bN->aE P f bN/\∀ args w,(callFunc f args).run P w = .ok (.enter f args) w:=λh=>by
   have:=hC.2 f bN h
   rw [e0] at this;exact this
  split at h
  ·rename_i g hg
   split at h
   ·rename_i e he;cases h
    have:=hC.2 _ _ he
    rw [Nat.add_mul_mod_self_left,e0] at this;exact this
   ·exact plain h
  ·exact plain h
section
variable {P:Program}{C:Cx}{R:Type}{F F' F1 F3:iH}{ι ι' gS vZ Aw:Gh}{s s':St}{ρ:List Value}{d:D}{v:Value}{t dt:Nat}{L0:List gJ}{r:R}{dst:Option Tmp}{ty:TypeId}{p:String}{af:Array Edge}{gd:Option (Nat×Bool)}{h:Array Obj}
theorem vE {i:Nat}{k:Kd}{x:k.T}:∀ ds,(a7 i k x).1 ≠ .A9 ds:=by intro ds;cases k <;> simp [a7]
theorem BS {τ:Nat->Nat}{j:Nat}{k:Kd}{x:k.T}(BU:Aw (τ j)=vZ j)(hs:∀ y∈k.Rf,Aw (j3 (τ j) y)=vZ (j3 j y))(hN:j=NT->τ j=NT){nb:Bool}(Nv:nb=true->Aw NT=vZ NT)(hA:k.Rg nb=true)(h:M1 F vZ j k x v) :
  M1 F Aw (τ j) k x v/\(a7 (τ j) k x).2.map (·.1)=((a7 j k x).2.map (·.1)).map τ/\lv Aw (a7 (τ j) k x).2=lv vZ (a7 j k x).2:=by
 refine⟨h.ren hA BU hs hN Nv,?_,?_⟩
 ·cases k <;> rfl
 ·cases k <;> simp [a7,lv,BU]
theorem BV {q:Nat×Kd}{ps:Pt}:fH (q::ps)=(cond (Nat.blt q.1 1000) [q.1] [])++fH ps:=by simp only [fH,List.map_cons,List.filter_cons];cases Nat.blt q.1 1000 <;> rfl
theorem F2.app {α β:Type}{R:α->β->Prop}:∀ {l l':List α} {m m':List β},F2 R l m->F2 R l' m'->F2 R (l++l') (m++m')
 | _,_,_,_, .nil,h=>h
 | _,_,_,_, .cons h t,h' => .cons h (t.app h')
theorem DW {τ:Nat->Nat}{vs:Nat->Value}{nb:Bool}(Nv:nb=true->Aw NT=vZ NT):∀ {q:Pt} {x:er q},(∀ a∈q,a.2.Rg nb=true)->(∀ k∈q.map (·.1),Aw (τ k)=vZ k)->(∀ a∈q,∀ y∈a.2.Rf,Aw (j3 (τ a.1) y)=vZ (j3 a.1 y))->(∀ k∈q.map (·.1),k=NT->τ k=NT)->MP F vZ vs q x ->
  F2 (λd v=>kQ F Aw d v/\∀ ds,d ≠ .A9 ds) (wD τ q x) ((fH q).map vs)/\(∀ b∈rB τ q x,kS F Aw b.1 b.2)/\(rB τ q x).map (·.1)=((jb q x).map (·.1)).map τ/\lv Aw (rB τ q x)=lv vZ (jb q x)
 | [],x,_,_,_,_,_=>⟨.nil,by simp [rB],rfl,rfl⟩
 | [a],x,hA,BU,hs,hN,hm=>by
  obtain⟨h1,h2,h3⟩:=BS (τ:=τ) (BU a.1 (by simp)) (hs a (by simp)) (hN a.1 (by simp)) Nv (hA a (by simp)) (show M1 F vZ a.1 a.2 x (vs a.1) from hm);refine⟨?_,h1.2,h2,h3⟩;rw [BV];simp only [wD];cases Nat.blt a.1 1000 with
  | true=>exact .cons ⟨h1.1,vE⟩ .nil
  | false=>exact .nil
 | a::b::q,x,hA,BU,hs,hN,hm=>by
  obtain⟨h1,h2,h3⟩:=BS (τ:=τ) (BU a.1 (by simp)) (hs a (by simp)) (hN a.1 (by simp)) Nv (hA a (by simp)) (show M1 F vZ a.1 a.2 x.1 (vs a.1) from hm.1);obtain⟨b1,b2,b3,b4⟩:=DW (τ:=τ) (vs:=vs) Nv (q:=b::q) (x:=x.2) (λa ha=>hA a (List.mem_cons_of_mem _ ha)) (λk hk=>BU k (List.mem_cons_of_mem _ hk)) (λa ha=>hs a (List.mem_cons_of_mem _ ha)) (λk hk=>hN k (List.mem_cons_of_mem _ hk)) hm.2;have e1:rB τ (a::b::q) x=(a7 (τ a.1) a.2 x.1).2++rB τ (b::q) x.2:=rfl;have e2:jb (a::b::q) x=(a7 a.1 a.2 x.1).2++jb (b::q) x.2:=rfl;refine⟨?_,λc hc=>?_,?_,?_⟩
  ·rw [BV,List.map_append];simp only [wD];cases Nat.blt a.1 1000 with
   | true=>exact .cons ⟨h1.1,vE⟩ b1
   | false=>exact b1
  ·rw [e1] at hc;rcases List.mem_append.1 hc with hc | hc
   ·exact h1.2 c hc
   ·exact b2 c hc
  ·rw [e1,e2,List.map_append,List.map_append,List.map_append,h2,b3]
  ·rw [e1,e2,eX,eX,h3,b4]
theorem zX:∀ {ds:List D} {vs:List Value},F2 (λd v=>kQ F ι d v/\∀ ds,d ≠ .A9 ds) ds vs->kQ F ι (Og ds) (zW vs)
 | [],_, .nil=>trivial
 | [_],[_], .cons h .nil=>h.1
 | a::b::ds,_, .cons h (.cons h' t)=>⟨_,rfl, .cons (h.1.EL h.2) (.cons (h'.1.EL h'.2) (cT (λ_ _ h=>h.1.EL h.2) t))⟩
theorem kT {ks A B:List Nat}:cW (cW ks A) B=cW ks (B++A):=by
 simp only [cW,List.filter_filter];refine List.filter_congr λx _=>?_
 simp only [List.contains_eq_mem,List.mem_append]
 by_cases h1:x∈A <;> by_cases h2:x∈B <;> simp [h1,h2]
theorem uI {ks A:List Nat}:(cW ks A).Sublist ks:=List.filter_sublist
theorem E1 {ks A B:List Nat}(h:∀ t∈A,t∈B):(cW ks B).Sublist (cW ks A):=by
 have:cW ks B=cW (cW ks A) B:=by
  rw [kT];refine List.filter_congr λx _=>?_
  simp only [List.contains_eq_mem,List.mem_append]
  by_cases h1:x∈B
  ·simp [h1]
  ·have:x∉A:=λhA=>h1 (h x hA)
   simp [h1,this]
 rw [this];exact uI
def iH.Xv (F F':iH):iH:=⟨F.m,F'.fF,F'.lv,F'.inj,F'.Ol⟩
theorem Hp.U7 (hm:Hp h F L0)(h1:F'.m=F.m)(h2:∀ b,F'.lv b->F.lv b):Hp h F' L0:=⟨λb o hb=>hm.tH b o (by rw [<- h1];exact hb),hm.own,λp hp=>by rw [h1];exact hm.sep p hp,hm.nodup,(λb hb=>hm.live b (h2 b hb)),by rw [h1];exact hm.gl⟩
theorem Hp.OS {Lb L:List gJ}{h':Array Obj}(hm:Hp h F (Lb++L))(hF:∀ p∈Lb,vW (F1.m p.1) p)(hf:F.le F1){L':List gJ}(tE:Hp h' F1 L'):Hp h' (F.Xv F1) (Lb++L'):=by
 have hn:=hm.nodup;rw [List.map_append,List.nodup_append] at hn;refine⟨λb o hb=>tE.tH b o (hf.1 b o hb),λp hp=>?_,λp hp=>?_,?_,tE.live,hm.gl⟩
 ·rcases List.mem_append.1 hp with hp | hp
  ·exact (hF p hp).tH tE
  ·exact tE.own p hp
 ·rcases List.mem_append.1 hp with hp | hp
  ·exact hm.sep p (by simp [hp])
  ·exact (tE.weaken hf hm.gl).sep p hp
 ·rw [List.map_append,List.nodup_append];refine⟨hn.1,tE.nodup,λa ha b hb e=>?_⟩;subst e;obtain⟨p,hp,rfl⟩:=List.mem_map.1 ha;obtain⟨q,hq,he⟩:=List.mem_map.1 hb;obtain⟨x,h1⟩:=(hF p hp).some;have h2:=tE.sep q hq;rw [he,h1] at h2;cases h2
theorem sV {xs:List Operand}(hr:Rel F ι s ρ):∀ i,kQ F ι ((xs.map (g s)).getD i .u) ((xs.map (ev ρ)).getD i undef):=by
 intro i;simp only [List.getD_eq_getElem?_getD,List.getElem?_map];cases xs[i]? with
 | none=>trivial
 | some x=>exact eR hr x
theorem U8 {ks:List Nat}{q:gJ}:q∈kl ι ks↔∃ t∈ks,q∈(ι t).2:=by simp [kl]
theorem BW {sa:St}{h_:List Value}{q:Pt}{x:er q}(hr:Rel F ι sa h_)(hm:Hp h F (lv ι sa.ow++L0))(my:(tags sa q++kf sa q).Nodup)(hu:Kg sa true q=some x) :
  ∃ F1,F.le F1/\F1.fF=F.fF/\(∀ t∈kf sa q,∀ b∈(ι t).2,vW (F1.m b.1) b)/\MP F1 (uH ι sa) (λi=>h_.getD i undef) q x/\lv (uH ι sa) (jb q x)=kl ι (tags sa q)/\Hp h F1 (kl ι (tags sa q)++(kl ι (cW (sa.ow.map (·.1)) (tags sa q++kf sa q))++L0)) /\
   ∀ F2 h' L',F1.le F2->Hp h' F2 L'->Hp h' (F.Xv F2) (kl ι (kf sa q)++L'):=by
 obtain⟨h3,h4⟩:=vC (ι:=ι) hu;have h5:=vD hu;have hk:∀ t∈tags sa q++kf sa q,t∈sa.ow.map (·.1):=λt ht=>by
  rcases List.mem_append.1 ht with ht | ht
  ·obtain⟨b,hb⟩:=h3 t ht;exact ph hb
  ·obtain⟨b,hb⟩:=h5 t ht;exact ph hb
 have hp:=nK hr.nd my hk;rw [ye] at hm;have pK:=hm.perm (((yf (ι:=ι) hp).symm).append_right L0);rw [oG,oG] at pK;have vn:Hp h F (kl ι (kf sa q)++(kl ι (tags sa q)++(kl ι (cW (sa.ow.map (·.1)) (tags sa q++kf sa q))++L0))):=by refine pK.perm ?_;simp only [List.append_assoc];exact List.perm_append_comm_assoc _ _ _
 obtain⟨hm3,hle⟩:=vn.freeze;have hn:=vn.nodup;rw [List.map_append,List.nodup_append] at hn;have hF:∀ t∈kf sa q,∀ b∈(ι t).2,vW ((F.add h (kl ι (kf sa q))).m b.1) b:=λt ht b hb=>add_get vn (U8.2 ⟨t,ht,hb⟩)
 exact⟨_,hle,rfl,hF,vB hr.toV hle rfl (λ_=>hF) hu,h4,hm3,λF2 h' L' Y7 tE=>vn.OS (λb hb=>(add_get vn hb).mono Y7) (hle.trans Y7) tE⟩
theorem kS.wF {b:OB}(h1:∀ t',(ι' t').1=(ι t').1)(h2:ι' t=ι t)(h:kS F ι t b):kS F ι' t b:=by
 cases b with
 | rows e T xs=>obtain⟨q,n,cp,rows,a,c,f⟩:=h;exact⟨q,n,cp,rows,by rw [h2];exact a,by rw [h2];exact c,f⟩
 | cells T ds=>obtain⟨B,cs,a,c,f⟩:=h;exact⟨B,cs,by rw [h2];exact a,by rw [h2];exact c,cT (λ_ _ h=>h.wF h1) f⟩
 | nodes cl T A hs hole=>obtain⟨h0,j6,a,c,f⟩:=h;exact⟨h0,j6,by rw [h2];exact a,by rw [h2];exact c,f⟩
 | oD cl hs=>exact⟨by rw [h2];exact h.1,h.2⟩
 | mp l=>obtain⟨B,cs,a,c,f⟩:=h;exact⟨B,cs,by rw [h2];exact a,by rw [h2];exact c,f⟩
 | ug l pos=>obtain⟨B,a,c⟩:=h;exact⟨B,by rw [h2];exact a,by rw [h2];exact c⟩
theorem kQ.wF (h1:∀ t',(ι' t').1=(ι t').1)(h:kQ F ι d v):kQ F ι' d v:=by
 cases d with
 | A9 ds=>obtain⟨vs,a,c⟩:=h;exact⟨vs,a,cT (λ_ _ h=>h.wF h1) c⟩
 | _=>exact .jd ((kQ.EL h (λ_ e=>by cases e)).wF h1)
theorem Rel.wF (hr:Rel F ι s ρ)(h1:∀ t',(ι' t').1=(ι t').1)(h2:∀ p∈s.ow,ι' p.1=ι p.1):Rel F ι' s ρ :=
 ⟨hr.len,λi=>(hr.sl i).wF h1,λp hp=>(hr.ow p hp).wF h1 (h2 p hp),hr.nd⟩
theorem Rel.KH (hr:Rel F ι s ρ)(k:Nat×OB->Bool):Rel F ι ⟨s.n,s.np,s.nw,s.sl,s.ow.filter k⟩ ρ :=
 ⟨hr.len,hr.sl,λp hp=>hr.ow p (List.mem_filter.1 hp).1,hr.nd.sublist ((List.filter_sublist).map _)⟩
theorem zi {p:Pt}:pU p=true↔NT∈p.map (·.1):=by simp [pU]
theorem E2 {k:Nat}(h:k<SB):Nat.ble SB k=false:=by
 cases hb:Nat.ble SB k with
 | false=>rfl
 | true=>rw [Nat.ble_eq] at hb;omega
theorem sW {d k:Nat}{args:List D}(h:k<SB):oF d args k=vp d args k:=by unfold oF;rw [E2 h];rfl
theorem Mm {d:Nat}{args:List D}:oF d args NT=NT:=by
 rw [sW (by decide)];unfold vp;have h1:Nat.blt NT 1000=false:=by decide
 rw [h1];simp
theorem zj {d k:Nat}{args:List D}(h:k<1000):oF d args k=1000*(d+1)+k:=by
 rw [sW (by
  have:1000<SB:=by decide
  omega)]
 unfold vp;have h1:Nat.blt k 1000=true:=by rw [Nat.blt_eq];exact h
 rw [h1];rfl
theorem Hv {a k x y:Nat}(h:a<=k):cond (Nat.ble a k) x y=x:=by rw [Nat.ble_eq_true_of_le h];rfl
theorem KI {i j:Nat}:SB<=j3 i j:=by unfold j3;omega
theorem OT {i j:Nat}(h:j<64):(j3 i j - SB) / 64=i:=by unfold j3;omega
theorem OU {i j:Nat}(h:j<64):(j3 i j - SB) % 64=j:=by unfold j3;omega
theorem DX {d k:Nat}{args:List D}(h:SB<=k):SB<=oF d args k:=by unfold oF;rw [Hv h];exact KI
theorem BX {d i y:Nat}{args:List D}(hi:i<SB)(hy:y<64):oF d args (j3 i y)=j3 (oF d args i) y:=by rw [sW hi];unfold oF;rw [Hv KI,OT hy,OU hy]
theorem yh {τ:Nat->Nat}:∀ {l:List Nat},(l.map τ).Nodup->l.Nodup
 | [],_ => .nil
 | a::l,h=>by rw [List.map_cons,List.nodup_cons] at h;exact List.nodup_cons.2 ⟨λlH=>h.1 (List.mem_map.2 ⟨a,lH,rfl⟩),yh h.2⟩
def BY (l:List Nat)(τ:Nat->Nat)(t:Nat):Option Nat:=l.find? λk=>τ k == t
theorem xq {l:List Nat}{τ:Nat->Nat}{k:Nat}(hn:(l.map τ).Nodup)(hk:k∈l):BY l τ (τ k)=some k:=by
 induction l with
 | nil=>cases hk
 | cons a l ih =>
  rw [List.map_cons,List.nodup_cons] at hn;unfold BY;rw [List.find?_cons]
  by_cases e:τ a=τ k
  ·rcases List.mem_cons.1 hk with rfl | hk
   ·simp
   ·exact absurd (show τ a∈l.map τ by rw [e];exact List.mem_map.2 ⟨k,hk,rfl⟩) hn.1
  ·have:(τ a == τ k)=false:=by simp [e]
   rw [this];rcases List.mem_cons.1 hk with rfl | hk
   ·exact absurd rfl e
   ·exact ih hn.2 hk
theorem Jm {l:List Nat}{τ:Nat->Nat}{t:Nat}(h:t∉l.map τ):BY l τ t=none:=by unfold BY;rw [List.find?_eq_none];intro k hk;simp only [beq_iff_eq];exact λe=>h (List.mem_map.2 ⟨k,hk,e⟩)
set_option maxHeartbeats 1000000 in
theorem rT {K:D->St->Option R}{f:FuncId}{Ax:List D}{OV:List Value}{dn:Nat}(hC:lD P C)(hr:Rel F ι s ρ)(hm:Hp h F (lv ι s.ow++L0))(Wj:OV.length=Ax.length)(hav:∀ i,kQ F ι (Ax.getD i .u) (OV.getD i undef))(h0:sO C s dn f Ax K=some r):(∀ args w,(callFunc f args).run P w = .ok (.enter f args) w)/\IL P f OV h (pf K r F ι s ρ L0 dn):=by
 unfold sO at h0
 split at h0
 ·cases h0
 ·rename_i bN U9;obtain⟨Np,xr⟩:=Hu hC U9;refine⟨xr,?_⟩;cases hc:I6 s dn Ax bN with
  | false=>rw [hc] at h0;cases h0
  | true =>
   rw [hc] at h0;simp only [cond_true] at h0;unfold I6 at hc;generalize QO:oF dn Ax=τ at h0 hc;generalize U_:sq s Ax=sa at h0 hc;have Xw:Rel F ι sa OV:=by subst U_;exact⟨by simp [sq,Wj],hav,hr.ow,hr.nd⟩
   have zk:sa.ow=s.ow:=by subst U_;rfl
   have aad:sa.np=0:=by subst U_;rfl
   simp only [Bool.and_eq_true,beq_iff_eq,Nat.ble_eq] at hc;obtain⟨⟨⟨⟨⟨⟨⟨⟨⟨⟨⟨tF,o8⟩,KA⟩,U4⟩,aae⟩,Xp⟩,hc6⟩,hc7⟩,Xx⟩,hc9⟩,aag⟩,aah⟩:=hc
   split at h0
   ·cases h0
   ·rename_i x hx
    split at h0
    ·cases h0
    ·rename_i s0 E3;obtain⟨rr,xR,h0⟩:=Option.bind_eq_some_iff.1 h0;have Wk:Hp h F (lv ι sa.ow++L0):=by rw [zk];exact hm
     have hTL:=gK tF;obtain⟨F1,hle,Hw,RH,OW,RI,hH,N4⟩:=BW Xw Wk hTL hx;have hlen:OV.length=(fH bN.lf).length:=by rw [o8];simp [Wj]
     refine (Np x rr xR F1 (uH ι sa) h (kl ι (cW (sa.ow.map (·.1)) (tags sa bN.lf++kf sa bN.lf))++L0) _ hlen OW (by rw [RI];exact hH)).mono ?_
     rintro v h' ⟨F2,vZ,vs,Jn,OX,QM,Jo,hv,Y8,zY⟩
     have aaj:(s.ow.map (·.1)).Nodup:=hr.nd;have aak:∃ Fx F3,Fx.le F3/\F.le F3/\Fx.fF=F.fF/\F3.fF=F2.fF/\Rel Fx ι s0 ρ/\MP F3 vZ (vX vs (uH ι sa)) bN.bI rr/\Hp h' F3 (lv vZ (jb bN.bI rr)++(kl ι (cW (s0.ow.map (·.1)) (tags sa bN.lf))++L0))/\s0.n=s.n/\s0.np=s.np/\s0.nw=s.nw:=by
      cases sn:(bN.bI.all λq=>q.2.flat) with
      | true =>
       rw [sn] at E3;simp only [cond_true] at E3;cases E3;have Y3:F.le (F.Xv F2):=⟨λ_ _ h=>h,(hle.trans Jn).2⟩;refine⟨F,F.Xv F2,Y3,Y3,rfl,rfl,hr,MP.flat (F:=F2) (F':=F.Xv F2) rfl Jo sn,?_,rfl,rfl,rfl⟩;have h1:=N4 F2 h' _ Jn Y8;have h2:(kl ι (kf sa bN.lf)++(lv vZ (jb bN.bI rr)++(kl ι (cW (sa.ow.map (·.1)) (tags sa bN.lf++kf sa bN.lf))++L0))).Perm (lv vZ (jb bN.bI rr)++(kl ι (cW (s.ow.map (·.1)) (tags sa bN.lf))++L0)):=by
        refine (List.perm_append_comm_assoc _ _ _).trans (List.Perm.append_left _ ?_);rw [<- List.append_assoc,<- oG];refine List.Perm.append_right _ (yf ?_);have h3:=nK (ks:=cW (s.ow.map (·.1)) (tags sa bN.lf)) (T:=kf sa bN.lf) (aaj.sublist uI) (List.nodup_append.1 hTL).2.1 λt ht=>by have h5:=vD hx t ht;obtain⟨b,hb⟩:=h5;have h6:=ph hb;rw [zk] at h6;refine List.mem_filter.2 ⟨h6,?_⟩;simp only [List.contains_eq_mem,Bool.not_eq_true',decide_eq_false_iff_not];intro h7;exact (List.nodup_append.1 hTL).2.2 t h7 t ht rfl
        rw [kT] at h3;refine (List.Perm.symm ?_);rw [zk];refine h3.trans (List.Perm.append_left _ (List.Perm.of_eq ?_));refine List.filter_congr λy _=>?_
        simp only [List.contains_eq_mem,List.mem_append]
        by_cases h8:y∈tags sa bN.lf <;> by_cases h9:y∈kf sa bN.lf <;> simp [h8,h9]
       exact h1.perm h2.symm
      | false =>
       rw [sn] at E3;simp only [cond_false] at E3;obtain⟨q1,q2,q3,q4,q5⟩:=tK hr hle Hw RH E3;refine⟨F1,F2,Jn,hle.trans Jn,Hw,rfl,q1,Jo,?_,q3,q4,q5⟩;rw [q2,kT,<- zk];exact Y8
     obtain⟨Fx,F3,Xy,aal,Xz,Tv,Va,XA,hH3,Y4,XB,XC⟩:=aak;generalize XD:((tags sa bN.lf).filter λt=>!((pa τ bN.bI).contains t) || t == NT)++(WW bN.bI).map τ=pg at h0
     let Aw:Gh:=λt=>match BY (bN.bI.map (·.1)) τ t with
      | some k=>vZ k
      | none=>ι t
     have RJ:((bN.bI.map (·.1)).map τ).Nodup:=by
      have:=gK Xp
      simpa [List.map_map,Function.comp_def] using this
     have OY:∀ k∈bN.bI.map (·.1),Aw (τ k)=vZ k:=λk hk=>by show (match BY (bN.bI.map (·.1)) τ (τ k) with | some k=>vZ k | none=>ι (τ k))=_;rw [xq RJ hk]
     have Hx:∀ t,t∉(bN.bI.map (·.1)).map τ->Aw t=ι t:=λt ht=>by show (match BY (bN.bI.map (·.1)) τ t with | some k=>vZ k | none=>ι t)=_;rw [Jm ht]
     have DY:τ NT=NT:=by rw [<- QO];exact Mm
     have Tw:∀ k∈bN.bI.map (·.1),1000<=k->k≠NT->k<SB->(vZ k).1=(ι (τ k)).1:=λk hk h1 h2 XE=>by
      rw [zY k hk h1 h2 XE];have h3:=List.all_eq_true.1 aae;obtain⟨q,hq,rfl⟩:=List.mem_map.1 hk;have h4:=h3 q hq;have e1:Nat.blt q.1 1000=false:=by cases hb:Nat.blt q.1 1000 with
       | false=>rfl
       | true=>rw [Nat.blt_eq] at hb;omega
      have e2:(q.1 == NT)=false:=by simpa using h2
      simp only [e1,e2,E2 XE,Bool.false_or,Bool.and_eq_true] at h4;obtain⟨h5,h6⟩:=h4;have h5:q.1<NT:=by simpa [Nat.blt_eq] using h5
      have Bc:sa.sl (q.1 - 1000)=Ax.getD (q.1 - 1000) .u:=by subst U_;rfl
      have Hy:τ q.1=match Ax.getD (q.1 - 1000) .u with | .op t _=>t | .own t=>t | .mU _ t _=>t | _=>0:=by rw [<- QO,sW XE];unfold vp;rw [e1,e2];rfl
      have eH:NT<gZ:=by decide
      have RK:∀ t,((xk sa.np (q.1 - 1000) || t == (q.1 - 1000)) && !((q.1 - 1000) == NT) && !(Nat.ble gZ (q.1 - 1000)))=true:=λt=>by
       have g1:xk sa.np (q.1 - 1000)=true:=by rw [aad,EY];omega
       have g2:((q.1 - 1000) == NT)=false:=by simp;omega
       have g3:(Nat.ble gZ (q.1 - 1000))=false:=by
        cases hb:Nat.ble gZ (q.1 - 1000) with
        | false=>rfl
        | true=>rw [Nat.ble_eq] at hb;omega
       rw [g1,g2,g3];rfl
      revert h6 Hy
      rw [<- Bc];intro h6 Hy;cases hd:sa.sl (q.1 - 1000) with
      | own t =>
       rw [hd] at Hy;rw [Hy,j7 (o:=0) (RK t) (.inl hd)]
      | op t o =>
       rw [hd] at Hy;rw [Hy,j7 (o:=o) (RK t) (.inr (.inl hd))]
      | mU f t cs =>
       rw [hd] at Hy;rw [Hy,j7 (o:=0) (RK t) (.inr (.inr ⟨_,_,hd⟩))]
      | _=>rw [hd] at h6;simp [D.isRef] at h6
     have ud:∀ k∈bN.bI.map (·.1),(1000<=k/\k≠NT/\k<SB)∨τ k∈pg:=λk hk=>by
      by_cases e:k=NT
      ·right;subst e;rw [DY,<- XD];refine List.mem_append_left _ (List.mem_filter.2 ⟨?_,by simp⟩);have h3:=List.all_eq_true.1 U4
       have:=h3 NT (by
        refine List.mem_map.2 ⟨NT,List.mem_filter.2 ⟨hk,?_⟩,DY⟩;have h1:Nat.blt NT 1000=false:=by decide
        have h2:Nat.blt NT SB=true:=by decide
        rw [h1,h2];rfl)
       simpa using this
      ·by_cases e3:SB<=k
       ·right;rw [<- XD];refine List.mem_append_right _ (List.mem_map.2 ⟨k,List.mem_filter.2 ⟨hk,?_⟩,rfl⟩);rw [Nat.ble_eq_true_of_le e3,Bool.or_true]
       ·by_cases e2:1000<=k
        ·exact .inl ⟨e2,e,by omega⟩
        ·right;rw [<- XD];refine List.mem_append_right _ (List.mem_map.2 ⟨k,List.mem_filter.2 ⟨hk,?_⟩,rfl⟩);rw [Bool.or_eq_true,Nat.blt_eq];left;omega
     have m9:∀ t,t∉pg->(Aw t).1=(ι t).1:=λt ht=>by
      by_cases lH:t∈(bN.bI.map (·.1)).map τ
      ·obtain⟨k,hk,rfl⟩:=List.mem_map.1 lH;rw [OY k hk];rcases ud k hk with h1 | h1
       ·exact Tw k hk h1.1 h1.2.1 h1.2.2
       ·exact absurd h1 ht
      ·rw [Hx t lH]
     let ι4:Gh:=λt=>if t∈pg then Aw t else ι t
     have sK:Rel Fx ι4 (c8 s0 pg) ρ:=yg Va λt ht=>if_neg ht
     have BG:=sK.KH λp=>!((pa τ bN.bI).contains p.1)
     have Nw:((c8 s0 pg).ow.filter λp=>!((pa τ bN.bI).contains p.1)).map (·.1)=cW (cW (s0.ow.map (·.1)) pg) (pa τ bN.bI):=by
      have:((c8 s0 pg).ow.filter λp=>!((pa τ bN.bI).contains p.1)).map (·.1)=((c8 s0 pg).ow.map (·.1)).filter λk=>!((pa τ bN.bI).contains k):=by rw [List.filter_map];rfl
      rw [this,wG];rfl
     have XF:∀ t∈(bN.bI.map (·.1)).map τ,t∈pg∨t∈pa τ bN.bI:=λt ht=>by
      obtain⟨k,hk,rfl⟩:=List.mem_map.1 ht;rcases ud k hk with h1 | h1
      ·right;refine List.mem_map.2 ⟨k,List.mem_filter.2 ⟨hk,?_⟩,rfl⟩
       have:Nat.blt k 1000=false:=by cases hb:Nat.blt k 1000 with
        | false=>rfl
        | true=>rw [Nat.blt_eq] at hb;omega
       have h2:Nat.blt k SB=true:=by rw [Nat.blt_eq];exact h1.2.2
       rw [this,h2];rfl
      ·exact .inl h1
     have Hz:∀ t∈((c8 s0 pg).ow.filter λp=>!((pa τ bN.bI).contains p.1)).map (·.1),t∉pg/\t∉(bN.bI.map (·.1)).map τ:=λt ht=>by
      rw [Nw] at ht;obtain⟨h1,h2⟩:=List.mem_filter.1 ht;obtain⟨h3,h4⟩:=List.mem_filter.1 h1;simp only [List.contains_eq_mem,Bool.not_eq_true',decide_eq_false_iff_not] at h2 h4;refine⟨h4,λh5=>?_⟩;rcases XF t h5 with h6 | h6
      ·exact h4 h6
      ·exact h2 h6
     have Mn:=BG.wF (ι':=Aw) (λt=>by
      show _=(if t∈pg then Aw t else ι t).1;split
      ·rfl
      ·rename_i h;exact m9 t h) λq hq=>by
      have:=(Hz q.1 (List.mem_map.2 ⟨q,hq,rfl⟩)).1
      show _=if q.1∈pg then Aw q.1 else ι q.1
      rw [if_neg this,Hx _ (Hz q.1 (List.mem_map.2 ⟨q,hq,rfl⟩)).2]
     have Y9:Rel F3 Aw ⟨(c8 s0 pg).n,(c8 s0 pg).np,(c8 s0 pg).nw,(c8 s0 pg).sl,(c8 s0 pg).ow.filter λp=>!((pa τ bN.bI).contains p.1)⟩ ρ:=by
      cases Jh:pU bN.bI with
      | false=>exact Mn.mono Xy (by rw [Tv,OX Jh,Hw,Xz])
      | true =>
       refine Mn.Ou Xy λq hq e=>?_
       have h1:=(Hz q.1 (List.mem_map.2 ⟨q,hq,rfl⟩)).2;rw [e] at h1;exact h1 (List.mem_map.2 ⟨NT,zi.1 Jh,DY⟩)
     have hn:(c8 s0 pg).n=s.n/\(c8 s0 pg).np=s.np/\(c8 s0 pg).nw=s.nw:=by obtain⟨a,b,c⟩:=sU (T:=pg) (s:=s0);exact⟨a.trans Y4,b.trans XB,c.trans XC⟩
     obtain⟨w1,w2,w3,w4⟩:=DW (τ:=τ) (Aw:=Aw) (nb:=pU bN.bI) (λNv=>by have:=OY NT (zi.1 Nv);rwa [DY] at this) (λa ha=>List.all_eq_true.1 hc9 a ha) OY (λa ha y hy=>by
      have h1:=List.all_eq_true.1 (List.all_eq_true.1 aag a ha) y hy;simp only [Bool.and_eq_true,Nat.blt_eq] at h1;have h2:j3 a.1 y∈bN.bI.map (·.1):=by simpa using h1.1.1
      have h3:=OY _ h2;rw [<- QO,BX h1.2 h1.1.2,QO] at h3;exact h3) (λk _ e=>by rw [e];exact DY) XA
     have Nx:(fH bN.bI).map (vX vs (uH ι sa))=vs:=by
      have e1:(fH bN.bI).map (vX vs (uH ι sa))=(fH bN.bI).map λi=>vs.getD i undef:=List.map_congr_left λk hk=>by
       have:=(List.mem_filter.1 hk).2
       rw [Nat.blt_eq] at this;exact if_pos this
      rw [e1,KA,<- QM];apply List.ext_getElem?;intro i;rw [List.getElem?_map];rcases Nat.lt_or_ge i vs.length with hi | hi
      ·rw [List.getElem?_range hi];simp [List.getD_eq_getElem?_getD,hi]
      ·rw [List.getElem?_eq_none (by simp;omega),List.getElem?_eq_none hi];rfl
     rw [Nx] at w1;have tC:(rB τ bN.bI rr).map (·.1)=((jb bN.bI rr).map (·.1)).map τ:=w3;have XG:∀ t∈(rB τ bN.bI rr).map (·.1),t∈(bN.bI.map (·.1)).map τ:=λt ht=>by rw [tC] at ht;obtain⟨k,hk,rfl⟩:=List.mem_map.1 ht;obtain⟨q,hq,rfl⟩:=List.mem_map.1 hk;exact List.mem_map.2 ⟨_,vA q hq,rfl⟩
     have hpn:(bN.bI.map (·.1)).Nodup:=by refine yh RJ
     have aam:((rB τ bN.bI rr).map (·.1)).Nodup:=by
      rw [tC];have h1:=xp (x:=rr) hpn;have h2:∀ k∈(jb bN.bI rr).map (·.1),k∈bN.bI.map (·.1):=λk hk=>by obtain⟨q,hq,rfl⟩:=List.mem_map.1 hk;exact vA q hq
      generalize (jb bN.bI rr).map (·.1)=l at h1 h2
      induction l with
      | nil=>exact .nil
      | cons a l ih =>
       rw [List.nodup_cons] at h1;rw [List.map_cons,List.nodup_cons];refine⟨λlH=>?_,ih h1.2 λk hk=>h2 k (List.mem_cons_of_mem _ hk)⟩;obtain⟨b,hb,he⟩:=List.mem_map.1 lH;have p1:=xq RJ (h2 a (by simp));have p2:=xq RJ (h2 b (List.mem_cons_of_mem _ hb));rw [he,p1] at p2;exact h1.1 ((Option.some.inj p2) ▸ hb)
     refine⟨F3,Aw,_,⟨(c8 s0 pg).n,(c8 s0 pg).np,(c8 s0 pg).nw,(c8 s0 pg).sl,rB τ bN.bI rr++(c8 s0 pg).ow.filter λp=>!((pa τ bN.bI).contains p.1)⟩,aal,⟨Y9.len,Y9.sl,λq hq=>?_,?_⟩,?_,?_,h0,hn.1,hn.2.1,hn.2.2,λe=>?_,λt ht=>?_,λt ht h1 h2 U3=>?_⟩
     ·rcases List.mem_append.1 hq with hq | hq
      ·exact w2 q hq
      ·exact Y9.ow q hq
     ·show ((rB τ bN.bI rr++_).map _).Nodup;rw [List.map_append,List.nodup_append];exact⟨aam,Y9.nd,λa ha b hb e=>(Hz b hb).2 (e ▸ XG a ha)⟩
     ·show Hp h' F3 (lv Aw (rB τ bN.bI rr++_)++L0);rw [eX,w4,List.append_assoc];refine hH3.sub ((List.Sublist.refl _).append (List.Sublist.append ?_ (List.Sublist.refl _)));rw [ye,Nw,kT];have e1:kl Aw (cW (s0.ow.map (·.1)) (pa τ bN.bI++pg))=kl ι (cW (s0.ow.map (·.1)) (pa τ bN.bI++pg)):=OQ λt ht=>by refine Hx t ?_;rw [<- kT,<- Nw] at ht;exact (Hz t ht).2
      rw [e1];refine E0 (E1 λt ht=>?_)
      by_cases hb:t∈pa τ bN.bI
      ·exact List.mem_append_left _ hb
      ·refine List.mem_append_right _ ?_;rw [<- XD];refine List.mem_append_left _ (List.mem_filter.2 ⟨ht,?_⟩);simp [hb]
     ·rw [hv];exact zX w1
     ·have hN:pU bN.bI=false:=by
       have hc9:=Xx;clear Xx
       revert hc9
       rw [e];cases pU bN.bI <;> simp
      exact Tv.trans ((OX hN).trans Hw)
     ·by_cases lH:t∈(bN.bI.map (·.1)).map τ
      ·obtain⟨k,hk,rfl⟩:=List.mem_map.1 lH;rw [OY k hk]
       by_cases e1:k<1000
       ·rw [<- QO,zj e1] at ht;omega
       ·by_cases e2:k=NT
        ·subst e2;rw [DY] at ht;omega
        ·by_cases e3:SB<=k
         ·have h5:=DX (d:=dn) (args:=Ax) e3;rw [QO] at h5
          have:1000<SB:=by decide
          omega
         ·exact Tw k hk (by omega) e2 (by omega)
      ·rw [Hx t lH]
     ·refine Hx t λlH=>?_
      obtain⟨k,hk,rfl⟩:=List.mem_map.1 lH
      by_cases e1:k<1000
      ·rw [<- QO,zj e1] at h2;omega
      ·have e3:k<SB:=by
        rcases Nat.lt_or_ge k SB with h5 | h5
        ·exact h5
        ·exfalso
         have h6:=DX (d:=dn) (args:=Ax) h5;rw [QO] at h6;obtain⟨m1,m2⟩:=U3 h6;obtain⟨q,hq,Ut⟩:=List.mem_map.1 hk;have h7:=List.all_eq_true.1 aah q hq;have hqb:Nat.blt q.1 SB=false:=by
          cases hb:Nat.blt q.1 SB with
          | false=>rfl
          | true=>rw [Nat.blt_eq] at hb;omega
         rw [hqb,Bool.false_or,Bool.and_eq_true,Nat.blt_eq,Ut] at h7;obtain⟨h7,h8⟩:=h7;have h7:(k - SB) / 64∈bN.bI.map (·.1):=by simpa using h7
         have h9:τ k=j3 (τ ((k - SB) / 64)) ((k - SB) % 64):=by
          have e:k=j3 ((k - SB) / 64) ((k - SB) % 64):=by unfold j3;omega
          have:=BX (d:=dn) (args:=Ax) (i:=(k - SB) / 64) (y:=(k - SB) % 64) h8 (by omega)
          rw [<- e,QO] at this;exact this
         have Mo:(τ k - SB) / 64=τ ((k - SB) / 64):=by rw [h9];unfold j3;omega
         rw [Mo] at m1 m2
         by_cases e4:(k - SB) / 64<1000
         ·have Tx:=zj (d:=dn) (args:=Ax) e4;rw [QO] at Tx;omega
         ·have h3:τ ((k - SB) / 64)∈pa τ bN.bI:=by
           refine List.mem_map.2 ⟨_,List.mem_filter.2 ⟨h7,?_⟩,rfl⟩
           have:Nat.blt ((k - SB) / 64) 1000=false:=by cases hb:Nat.blt ((k - SB) / 64) 1000 with
            | false=>rfl
            | true=>rw [Nat.blt_eq] at hb;omega
           have h7:Nat.blt ((k - SB) / 64) SB=true:=by rw [Nat.blt_eq];exact h8
           rw [this,h7];rfl
          have h4:=List.all_eq_true.1 U4 _ h3;have h5:τ ((k - SB) / 64)∈tags sa bN.lf:=by simpa using h4
          obtain⟨b,hb⟩:=(vC (ι:=ι) hx).1 _ h5;have h6:=ph hb;rw [zk] at h6;obtain⟨q,hq,he⟩:=List.mem_map.1 h6;exact m1 q hq he
       have h3:τ k∈pa τ bN.bI:=by
        refine List.mem_map.2 ⟨k,List.mem_filter.2 ⟨hk,?_⟩,rfl⟩
        have:Nat.blt k 1000=false:=by cases hb:Nat.blt k 1000 with
         | false=>rfl
         | true=>rw [Nat.blt_eq] at hb;omega
        have h7:Nat.blt k SB=true:=by rw [Nat.blt_eq];exact e3
        rw [this,h7];rfl
       have h4:=List.all_eq_true.1 U4 _ h3;have h5:τ k∈tags sa bN.lf:=by simpa using h4
       obtain⟨b,hb⟩:=(vC (ι:=ι) hx).1 _ h5;have h6:=ph hb;rw [zk] at h6;obtain⟨q,hq,he⟩:=List.mem_map.1 h6;exact ht q hq he
theorem E4 {K:D->St->Option R}{f:FuncId}{xs:List Operand}{dn:Nat}(hC:lD P C)(hr:Rel F ι s ρ)(hm:Hp h F (lv ι s.ow++L0))(h0:sO C s dn f (xs.map (g s)) K=some r):(∀ args w,(callFunc f args).run P w = .ok (.enter f args) w)/\IL P f (xs.map (ev ρ)) h (pf K r F ι s ρ L0 dn) :=
 rT hC hr hm (by simp) (sV hr) h0
theorem wH {K:D->St->Option R}{f:FuncId}{xs:List Operand}{ds:List D}{cs:List Value}{dn:Nat}(hC:lD P C)(hr:Rel F ι s ρ)(hm:Hp h F (lv ι s.ow++L0))(dv:F2 (jM F ι) ds cs)(h0:sO C s dn f (xs.map (g s)++ds) K=some r):(∀ args w,(callFunc f args).run P w = .ok (.enter f args) w)/\IL P f (xs.map (ev ρ)++cs) h (pf K r F ι s ρ L0 dn):=by
 refine rT hC hr hm (by simp [bz dv]) (λi=>?_) h0;simp only [List.getD_eq_getElem?_getD];rcases Nat.lt_or_ge i xs.length with hi | hi
 ·rw [List.getElem?_append_left (by simpa using hi),List.getElem?_append_left (by simpa using hi),<- List.getD_eq_getElem?_getD,<- List.getD_eq_getElem?_getD];exact sV hr i
 ·rw [List.getElem?_append_right (by simpa using hi),List.getElem?_append_right (by simpa using hi)];simp only [List.length_map];cases hd:ds[i - xs.length]? with
  | none=>trivial
  | some d =>
   obtain⟨v,h1,h2⟩:=gq dv hd;rw [h1];exact .jd h2
theorem C5 {K:D->St->Option R}{f:FuncId}{xs:List Operand}{ds:List D}{cs:List Value}{dn:Nat}(hC:lD P C)(hr:Rel F ι s ρ)(hm:Hp h F (lv ι s.ow++L0))(dv:F2 (jM F ι) ds cs)(h0:sO C s dn f (ds++xs.map (g s)) K=some r):(∀ args w,(callFunc f args).run P w = .ok (.enter f args) w)/\IL P f (cs++xs.map (ev ρ)) h (pf K r F ι s ρ L0 dn):=by
 refine rT hC hr hm (by simp [bz dv]) (λi=>?_) h0;simp only [List.getD_eq_getElem?_getD];have hl:=bz dv;rcases Nat.lt_or_ge i ds.length with hi | hi
 ·rw [List.getElem?_append_left hi,List.getElem?_append_left (by omega)];cases hd:ds[i]? with
  | none=>trivial
  | some d =>
   obtain⟨v,h1,h2⟩:=gq dv hd;rw [h1];exact .jd h2
 ·rw [List.getElem?_append_right hi,List.getElem?_append_right (by omega),<- hl,<- List.getD_eq_getElem?_getD,<- List.getD_eq_getElem?_getD];exact sV hr _
theorem RL {x:Operand}{n:String}{T f:Nat}{v:Value}{xs:Array Operand}{ta:Array TypeId}(hv:ev ρ x = .iface T v)(hm:Jb P T n f)(hc:∀ args w,(callFunc f args).run P w = .ok (.enter f args) w)(w:World):(execOp (ev ρ) ⟨dst, .call ⟨.invoke x n,xs,ta⟩,ty,p,af,gd⟩).run P w = .ok (.enter f (v::xs.toList.map (ev ρ)).toArray) w:=by
 obtain⟨k,hk⟩:=Jc P;have e:#[v]++xs.map (ev ρ)=(v::xs.toList.map (ev ρ)).toArray:=Array.ext' (by simp);have e0:(#[Value.iface T v]++xs.map (ev ρ))[0]?=some (.iface T v):=by simp [Array.getElem?_append]
 have e1:(#[Value.iface T v]++xs.map (ev ρ)).extract 1 (#[Value.iface T v]++xs.map (ev ρ)).size=xs.map (ev ρ):=by apply Array.ext';simp only [Array.toList_extract,Array.toList_append,Array.toList_map,Array.size_append,Array.size_map,List.size_toArray,List.length_cons,List.length_nil,List.extract_eq_take_drop];simp only [List.singleton_append,List.drop_succ_cons,List.drop_zero];exact List.take_of_length_le (by simp)
 simp only [execOp,resolve,hv,invoke,Sem.run_bind,Sem.run_pure,Result.andThen_ok,e0,e1,callMethod];simp [hk,Jd hm,hc,e]
theorem KJ {f:FuncId}{t:Nat}{xs:Array Operand}{ta:Array TypeId}{cs:List Value}(hv:ev ρ (.tmp t) = .func (.func f) #[] cs.toArray)(hc:∀ args w,(callFunc f args).run P w = .ok (.enter f args) w)(w:World):(execOp (ev ρ) ⟨dst, .call ⟨.value (.tmp t),xs,ta⟩,ty,p,af,gd⟩).run P w = .ok (.enter f (xs.toList.map (ev ρ)++cs).toArray) w:=by have e:xs.map (ev ρ)++cs.toArray=(xs.toList.map (ev ρ)++cs).toArray:=Array.ext' (by simp);simp [execOp,resolve,hv,Deferred.ofValue,invoke,hc,e]
end
structure Inv (F0:iH)(io:Nat->Value)(L0:List gJ)(n np:Nat)(nw:Bool)(s:St)(ρ:List Value)(h:Array Obj):Prop where
 out:∃ F ι,F0.le F/\(nw=false->F.fF=F0.fF)/\Rel F ι s ρ/\Hp h F (lv ι s.ow++L0)/\∀ t,(np / 1000<=t/\t<np % 1000)->(ι t).1=io t
 hn:s.n=n
 iB:s.np=np
 nu:s.nw=nw
section
variable {P:Program}{C:Cx}{R:Type}{F F' F1 F0:iH}{ι ι':Gh}{s s':St}{ρ:List Value}{d:D}{v:Value}{t:Nat}{L0:List gJ}{r:R}{dst:Option Tmp}{ty:TypeId}{p:String}{af:Array Edge}{gd:Option (Nat×Bool)}{h:Array Obj}{io:Nat->Value}{n np:Nat}{nw:Bool}{E:Env}{all rest:List Oper}{KK:List Value->Array Obj->Prop}{o:Oper}
theorem Rel.reset (hr:Rel F ι s ρ)(hd:kQ F ι d (ρ.getD t undef)):Rel F ι (s.set t d) ρ :=
 ⟨hr.len,λi=>by
  simp only [St.set]
  by_cases e:i=t
  ·subst e;simp;exact hd
  ·have:(i == t)=false:=by simp [e]
   rw [this];exact hr.sl i,hr.ow,hr.nd⟩
theorem gL:∀ {T:List Nat} {s s0:St} {F:iH},Rel F ι s ρ->Hp h F (lv ι s.ow++L0)->fG s T=some s0->∃ F',F.le F'/\F'.fF=F.fF/\Rel F' ι s0 ρ/\Hp h F' (lv ι s0.ow++L0)/\s0.n=s.n/\s0.np=s.np/\s0.nw=s.nw/\s0.ow.map (·.1)=cW (s.ow.map (·.1)) T
 | [],s,s0,F,hr,hm,h0=>by cases h0;refine⟨F, .refl F,rfl,hr,hm,rfl,rfl,rfl,?_⟩;simp only [cW,List.contains_nil,Bool.not_false];exact (List.filter_eq_self.2 λ_ _=>rfl).symm
 | t::T,s,s0,F,hr,hm,h0=>by
  simp only [fG] at h0;have fin:∀ d F1,F.le F1->F1.fF=F.fF->Hp h F1 (lv ι (s.freeze t d).ow++L0)->Rel F1 ι (s.freeze t d) ρ->fG (s.freeze t d) T=some s0->∃ F',F.le F'/\F'.fF=F.fF/\Rel F' ι s0 ρ/\Hp h F' (lv ι s0.ow++L0)/\s0.n=s.n/\s0.np=s.np/\s0.nw=s.nw/\s0.ow.map (·.1)=cW (s.ow.map (·.1)) (t::T):=λd F1 h1 hn h2 h3 h0=>by
   obtain⟨F2,h4,BJ,h5,h6,h7,h8,h9,Mo⟩:=gL h3 h2 h0;refine⟨F2,h1.trans h4,BJ.trans hn,h5,h6,h7,h8,h9,?_⟩;rw [Mo,pe];simp only [cW]
   have:(s.ow.filter λp=>!(p.1 == t)).map (·.1)=(s.ow.map (·.1)).filter λk=>!(k == t):=by rw [List.filter_map];rfl
   rw [this,List.filter_filter];refine List.filter_congr λx _=>?_
   simp only [List.contains_cons];cases (x == t) <;> simp
  split at h0
  ·rename_i e T' xs dB;obtain⟨F1,h1,hn,h2,h3,_⟩:=hr.freeze hm dB;exact fin _ F1 h1 hn h2 h3 h0
  ·rename_i T' ds dB;cases hp:ds.all D.plain with
   | false=>rw [hp] at h0;cases h0
   | true =>
    rw [hp] at h0;obtain⟨F1,h1,hn,h2,h3,_⟩:=hr.Kr hm dB hp;exact fin _ F1 h1 hn h2 h3 h0
  ·cases h0
structure PS (k:St->Option R)(r:R)(F:iH)(ι:Gh)(s:St)(ρ:List Value)(L0:List gJ)(dt:Nat)(s':St)(h':Array Obj)(F':iH)(ι':Gh):Prop where
 le:F.le F'
 rel:Rel F' ι' s' ρ
 hp:Hp h' F' (lv ι' s'.ow++L0)
 k:k s'=some r
 n:s'.n=s.n
 np:s'.np=s.np
 nw:s'.nw=s.nw
 fF:s.nw=false->F'.fF=F.fF
 io:∀ t,(s.np / 1000<=t/\t<s.np % 1000)->(ι' t).1=(ι t).1
 Ny:∀ t,(∀ p∈s.ow,p.1≠t)->t≠dt->t / 1000≠dt+1->(SB<=t->(∀ p∈s.ow,p.1≠(t - SB) / 64)/\(t - SB) / 64 / 1000≠dt+1)->ι' t=ι t
theorem HA {k:St->Option R}{h':Array Obj}{dt:Nat}(hp:pf (λd s'=>match s'.put dst d with | some IE=>k IE | none=>none) r F ι s ρ L0 dt v h'):∃ s' F' ι',PS k r F ι s (o7 ρ dst v) L0 dt s' h' F' ι':=by
 obtain⟨F',ι',d',s',h1,h2,h3,h4,h5,h6,h7,h8,h9,Mo,Tx⟩:=hp;simp only at h5;cases l8:s'.put dst d' with
 | none=>rw [l8] at h5;cases h5
 | some IE =>
  rw [l8] at h5;obtain⟨a,b,c,e,f⟩:=h2.put l8 (λ_=>h4);exact⟨IE,F',ι',h1,a,by rw [b];exact h3,h5,e.trans h6,c.trans h7,f.trans h8,h9,Mo,Tx⟩
theorem HB {K:D->St->Option R}{s1:St}{F1:iH}{dt:Nat}{h':Array Obj}{T:List Nat}(g1:F.le F1)(g2:F1.fF=F.fF)(g5:s1.n=s.n)(g6:s1.np=s.np)(g7:s1.nw=s.nw)(g8:s1.ow.map (·.1)=cW (s.ow.map (·.1)) T)(hp:pf K r F1 ι s1 ρ L0 dt v h'):pf K r F ι s ρ L0 dt v h':=by
 obtain⟨F',ι',d',s',p1,p2,p3,p4,p5,p6,p7,p8,p9,Xn,Xo⟩:=hp;have iC:∀ p∈s1.ow,∃ q∈s.ow,q.1=p.1:=λp hp=>by
  have:p.1∈s1.ow.map (·.1):=List.mem_map.2 ⟨p,hp,rfl⟩
  rw [g8] at this;obtain⟨q,hq,he⟩:=List.mem_map.1 (uI.subset this);exact⟨q,hq,he⟩
 exact⟨F',ι',d',s',g1.trans p1,p2,p3,p4,p5,p6.trans g5,p7.trans g6,p8.trans g7,λe=>(p9 (g7.trans e)).trans g2,λt ht=>Xn t (by rw [g6];exact ht),λt h1 h2 h3 h4=>Xo t (λp hp e=>by
  obtain⟨q,hq,he⟩:=iC p hp;exact h1 q hq (he.trans e)) h2 h3 λhs=>⟨λp hp e=>by
  obtain⟨q,hq,he⟩:=iC p hp;exact (h4 hs).1 q hq (he.trans e),(h4 hs).2⟩⟩
theorem Jp {o:Op}{K:St->Option R}(hr:Rel F ι s ρ)(hm:Hp h F (lv ι s.ow++L0))(h0:UG s o K=some r):∃ F1 gS s1,F.le F1/\F1.fF=F.fF/\Rel F1 gS s1 ρ/\Hp h F1 (lv gS s1.ow++L0)/\K s1=some r/\s1.n=s.n/\s1.np=s.np/\s1.nw=s.nw/\(∀ t,(gS t).1=(ι t).1)/\s1.ow.map (·.1)=s.ow.map (·.1)/\∀ t,(∀ p∈s.ow,p.1≠t)->gS t=ι t:=by
 have Vb:K s=some r->∃ F1 gS s1,F.le F1/\F1.fF=F.fF/\Rel F1 gS s1 ρ/\Hp h F1 (lv gS s1.ow++L0)/\K s1=some r/\s1.n=s.n/\s1.np=s.np/\s1.nw=s.nw/\(∀ t,(gS t).1=(ι t).1)/\s1.ow.map (·.1)=s.ow.map (·.1)/\∀ t,(∀ p∈s.ow,p.1≠t)->gS t=ι t:=λh0=>⟨F,ι,s, .refl F,rfl,hr,hm,h0,rfl,rfl,rfl,λ_=>rfl,rfl,λ_ _=>rfl⟩
 unfold UG at h0
 split at h0
 ·rename_i t
  split at h0
  ·rename_i i Bc
   split at h0
   ·rename_i T A hs dB;obtain⟨n,hn,h0⟩:=Option.bind_eq_some_iff.1 h0;have hx:=hr.sl t;rw [Bc] at hx;obtain⟨Gt,y0,y1⟩:=hx;obtain⟨_,j6,o1,o2,o3⟩:=hr.look dB;have ET:=o1;rw [y0] at ET;have ET:Gt=j6:=by simpa using ET
    subst ET;obtain⟨qQ,tN,su,qh,L1,L2,hd,B,cs,Lv,e1,e2,e3,e4,e5,e6,e7,e8⟩:=o2.split hn;obtain⟨q,m,cp,rows,nC,a1,a2,a3,a4⟩:=e7.ha (by simp);obtain⟨A',B',xm,hA,hB⟩:=xZ hr.nd dB;have pK:Hp h F (Lv++(lv ι A'++(L1++((B,cs++[hd],BT.c T)::[]++L2)++lv ι B')++L0)):=by refine hm.perm ?_;rw [xm,eX,vu,e5];simp only [List.append_assoc,List.cons_append,List.nil_append];refine (List.perm_append_comm_assoc _ _ _).trans (List.Perm.append_left _ ((List.perm_append_comm_assoc _ _ _).trans (List.Perm.append_left _ ?_)));exact List.perm_middle
    obtain⟨vn,hle⟩:=pK.freeze;have hF:∀ p∈nC,vW ((F.add h Lv).m p.1) p:=λp hp=>by
     rcases a4 with⟨_,rfl⟩ | ⟨_,_,a4⟩
     ·exact add_get pK hp
     ·exact (a4 p hp).mono hle
    have sK:Rel (F.add h Lv) ι s ρ:=hr.mono hle rfl;have e9:hs.set i (n.wz true)=qQ++(n.wz true)::tN:=by rw [e1,List.set_append_right _ _ (by omega),e2];simp
    have Jh:kS (F.add h Lv) (ι.dq NT ((ι NT).1,L1++((B,cs++[hd],BT.c T)::[]++L2))) NT (.nodes .k T A (hs.set i (n.wz true)) none):=by refine⟨rfl,Gt,by rw [Gh.ao];exact o1,?_,λj hj=>o3 j (by simpa using hj)⟩;rw [Gh.ao,e9,e3];exact NR.join (e6.mono hle) e2 ⟨hle.2.1 _ _ e7.hB,(e7.hc).mono hle,e7.h1,λ_=>⟨q,m,cp,rows,nC,a1,a2,cT (λ_ _ h=>h.mono hle) a3, .inr ⟨rfl,rfl,hF⟩⟩,λe=>by cases e⟩ (e8.mono hle)
    obtain⟨u1,l1,l2,u2,u3,u4⟩:=sK.dq (b' := .nodes .k T A (hs.set i (n.wz true)) none) (x:=((ι NT).1,L1++((B,cs++[hd],BT.c T)::[]++L2))) dB rfl Jh;have tI:Rd (F.add h Lv) [.aB .np n.kids] [ρ.getD t undef]:=by
     have Ry:hd=ρ.getD t undef:=by rw [e3,List.getElem?_append_right (by omega)] at y1;simpa [e4] using y1
     rw [<- Ry,a1];exact KF (q:=0) (e := .np) hle a2 a3 hF
    refine⟨_,_,_,hle,rfl,u1.reset (t:=t) (.aU tI),?_,h0,rfl,rfl,rfl,λt'=>?_,?_,λt' ht=>Gh.bJ λe=>ht _ (gR dB) e.symm⟩
    ·have hl:lv (ι.dq NT ((ι NT).1,L1++((B,cs++[hd],BT.c T)::[]++L2))) (s.dq NT (.nodes .k T A (hs.set i (n.wz true)) none)).ow=l1++(L1++((B,cs++[hd],BT.c T)::[]++L2)++l2):=u3;show Hp h _ (lv _ (s.dq NT (.nodes .k T A (hs.set i (n.wz true)) none)).ow++L0);rw [hl];have Wh:(lv ι A'++lv ι B').Perm (l1++l2):=by rw [<- u4,uv (mV s NT),xm,List.filter_append,List.filter_cons,ng hA,ng hB];simp [eX]
     refine vn.perm (List.Perm.append_right _ ?_);have w:∀ a b c:List gJ,(a++(b++c)).Perm (b++(a++c)):=λa b c=>List.perm_append_comm_assoc _ _ _
     refine (w _ _ _).trans (List.Perm.trans (List.Perm.append_left _ Wh.symm) (w _ _ _).symm)
    ·by_cases e:t'=NT
     ·subst e;rw [Gh.ao]
     ·rw [Gh.bJ e]
    ·show ((s.ow.map λp=>cond (p.1 == NT) (NT,OB.nodes .k T A (hs.set i (n.wz true)) none) p).map (·.1))=_;rw [List.map_map];refine List.map_congr_left λp _=>?_
     show (cond (p.1 == NT) (NT,OB.nodes .k T A (hs.set i (n.wz true)) none) p).1=p.1;cases hb:(p.1 == NT) with
     | false=>rfl
     | true=>exact (beq_iff_eq.1 hb).symm
   ·exact Vb h0
  ·exact Vb h0
 ·exact Vb h0
theorem Mp {K:D->St->Option R}{s1:St}{F1:iH}{gS:Gh}{dt:Nat}{h':Array Obj}(g1:F.le F1)(g2:F1.fF=F.fF)(g5:s1.n=s.n)(g6:s1.np=s.np)(g7:s1.nw=s.nw)(gi:∀ t,(gS t).1=(ι t).1)(g8:s1.ow.map (·.1)=s.ow.map (·.1))(go:∀ t,(∀ p∈s.ow,p.1≠t)->gS t=ι t)(hp:pf K r F1 gS s1 ρ L0 dt v h'):pf K r F ι s ρ L0 dt v h':=by
 obtain⟨F',ι',d',s',p1,p2,p3,p4,p5,p6,p7,p8,p9,Xn,Xo⟩:=hp;have iC:∀ p∈s1.ow,∃ q∈s.ow,q.1=p.1:=λp hp=>by
  have:p.1∈s1.ow.map (·.1):=List.mem_map.2 ⟨p,hp,rfl⟩
  rw [g8] at this;obtain⟨q,hq,he⟩:=List.mem_map.1 this;exact⟨q,hq,he⟩
 exact⟨F',ι',d',s',g1.trans p1,p2,p3,p4,p5,p6.trans g5,p7.trans g6,p8.trans g7,λe=>(p9 (g7.trans e)).trans g2,λt ht=>(Xn t (by rw [g6];exact ht)).trans (gi t),λt h1 h2 h3 h4=>(Xo t (λp hp e=>by
  obtain⟨q,hq,he⟩:=iC p hp;exact h1 q hq (he.trans e)) h2 h3 λhs=>⟨λp hp e=>by
  obtain⟨q,hq,he⟩:=iC p hp;exact (h4 hs).1 q hq (he.trans e),(h4 hs).2⟩).trans (go t h1)⟩
theorem DZ {k:St->Option R}(hC:lD P C)(hr:Rel F ι s ρ)(hm:Hp h F (lv ι s.ow++L0))(hw:IB all ρ o)(h0:zS C s o k=some r)(hk:∀ s' dz h' F' ι',PS k r F ι s dz L0 (o.dst.getD 900000) s' h' F' ι'->LW P E all KK rest dz h'):LW P E all KK (o::rest) ρ h:=by
 obtain⟨dst,op,ty,p,af,gd⟩:=o;unfold zS at h0;simp only at h0;have fin:∀ v h',pf (λd s'=>match s'.put dst d with | some IE=>k IE | none=>none) r F ι s ρ L0 (dst.getD 900000) v h'->LW P E all KK rest (o7 ρ dst v) h':=λv h' hp=>by obtain⟨s',F',ι',h1⟩:=HA hp;exact hk _ _ _ _ _ h1
 have pure:∀ op,nF C s op (λd=>match s.put dst d with | some IE=>k IE | none=>none)=some r->IB all ρ ⟨dst,op,ty,p,af,gd⟩->LW P E all KK (⟨dst,op,ty,p,af,gd⟩::rest) ρ h:=λop hp hw=>by obtain⟨v,d,h1,h2,h3⟩:=l7 (P:=P) (dst:=dst) (ty:=ty) (p:=p) (af:=af) (gd:=gd) (L0:=L0) hC.1 hm.gl hr hp;exact NO hw (h1 h hm) rfl (fin v h ⟨F,ι,d,s, .refl F,hr,hm,h2,h3,rfl,rfl,rfl,λ_=>rfl,λ_ _=>rfl,λ_ _ _ _ _=>rfl⟩)
 unfold WX at h0
 split at h0
 ·rename_i f xs ta
  split at h0
  ·rename_i s1 qQ;obtain⟨F1,g1,g2,g3,g4,g5,g6,g7,g8⟩:=gL hr hm qQ;obtain⟨xr,Ey⟩:=E4 hC g3 g4 h0
   haveI:T7 P f:=⟨xr⟩
   have e:xs=xs.toList.toArray:=by simp
   rw [e] at hw ⊢;exact NN hw Ey λv h' hp=>fin v h' (HB g1 g2 g5 g6 g7 g8 hp)
  ·cases h0
 ·rename_i t xs ta
  split at h0
  ·rename_i f ds Bc;have hx:=hr.sl t;rw [Bc] at hx;obtain⟨cs,hv,nq⟩:=Rd.Kv hx;obtain⟨xr,Ey⟩:=wH hC hr hm (dv:=nq.f2) h0;exact A6 hw.out (λw _=>KJ hv xr w) Ey fin
  ·rename_i f t' ds Bc;have hx:=hr.sl t;rw [Bc] at hx;obtain⟨B,cs,g1,hv,nq⟩:=hx;cases hf:Nat.blt f 1000000 with
   | false=>rw [hf] at h0;cases h0
   | true =>
    rw [hf] at h0;simp only [cond_true] at h0;rw [Nat.blt_eq] at hf;obtain⟨xr,Ey⟩:=wH hC hr hm (ds := .op t' 0::ds) (cs := .pointer (some ⟨B,0,none⟩)::cs) (dv := .cons ⟨B,g1,rfl⟩ nq.f2) h0;exact A6 hw.out (λw _=>KJ (hv.W5 hf) xr w) Ey fin
  ·cases h0
 ·rename_i x n xs ta
  split at h0
  ·rename_i f t' Kx
   split at h0
   ·rename_i q hq;obtain⟨pK,rfl⟩:=Ox hC.1 hq;have hx:=eR hr x;rw [Kx] at hx;obtain⟨B,cs,g1,hv,nq⟩:=hx;obtain⟨xr,Ey⟩:=C5 hC hr hm (ds:=[.op t' 0]) (cs:=[.pointer (some ⟨B,0,none⟩)]) (dv := .cons ⟨B,g1,rfl⟩ .nil) h0;exact A6 hw.out (λw _=>RL hv.W4 pK xr w) Ey fin
   ·cases h0
  ·cases h0
 ·split at h0
  ·cases hb:Nat.ble (s.np % 1000) (dst.getD 900000) with
   | false=>rw [hb] at h0;cases h0
   | true =>
    rw [hb] at h0;simp only [cond_true] at h0;exact Om hw.out (zV hC.1 hr hm (by rw [Nat.ble_eq] at hb;exact hb) h0) fin
  ·exact pure _ h0 hw
 ·rename_i T x
  split at h0
  ·rename_i s1 qQ;obtain⟨F1,g1,g2,g3,g4,g5,g6,g7,g8⟩:=gL hr hm qQ;obtain⟨v,d,h1,h2,h3⟩:=l7 (P:=P) (dst:=dst) (ty:=ty) (p:=p) (af:=af) (gd:=gd) (L0:=L0) hC.1 g4.gl g3 h0;exact NO hw (h1 h g4) rfl (fin v h ⟨F1,ι,d,s1,g1,g3,g4,h2,h3,g5,g6,g7,λ_=>g2,λ_ _=>rfl,λ_ _ _ _ _=>rfl⟩)
  ·cases h0
 ·rename_i T parts;cases Nv:Tl s T || (C.n_ (1000000+T)).isSome with
  | true =>
   rw [Nv] at h0;exact pure _ h0 hw
  | false =>
   rw [Nv] at h0;simp only [cond_false] at h0
   split at h0
   ·rename_i s1 qQ;obtain⟨F1,g1,g2,g3,g4,g5,g6,g7,g8⟩:=gL hr hm qQ;obtain⟨v,d,h1,h2,h3⟩:=l7 (P:=P) (dst:=dst) (ty:=ty) (p:=p) (af:=af) (gd:=gd) (L0:=L0) hC.1 g4.gl g3 h0;exact NO hw (h1 h g4) rfl (fin v h ⟨F1,ι,d,s1,g1,g3,g4,h2,h3,g5,g6,g7,λ_=>g2,λ_ _=>rfl,λ_ _ _ _ _=>rfl⟩)
   ·cases h0
 ·cases hp:xl op with
  | true=>rw [hp] at h0;exact pure _ h0 hw
  | false =>
   rw [hp] at h0;simp only [cond_false] at h0;cases hb:Nat.ble (s.np % 1000) (dst.getD 900000) with
   | false=>rw [hb] at h0;cases h0
   | true =>
    rw [hb] at h0;simp only [cond_true] at h0
    split at h0
    ·rename_i s1 qQ;obtain⟨F1,g1,g2,g3,g4,g5,g6,g7,g8⟩:=gL hr hm qQ;obtain⟨F2,vZ,s2,k1,k2,k3,k4,h0,k5,k6,k7,k8,k9,k10⟩:=Jp g3 g4 h0;refine Om hw.out (zV hC.1 k3 k4 (by rw [Nat.ble_eq] at hb;rw [k6,g6];exact hb) h0) λv h' hp=>fin v h' ?_
     exact HB g1 g2 g5 g6 g7 g8 (Mp k1 k2 k5 k6 k7 k8 k9 k10 hp)
    ·cases h0
theorem D0 {sy:St}{L1':List gJ}{k:St->Option R}(hC:lD P C)(hr:Rel F ι s ρ)(hm:Hp h F (lv ι s.ow++L0))(Tu:Rel F ι sy ρ)(Xl:Hp h F (lv ι sy.ow++L1'))(hw:IB all ρ o)(h0:Kj C sy s o k=some r)(hk:∀ s' dz h' F' ι',PS k r F ι s dz L0 (o.dst.getD 900000) s' h' F' ι'->LW P E all KK rest dz h'):LW P E all KK (o::rest) ρ h:=by
 unfold Kj at h0;cases ha:Tm sy o.op with
 | false=>rw [ha] at h0;exact DZ hC hr hm hw h0 hk
 | true =>
  rw [ha] at h0;simp only [cond_true] at h0;obtain⟨dst,op,ty,p,af,gd⟩:=o;unfold Tn at h0;simp only at h0
  split at h0
  ·rename_i c;obtain⟨callee,args,Tq⟩:=c
   split at h0
   ·rename_i C4;simp only at C4;subst C4
    split at h0
    ·rename_i x y QN
     split at h0
     ·rename_i S X Xq;have ea:args=#[x,y]:=Array.ext' QN;have Xr:Tq=#[S,X]:=Array.ext' Xq;subst ea;subst Xr
      split at h0
      ·cases h0
      ·cases hb:Nat.ble (s.np % 1000) (dst.getD 900000) with
       | false=>rw [hb] at h0;cases h0
       | true =>
        rw [hb] at h0;simp only [cond_true] at h0;exact Om hw.out (uG hC.1 hr hm Tu Xl (by rw [Nat.ble_eq] at hb;exact hb) h0) λv h' hp=>by obtain⟨s',F',ι',h1⟩:=HA hp;exact hk _ _ _ _ _ h1
     ·cases h0
    ·cases h0
   ·cases h0
  ·cases h0
theorem OZ {k:St->Option R}(hC:lD P C)(hi:Inv F0 io L0 n np nw s ρ h)(hw:IB all ρ o)(h0:zS C s o k=some r)(hk:∀ s' dz h',Inv F0 io L0 n np nw s' dz h'->k s'=some r->LW P E all KK rest dz h'):LW P E all KK (o::rest) ρ h:=by obtain⟨⟨F,ι,hF,hN,hr,hm,BU⟩,hn,iB,nu⟩:=hi;exact DZ hC hr hm hw h0 λs' dz h' F' ι' hp=>hk s' dz h' ⟨⟨F',ι',hF.trans hp.le,λe=>(hp.fF (nu.trans e)).trans (hN e),hp.rel,hp.hp,λt ht=>(hp.io t (by omega)).trans (BU t ht)⟩,hp.n.trans hn,hp.np.trans iB,hp.nw.trans nu⟩ hp.k
theorem E5 {s':St}(hi:Inv F0 io L0 n np nw s ρ h)(hp:s.put dst .fA=some s'):Inv F0 io L0 n np nw s' (o7 ρ dst undef) h:=by obtain⟨⟨F,ι,hF,hN,hr,hm,BU⟩,hn,iB,nu⟩:=hi;obtain⟨a,b,c,e,f⟩:=hr.put (v:=undef) hp (λ_ => .jd rfl);exact⟨⟨F,ι,hF,hN,a,by rw [b];exact hm,BU⟩,by omega,by omega,f.trans nu⟩
theorem Inv.bool {c:Bool}(hi:Inv F0 io L0 n np nw s ρ h)(hs:s.sl t = .bool c):ev ρ (.tmp t) = .bool c:=by
 obtain⟨⟨F,ι,hF,hN,hr,hm,BU⟩,hn,iB,nu⟩:=hi
 have:=hr.sl t
 rw [hs] at this;exact Rd.iD this
theorem Inv.aan (hi:Inv F0 io L0 n np nw s ρ h)(hs:s.sl t = .fA):ev ρ (.tmp t)=undef:=by
 obtain⟨⟨F,ι,hF,hN,hr,hm,BU⟩,hn,iB,nu⟩:=hi
 have:=hr.sl t
 rw [hs] at this;exact this
theorem Inv.reset {c:Bool}(hi:Inv F0 io L0 n np nw s ρ h)(hs:s.sl t = .bool c):Inv F0 io L0 n np nw (s.set t (.bool c)) ρ h:=by
 obtain⟨⟨F,ι,hF,hN,hr,hm,BU⟩,hn,iB,nu⟩:=hi
 have:=hr.sl t
 rw [hs] at this;exact⟨⟨F,ι,hF,hN,hr.reset this,hm,BU⟩,hn,iB,nu⟩
theorem uJ (hC:lD P C){k:St->Option R}:∀ (l:List Oper) (s:St) (ρ:List Value) (h:Array Obj),Inv F0 io L0 n np nw s ρ h->rD (zS C) all l s k=some r->(∀ s' dz h',Inv F0 io L0 n np nw s' dz h'->k s'=some r->KK dz h')->LW P E all KK l ρ h
 | [],s,ρ,h,hi,h0,hk=>yU (hk s ρ h hi h0)
 | o::l,s,ρ,h,hi,h0,hk=>by
  unfold rD at h0;have go:∀ s,Inv F0 io L0 n np nw s ρ h->IB all ρ o->zS C s o (λs'=>rD (zS C) all l s' k)=some r->LW P E all KK (o::l) ρ h:=λs hi hw h0 =>
   OZ hC hi hw h0 λs' dz h' j5 h1=>uJ hC l s' dz h' j5 h1 hk
  split at h0
  ·rename_i hg;exact go s hi (Bp hg) h0
  ·rename_i j b hg
   split at h0
   ·cases h0
   ·rename_i t ht
    split at h0
    ·rename_i c hs;have hv:=hi.bool hs;have j5:=hi.reset hs;cases c <;> cases b <;> simp only [cond_true,cond_false] at h0
     ·exact go _ j5 (sg hg ht hv) h0
     ·split at h0
      ·rename_i s' hp;exact Dw hg ht hv rfl (uJ hC l s' _ h (E5 j5 hp) h0 hk)
      ·cases h0
     ·split at h0
      ·rename_i s' hp;exact Dw hg ht hv rfl (uJ hC l s' _ h (E5 j5 hp) h0 hk)
      ·cases h0
     ·exact go _ j5 (sg hg ht hv) h0
    ·rename_i hs
     split at h0
     ·rename_i s' hp;exact LJ hg ht (hi.aan hs) rfl (uJ hC l s' _ h (E5 hi hp) h0 hk)
     ·cases h0
    ·cases h0
def O0:(k:Kd)->k.T->Value
 | .int k,n => .int k n
 | .bool,b => .bool b
 | .str,l=>bs l
 | _,_=>undef
def D1:(p:Pt)->er p->List Value
 | [],_=>[]
 | [q],x=>[O0 q.2 x]
 | q::q'::ps,x=>O0 q.2 x.1::D1 (q'::ps) x.2
theorem M1.val {i:Nat}{k:Kd}{x:k.T}(h:M1 F ι i k x v)(hk:k.scalar=true):v=O0 k x:=by
 cases k <;> first | (simp [Kd.scalar] at hk;done) | skip
 ·exact Rd.c_ h.1
 ·exact Rd.iD h.1
 ·exact Rd.g_ h.1
theorem MP.il {vs:Nat->Value}:∀ {j:Nat} {q:Pt} {x:er q},q.map (·.1)=List.range' j q.length->(q.all λq=>q.2.scalar)=true->MP F ι vs q x->(List.range' j q.length).map vs=D1 q x
 | j,[],x,_,_,_=>rfl
 | j,[a],x,hq,hs,hm=>by
  have hj:a.1=j:=by simpa using hq
  have:vs a.1=O0 a.2 x:=M1.val hm (by simpa using hs)
  rw [hj] at this;simp [D1,this]
 | j,a::b::q,x,hq,hs,hm=>by
  have hj:a.1=j/\(b::q).map (·.1)=List.range' (j+1) (b::q).length:=by rw [List.map_cons,List.length_cons,List.range'_succ,List.cons.injEq] at hq;exact hq
  rw [List.all_cons,Bool.and_eq_true] at hs;have h1:vs a.1=O0 a.2 x.1:=M1.val hm.1 hs.1;rw [hj.1] at h1;have h2:=MP.il (j:=j+1) (q:=b::q) (x:=x.2) hj.2 hs.2 hm.2;simp only [List.length_cons,List.range'_succ,List.map_cons,D1] at h2 ⊢;rw [h1,h2]
theorem BZ {vs:List Value}:(List.range' 0 vs.length).map (λi=>vs.getD i undef)=vs:=by
 apply List.ext_getElem?;intro i;rw [List.getElem?_map];rcases Nat.lt_or_ge i vs.length with hi | hi
 ·rw [List.getElem?_range' (by omega)];simp [List.getD_eq_getElem?_getD,hi]
 ·rw [List.getElem?_eq_none (by simp;omega),List.getElem?_eq_none hi];rfl
theorem MP.KL {F0:iH}{KM:Gh}:∀ {q:Pt} {x:er q},(q.all λq=>q.2.scalar)=true->(∀ k∈q.map (·.1),k<1000)->F2 (λd v=>kQ F0 KM d v/\∀ ds,d ≠ .A9 ds) (wD id q x) (D1 q x)
 | [],_,_,_ => .nil
 | [(i,k)],x,hs,hq=>by
  have h1:Nat.blt i 1000=true:=by rw [Nat.blt_eq];exact hq i (by simp)
  simp only [wD,h1,cond_true];refine .cons ⟨?_,vE⟩ .nil;simp only [List.all_cons,List.all_nil,Bool.and_true] at hs;cases k <;> first | (simp [Kd.scalar] at hs;done) | skip
  ·exact .aU (.int .nil)
  ·exact .aU (.bool .nil)
  ·exact .aU (.str .nil)
 | (i,k)::b::q,x,hs,hq=>by
  have h1:Nat.blt i 1000=true:=by rw [Nat.blt_eq];exact hq i (by simp)
  rw [List.all_cons,Bool.and_eq_true] at hs;simp only [wD,h1,cond_true];refine .cons ⟨?_,vE⟩ (MP.KL (q:=b::q) (x:=x.2) hs.2 λk hk=>hq k (List.mem_cons_of_mem _ hk));have qQ:=hs.1;cases k <;> first | (simp [Kd.scalar] at qQ;done) | skip
  ·exact .aU (.int .nil)
  ·exact .aU (.bool .nil)
  ·exact .aU (.str .nil)
theorem wI {K:D->Option R}{f:FuncId}{xs:List Operand}(hC:lD P C)(hr:Rel F ι s ρ)(h0:EE C s f (xs.map (g s)) K=some r):(∀ args w,(callFunc f args).run P w = .ok (.enter f args) w)/\∃ v d,kQ F ι d v/\K d=some r/\∀ h,Hp h F (lv ι s.ow++L0)->IL P f (xs.map (ev ρ)) h λv' h'=>v'=v/\Hp h' F (lv ι s.ow++L0):=by
 unfold EE at h0
 split at h0
 ·cases h0
 ·rename_i bN U9;obtain⟨Np,xr⟩:=Hu hC U9;refine⟨xr,?_⟩;generalize U_:sq s (xs.map (g s))=sa at h0;have Xw:Rel F ι sa (xs.map (ev ρ)):=by subst U_;exact⟨by simp [sq],sV hr,hr.ow,hr.nd⟩
  have zk:sa.ow=s.ow:=by subst U_;rfl
  cases hc:(bN.bI.all (λq=>q.2.scalar) && (tags sa bN.lf).isEmpty && mu (kf sa bN.lf) && fH bN.lf == List.range (xs.map (g s)).length && bN.bI.map (·.1) == List.range bN.bI.length && (fH bN.bI).length == bN.bI.length) with
  | false=>rw [hc] at h0;cases h0
  | true =>
   rw [hc] at h0;simp only [cond_true] at h0;simp only [Bool.and_eq_true,beq_iff_eq,Bool.not_eq_true',List.isEmpty_iff] at hc;obtain⟨⟨⟨⟨⟨o8,U4⟩,Xp⟩,hc6⟩,hc7⟩,Xx⟩:=hc
   split at h0
   ·cases h0
   ·rename_i x hx;obtain⟨rr,xR,h0⟩:=Option.bind_eq_some_iff.1 h0;have Ty:bN.bI.map (·.1)=List.range' 0 bN.bI.length:=by rw [hc7,List.range_eq_range']
    have jC:∀ k∈bN.bI.map (·.1),k<1000:=λk hk=>by
     have h1:fH bN.bI=bN.bI.map (·.1):=(List.filter_sublist).eq_of_length (by simpa [fH] using Xx);rw [<- h1] at hk
     have:=(List.mem_filter.1 hk).2
     rwa [Nat.blt_eq] at this
    have Jh:pU bN.bI=false:=by
     cases hN:pU bN.bI with
     | false=>rfl
     | true =>
      have h1:=jC NT (zi.1 hN);exact absurd h1 (by decide)
    refine⟨zW (D1 bN.bI rr),_,zX (MP.KL o8 jC),h0,λh hm=>?_⟩;have Wk:Hp h F (lv ι sa.ow++L0):=by rw [zk];exact hm
    obtain⟨F1,hle,Hw,RH,OW,RI,hH,N4⟩:=BW Xw Wk (by rw [U4];exact gK Xp) hx;have hlen:(xs.map (ev ρ)).length=(fH bN.lf).length:=by rw [hc6];simp
    refine (Np x rr xR F1 (uH ι sa) h (kl ι (cW (sa.ow.map (·.1)) (tags sa bN.lf++kf sa bN.lf))++L0) _ hlen OW (by rw [RI];exact hH)).mono ?_
    rintro v h' ⟨F2,vZ,vs,Jn,OX,QM,Jo,hv,Y8,zY⟩
    have h1:=MP.il Ty o8 Jo;have CQ:(List.range' 0 bN.bI.length).map (vX vs (uH ι sa))=vs:=by
     have e1:(List.range' 0 bN.bI.length).map (vX vs (uH ι sa))=(List.range' 0 bN.bI.length).map λi=>vs.getD i undef:=List.map_congr_left λk hk=>by rw [<- Ty] at hk;exact if_pos (jC k hk)
     rw [e1,<- Xx,<- QM,BZ]
    rw [CQ] at h1;refine⟨by rw [hv,h1],?_⟩;have h2:=N4 F2 h' _ Jn (Y8.sub (List.sublist_append_right _ _));have h2:=h2.U7 (F':=F) rfl (hle.trans Jn).2.2;rw [U4,List.nil_append,<- List.append_assoc,<- oG] at h2;refine h2.perm (List.Perm.append_right L0 ?_);rw [ye,<- zk];exact yf (nK (by rw [zk];exact hr.nd) (gK Xp) λt ht=>by obtain⟨b,hb⟩:=vD hx t ht;exact ph hb)
def SR (F:iH)(ι:Gh)(ow:List (Nat×OB))(L0:List gJ)(h:Array Obj):Prop:=Hp h F (lv ι ow++L0)
theorem O1 {k:St->Option R}{Kq:List Value->Prop}{ow:List (Nat×OB)}(hC:lD P C)(C1:Gl F.m)(hr:Rel F ι s ρ)(zk:s.ow=ow)(hw:IB all ρ o)(h0:DG C s o k=some r)(hk:∀ s' dz,Rel F ι s' dz->s'.ow=ow->s'.n=s.n->s'.np=s.np->s'.nw=s.nw->k s'=some r->QW P E (SR F ι ow L0) all Kq rest dz):QW P E (SR F ι ow L0) all Kq (o::rest) ρ:=by
 obtain⟨dst,op,ty,p,af,gd⟩:=o;unfold DG at h0;simp only at h0;have fin:∀ v d,kQ F ι d v->(match s.put dst d with | some IE=>k IE | none=>none)=some r->QW P E (SR F ι ow L0) all Kq rest (o7 ρ dst v):=λv d hd h1=>by
  cases l8:s.put dst d with
  | none=>rw [l8] at h1;cases h1
  | some IE =>
   rw [l8] at h1;obtain⟨a,b,c,e,f⟩:=hr.put l8 (λ_=>hd);exact hk _ _ a (by rw [b,zk]) e c f h1
 unfold Kh at h0
 split at h0
 ·rename_i f xs ta;obtain⟨xr,v,d,h1,h2,h3⟩:=wI (L0:=L0) hC hr h0
  haveI:T7 P f:=⟨xr⟩
  have e:xs=xs.toList.toArray:=by simp
  rw [e] at hw ⊢;exact Q6 hw (λh hS=>by subst zk;exact h3 h hS) rfl (fin v d h1 h2)
 ·obtain⟨v,d,h1,h2,h3⟩:=l7 (P:=P) (dst:=dst) (ty:=ty) (p:=p) (af:=af) (gd:=gd) (L0:=L0) hC.1 C1 hr h0;exact WH hw (λh hS=>h1 h (by subst zk;exact hS)) rfl (fin v d h2 h3)
theorem uK (hC:lD P C)(C1:Gl F.m){k:St->Option R}{Kq:List Value->Prop}{ow:List (Nat×OB)}:∀ (l:List Oper) (s:St) (ρ:List Value),Rel F ι s ρ->s.ow=ow->s.n=n->s.np=np->s.nw=nw->rD (DG C) all l s k=some r->(∀ s' dz,Rel F ι s' dz->s'.ow=ow->s'.n=n->s'.np=np->s'.nw=nw->k s'=some r->Kq dz)->QW P E (SR F ι ow L0) all Kq l ρ
 | [],s,ρ,hr,zk,hn,iB,nu,h0,hk=>Uq (hk s ρ hr zk hn iB nu h0)
 | o::l,s,ρ,hr,zk,hn,iB,nu,h0,hk=>by
  unfold rD at h0;have go:∀ s,Rel F ι s ρ->s.ow=ow->s.n=n->s.np=np->s.nw=nw->IB all ρ o->DG C s o (λs'=>rD (DG C) all l s' k)=some r->QW P E (SR F ι ow L0) all Kq (o::l) ρ:=λs hr zk hn iB nu hw h0 =>
   O1 hC C1 hr zk hw h0 λs' dz yQ Vc IH Vd Ve h1=>uK hC C1 l s' dz yQ Vc (IH.trans hn) (Vd.trans iB) (Ve.trans nu) h1 hk
  have skip:∀ s s',Rel F ι s ρ->s.ow=ow->s.n=n->s.np=np->s.nw=nw->s.put o.dst .fA=some s'->Rel F ι s' (o7 ρ o.dst undef)/\s'.ow=ow/\s'.n=n/\s'.np=np/\s'.nw=nw:=λs s' hr zk hn iB nu hp=>by obtain⟨a,b,c,e,f⟩:=hr.put (v:=undef) hp (λ_ => .jd rfl);exact⟨a,b.trans zk,e.trans hn,c.trans iB,f.trans nu⟩
  split at h0
  ·rename_i hg;exact go s hr zk hn iB nu (Bp hg) h0
  ·rename_i j b hg
   split at h0
   ·cases h0
   ·rename_i t ht
    split at h0
    ·rename_i c hs;have hd:=hr.sl t;rw [hs] at hd;have hv:ev ρ (.tmp t) = .bool c:=Rd.iD hd;have yQ:=hr.reset (d := .bool c) hd;cases c <;> cases b <;> simp only [cond_true,cond_false] at h0
     ·exact go _ yQ zk hn iB nu (sg hg ht hv) h0
     ·split at h0
      ·rename_i s' hp;obtain⟨a,b,c,e,f⟩:=skip _ _ yQ zk hn iB nu hp;exact Dx hg ht hv rfl (uK hC C1 l s' _ a b c e f h0 hk)
      ·cases h0
     ·split at h0
      ·rename_i s' hp;obtain⟨a,b,c,e,f⟩:=skip _ _ yQ zk hn iB nu hp;exact Dx hg ht hv rfl (uK hC C1 l s' _ a b c e f h0 hk)
      ·cases h0
     ·exact go _ yQ zk hn iB nu (sg hg ht hv) h0
    ·rename_i hs;have hd:=hr.sl t;rw [hs] at hd
     split at h0
     ·rename_i s' hp;obtain⟨a,b,c,e,f⟩:=skip _ _ hr zk hn iB nu hp;exact LO hg ht hd rfl (uK hC C1 l s' _ a b c e f h0 hk)
     ·cases h0
    ·cases h0
theorem sX {ops:List Oper}{o:Oper}{go skip:St->Option R}(hr:Rel F ι s ρ)(h0:y8 ops.toArray s o go skip=some r) :
  (∃ s1,Rel F ι s1 ρ/\s1.ow=s.ow/\s1.n=s.n/\s1.np=s.np/\s1.nw=s.nw/\IB ops ρ o/\go s1=some r) ∨
  (∃ s1,Rel F ι s1 (o7 ρ o.dst undef)/\s1.ow=s.ow/\s1.n=s.n/\s1.np=s.np/\s1.nw=s.nw/\Region.wanted o (yielded ops.toArray (act ρ).tmps)=false/\skip s1=some r):=by
 unfold y8 at h0;have sk:∀ s0,Rel F ι s0 ρ->s0.ow=s.ow->s0.n=s.n->s0.np=s.np->s0.nw=s.nw->Region.wanted o (yielded ops.toArray (act ρ).tmps)=false->(match s0.put o.dst .fA with | some s'=>skip s' | none=>none)=some r ->
   (∃ s1,Rel F ι s1 (o7 ρ o.dst undef)/\s1.ow=s.ow/\s1.n=s.n/\s1.np=s.np/\s1.nw=s.nw/\Region.wanted o (yielded ops.toArray (act ρ).tmps)=false/\skip s1=some r):=λs0 Va e1 e2 e3 e4 hw h1=>by
  split at h1
  ·rename_i s' l8;obtain⟨a,b,c,e,f⟩:=Va.put (v:=undef) l8 (λ_ => .jd rfl);exact⟨s',a,b.trans e1,e.trans e2,c.trans e3,f.trans e4,hw,h1⟩
  ·cases h1
 split at h0
 ·rename_i hg;exact .inl ⟨s,hr,rfl,rfl,rfl,rfl,Bp hg,h0⟩
 ·rename_i j b hg
  split at h0
  ·cases h0
  ·rename_i t ht;have Vf:(ops[j]?).bind (·.dst)=some t:=by simpa using ht
   split at h0
   ·rename_i c hs;have hd:=hr.sl t;rw [hs] at hd;have hv:ev ρ (.tmp t) = .bool c:=Rd.iD hd;have Y_:∀ c',c'=c->Rel F ι (s.set t (.bool c')) ρ:=λc' e=>by subst e;exact hr.reset hd
    cases c <;> cases b
    ·exact .inl ⟨_,Y_ _ rfl,rfl,rfl,rfl,rfl,sg hg Vf hv,h0⟩
    ·exact .inr (sk _ (Y_ _ rfl) rfl rfl rfl rfl (by simp [Region.wanted,hg,qE Vf hv]) h0)
    ·exact .inr (sk _ (Y_ _ rfl) rfl rfl rfl rfl (by simp [Region.wanted,hg,qE Vf hv]) h0)
    ·exact .inl ⟨_,Y_ _ rfl,rfl,rfl,rfl,rfl,sg hg Vf hv,h0⟩
   ·rename_i hs;have hd:=hr.sl t;rw [hs] at hd;have hu:ev ρ (.tmp t)=undef:=hd;exact .inr (sk s hr rfl rfl rfl rfl (by simp [Region.wanted,hg,rP Vf hu]) h0)
   ·cases h0
theorem HC {w0:List (Nat×OB)}(hh:Oh w0=true)(hle:F.le F')(QP:(∃ q∈w0,q.1=NT)->F'.fF=F.fF)(he:∀ q∈w0,ι' q.1=ι q.1){q:Nat×OB}(hq:q∈w0)(h:kS F ι q.1 q.2):kS F' ι' q.1 q.2:=by
 have h1:=List.all_eq_true.1 hh q hq;obtain⟨t,b⟩:=q;simp only at h h1 ⊢;have ht:=he _ hq;simp only at ht;cases b with
 | rows e T xs=>obtain⟨q,n,cp,rows,a,c,f⟩:=h;exact⟨q,n,cp,rows,by rw [ht];exact a,by rw [ht];exact c,cT (λ_ _ h=>h.mono hle) f⟩
 | mp l=>obtain⟨B,cs,a,c,f⟩:=h;exact⟨B,cs,by rw [ht];exact a,by rw [ht];exact c,f.mono hle⟩
 | ug l pos=>obtain⟨B,a,c⟩:=h;exact⟨B,by rw [ht];exact a,by rw [ht];exact c⟩
 | cells T ds =>
  obtain⟨B,cs,a,c,f⟩:=h;refine⟨B,cs,by rw [ht];exact a,by rw [ht];exact c,?_⟩;simp only at h1;clear c hq
  induction f with
  | nil=>exact .nil
  | @cons d v ds vs hd _ ih =>
   rw [List.all_cons,Bool.and_eq_true] at h1;refine .cons ?_ (ih h1.2);have h2:=h1.1;cases hp:d.plain with
   | true=>exact .aU ((hd.mn hp).mono hle)
   | false =>
    rw [hp,Bool.false_or] at h2;cases d with
    | own t' =>
     simp only [List.any_eq_true,beq_iff_eq] at h2;obtain⟨q,hq,rfl⟩:=h2;show _=_;rw [he q hq];exact hd
    | op t' o =>
     simp only [List.any_eq_true,beq_iff_eq] at h2;obtain⟨q,hq,rfl⟩:=h2;obtain⟨B,g1,g2⟩:=hd;exact⟨B,by rw [he q hq];exact g1,g2⟩
    | CN t' o =>
     simp only [List.any_eq_true,beq_iff_eq] at h2;obtain⟨q,hq,rfl⟩:=h2;obtain⟨B,g1,g2⟩:=hd;exact⟨B,by rw [he q hq];exact g1,g2⟩
    | _=>simp at h2
 | nodes cl T A hs hole =>
  obtain⟨h0,j6,a,b,c⟩:=h;exact⟨h0,j6,by rw [ht];exact a,by rw [ht];exact b.mono hle,by rw [QP ⟨_,hq,h0⟩];exact c⟩
 | oD cl hs=>exact⟨by rw [ht];exact h.1,λi x hx=>by obtain⟨B,cs,a,b,c⟩:=h.2 i x hx;exact⟨B,cs,hle.2.1 _ _ a,b.mono hle,c.mono hle⟩⟩
def HD (F:iH)(ι:Gh)(ow:List (Nat×OB))(T:List (Nat×List Nat))(TS:List (Nat×(Array Obj->Prop))):Prop :=
 F2 (λ(q:Nat×List Nat) (c:Nat×(Array Obj->Prop))=>c.1=q.1/\∀ h,Hp h F (lv ι (ow.filter λp=>q.2.contains p.1)++[])->c.2 h) T TS
theorem F2.filter {α β:Type}{R:α->β->Prop}{f:α->Bool}{g:β->Bool}(hfg:∀ a b,R a b->g b=f a):∀ {l:List α} {m:List β},F2 R l m->F2 R (l.filter f) (m.filter g)
 | _,_, .nil => .nil
 | _,_, .cons (a:=a) (b:=b) h t=>by
  rw [List.filter_cons,List.filter_cons,hfg a b h];cases f a with
  | true=>exact .cons h (t.filter hfg)
  | false=>exact t.filter hfg
theorem F2.KO {α β:Type}{R:α->β->Prop}:∀ {l:List α} {m:List β} {b:β},F2 R l m->b∈m->∃ a∈l,R a b
 | _,_,_, .nil,h=>by cases h
 | _,_,_, .cons h t,hb=>by
  rcases List.mem_cons.1 hb with rfl | hb
  ·exact⟨_,by simp,h⟩
  ·obtain⟨a,ha,hr⟩:=t.KO hb;exact⟨a,by simp [ha],hr⟩
theorem xt {A B:List (Nat×OB)}(h:A.Sublist B):(lv ι A).Sublist (lv ι B):=by rw [ye,ye];exact E0 (h.map _)
theorem oV {T:List (Nat×List Nat)}{TS:List (Nat×(Array Obj->Prop))}(hT:HD F ι s.ow T TS)(hm:Hp h F (lv ι s.ow++L0)):∀ q∈TS,q.2 h:=λq hq=>by obtain⟨a,_,_,h1⟩:=hT.KO hq;exact h1 h (hm.sub ((xt List.filter_sublist).append (List.nil_sublist _)))
theorem filter_mono {α:Type}{f g:α->Bool}(h:∀ p,f p=true->g p=true):∀ {l:List α},(l.filter f).Sublist (l.filter g)
 | [] => .slnil
 | p::l=>by
  rw [List.filter_cons,List.filter_cons];cases hf:f p with
  | true=>rw [h p hf];exact (filter_mono h).cons_cons _
  | false =>
   cases hg:g p with
   | true=>exact (filter_mono h).cons _
   | false=>exact filter_mono h
theorem qi (l m:List Nat)(a:Nat):(l++m).contains a=(l.contains a || m.contains a):=by simp
theorem qS {ops:List Oper}(hC:lD P C)(qb:Region.noSelect ops.toArray=true){k:St->Option R}:∀ (n_:List (Bool×Nat)) (fuel:Nat) (an:Array Bool) (T:List (Nat×List Nat)) (TS:List (Nat×(Array Obj->Prop))) (s:St) (ρ:List Value) (h:Array Obj) (F1:iH) (gS:Gh),n_.length<=fuel->F.le F1->(nw=false->F1.fF=F.fF)->Rel F1 gS s ρ->Hp h F1 (lv gS s.ow++L0)->s.n=n->s.np=np->s.nw=nw->(∀ t,(np / 1000<=t/\t<np % 1000)->(gS t).1=io t)->HD F1 gS s.ow T TS ->
  ur C ops.toArray n_ an T s k=some r->(∀ s' dz h' F' ι',F.le F'->(nw=false->F'.fF=F.fF)->Rel F' ι' s' dz->Hp h' F' (lv ι' s'.ow++L0)->s'.n=n->s'.np=np->s'.nw=nw->(∀ t,(np / 1000<=t/\t<np % 1000)->(ι' t).1=io t)->k s'=some r->KK dz h')->AM P E ops KK fuel an TS ρ h
 | [],fuel,an,T,TS,s,ρ,h,F1,gS,hlen,hle,hN,hr,hm,hn,iB,nu,zY,hT,h0,hk=>by
  unfold ur at h0;cases hc:vq (Region.ready .any ops.toArray an == []) with
  | false=>rw [hc] at h0;cases h0
  | true =>
   rw [hc] at h0;have uL:Region.ready .any ops.toArray an=[]:=by simpa [vq] using hc
   exact EC uL (hk s ρ h F1 gS hle hN hr hm hn iB nu zY h0)
 | _::_,0,_,_,_,_,_,_,_,_,hlen,_,_,_,_,_,_,_,_,_,_,_=>by simp at hlen
 | (true,i)::n_,fuel+1,an,T,TS,s,ρ,h,F1,gS,hlen,hle,hN,hr,hm,hn,iB,nu,zY,hT,h0,hk=>by
  have mD:n_.length<=fuel:=by simpa using hlen
  unfold ur at h0;cases hc:vq (DH ops.toArray an i) with
  | false=>rw [hc] at h0;cases h0
  | true =>
   rw [hc] at h0;simp only [cond_true] at h0;simp only [vq,DH,Bool.and_eq_true] at hc;obtain⟨E6,Wl⟩:=hc
   split at h0
   ·cases h0
   ·rename_i o ho;have Hl:ops[i]?=some o:=by simpa using ho
    rcases sX hr h0 with⟨s1,r1,e1,e2,e3,e4,tO,h1⟩ | ⟨s1,r1,e1,e2,e3,e4,tO,h1⟩
    ·cases hp:xl o.op with
     | false=>rw [hp] at h1;cases h1
     | true =>
      rw [hp] at h1;simp only [cond_true] at h1;obtain⟨dst,op,ty,p,af,gd⟩:=o;simp only at h1;cases XH:(GW s1 op && !(n_.any λq=>!q.1 && bh .any ops.toArray q.2 i && T.any λp=>bh .any ops.toArray i p.1 && !(bh .any ops.toArray q.2 p.1))) with
      | true =>
       have aap:GW s1 op=true:=(Bool.and_eq_true _ _ ▸ XH).1;obtain⟨v,d,g1,g2,g3⟩:=EP (P:=P) (dst:=dst) (ty:=ty) (p:=p) (af:=af) (gd:=gd) (s:=⟨s1.n,s1.np,s1.nw,s1.sl,s1.ow.filter λp=>(Nr s1 op).contains p.1⟩) hC.1 (r1.KH λp=>(Nr s1 op).contains p.1) aap h1
       split at g3
       ·rename_i s' l8;rw [XH] at g3;simp only [cond_true] at g3;obtain⟨a,b,c,e,f⟩:=r1.put l8 (λ_=>g2);refine N6 i Hl qb E6 Wl (oV hT hm) tO g1 rfl
         (qS hC qb n_ fuel _ ((i,[])::T) _ s' _ h F1 gS mD hle hN a (by rw [b,e1];exact hm) ((e.trans e2).trans hn) ((c.trans e3).trans iB) ((f.trans e4).trans nu) zY ?_ g3 hk)
        rw [b];exact .cons ⟨rfl,λh hh=>trivial⟩ (by rw [e1];exact hT)
       ·cases g3
      | false =>
      obtain⟨v,d,g1,g2,g3⟩:=l7 (P:=P) (dst:=dst) (ty:=ty) (p:=p) (af:=af) (gd:=gd) (L0:=[]) hC.1 hm.gl (r1.KH λp=>(Nr s1 op).contains p.1) h1;rw [XH] at g3;simp only [cond_false] at g3
      split at g3
      ·rename_i s' l8;obtain⟨a,b,c,e,f⟩:=r1.put l8 (λ_=>g2);have pK:Hp h F1 (lv gS s1.ow++L0):=by rw [e1];exact hm
       refine GR (S:=λh=>Hp h F1 (lv gS (s1.ow.filter λp=>(Nr s1 op).contains p.1)++[])) i Hl qb E6 Wl (pK.sub ((xt List.filter_sublist).append (List.nil_sublist _))) (oV hT hm) tO (λh' hh'=>g1 h' hh') rfl
        (qS hC qb n_ fuel _ ((i,Nr s1 op++(T.filter λq=>bh .any ops.toArray i q.1).flatMap (·.2))::T.filter λq=>!(bh .any ops.toArray i q.1)) _ s' _ h F1 gS mD hle hN a (by rw [b,e1];exact hm) ((e.trans e2).trans hn) ((c.trans e3).trans iB) ((f.trans e4).trans nu) zY ?_ g3 hk)
       rw [b];refine .cons ⟨rfl,λh hh=>⟨hh.sub ?_,λq hq Rc=>?_⟩⟩ (by rw [e1];exact hT.filter λa b p_=>by rw [p_.1])
       ·exact (xt (filter_mono λp hp=>by rw [qi,hp];rfl)).append (List.Sublist.refl _)
       ·obtain⟨a0,XI,p_⟩:=hT.KO hq;refine p_.2 h (hh.sub ?_);rw [e1];refine (xt (filter_mono λp hp=>?_)).append (List.Sublist.refl _)
        have:((T.filter λq=>bh .any ops.toArray i q.1).flatMap (·.2)).contains p.1=true:=by rw [List.contains_iff_mem] at hp ⊢;exact List.mem_flatMap.2 ⟨a0,List.mem_filter.2 ⟨XI,by rw [<- p_.1];exact Rc⟩,hp⟩
        rw [qi,this,Bool.or_true]
      ·cases g3
    ·exact Kc i Hl qb E6 Wl (oV hT hm) tO rfl (qS hC qb n_ fuel _ T TS s1 _ h F1 gS mD hle hN r1 (by rw [e1];exact hm) (e2.trans hn) (e3.trans iB) (e4.trans nu) zY (by rw [e1];exact hT) h1 hk)
 | (false,i)::n_,fuel+1,an,T,TS,s,ρ,h,F1,gS,hlen,hle,hN,hr,hm,hn,iB,nu,zY,hT,h0,hk=>by
  have mD:n_.length<=fuel:=by simpa using hlen
  unfold ur at h0;cases hc:vq (Region.ready .any ops.toArray an == [i]) with
  | false=>rw [hc] at h0;cases h0
  | true =>
   rw [hc] at h0;simp only [cond_true] at h0;have uL:Region.ready .any ops.toArray an=[i]:=by simpa [vq] using hc
   split at h0
   ·cases h0
   ·rename_i o ho;have Hl:ops[i]?=some o:=by simpa using ho
    have yW:HD F1 gS s.ow (T.filter λq=>!(bh .any ops.toArray i q.1)) (TS.filter λq=>!(bh .any ops.toArray i q.1)):=hT.filter λa b p_=>by rw [p_.1]
    generalize hTd:(T.filter λq=>!(bh .any ops.toArray i q.1))=T' at h0 yW;rcases sX hr h0 with⟨s1,r1,e1,e2,e3,e4,tO,h1⟩ | ⟨s1,r1,e1,e2,e3,e4,tO,h1⟩
    ·generalize hpd:T'.flatMap (·.2)=pd at h1;cases Za:(I7 C o.op && !(pd.isEmpty)) with
     | true =>
      rw [Za] at h1;simp only [cond_true] at h1;have pK:Hp h F1 (lv gS s1.ow++L0):=by rw [e1];exact hm
      obtain⟨dst,op,ty,p,af,gd⟩:=o;simp only at h1;unfold Kh at h1
      split at h1
      ·rename_i f xs ta;obtain⟨xr,v,d,g1,g2,g3⟩:=wI (L0:=L0) hC r1 h1
       haveI:T7 P f:=⟨xr⟩
       have e:xs=xs.toList.toArray:=by simp
       split at g2
       ·rename_i s' l8;obtain⟨a,b,c,e',f'⟩:=r1.put l8 (λ_=>g1);refine A8 i Hl uL ?_;rw [e] at tO ⊢;refine NN tO (g3 h pK) λv' h' ⟨hv,hp⟩=>?_
        subst hv;exact yU ⟨oV yW (by rw [<- e1];exact hp),qS hC qb n_ fuel _ T' _ s' _ h' F1 gS mD hle hN a (by rw [b];exact hp) ((e'.trans e2).trans hn) ((c.trans e3).trans iB) ((f'.trans e4).trans nu) zY (by rw [b,e1];exact yW) g2 hk⟩
       ·cases g2
      ·simp only [Bool.and_eq_true] at Za;rename_i eH;have h5:=Za.1;unfold I7 at h5
       split at h5
       ·rename_i f xs ta;exact absurd rfl (eH f xs ta)
       ·cases h5
     | false =>
     rw [Za] at h1;simp only [cond_false] at h1;cases yi:(Oh (s1.ow.filter λp=>pd.contains p.1) && (s1.ow.filter λp=>pd.contains p.1).all (λp=>L4 (s1.ow.filter λp=>!(pd.contains p.1)) (o.dst.getD 900000) p.1)) with
     | false=>rw [yi] at h1;cases h1
     | true =>
      rw [yi] at h1;simp only [cond_true] at h1;rw [Bool.and_eq_true] at yi;obtain⟨hh,IW⟩:=yi;have pK:Hp h F1 (lv gS s1.ow++L0):=by rw [e1];exact hm
      have yR:(lv gS s1.ow).Perm (lv gS (s1.ow.filter λp=>!(pd.contains p.1))++lv gS (s1.ow.filter λp=>pd.contains p.1)):=by have p1:s1.ow.Perm ((s1.ow.filter λp=>pd.contains p.1)++s1.ow.filter λp=>!(pd.contains p.1)):=(List.filter_append_perm (λp:Nat×OB=>pd.contains p.1) s1.ow).symm;have p2:=(p1.trans List.perm_append_comm).flatMap_right (λp=>(gS p.1).2);rw [<- eX];exact p2
      have vn:Hp h F1 (lv gS (s1.ow.filter λp=>!(pd.contains p.1))++(lv gS (s1.ow.filter λp=>pd.contains p.1)++L0)):=by rw [<- List.append_assoc];exact pK.perm (yR.symm.append_right L0)
      have BG:Rel F1 gS ⟨s1.n,s1.np,s1.nw && !(pd.contains NT),s1.sl,s1.ow.filter λp=>!(pd.contains p.1)⟩ ρ:=⟨r1.len,r1.sl,λq hq=>r1.ow q (List.mem_filter.1 hq).1,r1.nd.sublist ((List.filter_sublist).map _)⟩;refine A8 i Hl uL (D0 (all:=ops) hC BG vn r1 pK tO h1 λs' dz h' F' ι' hp=>?_);have rG:=hp.k;cases RM:(s'.ow.all λq=>!(pd.contains q.1)) with
      | false=>rw [RM] at rG;cases rG
      | true =>
       rw [RM] at rG;simp only [cond_true] at rG;have XJ:∀ q∈s'.ow,pd.contains q.1=false:=λq hq=>by
        have:=List.all_eq_true.1 RM q hq
        simpa using this
       have Jq:∀ q∈s1.ow.filter (λp=>pd.contains p.1),ι' q.1=gS q.1:=λq hq=>by
        have h2:=List.all_eq_true.1 IW q hq;simp only [L4,Bool.and_eq_true,Bool.not_eq_true',beq_eq_false_iff_ne,Bool.or_eq_true,Nat.blt_eq] at h2;refine hp.Ny q.1 (λp Ay e=>?_) h2.1.1 h2.1.2 λXE=>?_
        ·have h3:=(List.mem_filter.1 Ay).2;have h4:=(List.mem_filter.1 hq).2;rw [e,h4] at h3;cases h3
        ·rcases h2.2 with h3 | h3
         ·omega
         ·refine⟨λp Ay=>?_,h3.2⟩
          have:=List.all_eq_true.1 h3.1 p Ay
          simpa using this
       have QP:(∃ q∈s1.ow.filter (λp=>pd.contains p.1),q.1=NT)->F'.fF=F1.fF:=λ⟨q,hq,e⟩=>by have h4:=(List.mem_filter.1 hq).2;rw [e] at h4;exact hp.fF (by simp only [h4,Bool.not_true,Bool.and_false])
       have RI:lv ι' (s1.ow.filter λp=>pd.contains p.1)=lv gS (s1.ow.filter λp=>pd.contains p.1):=qK Jq;have XK:Hp h' F' (lv ι' ((s1.ow.filter λp=>pd.contains p.1)++s'.ow)++L0):=by rw [eX,RI,List.append_assoc];exact hp.hp.perm (List.perm_append_comm_assoc _ _ _)
       have hrf:Rel F' ι' ⟨s'.n,s'.np,s1.nw,s'.sl,(s1.ow.filter λp=>pd.contains p.1)++s'.ow⟩ dz:=by
        refine⟨hp.rel.len,hp.rel.sl,λq hq=>?_,?_⟩
        ·rcases List.mem_append.1 hq with hq | hq
         ·exact HC hh hp.le QP Jq hq (r1.ow q (List.mem_filter.1 hq).1)
         ·exact hp.rel.ow q hq
        ·show (((s1.ow.filter λp=>pd.contains p.1)++s'.ow).map (·.1)).Nodup;rw [List.map_append,List.nodup_append];refine⟨r1.nd.sublist ((List.filter_sublist).map _),hp.rel.nd,λa ha b hb e=>?_⟩;obtain⟨p,DQ,rfl⟩:=List.mem_map.1 ha;obtain⟨q,Vg,rfl⟩:=List.mem_map.1 hb;have h3:=(List.mem_filter.1 DQ).2;rw [e,XJ q Vg] at h3;cases h3
       have XL:HD F' ι' ((s1.ow.filter λp=>pd.contains p.1)++s'.ow) T' (TS.filter λq=>!(bh .any ops.toArray i q.1)):=by
        have iC:∀ q∈T',∀ t,q.2.contains t=true->pd.contains t=true:=λq hq t ht=>by rw [<- hpd];simp only [List.contains_eq_mem,decide_eq_true_eq] at ht ⊢;exact List.mem_flatMap.2 ⟨q,hq,ht⟩
        have B3:∀ q∈T',((s1.ow.filter λp=>pd.contains p.1)++s'.ow).filter (λp=>q.2.contains p.1)=s.ow.filter (λp=>q.2.contains p.1):=λq hq=>by
         rw [List.filter_append];have n1:s'.ow.filter (λp=>q.2.contains p.1)=[]:=List.filter_eq_nil_iff.2 λp Ay hc=>by
          have:=XJ p Ay
          rw [iC q hq _ hc] at this;cases this
         rw [n1,List.append_nil,List.filter_filter,e1];refine List.filter_congr λp _=>?_
         cases hc:q.2.contains p.1 with
         | true=>rw [iC q hq _ hc];rfl
         | false=>rfl
        have gen:∀ {A:List (Nat×List Nat)} {B:List (Nat×(Array Obj->Prop))},(∀ q∈A,q∈T')->HD F1 gS s.ow A B->HD F' ι' ((s1.ow.filter λp=>pd.contains p.1)++s'.ow) A B:=λ{A B} hA hAB=>by
         unfold HD at *
         induction hAB with
         | nil=>exact .nil
         | @cons a b l m h t ih =>
          refine .cons ⟨h.1,λh2 Vh=>h.2 h2 ?_⟩ (ih λq hq=>hA q (by simp [hq]));rw [B3 a (hA a (by simp))] at Vh;have e5:lv ι' (s.ow.filter λp=>a.2.contains p.1)=lv gS (s.ow.filter λp=>a.2.contains p.1):=qK λp Ay=>by obtain⟨h5,h6⟩:=List.mem_filter.1 Ay;exact Jq p (List.mem_filter.2 ⟨by rw [e1];exact h5,iC a (hA a (by simp)) _ h6⟩)
          rw [e5] at Vh;exact Vh.weaken hp.le hm.gl
        exact gen (λq hq=>hq) yW
       refine yU ⟨oV (s:=⟨s'.n,s'.np,s1.nw,s'.sl,(s1.ow.filter λp=>pd.contains p.1)++s'.ow⟩) XL XK,qS hC qb n_ fuel _ T' _ ⟨s'.n,s'.np,s1.nw,s'.sl,(s1.ow.filter λp=>pd.contains p.1)++s'.ow⟩ dz h' F' ι' mD (hle.trans hp.le) (λe=>?_) hrf XK ((hp.n.trans e2).trans hn) ((hp.np.trans e3).trans iB) (e4.trans nu) (λt ht=>(hp.io t (by show s1.np / 1000<=t/\t<s1.np % 1000;rw [e3,iB];exact ht)).trans (zY t ht)) XL rG hk⟩;exact (hp.fF (by show (s1.nw && !(pd.contains NT))=false;rw [e4,nu,e];rfl)).trans (hN e)
    ·exact A8 i Hl uL (A5 tO rfl (yU ⟨oV yW hm,qS hC qb n_ fuel _ T' _ s1 _ h F1 gS mD hle hN r1 (by rw [e1];exact hm) (e2.trans hn) (e3.trans iB) (e4.trans nu) zY (by rw [e1];exact yW) h1 hk⟩))
theorem RO {ops:List Oper}{i:Nat}{Q:List (Nat×List Nat)->St->Option R}{an:Array Bool}{T:List (Nat×List Nat)}{TS:List (Nat×(Array Obj->Prop))}{s:St}{ρ:List Value}{h:Array Obj}{F1:iH}{gS:Gh}{fuel:Nat}(hC:lD P C)(qb:Region.noSelect ops.toArray=true)(hle:F.le F1)(hN:nw=false->F1.fF=F.fF)(hr:Rel F1 gS s ρ)(hm:Hp h F1 (lv gS s.ow++L0))(hn:s.n=n)(iB:s.np=np)(nu:s.nw=nw)(zY:∀ t,(np / 1000<=t/\t<np % 1000)->(gS t).1=io t)(hT:HD F1 gS s.ow T TS)(E6:Region.free .any ops.toArray an i=true)(Wl:(Region.ready .any ops.toArray an).contains i=true)(h0:UI C ops.toArray i T s Q=some r)(hQ:∀ (T:List (Nat×List Nat)) (TS:List (Nat×(Array Obj->Prop))) (s:St) (ρ:List Value) (h:Array Obj) (F1:iH) (gS:Gh),F.le F1->(nw=false->F1.fF=F.fF)->Rel F1 gS s ρ->Hp h F1 (lv gS s.ow++L0)->s.n=n->s.np=np->s.nw=nw->(∀ t,(np / 1000<=t/\t<np % 1000)->(gS t).1=io t)->HD F1 gS s.ow T TS->Q T s=some r->AM P E ops KK fuel (an.setIfInBounds i true) TS ρ h):AM P E ops KK (fuel+1) an TS ρ h:=by
 unfold UI at h0
 split at h0
 ·cases h0
 ·rename_i o ho;have Hl:ops[i]?=some o:=by simpa using ho
  rcases sX hr h0 with⟨s1,r1,e1,e2,e3,e4,tO,h1⟩ | ⟨s1,r1,e1,e2,e3,e4,tO,h1⟩
  ·cases hp:xl o.op with
   | false=>rw [hp] at h1;cases h1
   | true =>
    rw [hp] at h1;simp only [cond_true] at h1;obtain⟨dst,op,ty,p,af,gd⟩:=o;simp only at h1;obtain⟨v,d,g1,g2,g3⟩:=l7 (P:=P) (dst:=dst) (ty:=ty) (p:=p) (af:=af) (gd:=gd) (L0:=[]) hC.1 hm.gl (r1.KH λp=>(Nr s1 op).contains p.1) h1
    split at g3
    ·rename_i s' l8;obtain⟨a,b,c,e,f⟩:=r1.put l8 (λ_=>g2);have pK:Hp h F1 (lv gS s1.ow++L0):=by rw [e1];exact hm
     refine GR (S:=λh=>Hp h F1 (lv gS (s1.ow.filter λp=>(Nr s1 op).contains p.1)++[])) i Hl qb E6 Wl (pK.sub ((xt List.filter_sublist).append (List.nil_sublist _))) (oV hT hm) tO (λh' hh'=>g1 h' hh') rfl
      (hQ ((i,Nr s1 op++(T.filter λq=>bh .any ops.toArray i q.1).flatMap (·.2))::T.filter λq=>!(bh .any ops.toArray i q.1)) _ s' _ h F1 gS hle hN a (by rw [b,e1];exact hm) ((e.trans e2).trans hn) ((c.trans e3).trans iB) ((f.trans e4).trans nu) zY ?_ g3)
     rw [b];refine .cons ⟨rfl,λh hh=>⟨hh.sub ?_,λq hq Rc=>?_⟩⟩ (by rw [e1];exact hT.filter λa b p_=>by rw [p_.1])
     ·exact (xt (filter_mono λp hp=>by rw [qi,hp];rfl)).append (List.Sublist.refl _)
     ·obtain⟨a0,XI,p_⟩:=hT.KO hq;refine p_.2 h (hh.sub ?_);rw [e1];refine (xt (filter_mono λp hp=>?_)).append (List.Sublist.refl _)
      have:((T.filter λq=>bh .any ops.toArray i q.1).flatMap (·.2)).contains p.1=true:=by rw [List.contains_iff_mem] at hp ⊢;exact List.mem_flatMap.2 ⟨a0,List.mem_filter.2 ⟨XI,by rw [<- p_.1];exact Rc⟩,hp⟩
      rw [qi,this,Bool.or_true]
    ·cases g3
  ·exact Kc i Hl qb E6 Wl (oV hT hm) tO rfl (hQ T TS s1 _ h F1 gS hle hN r1 (by rw [e1];exact hm) (e2.trans hn) (e3.trans iB) (e4.trans nu) zY (by rw [e1];exact hT) h1)
theorem E7 {ops:List Oper}{i:Nat}{Q:List (Nat×List Nat)->St->Option R}{an:Array Bool}{T:List (Nat×List Nat)}{TS:List (Nat×(Array Obj->Prop))}{s:St}{ρ:List Value}{h:Array Obj}{F1:iH}{gS:Gh}{fuel:Nat}(hC:lD P C)(qb:Region.noSelect ops.toArray=true)(hle:F.le F1)(hN:nw=false->F1.fF=F.fF)(hr:Rel F1 gS s ρ)(hm:Hp h F1 (lv gS s.ow++L0))(hn:s.n=n)(iB:s.np=np)(nu:s.nw=nw)(zY:∀ t,(np / 1000<=t/\t<np % 1000)->(gS t).1=io t)(hT:HD F1 gS s.ow T TS)(h0:Oi C ops.toArray i T s Q=some r)(hQ:∀ (T:List (Nat×List Nat)) (TS:List (Nat×(Array Obj->Prop))) (s:St) (ρ:List Value) (h:Array Obj) (F1:iH) (gS:Gh),F.le F1->(nw=false->F1.fF=F.fF)->Rel F1 gS s ρ->Hp h F1 (lv gS s.ow++L0)->s.n=n->s.np=np->s.nw=nw->(∀ t,(np / 1000<=t/\t<np % 1000)->(gS t).1=io t)->HD F1 gS s.ow T TS->Q T s=some r->AM P E ops KK fuel (an.setIfInBounds i true) TS ρ h):∃ o,ops[i]?=some o/\LW P E ops (λdz h'=>(∀ q∈TS.filter (λq=>!(bh .any ops.toArray i q.1)),q.2 h')/\AM P E ops KK fuel (an.setIfInBounds i true) (TS.filter λq=>!(bh .any ops.toArray i q.1)) dz h') [o] ρ h:=by
 unfold Oi at h0
 split at h0
 ·cases h0
 ·rename_i o ho;have Hl:ops[i]?=some o:=by simpa using ho
  refine⟨o,Hl,?_⟩;have yW:HD F1 gS s.ow (T.filter λq=>!(bh .any ops.toArray i q.1)) (TS.filter λq=>!(bh .any ops.toArray i q.1)):=hT.filter λa b p_=>by rw [p_.1]
  generalize hTd:(T.filter λq=>!(bh .any ops.toArray i q.1))=T' at h0 yW;rcases sX hr h0 with⟨s1,r1,e1,e2,e3,e4,tO,h1⟩ | ⟨s1,r1,e1,e2,e3,e4,tO,h1⟩
  ·dsimp only at h1;generalize hpd:T'.flatMap (·.2)=pd at h1;cases yi:(Oh (s1.ow.filter λp=>pd.contains p.1) && (s1.ow.filter λp=>pd.contains p.1).all (λp=>L4 (s1.ow.filter λp=>!(pd.contains p.1)) (o.dst.getD 900000) p.1)) with
   | false=>rw [yi] at h1;cases h1
   | true =>
    rw [yi] at h1;simp only [cond_true] at h1;rw [Bool.and_eq_true] at yi;obtain⟨hh,IW⟩:=yi;have pK:Hp h F1 (lv gS s1.ow++L0):=by rw [e1];exact hm
    have yR:(lv gS s1.ow).Perm (lv gS (s1.ow.filter λp=>!(pd.contains p.1))++lv gS (s1.ow.filter λp=>pd.contains p.1)):=by have p1:s1.ow.Perm ((s1.ow.filter λp=>pd.contains p.1)++s1.ow.filter λp=>!(pd.contains p.1)):=(List.filter_append_perm (λp:Nat×OB=>pd.contains p.1) s1.ow).symm;have p2:=(p1.trans List.perm_append_comm).flatMap_right (λp=>(gS p.1).2);rw [<- eX];exact p2
    have vn:Hp h F1 (lv gS (s1.ow.filter λp=>!(pd.contains p.1))++(lv gS (s1.ow.filter λp=>pd.contains p.1)++L0)):=by rw [<- List.append_assoc];exact pK.perm (yR.symm.append_right L0)
    have BG:Rel F1 gS ⟨s1.n,s1.np,s1.nw && !(pd.contains NT),s1.sl,s1.ow.filter λp=>!(pd.contains p.1)⟩ ρ:=⟨r1.len,r1.sl,λq hq=>r1.ow q (List.mem_filter.1 hq).1,r1.nd.sublist ((List.filter_sublist).map _)⟩;refine D0 (all:=ops) hC BG vn r1 pK tO h1 λs' dz h' F' ι' hp=>?_
    have rG:=hp.k;cases RM:(s'.ow.all λq=>!(pd.contains q.1)) with
    | false=>rw [RM] at rG;cases rG
    | true =>
     rw [RM] at rG;simp only [cond_true] at rG;have XJ:∀ q∈s'.ow,pd.contains q.1=false:=λq hq=>by
      have:=List.all_eq_true.1 RM q hq
      simpa using this
     have Jq:∀ q∈s1.ow.filter (λp=>pd.contains p.1),ι' q.1=gS q.1:=λq hq=>by
      have h2:=List.all_eq_true.1 IW q hq;simp only [L4,Bool.and_eq_true,Bool.not_eq_true',beq_eq_false_iff_ne,Bool.or_eq_true,Nat.blt_eq] at h2;refine hp.Ny q.1 (λp Ay e=>?_) h2.1.1 h2.1.2 λXE=>?_
      ·have h3:=(List.mem_filter.1 Ay).2;have h4:=(List.mem_filter.1 hq).2;rw [e,h4] at h3;cases h3
      ·rcases h2.2 with h3 | h3
       ·omega
       ·refine⟨λp Ay=>?_,h3.2⟩
        have:=List.all_eq_true.1 h3.1 p Ay
        simpa using this
     have QP:(∃ q∈s1.ow.filter (λp=>pd.contains p.1),q.1=NT)->F'.fF=F1.fF:=λ⟨q,hq,e⟩=>by have h4:=(List.mem_filter.1 hq).2;rw [e] at h4;exact hp.fF (by simp only [h4,Bool.not_true,Bool.and_false])
     have RI:lv ι' (s1.ow.filter λp=>pd.contains p.1)=lv gS (s1.ow.filter λp=>pd.contains p.1):=qK Jq;have XK:Hp h' F' (lv ι' ((s1.ow.filter λp=>pd.contains p.1)++s'.ow)++L0):=by rw [eX,RI,List.append_assoc];exact hp.hp.perm (List.perm_append_comm_assoc _ _ _)
     have hrf:Rel F' ι' ⟨s'.n,s'.np,s1.nw,s'.sl,(s1.ow.filter λp=>pd.contains p.1)++s'.ow⟩ dz:=by
      refine⟨hp.rel.len,hp.rel.sl,λq hq=>?_,?_⟩
      ·rcases List.mem_append.1 hq with hq | hq
       ·exact HC hh hp.le QP Jq hq (r1.ow q (List.mem_filter.1 hq).1)
       ·exact hp.rel.ow q hq
      ·show (((s1.ow.filter λp=>pd.contains p.1)++s'.ow).map (·.1)).Nodup;rw [List.map_append,List.nodup_append];refine⟨r1.nd.sublist ((List.filter_sublist).map _),hp.rel.nd,λa ha b hb e=>?_⟩;obtain⟨p,DQ,rfl⟩:=List.mem_map.1 ha;obtain⟨q,Vg,rfl⟩:=List.mem_map.1 hb;have h3:=(List.mem_filter.1 DQ).2;rw [e,XJ q Vg] at h3;cases h3
     have XL:HD F' ι' ((s1.ow.filter λp=>pd.contains p.1)++s'.ow) T' (TS.filter λq=>!(bh .any ops.toArray i q.1)):=by
      have iC:∀ q∈T',∀ t,q.2.contains t=true->pd.contains t=true:=λq hq t ht=>by rw [<- hpd];simp only [List.contains_eq_mem,decide_eq_true_eq] at ht ⊢;exact List.mem_flatMap.2 ⟨q,hq,ht⟩
      have B3:∀ q∈T',((s1.ow.filter λp=>pd.contains p.1)++s'.ow).filter (λp=>q.2.contains p.1)=s.ow.filter (λp=>q.2.contains p.1):=λq hq=>by
       rw [List.filter_append];have n1:s'.ow.filter (λp=>q.2.contains p.1)=[]:=List.filter_eq_nil_iff.2 λp Ay hc=>by
        have:=XJ p Ay
        rw [iC q hq _ hc] at this;cases this
       rw [n1,List.append_nil,List.filter_filter,e1];refine List.filter_congr λp _=>?_
       cases hc:q.2.contains p.1 with
       | true=>rw [iC q hq _ hc];rfl
       | false=>rfl
      have gen:∀ {A:List (Nat×List Nat)} {B:List (Nat×(Array Obj->Prop))},(∀ q∈A,q∈T')->HD F1 gS s.ow A B->HD F' ι' ((s1.ow.filter λp=>pd.contains p.1)++s'.ow) A B:=λ{A B} hA hAB=>by
       unfold HD at *
       induction hAB with
       | nil=>exact .nil
       | @cons a b l m h t ih =>
        refine .cons ⟨h.1,λh2 Vh=>h.2 h2 ?_⟩ (ih λq hq=>hA q (by simp [hq]));rw [B3 a (hA a (by simp))] at Vh;have e5:lv ι' (s.ow.filter λp=>a.2.contains p.1)=lv gS (s.ow.filter λp=>a.2.contains p.1):=qK λp Ay=>by obtain⟨h5,h6⟩:=List.mem_filter.1 Ay;exact Jq p (List.mem_filter.2 ⟨by rw [e1];exact h5,iC a (hA a (by simp)) _ h6⟩)
        rw [e5] at Vh;exact Vh.weaken hp.le hm.gl
      exact gen (λq hq=>hq) yW
     refine yU ⟨oV (s:=⟨s'.n,s'.np,s1.nw,s'.sl,(s1.ow.filter λp=>pd.contains p.1)++s'.ow⟩) XL XK,hQ T' _ ⟨s'.n,s'.np,s1.nw,s'.sl,(s1.ow.filter λp=>pd.contains p.1)++s'.ow⟩ dz h' F' ι' (hle.trans hp.le) (λe=>?_) hrf XK ((hp.n.trans e2).trans hn) ((hp.np.trans e3).trans iB) (e4.trans nu) (λt ht=>(hp.io t (by show s1.np / 1000<=t/\t<s1.np % 1000;rw [e3,iB];exact ht)).trans (zY t ht)) XL rG⟩;exact (hp.fF (by show (s1.nw && !(pd.contains NT))=false;rw [e4,nu,e];rfl)).trans (hN e)
  ·exact (A5 tO rfl (yU ⟨oV yW hm,hQ T' _ s1 _ h F1 gS hle hN r1 (by rw [e1];exact hm) (e2.trans hn) (e3.trans iB) (e4.trans nu) zY (by rw [e1];exact yW) h1⟩))
end
section
variable {P:Program}{C:Cx}{ops:List Oper}{ts:List Nat}{prs:List ZR}{s0:St}{L:Array Bool}{p:ZR}{T:List (Nat×List Nat)}{Q:List (Nat×List Nat)->St->Option Unit}
theorem map_none {t:Nat}{b:OB}:∀ {l:List (Nat×OB)},(∀ e∈l,e.1≠t)->l.map (λp=>cond (p.1 == t) (t,b) p)=l
 | [],_=>rfl
 | e::l,h=>by
  have:(e.1 == t)=false:=by simpa using h e (by simp)
  rw [List.map_cons,this,map_none λq hq=>h q (by simp [hq])];rfl
end
section
variable {P:Program}{C:Cx}{ops:List Oper}{ts:List Nat}{prs:List ZR}{s0:St}{F F1:iH}{gS:Gh}{L0:List gJ}{io:Nat->Value}{n np:Nat}{nw:Bool}{E:Env}{KK:List Value->Array Obj->Prop}
end
section
variable {P:Program}{C:Cx}{R:Type}{F F' F1 F0:iH}{ι ι':Gh}{s s':St}{ρ:List Value}{d:D}{v:Value}{t:Nat}{L0:List gJ}{r:R}{dst:Option Tmp}{ty:TypeId}{p:String}{af:Array Edge}{gd:Option (Nat×Bool)}{h:Array Obj}{io:Nat->Value}{n np:Nat}{nw:Bool}{E:Env}{all rest:List Oper}{KK:List Value->Array Obj->Prop}{o:Oper}
theorem Mq {R:Type}{a b:Option R}{r:R}(h:both a b=some r):a=some r/\b=some r:=by
 unfold both at h
 split at h
 ·rename_i e;exact⟨h,e ▸ h⟩
 ·cases h
theorem Mr {ops:List Oper}(hC:lD P C)(qb:Region.noSelect ops.toArray=true){k:St->Option R}(hk:∀ s' dz h' F' ι',F.le F'->(nw=false->F'.fF=F.fF)->Rel F' ι' s' dz->Hp h' F' (lv ι' s'.ow++L0)->s'.n=n->s'.np=np->s'.nw=nw->(∀ t,(np / 1000<=t/\t<np % 1000)->(ι' t).1=io t)->k s'=some r->KK dz h'):∀ (fuel:Nat) (n_:List (Bool×Nat)) (an:Array Bool) (T:List (Nat×List Nat)) (TS:List (Nat×(Array Obj->Prop))) (s:St) (ρ:List Value) (h:Array Obj) (F1:iH) (gS:Gh),F.le F1->(nw=false->F1.fF=F.fF)->Rel F1 gS s ρ->Hp h F1 (lv gS s.ow++L0)->s.n=n->s.np=np->s.nw=nw->(∀ t,(np / 1000<=t/\t<np % 1000)->(gS t).1=io t)->HD F1 gS s.ow T TS ->
  pL C ops.toArray fuel n_ an T s k=some r->AM P E ops KK fuel an TS ρ h:=by
 intro fuel
 induction fuel with
 | zero =>
  intro n_ an T TS s ρ h F1 gS hle hN hr hm hn iB nu zY hT h0;cases n_ with
  | nil =>
   unfold pL at h0;cases hc:vq (Region.ready .any ops.toArray an == []) with
   | false=>rw [hc] at h0;cases h0
   | true =>
    rw [hc] at h0;have uL:Region.ready .any ops.toArray an=[]:=by simpa [vq] using hc
    exact EC uL (hk s ρ h F1 gS hle hN hr hm hn iB nu zY h0)
  | cons a n_=>unfold pL at h0;cases h0
 | succ fuel ih =>
  intro n_ an T TS s ρ h F1 gS hle hN hr hm hn iB nu zY hT h0
  match n_,h0 with
  | [],h0 =>
   unfold pL at h0;cases hc:vq (Region.ready .any ops.toArray an == []) with
   | false=>rw [hc] at h0;cases h0
   | true =>
    rw [hc] at h0;have uL:Region.ready .any ops.toArray an=[]:=by simpa [vq] using hc
    exact EC uL (hk s ρ h F1 gS hle hN hr hm hn iB nu zY h0)
  | (true,i)::n_,h0 =>
   unfold pL at h0;cases hc:vq (DH ops.toArray an i) with
   | false=>rw [hc] at h0;cases h0
   | true =>
    rw [hc] at h0;simp only [cond_true] at h0;simp only [vq,DH,Bool.and_eq_true] at hc;exact RO hC qb hle hN hr hm hn iB nu zY hT hc.1 hc.2 h0 λT TS s ρ h F1 gS g1 g2 g3 g4 g5 g6 g7 g8 g9 Vi=>ih n_ _ T TS s ρ h F1 gS g1 g2 g3 g4 g5 g6 g7 g8 g9 Vi
  | (false,i)::n_,h0 =>
   unfold pL at h0;cases hb:Nat.blt i 1000000 with
   | true =>
    rw [hb] at h0;simp only [cond_true] at h0;cases hc:vq (Region.ready .any ops.toArray an == [i]) with
    | false=>rw [hc] at h0;cases h0
    | true =>
     rw [hc] at h0;simp only [cond_true] at h0;have uL:Region.ready .any ops.toArray an=[i]:=by simpa [vq] using hc
     obtain⟨o,ho,hl⟩:=E7 hC qb hle hN hr hm hn iB nu zY hT h0 λT TS s ρ h F1 gS g1 g2 g3 g4 g5 g6 g7 g8 g9 Vi=>ih n_ _ T TS s ρ h F1 gS g1 g2 g3 g4 g5 g6 g7 g8 g9 Vi
     exact A8 i ho uL hl
   | false =>
    rw [hb] at h0;simp only [cond_false] at h0
    split at h0
    ·rename_i j u hd;cases hc:vq (Region.ready .any ops.toArray an == [i % 1000000,j] || Region.ready .any ops.toArray an == [j,i % 1000000]) with
     | false=>rw [hc] at h0;cases h0
     | true =>
      rw [hc] at h0;simp only [cond_true] at h0;obtain⟨hA,hB⟩:=Mq h0;have uL:Region.ready .any ops.toArray an=[i % 1000000,j]∨Region.ready .any ops.toArray an=[j,i % 1000000]:=by simpa [vq] using hc
      have l1:=E7 hC qb hle hN hr hm hn iB nu zY hT hA λT TS s ρ h F1 gS g1 g2 g3 g4 g5 g6 g7 g8 g9 Vi=>ih _ _ T TS s ρ h F1 gS g1 g2 g3 g4 g5 g6 g7 g8 g9 Vi
      have l2:=E7 hC qb hle hN hr hm hn iB nu zY hT hB λT TS s ρ h F1 gS g1 g2 g3 g4 g5 g6 g7 g8 g9 Vi=>ih _ _ T TS s ρ h F1 gS g1 g2 g3 g4 g5 g6 g7 g8 g9 Vi
      refine N7 (by rcases uL with e | e <;> rw [e] <;> simp) λq hq=>?_
      have:q=i % 1000000∨q=j:=by
       rcases uL with e | e <;> rw [e] at hq <;> simp at hq
       ·exact hq
       ·exact hq.symm
      rcases this with rfl | rfl
      ·exact l1
      ·exact l2
    ·cases h0
theorem Ms {f:FuncId}{RR:Value->Array Obj->Prop}{Ki:List Item}{id:Nat}{ops:Array Oper}{n_:List (Bool×Nat)}{k:St->Option R}(hC:lD P C)(Bh:P.follows .mixedOrders=true)(hi:Inv F0 io L0 n np nw s ρ h)(hs:vq (Region.noSelect ops)=true)(h0:pL C ops ops.size n_ (Array.replicate ops.size false) [] s k=some r)(hk:∀ s' dz h',Inv F0 io L0 n np nw s' dz h'->k s'=some r->TW P f E RR Ki dz h'):TW P f E RR (.code (.region id ops true)::Ki) ρ h:=by
 obtain⟨⟨F,ι,hF,hN,hr,hm,BU⟩,hn,iB,nu⟩:=hi;simp only [vq] at hs;have e:ops=ops.toList.toArray:=by simp
 have O2:Region.noSelect ops.toList.toArray=true:=by rw [<- e];exact hs
 rw [e];refine GQ Bh λKK hK=>?_
 exact Mr (F:=F) (ops:=ops.toList) hC O2 (λs2 ρ2 h2 F2 vZ g1 g2 g3 g4 g5 g6 g7 g8 g9=>hK _ _ (hk s2 ρ2 h2 ⟨⟨F2,vZ,hF.trans g1,λe=>(g2 e).trans (hN e),g3,g4,g8⟩,g5,g6,g7⟩ g9)) ops.toList.length n_ (Array.replicate ops.toList.length false) [] [] s ρ h F ι (.refl F) (λ_=>rfl) hr hm hn iB nu BU .nil (by simpa using h0)
theorem O3 {f:FuncId}{RR:Value->Array Obj->Prop}{Ki:List Item}{id:Nat}{ops:Array Oper}{n_:List (Bool×Nat)}{k:St->Option R}(hC:lD P C)(Bh:P.follows .mixedOrders=true)(hi:Inv F0 io L0 n np nw s ρ h)(hs:vq (Region.noSelect ops && Nat.ble n_.length ops.size)=true)(h0:ur C ops n_ (Array.replicate ops.size false) [] s k=some r)(hk:∀ s' dz h',Inv F0 io L0 n np nw s' dz h'->k s'=some r->TW P f E RR Ki dz h'):TW P f E RR (.code (.region id ops true)::Ki) ρ h:=by
 obtain⟨⟨F,ι,hF,hN,hr,hm,BU⟩,hn,iB,nu⟩:=hi;simp only [vq,Bool.and_eq_true,Nat.ble_eq] at hs;have e:ops=ops.toList.toArray:=by simp
 have O2:Region.noSelect ops.toList.toArray=true:=by rw [<- e];exact hs.1
 rw [e];refine GQ Bh λKK hK=>?_
 exact qS (F:=F) (ops:=ops.toList) hC O2 n_ ops.toList.length (Array.replicate ops.toList.length false) [] [] s ρ h F ι (by simpa using hs.2) (.refl F) (λ_=>rfl) hr hm hn iB nu BU .nil (by simpa using h0) λs2 ρ2 h2 F2 vZ g1 g2 g3 g4 g5 g6 g7 g8 g9=>hK _ _ (hk s2 ρ2 h2 ⟨⟨F2,vZ,hF.trans g1,λe=>(g2 e).trans (hN e),g3,g4,g8⟩,g5,g6,g7⟩ g9)
variable {f:FuncId}{RR:Value->Array Obj->Prop}{L:Nat->Option mB}
def tP (P:Program)(f:FuncId)(E:Env)(RR:Value->Array Obj->Prop):Xt->List Item->List Value->Array Obj->Prop
 | .nm,K,ρ,h=>TW P f E RR K ρ h
 | .ex id,K,ρ,h=>∃ K',exitTo id K=some K'/\TW P f E RR K' ρ h
 | .rt,_,ρ,h=>∀ K,TW P f E RR (.code .ret::K) ρ h
 | .gt l,K,ρ,h=>∃ K',gotoIn l K=some K'/\TW P f E RR K' ρ h
def lr (Q:Nat->Code->Prop):Code->Nat->Prop
 | .seq a b,i=>lr Q a i/\lr Q b i
 | .cond _ a b,i=>lr Q a i/\lr Q b i
 | .block id c,_=>lr Q c id/\Q (BK+id) (.block id c)
 | .scope c,i=>lr Q c i
 | .loop c,i=>Q i (.loop c)
 | _,_=>True
def QQ (P:Program)(n np:Nat)(nw:Bool)(le:mB)(c:Code):Prop :=
 ∀ (f:FuncId) (E:Env) (RR:Value->Array Obj->Prop) (F0:iH) (io:Nat->Value) (L0:List gJ) (x:er le.lf) (y:rj (le.pT.map (·.2))) (ρ:List Value) (h:Array Obj) (K:List Item),le.m x=some y->Inv F0 io L0 n np nw (Nq n np nw le.lf x) ρ h->(∀ dz h',Inv F0 io L0 n np nw (EF n np nw le.pT y).2 dz h'->tP P f E RR (EF n np nw le.pT y).1 K dz h')->TW P f E RR (.code c::K) ρ h
def O4 (P:Program)(n np:Nat)(nw:Bool)(le:mB)(c:Code):Prop:=QQ P n np nw le (.loop c)
theorem Inv.Gq {p:Pt}{x:er p}(hi:Inv F0 io L0 n np nw s ρ h)(hu:Gq s p=some x):Inv F0 io L0 n np nw (Nq n np nw p x) ρ h:=by obtain⟨⟨F,ι,hF,hN,hr,hm,BU⟩,rfl,rfl,rfl⟩:=hi;obtain⟨h1,h2,h3⟩:=Ml hr hm hu;exact⟨⟨F,_,hF,hN,h1,h2,λt ht=>(h3 t ht).trans (BU t ht)⟩,rfl,rfl,rfl⟩
theorem Mt {id:Nat}{c:Code}{K:List Item}:exitTo id (.code c::K)=exitTo id K:=by simp [exitTo]
theorem Mu {id:Nat}{c:Code}{K:List Item}:exitTo id (.inLoop c::K)=exitTo id K:=by simp [exitTo]
theorem tP.code {c:Code}{e:Xt}{K:List Item}{h':Array Obj}(h:tP P f E RR e K ρ h')(he:e ≠ .nm):tP P f E RR e (.code c::K) ρ h':=by
 cases e with
 | nm=>exact absurd rfl he
 | ex id=>obtain⟨K',h1,h2⟩:=h;exact⟨K',by rw [Mt];exact h1,h2⟩
 | rt=>exact h
 | gt l=>obtain⟨K',h1,h2⟩:=h;exact⟨K',by simp only [gotoIn];exact h1,h2⟩
theorem tP.loop {c:Code}{e:Xt}{K:List Item}{h':Array Obj}(h:tP P f E RR e K ρ h')(he:e ≠ .nm):tP P f E RR e (.inLoop c::K) ρ h':=by
 cases e with
 | nm=>exact absurd rfl he
 | ex id=>obtain⟨K',h1,h2⟩:=h;exact⟨K',by rw [Mu];exact h1,h2⟩
 | rt=>exact h
 | gt l=>obtain⟨K',h1,h2⟩:=h;exact⟨K',by simp only [gotoIn];exact h1,h2⟩
theorem Jr {id:Nat}{c:Code}{K:List Item}:exitTo id (.inScope c::K)=exitTo id K:=by simp [exitTo]
theorem tP.scope {c:Code}{e:Xt}{K:List Item}{h':Array Obj}(he:∀ l,e ≠ .gt l)(h:tP P f E RR e K ρ h'):tP P f E RR e (.inScope c::K) ρ h':=by
 cases e with
 | nm=>exact IN h
 | ex id=>obtain⟨K',h1,h2⟩:=h;exact⟨K',by rw [Jr];exact h1,h2⟩
 | rt=>exact h
 | gt l=>exact absurd rfl (he l)
theorem E8 {k:Xt->St->Option R}:∀ {xs:List (Xt×Pt)} {y:rj (xs.map (·.2))},Rh n np nw k xs y=k (EF n np nw xs y).1 (EF n np nw xs y).2
 | [],y=>y.elim
 | [p],y=>rfl
 | p::q::ps, .inl y=>rfl
 | p::q::ps, .inr y=>E8 (xs:=q::ps) (y:=y)
theorem kC {G:Code->Nat->Nat->St->(Xt->St->Option R)->Option R}(hC:lD P C)(Bh:P.follows .mixedOrders=true)(hG:∀ (c:Code) (l i:Nat) (s:St) (k:Xt->St->Option R) (ρ:List Value) (h:Array Obj) (K:List Item),G c l i s k=some r->lr (λi c=>∀ le,L i=some le->QQ P n np nw le c) c i->Inv F0 io L0 n np nw s ρ h->(∀ e s' dz h',Inv F0 io L0 n np nw s' dz h'->k e s'=some r->tP P f E RR e K dz h')->tP P f E RR (.gt l) (.inScope c::K) ρ h):∀ (c:Code) (i:Nat) (s:St) (k:Xt->St->Option R) (ρ:List Value) (h:Array Obj) (K:List Item),vV C L G c i s k=some r->lr (λi c=>∀ le,L i=some le->QQ P n np nw le c) c i->Inv F0 io L0 n np nw s ρ h->(∀ e s' dz h',Inv F0 io L0 n np nw s' dz h'->k e s'=some r->tP P f E RR e K dz h')->TW P f E RR (.code c::K) ρ h
 | .skip,i,s,k,ρ,h,K,h0,_,hi,hk=>QX (hk .nm s ρ h hi h0)
 | .region id ops drawn,i,s,k,ρ,h,K,h0,_,hi,hk=>by
  simp only [vV] at h0;have e:ops=ops.toList.toArray:=by simp
  split at h0
  ·cases h0
  rename_i s0 E3;obtain⟨⟨F1,gS,RH,Zb,sK,pK,O5⟩,rp,Vj,Vk⟩:=hi;obtain⟨F2,g1,g2,g3,g4,g5,g6,g7,_⟩:=gL sK pK E3;have hi:Inv F0 io L0 n np nw s0 ρ h:=⟨⟨F2,gS,RH.trans g1,λe=>g2.trans (Zb e),g3,g4,O5⟩,g5.trans rp,g6.trans Vj,g7.trans Vk⟩;clear sK pK g1 g2 g3 g4 g5 g6 g7 E3 rp Vj Vk Zb RH O5
  revert hi h0
  generalize s0=s;intro h0 hi;cases drawn with
  | false =>
   simp only [cond_false] at h0;rw [e];exact LH λKK hK=>uJ hC _ s ρ h hi h0 λs' dz h' j5 h1=>hK _ _ (hk .nm s' dz h' j5 h1)
  | true =>
   simp only [cond_true] at h0;cases hq:ops.toList.all (Oj C) with
   | true =>
    rw [hq] at h0;simp only [cond_true] at h0;cases hB:vq (Region.lexB .any ops) with
    | false=>rw [hB] at h0;cases h0
    | true =>
     rw [hB] at h0;simp only [cond_true] at h0;unfold vq at hB;obtain⟨⟨F,ι,hF,hN,hr,hm,BU⟩,hn,iB,nu⟩:=hi;rw [e];exact NQ (SR F ι s.ow L0) Bh (by simpa using hB) hm λKq hK=>uK hC hm.gl _ s ρ hr rfl hn iB nu h0 λs' dz yQ Vc IH Vd Ve h1=>hK _ λh' hS=>hk .nm s' dz h' ⟨⟨F,ι,hF,hN,yQ,by rw [Vc];exact hS,BU⟩,IH,Vd,Ve⟩ h1
   | false =>
    rw [hq] at h0;simp only [cond_false] at h0
    split at h0
    ·cases h0
    ·rename_i n_ ads;cases hbr:(n_.any λq=>Nat.ble 1000000 q.2) with
     | true =>
      rw [hbr] at h0;simp only [cond_true] at h0;cases hs:vq (Region.noSelect ops) with
      | false=>rw [hs] at h0;cases h0
      | true =>
       rw [hs] at h0;exact Ms hC Bh hi hs h0 λs' dz h' j5 h1=>hk .nm s' dz h' j5 h1
     | false =>
     rw [hbr] at h0;simp only [cond_false] at h0;cases hs:vq (Region.noSelect ops && Nat.ble n_.length ops.size) with
     | false=>rw [hs] at h0;cases h0
     | true =>
      rw [hs] at h0;exact O3 hC Bh hi hs h0 λs' dz h' j5 h1=>hk .nm s' dz h' j5 h1
 | .seq a b,i,s,k,ρ,h,K,h0,hl,hi,hk=>by
  simp only [vV] at h0;refine T4 (kC hC Bh hG a i s _ ρ h (.code b::K) h0 hl.1 hi λe s' dz h' j5 h1=>?_);cases e with
  | nm=>exact kC hC Bh hG b i s' k dz h' K h1 hl.2 j5 hk
  | ex id=>exact tP.code (e := .ex id) (hk (.ex id) s' dz h' j5 h1) (by simp)
  | rt=>exact tP.code (e := .rt) (hk .rt s' dz h' j5 h1) (by simp)
  | gt l=>exact tP.code (e := .gt l) (hk (.gt l) s' dz h' j5 h1) (by simp)
 | .cond x a b,i,s,k,ρ,h,K,h0,hl,hi,hk=>by
  simp only [vV] at h0
  split at h0
  ·rename_i t
   split at h0
   ·rename_i c hs;have hv:=hi.bool hs;have j5:=hi.reset hs;cases c with
    | true=>exact Du hv (kC hC Bh hG a i _ k ρ h K h0 hl.1 j5 hk)
    | false=>exact Dv hv (kC hC Bh hG b i _ k ρ h K h0 hl.2 j5 hk)
   ·cases h0
  ·rename_i c;cases c with
   | true=>exact Du rfl (kC hC Bh hG a i s k ρ h K h0 hl.1 hi hk)
   | false=>exact Dv rfl (kC hC Bh hG b i s k ρ h K h0 hl.2 hi hk)
  ·cases h0
 | .block id c,i,s,k,ρ,h,K,h0,hl,hi,hk=>by
  simp only [vV] at h0
  split at h0
  ·rename_i le hle
   split at h0
   ·cases h0
   ·rename_i x hx;obtain⟨y,hy,h0⟩:=Option.bind_eq_some_iff.1 h0;have hs:=hi.hn;have xm:=hi.iB;have Vl:=hi.nu;rw [E8,hs,xm,Vl] at h0;exact hl.2 le hle f E RR F0 io L0 x y ρ h K hy (hi.Gq hx) λdz h' j5=>hk _ _ dz h' j5 h0
  ·refine NJ (kC hC Bh hG c id s _ ρ h (.inBlock id::K) h0 hl.1 hi λe s' dz h' j5 h1=>?_);cases e with
   | nm=>exact IM (hk .nm s' dz h' j5 h1)
   | ex j =>
    simp only at h1;cases hj:(j == id) with
    | true =>
     rw [hj] at h1
     have:j=id:=by simpa using hj
     subst this;exact⟨K,by simp [exitTo],hk .nm s' dz h' j5 h1⟩
    | false =>
     rw [hj] at h1;obtain⟨K',h2,h3⟩:=hk (.ex j) s' dz h' j5 h1
     have:¬ id=j:=λe=>by subst e;simp at hj
     exact⟨K',by simp [exitTo,this];exact h2,h3⟩
   | rt=>exact hk .rt s' dz h' j5 h1
   | gt l=>obtain⟨K',h2,h3⟩:=hk (.gt l) s' dz h' j5 h1;exact⟨K',by simp only [gotoIn];exact h2,h3⟩
 | .loop c,i,s,k,ρ,h,K,h0,hl,hi,hk=>by
  simp only [vV] at h0
  split at h0
  ·cases h0
  ·rename_i le hle
   split at h0
   ·cases h0
   ·rename_i x hx;obtain⟨y,hy,h0⟩:=Option.bind_eq_some_iff.1 h0;have hs:=hi.hn;have xm:=hi.iB;have Vl:=hi.nu;rw [E8,hs,xm,Vl] at h0;exact hl le hle f E RR F0 io L0 x y ρ h K hy (hi.Gq hx) λdz h' j5=>hk _ _ dz h' j5 h0
 | .exit id,i,s,k,ρ,h,K,h0,_,hi,hk=>by obtain⟨K',h1,h2⟩:=hk (.ex id) s ρ h hi h0;exact QZ h1 h2
 | .ret,i,s,k,ρ,h,K,h0,_,hi,hk=>hk .rt s ρ h hi h0 K
 | .rangeFunc _ _ _ _,_,_,_,_,_,_,h0,_,_,_=>by cases h0
 | .scope c,i,s,k,ρ,h,K,h0,hl,hi,hk=>by
  simp only [vV] at h0;refine NK (kC hC Bh hG c i s _ ρ h (.inScope c::K) h0 hl hi λe s' dz h' j5 h1=>?_);cases e with
  | gt l=>exact hG c l i s' k dz h' K h1 hl j5 hk
  | nm=>exact (hk .nm s' dz h' j5 h1).scope (by simp)
  | ex id=>exact (hk (.ex id) s' dz h' j5 h1).scope (by simp)
  | rt=>exact (hk .rt s' dz h' j5 h1).scope (by simp)
 | .label _,_,s,k,ρ,h,K,h0,_,hi,hk=>NL (hk .nm s ρ h hi h0)
 | .goto l,i,s,k,ρ,h,K,h0,_,hi,hk=>by obtain⟨K',h1,h2⟩:=hk (.gt l) s ρ h hi h0;exact QY h1 h2
 | .refuse _,_,_,_,_,_,_,h0,_,_,_=>by cases h0
theorem zl (hC:lD P C)(Bh:P.follows .mixedOrders=true)(c:Code)(i:Nat)(s:St)(k:Xt->St->Option R)(ρ:List Value)(h:Array Obj)(K:List Item)(h0:ZT C L c i s k=some r)(hl:lr (λi c=>∀ le,L i=some le->QQ P n np nw le c) c i)(hi:Inv F0 io L0 n np nw s ρ h)(hk:∀ e s' dz h',Inv F0 io L0 n np nw s' dz h'->k e s'=some r->tP P f E RR e K dz h'):TW P f E RR (.code c::K) ρ h :=
 kC hC Bh (λ_ _ _ _ _ _ _ _ h0=>by cases h0) c i s k ρ h K h0 hl hi hk
theorem sY {e:Xt}(hi:Inv F0 io L0 n np nw s ρ h):∀ {xs:List (Xt×Pt)} {y:rj (xs.map (·.2))},y9 e s xs=some y->(EF n np nw xs y).1=e/\Inv F0 io L0 n np nw (EF n np nw xs y).2 ρ h
 | [],y,_=>y.elim
 | [p],y,h0=>by
  simp only [y9] at h0;cases hd:decide (p.1=e) with
  | false=>rw [hd] at h0;cases h0
  | true =>
   rw [hd] at h0;exact⟨(by simpa using hd:p.1=e),hi.Gq h0⟩
 | p::q::ps,y,h0=>by
  simp only [y9] at h0;cases hd:decide (p.1=e) with
  | false =>
   rw [hd] at h0;simp only [cond_false] at h0
   split at h0
   ·rename_i z hz;cases h0;exact sY hi (xs:=q::ps) hz
   ·cases h0
  | true =>
   rw [hd] at h0;simp only [cond_true] at h0
   split at h0
   ·rename_i z hz;cases h0;exact⟨(by simpa using hd:p.1=e),hi.Gq hz⟩
   ·split at h0
    ·rename_i z hz;cases h0;exact sY hi (xs:=q::ps) hz
    ·cases h0
theorem rJ {le:mB}{c:Code}{body:er le.lf->Option (ai (er le.lf) (rj (le.pT.map (·.2))))}(hC:lD P C)(Bh:P.follows .mixedOrders=true)(hl:lr (λi c=>∀ le,L i=some le->QQ P n np nw le c) c 0)(hb:∀ x,EG C L c n np nw le.lf le.pT x=body x)(hm:∀ x y,le.m x=some y->qJ body x y):O4 P n np nw le c:=by
 intro f E RR F0 io L0 x y ρ h K hx hi hk;have key:∀ x y,qJ body x y->∀ ρ h,Inv F0 io L0 n np nw (Nq n np nw le.lf x) ρ h->(∀ dz h',Inv F0 io L0 n np nw (EF n np nw le.pT y).2 dz h'->tP P f E RR (EF n np nw le.pT y).1 K dz h')->TW P f E RR (.code c :: .inLoop c::K) ρ h:=by
  intro x y Gu
  induction Gu with
  | @out x b h1 =>
   intro ρ h hi hk;rw [<- hb] at h1;refine zl (L:=L) hC Bh c 0 _ _ ρ h _ h1 hl hi λe s' dz h' j5 h2=>?_
   unfold By at h2
   split at h2
   ·split at h2 <;> cases h2
   ·rename_i eH
    split at h2
    ·rename_i z hz;cases h2;obtain⟨h3,h4⟩:=sY j5 hz
     have:=hk dz h' h4
     rw [h3] at this;exact this.loop eH
    ·cases h2
  | @nx x z b h1 _ ih =>
   intro ρ h hi hk;rw [<- hb] at h1;refine zl (L:=L) hC Bh c 0 _ _ ρ h _ h1 hl hi λe s' dz h' j5 h2=>?_
   unfold By at h2
   split at h2
   ·split at h2
    ·rename_i w hw;cases h2;exact LF (ih dz h' (j5.Gq hw) hk)
    ·cases h2
   ·split at h2 <;> cases h2
 exact NM (key x y (hm x y hx) ρ h hi hk)
end
section
variable {P:Program}{C:Cx}{F F' F1 F0:iH}{ι ι':Gh}{s s':St}{ρ:List Value}{d:D}{v:Value}{t:Nat}{L0:List gJ}{h:Array Obj}{L:Nat->Option mB}
def B4 (ρ:List Value):ResultVar->Sem Value
 | .tmp t=>pure (ρ.toArray.getD t undef)
 | .cell a t=>do loadVar t (<- asAddr (ρ.toArray.getD a undef))
theorem xu (hC:lD P C):∀ {rs:List ResultVar} {s s2:St} {ds:List D} {F:iH},Rel F ι s ρ->Hp h F (lv ι s.ow++L0)->I9 C s rs=some (s2,ds)->∃ F' vs,F.le F'/\F'.fF=F.fF/\Rel F' ι s2 ρ/\Hp h F' (lv ι s2.ow++L0)/\s2.n=s.n/\s2.np=s.np/\s2.nw=s.nw/\F2 (kQ F' ι) ds vs/\∀ w,w.heap=h->(rs.mapM (B4 ρ)).run P w = .ok vs w
 | [],s,s2,ds,F,hr,hm,h0=>by cases h0;exact⟨F,[], .refl F,rfl,hr,hm,rfl,rfl,rfl, .nil,λw _=>by simp [List.mapM_nil]⟩
 | .tmp t::rs,s,s2,ds,F,hr,hm,h0=>by
  simp only [I9] at h0
  split at h0
  ·rename_i s' CO xm;cases h0;obtain⟨F1,vs,h1,hn,h2,h3,h4,h5,Mv,h6,h7⟩:=xu hC hr hm xm;refine⟨F1,ρ.getD t undef::vs,h1,hn,h2,h3,h4,h5,Mv, .cons (h2.sl t) h6,λw hw=>?_⟩;rw [List.mapM_cons];simp [B4,h7 w hw]
  ·cases h0
 | .cell t T::rs,s,s2,ds,F,hr,hm,h0=>by
  simp only [I9] at h0
  split at h0
  ·rename_i b off Bc
   split at h0
   ·rename_i T0 cs dB
    split at h0
    ·rename_i s1 qQ
     split at h0
     ·rename_i i hi
      split at h0
      ·rename_i T1 XM Hi;obtain⟨F1,h1,rp,h2,h3,h4,h5,Mv,_⟩:=gL hr hm qQ;have hx:=hr.sl t;rw [Bc] at hx;obtain⟨B,g1,hx⟩:=hx;obtain⟨B',YW,g2,g3,g4⟩:=h2.look Hi;rw [g1] at g2;cases g2;have hxe:ev ρ (.tmp t) = .pointer (some ⟨B,0+off,none⟩):=by rw [Nat.zero_add];exact hx
       obtain⟨v,d,k1,k2,k3⟩:=ld (P:=P) (s:=s1) (L0:=L0) (dst:=none) (ty:=0) (p := "") (af:=#[]) (gd:=none) (o:=0) (cK hC.1 hi) g4 hxe (λhh hm=>by obtain⟨fz,_,this⟩:=(hm.own (B,YW,BT.c T1) (List.mem_append_left _ (rS Hi (by rw [g3];simp)))).cells;exact fg YW [] [] 0 (by simpa using this) rfl) h0
       split at k3
       ·rename_i s' CO xm;cases k3;obtain⟨F2,vs,q1,qn,q2,q3,q4,q5,q5',q6,q7⟩:=xu hC h2 h3 xm;refine⟨F2,v::vs,h1.trans q1,qn.trans rp,q2,q3,q4.trans h4,q5.trans h5,q5'.trans Mv, .cons (k2.mono q1) q6,λw hw=>?_⟩;have rH:=(k1 h h3).out w hw;have Gv:ρ.toArray.getD t undef = .pointer (some ⟨B,off,none⟩):=by
         have:=hxe
         simpa [ev] using this
        simp only [execOp,hxe,Instr.loadAt,Instr.sureAddr,Nat.zero_add] at rH;have Mh:(loadVar T ⟨B,off,none⟩).run P w = .ok v w:=by
         simp only [Sem.run_bind,Sem.run_pure,Result.andThen_ok] at rH;cases Jo:(loadVar T ⟨B,off,none⟩).run P w with
         | ok a w' =>
          rw [Jo] at rH;simp only [Result.andThen_ok,Result.ok.injEq,Next.value.injEq] at rH;rw [rH.1,rH.2]
         | halt x w'=>rw [Jo] at rH;simp [Result.andThen] at rH
        rw [List.mapM_cons];simp [B4,Gv,asAddr,Mh,q7 w hw]
       ·cases k3
      ·cases h0
     ·cases h0
    ·cases h0
   ·cases h0
  ·cases h0
theorem HE {fn:Func}{vs:List Value}{w:World}(h:(fn.results.toList.mapM (B4 ρ)).run P w = .ok vs w):(results fn ρ.toArray).run P w = .ok (zW vs) w:=by
 have e:results fn ρ.toArray=(do
   let vs <- fn.results.mapM (B4 ρ)
   pure (if h:vs.size=1 then vs[0] else .tuple vs)):=by
  unfold results
  congr 1
 rw [e,Array.mapM_eq_mapM_toList];simp only [map_eq_pure_bind,Sem.run_bind,Sem.run_pure,h,Result.andThen_ok]
 match vs with
 | []=>rfl
 | [v]=>rfl
 | a::b::vs=>rfl
theorem MP.congr {ρ dz:Nat->Value}:∀ {p:Pt} {x:er p},(∀ i∈p.map (·.1),dz i=ρ i)->MP F ι ρ p x->MP F ι dz p x
 | [],_,_,_=>trivial
 | [q],x,h,hm=>by
  have:=h q.1 (by simp)
  show M1 _ _ _ _ _ _;rw [this];exact hm
 | q::q'::ps,x,h,hm=>by refine⟨?_,MP.congr (p:=q'::ps) (λi hi=>h i (by simp at hi ⊢;exact .inr hi)) hm.2⟩;rw [h q.1 (by simp)];exact hm.1
theorem Js {s0:St}(hr:Rel F ι s ρ)(hm:Hp h F (lv ι s.ow++L0))(h0:UJ s t=some s0):∃ F',F.le F'/\F'.fF=F.fF/\Rel F' ι s0 ρ/\Hp h F' (lv ι s0.ow++L0)/\s0.n=s.n/\s0.np=s.np/\s0.nw=s.nw:=by
 unfold UJ at h0
 split at h0
 ·split at h0
  ·rename_i s1 qQ;obtain⟨F1,h1,rp,h2,h3,h4,h5,h6,_⟩:=gL hr hm qQ
   split at h0
   ·rename_i T1 WZ Hi;cases hp:WZ.all D.plain with
    | false=>rw [hp] at h0;cases h0
    | true =>
     rw [hp] at h0;cases h0;obtain⟨F2,q1,q2,q3,q4,_⟩:=h2.Kr h3 Hi hp;exact⟨F2,h1.trans q1,q2.trans rp,q4,q3,h4,h5,h6⟩
   ·cases h0
  ·cases h0
 ·cases h0
theorem l_:∀ {rs:List ResultVar} {ks:List (Nat×Kd)} {s s0:St} {F:iH},Rel F ι s ρ->Hp h F (lv ι s.ow++L0)->sP s rs ks=some s0->∃ F',F.le F'/\F'.fF=F.fF/\Rel F' ι s0 ρ/\Hp h F' (lv ι s0.ow++L0)/\s0.n=s.n/\s0.np=s.np/\s0.nw=s.nw
 | rs,ks,s,s0,F,hr,hm,h0=>by
  unfold sP at h0
  split at h0
  ·split at h0
   ·split at h0
    ·rename_i s' xm;obtain⟨F1,h1,h2,h3,h4,h5,h6,h7⟩:=Js hr hm xm;obtain⟨F2,q1,q2,q3,q4,q5,q6,q7⟩:=l_ h3 h4 h0;exact⟨F2,h1.trans q1,q2.trans h2,q3,q4,q5.trans h5,q6.trans h6,q7.trans h7⟩
    ·cases h0
   ·exact l_ hr hm h0
  ·split at h0
   ·split at h0
    ·rename_i s' xm;obtain⟨F1,h1,h2,h3,h4,h5,h6,h7,_⟩:=gL hr hm xm;obtain⟨F2,q1,q2,q3,q4,q5,q6,q7⟩:=l_ h3 h4 h0;exact⟨F2,h1.trans q1,q2.trans h2,q3,q4,q5.trans h5,q6.trans h6,q7.trans h7⟩
    ·cases h0
   ·exact l_ hr hm h0
  ·exact l_ hr hm h0
  ·cases h0;exact⟨F, .refl F,rfl,hr,hm,rfl,rfl,rfl⟩
theorem zZ {f:FuncId}{fn:Func}{c:Code}{bN:vT}(hC:lD P C)(Bh:P.follows .mixedOrders=true)(hf:P.funcs[f]?=some fn)(hb:fn.body=some c)(hp:(fH bN.lf == List.range (fH bN.lf).length && mu (bN.lf.map (·.1)) && bN.lf.all (λq=>Nat.blt q.1 1000 || !(Nat.blt q.1 NT)))=true)(hn:(Nat.ble (fH bN.lf).length fn.ntmps && Nat.ble fn.ntmps 1000000)=true)
  (hl:lr (λi c=>∀ le,L i=some le->QQ P fn.ntmps bN.np (pU bN.bI) le c) c 0) (he:∀ x,ZU C L fn c bN x=bN.m x):aE P f bN:=by
 simp only [Bool.and_eq_true,beq_iff_eq] at hp;obtain⟨⟨DQ,Mw⟩,hp3⟩:=hp;simp only [Bool.and_eq_true,Nat.ble_eq] at hn;obtain⟨hn,BJ⟩:=hn;intro x r hx F ι h L0 h_ hlen OW hH;refine LG (ρ:=h_++List.replicate (fn.ntmps - h_.length) undef) hf hb rfl (λE=>?_);have my:(bN.lf.map (·.1)).Nodup:=gK Mw;have aaw:MP F ι (λi=>(h_++List.replicate (fn.ntmps - h_.length) undef).getD i undef) bN.lf x:=OW.congr λi hi=>by
  obtain⟨q,hq,rfl⟩:=List.mem_map.1 hi;have h3:=List.all_eq_true.1 hp3 q hq;simp only [List.getD_eq_getElem?_getD]
  by_cases jC:q.1<h_.length
  ·rw [List.getElem?_append_left jC]
  ·rw [List.getElem?_append_right (by omega),List.getElem?_eq_none (l:=h_) (by omega)]
   by_cases h1:q.1<1000
   ·exfalso
    have h4:q.1∈fH bN.lf:=List.mem_filter.2 ⟨List.mem_map.2 ⟨q,hq,rfl⟩,by rw [Nat.blt_eq];exact h1⟩;rw [DQ,List.mem_range] at h4;omega
   ·have e1:Nat.blt q.1 1000=false:=by cases hb:Nat.blt q.1 1000 with
     | false=>rfl
     | true=>rw [Nat.blt_eq] at hb;omega
    rw [e1,Bool.false_or] at h3;have h5:NT<=q.1:=by
     cases hb:Nat.blt q.1 NT with
     | true=>rw [hb] at h3;cases h3
     | false =>
      rcases Nat.lt_or_ge q.1 NT with h6 | h6
      ·rw [<- Nat.blt_eq,hb] at h6;cases h6
      ·exact h6
    have h6:NT=1000000000:=rfl;rw [List.getElem?_eq_none (by simp;omega)]
 have hi:Inv F (λt=>(ι t).1) L0 fn.ntmps bN.np (pU bN.bI) (Nq fn.ntmps bN.np (pU bN.bI) bN.lf x) (h_++List.replicate (fn.ntmps - h_.length) undef) h:=⟨⟨F,ι, .refl F,λ_=>rfl,aaw.rel my (by simp;omega),hH,λ_ _=>rfl⟩,rfl,rfl,rfl⟩;rw [<- he] at hx;refine zl (L:=L) hC Bh c 0 _ _ _ h [] hx hl hi λe s' dz h' j5 h1=>?_
 unfold Ok at h1;have RP:(match sP s' fn.results.toList bN.bI with
  | some s=>match I9 C s fn.results.toList with
   | some (s',ds)=>cond (fH bN.bI == List.range ds.length && bN.bI.all (λq=>Nat.blt q.1 1000 || q.1 == NT || Nat.ble SB q.1 || (Nat.blt q.1 (1000+bN.np % 1000) && Nat.ble (1000+bN.np / 1000) q.1 && q.2.isRef))) (Gq (Kk s' ds) bN.bI) none
   | none=>none
  | none=>none)=some r->∃ v,(∀ w,At E h' w->(results fn dz.toArray).run P w = .ok v w)/\Xu F ι bN r L0 v h':=by
  intro h2
  split at h2
  ·rename_i s1 qQ;obtain⟨⟨F0,gS,hF0,hN0,Va,QJ,O5⟩,Y4,XB,XC⟩:=j5;obtain⟨F1,RH,Zb,sK,pK,rp,Vj,Vk⟩:=l_ Va QJ qQ
   split at h2
   ·rename_i s2 ds hrs;obtain⟨F2,vs,q1,qn,q2,q3,q4,q5,q5',q6,q7⟩:=xu hC sK pK hrs;have j6:=bz q6;refine⟨zW vs,λw hw=>HE (q7 w hw.1),?_⟩;cases hc:(fH bN.bI == List.range ds.length && bN.bI.all (λq=>Nat.blt q.1 1000 || q.1 == NT || Nat.ble SB q.1 || (Nat.blt q.1 (1000+bN.np % 1000) && Nat.ble (1000+bN.np / 1000) q.1 && q.2.isRef))) with
    | false=>rw [hc] at h2;cases h2
    | true =>
     rw [hc] at h2;simp only [cond_true] at h2;simp only [Bool.and_eq_true,beq_iff_eq] at hc;obtain⟨tF,o8⟩:=hc;have Bc:∀ k,kQ F2 gS ((Kk s2 ds).sl k) (vX vs gS k):=λk=>by
      unfold Kk vX
      by_cases hk:k<1000
      ·have e1:Nat.blt k 1000=true:=by rw [Nat.blt_eq];exact hk
       simp only [e1,cond_true,if_pos hk,List.getD_eq_getElem?_getD];cases hd:ds[k]? with
       | none=>trivial
       | some d =>
        obtain⟨u,hu,hdu⟩:=gq q6 hd;rw [hu];exact hdu
      ·have e1:Nat.blt k 1000=false:=by cases hb:Nat.blt k 1000 with
        | false=>rfl
        | true=>rw [Nat.blt_eq] at hb;omega
       simp only [e1,cond_false,if_neg hk]
       by_cases Zc:k=NT∨SB<=k
       ·have e2:(k == NT || Nat.ble SB k)=true:=by
         rcases Zc with h | h
         ·simp [h]
         ·rw [Nat.ble_eq_true_of_le h,Bool.or_true]
        rw [e2,if_pos Zc,cond_true];trivial
       have e2:(k == NT || Nat.ble SB k)=false:=by have h1:¬ k=NT/\¬ SB<=k:=not_or.1 Zc;rw [E2 (by omega),Bool.or_false];simpa using h1.1
       rw [e2,if_neg Zc,cond_false];unfold ioD;split
       ·exact .jd rfl
       ·rename_i T cs dB;obtain⟨B,cv,g1,g2,g3⟩:=q2.look dB;exact .jd ⟨B,g1,g1⟩
       ·exact .jd rfl
       ·trivial
     obtain⟨u1,u2⟩:=OR (L0:=L0) ⟨Bc,q2.ow,q2.nd⟩ q3 h2;have Rx:∀ q∈bN.bI,1000<=q.1->q.1≠NT->q.1<SB->(bN.np / 1000<=q.1 - 1000/\q.1 - 1000<bN.np % 1000)/\q.2.isRef=true:=λq hq h3 h4 h4s=>by
      have h5:=List.all_eq_true.1 o8 q hq;have e1:Nat.blt q.1 1000=false:=by cases hb:Nat.blt q.1 1000 with
       | false=>rfl
       | true=>rw [Nat.blt_eq] at hb;omega
      have e2:(q.1 == NT)=false:=by simpa using h4
      rw [e1,e2,E2 h4s,Bool.false_or,Bool.false_or,Bool.false_or,Bool.and_eq_true,Bool.and_eq_true,Nat.blt_eq,Nat.ble_eq] at h5;exact⟨by omega,h5.2⟩
     refine⟨F2,_,vs,(hF0.trans RH).trans q1,λe=>(qn.trans Zb).trans (hN0 e),by rw [tF];simp [j6],?_,rfl,u2,λk hk h3 h4 h4s=>?_⟩
     ·refine u1.congr λk hk=>?_
      unfold vX;split
      ·rfl
      ·split
       ·rfl
       ·rename_i h3 h4;obtain⟨q,hq,rfl⟩:=List.mem_map.1 hk;have Wm:¬ q.1=NT/\¬ SB<=q.1:=not_or.1 h4;rw [O5 _ (Rx q hq (by omega) Wm.1 (by omega)).1]
     ·obtain⟨q,hq,rfl⟩:=List.mem_map.1 hk;have h5:=Rx q hq h3 h4 h4s;rw [<- O5 _ h5.1,<- MP.ref u1 hq h5.2];unfold vX;rw [if_neg (by omega),if_neg (λh=>h.elim h4 (λh=>by omega))]
   ·cases h2
  ·cases h2
 cases e with
 | nm =>
  simp only at h1;cases hr:fn.results.isEmpty with
  | false=>rw [hr] at h1;cases h1
  | true =>
   rw [hr] at h1;simp only [cond_true] at h1;obtain⟨v,h2,h3⟩:=RP h1;exact IQ hf h2 h3
 | ex id=>cases h1
 | gt l=>cases h1
 | rt =>
  simp only [cond_true] at h1;obtain⟨v,h2,h3⟩:=RP h1;exact λK=>IP hf h2 h3
end
def kD:Code->Nat->List (Nat×Code)
 | .seq a b,i=>kD a i++kD b i
 | .cond _ a b,i=>kD a i++kD b i
 | .block id c,_=>kD c id
 | .scope c,i=>kD c i
 | .loop c,i=>[(i,c)]
 | _,_=>[]
def kg:Code->List (Nat×Code)
 | .seq a b=>kg a++kg b
 | .cond _ a b=>kg a++kg b
 | .block id c=>(BK+id, .block id c)::kg c
 | .scope c=>kg c
 | _=>[]
def uM (c:Code)(k:Nat):Code:=((kD c 0).getD k (0, .skip)).2
theorem oH {Q:Nat->Code->Prop}:∀ {c:Code} {i:Nat},(∀ p∈kD c i,Q p.1 (.loop p.2))->(∀ p∈kg c,Q p.1 p.2)->lr Q c i
 | .seq a b,i,h,g=>⟨oH (λp hp=>h p (List.mem_append_left _ hp)) λp hp=>g p (List.mem_append_left _ hp),oH (λp hp=>h p (List.mem_append_right _ hp)) λp hp=>g p (List.mem_append_right _ hp)⟩
 | .cond _ a b,i,h,g=>⟨oH (λp hp=>h p (List.mem_append_left _ hp)) λp hp=>g p (List.mem_append_left _ hp),oH (λp hp=>h p (List.mem_append_right _ hp)) λp hp=>g p (List.mem_append_right _ hp)⟩
 | .block id c,_,h,g=>⟨oH (c:=c) h λp hp=>g p (List.mem_cons_of_mem _ hp),g (BK+id, .block id c) List.mem_cons_self⟩
 | .scope c,_,h,g=>oH (c:=c) h g
 | .loop c,i,h,_=>h (i,c) (by simp [kD])
 | .skip,_,_,_=>trivial
 | .region _ _ _,_,_,_=>trivial
 | .rangeFunc _ _ _ _,_,_,_=>trivial
 | .exit _,_,_,_=>trivial
 | .label _,_,_,_=>trivial
 | .goto _,_,_,_=>trivial
 | .ret,_,_,_=>trivial
 | .refuse _,_,_,_=>trivial
def uN:List (FuncId×vT)->FuncId->Option vT
 | [],_=>none
 | (g,e)::l,f=>cond (f == g) (some e) (uN l f)
def kh:List (Nat×mB)->Nat->Option mB
 | [],_=>none
 | (g,e)::l,f=>cond (f == g) (some e) (kh l f)
def yj:List (Nat×List (Bool×Nat))->Nat->Option (List (Bool×Nat))
 | [],_=>none
 | (g,e)::l,f=>cond (f == g) (some e) (yj l f)
inductive Jt (P:Program):List (FuncId×vT)->Prop
 | nil:Jt P []
 | cons {f:FuncId} {e:vT} {l:List (FuncId×vT)} (h:aE P (f % 1000000) e) (c:∀ args w,(callFunc (f % 1000000) args).run P w = .ok (.enter (f % 1000000) args) w) (t:Jt P l):Jt P ((f,e)::l)
theorem z6 {P:Program}{tb:List (Option TI)}{l:List (FuncId×vT)}{ss:Nat->Option (List (Bool×Nat))}{ms:List (TypeId×String×FuncId)}{CU:List (TypeId×TypeId)}(ht:UO P tb)(hi:(∀ q∈ms,Jb P q.1 q.2.1 q.2.2)/\∀ q∈CU,Rm P q.1 q.2)(h:Jt P l):lD P ⟨tb,uN l,ss,ms,CU⟩:=by
 refine⟨⟨ht,hi⟩,?_⟩
 induction h with
 | nil=>intro f e hf;cases hf
 | @cons g e0 l h c t ih =>
  intro f e hf;simp only [uN] at hf;cases hg:(f == g) with
  | true =>
   rw [hg] at hf;cases hf
   have:f=g:=by simpa using hg
   subst this;exact⟨h,c⟩
  | false =>
   rw [hg] at hf;exact ih f e hf
inductive E9 (P:Program)(n np:Nat)(nw:Bool)(L:Nat->Option mB):List (Nat×Code)->Prop
 | nil:E9 P n np nw L []
 | cons {i:Nat} {c:Code} {le:mB} {l:List (Nat×Code)} (hl:L i=some le) (h:O4 P n np nw le c) (t:E9 P n np nw L l):E9 P n np nw L ((i,c)::l)
 | skip {i:Nat} {c:Code} {l:List (Nat×Code)} (hl:L i=none) (t:E9 P n np nw L l):E9 P n np nw L ((i,c)::l)
inductive E_ (P:Program)(n np:Nat)(nw:Bool)(L:Nat->Option mB):List (Nat×Code)->Prop
 | nil:E_ P n np nw L []
 | cons {i:Nat} {c:Code} {le:mB} {l:List (Nat×Code)} (hl:L i=some le) (h:QQ P n np nw le c) (t:E_ P n np nw L l):E_ P n np nw L ((i,c)::l)
 | skip {i:Nat} {c:Code} {l:List (Nat×Code)} (hl:L i=none) (t:E_ P n np nw L l):E_ P n np nw L ((i,c)::l)
theorem E_.all {P:Program}{n np:Nat}{nw:Bool}{L:Nat->Option mB}{l:List (Nat×Code)}(h:E_ P n np nw L l):∀ p∈l,∀ le,L p.1=some le->QQ P n np nw le p.2:=by
 induction h with
 | nil=>intro p hp;cases hp
 | skip hl t ih =>
  intro p hp;rcases List.mem_cons.1 hp with rfl | hp
  ·intro le hle;rw [hl] at hle;cases hle
  ·exact ih p hp
 | cons hl h t ih =>
  intro p hp;rcases List.mem_cons.1 hp with rfl | hp
  ·intro le hle;rw [hl] at hle;cases hle;exact h
  ·exact ih p hp
theorem Vm {P:Program}{n np:Nat}{nw:Bool}{L:Nat->Option mB}{c:Code}{l l':List (Nat×Code)}(hc:kD c 0=l)(h:E9 P n np nw L l)(uL:kg c=l')(h':E_ P n np nw L l'):lr (λi c=>∀ le,L i=some le->QQ P n np nw le c) c 0:=by
 refine oH ?_ (by rw [uL];exact h'.all);rw [hc];clear hc
 induction h with
 | nil=>intro p hp;cases hp
 | skip hl t ih =>
  intro p hp;rcases List.mem_cons.1 hp with rfl | hp
  ·intro le hle;rw [hl] at hle;cases hle
  ·exact ih p hp
 | cons hl h t ih =>
  intro p hp;rcases List.mem_cons.1 hp with rfl | hp
  ·intro le hle;rw [hl] at hle;cases hle;exact h
  ·exact ih p hp
theorem KP {P:Program}{n np:Nat}{nw:Bool}{L:Nat->Option mB}:∀ {l:List (Nat×Code)},(l.all λp=>(L p.1).isNone)=true->E_ P n np nw L l
 | [],_ => .nil
 | p::l,h=>by rw [List.all_cons,Bool.and_eq_true] at h;exact .skip (Option.isNone_iff_eq_none.1 h.1) (KP h.2)
theorem pV {P:Program}{n np:Nat}{nw:Bool}{L:Nat->Option mB}{c:Code}{l:List (Nat×Code)}(hc:kD c 0=l)(h:E9 P n np nw L l)(hb:((kg c).all λp=>(L p.1).isNone)=true:=by kernel_rfl):lr (λi c=>∀ le,L i=some le->QQ P n np nw le c) c 0:=Vm hc h rfl (KP hb)
def lY:Nat:=1099511627776
end Go.Proofs.YtngabkipchpmpaaGreat.V
namespace Go.Proofs.YtngabkipchpmpaaGreat.V
open Go K Go.WideShapes
def F0 (h:Array Obj):iH:=⟨λb=>h[b]?,λ_=>none,λ_=>False,(λ_ _ _ h=>by cases h),(λ_ _ h=>by cases h)⟩
theorem XN (h:Array Obj)(C1:Gl λb=>h[b]?):Hp h (F0 h) []:=⟨λ_ _ hb=>hb,(λ_ hp=>by cases hp),(λ_ hp=>by cases hp),List.nodup_nil,(λ_ hb=>False.elim hb),C1⟩
theorem O6 (h:Array Obj)(a:Addr):rE (F0 h) a=K.cell h a:=by unfold rE K.cell;rfl
theorem zm {h:Array Obj}{B:Nat}:∀ {cs:List Value} {off:Nat},bm h B off cs->jO (F0 h) B off cs
 | [],_,_=>trivial
 | _::_,_,⟨h1,h2⟩=>⟨by rw [O6];exact h1,zm h2⟩
theorem Vn {P:Program}{f:FuncId}{bN:vT}{x:er bN.lf}{r:er bN.bI}{h:Array Obj}{ι:Gh}{h_:List Value}(lI:aE P f bN)(hm:bN.m x=some r)(hlen:h_.length=(fH bN.lf).length)(OW:MP (F0 h) ι (λi=>h_.getD i undef) bN.lf x)(hL:lv ι (jb bN.lf x)=[])(C1:Gl λb=>h[b]?)
  (hr:∀ F' ι' vs,MP F' ι' (vX vs ι) bN.bI r->vs.length=(fH bN.bI).length->zW vs = .bool true):IL P f h_ h λv h'=>v = .bool true/\Ext h h':=by
 refine (lI x r hm (F0 h) ι h [] h_ hlen OW (by rw [hL];exact XN h C1)).mono ?_
 rintro v h' ⟨F',ι',vs,h1,_,h2,h3,rfl,h4,_⟩
 have hold:∀ b,b<h.size->h'[b]?=h[b]?:=λb hb=>by have e:h[b]?=some h[b]:=Array.getElem?_eq_getElem hb;rw [e];exact h4.tH b _ (h1.1 b _ e)
 refine⟨hr F' ι' vs h3 h2,?_,hold⟩;rcases Nat.eq_zero_or_pos h.size with h0 | h0
 ·omega
 ·have:=hold (h.size - 1) (by omega)
  rw [Array.getElem?_eq_getElem (xs:=h) (by omega)] at this
  have:=(Array.getElem?_eq_some_iff.1 this).1
  omega
theorem RQ {F':iH}{ι ι':Gh}{vs:List Value}(hl:vs.length=1)(h:M1 F' ι' 0 .bool true (vX vs ι 0)):zW vs = .bool true:=by
 match vs,hl with
 | [v],_ =>
  have:=Rd.iD h.1
  simpa [vX,zW] using this
section
variable {P:Program}{t T:TypeId}{e:E}
def Reads (P:Program)(t:TypeId)(e:E):Prop:=∀ {H:Type} (enc:TypeId×Value->H) (w:World) (base:Nat) (spare:Nat->Bool) (held:Bool) (fuel:Nat) (cs:List Value) (y:DataW H×List MemPlace),DataW.trod enc P w base spare held fuel t cs=some y->∃ x:e.T,Rd (F0 w.heap) (e.enc x) cs
def B5 (P:Program)(t:TypeId)(e:E):Prop:=∀ {H:Type} (enc:TypeId×Value->H) (w:World) (base:Nat) (spare:Nat->Bool) (held:Bool) (fuel:Nat) (cs:List Value) (y:DataW H×List MemPlace),DataW.trod enc P w base spare held fuel t cs=some y->∃ xs:List e.T,Rd (F0 w.heap) [.aB e xs] cs
theorem D2 (hu:P.underlying t=some (.int .i64)):Reads P t .int:=λenc w base spare held fuel cs y h=>by obtain⟨n,rfl,_⟩:=K.N0 hu h;exact⟨n, .int .nil⟩
theorem vF (hu:P.underlying t=some .string):Reads P t .str:=λenc w base spare held fuel cs y h=>by obtain⟨l,rfl,_⟩:=K.LQ hu h;exact⟨l, .str .nil⟩
theorem ma {fs:Array Field}{l:List (TypeId×Nat)}(CP:fs.toList.map (λf=>(f.type,f.offset))=l){p:TypeId×Nat}(hp:p∈l):∃ f∈fs.toList,f.type=p.1/\f.offset=p.2:=by rw [<- CP] at hp;obtain⟨f,hf,rfl⟩:=List.mem_map.1 hp;exact⟨f,hf,rfl,rfl⟩
theorem Ju {fs:Array Field}{ts:TypeId}(hu:P.underlying t=some (.struct fs))(hc:P.cellsOf t=2)(CP:fs.toList.map (λf=>(f.type,f.offset))=[(ts,0),(ts,1)])(us:P.underlying ts=some .string)(cs':P.cellsOf ts=1):Reads P t .attr:=λenc w base spare held fuel cs y h=>by
 obtain⟨fu,h1,h2⟩:=K.DA hu h;rw [hc] at h1
 match cs,h1 with
 | [a,b],_ =>
  obtain⟨f,hf,e1,e2⟩:=ma CP (p:=(ts,0)) (by simp);obtain⟨g,hg,e3,e4⟩:=ma CP (p:=(ts,1)) (by simp);obtain⟨y1,DB⟩:=h2 f hf;obtain⟨y2,Gp⟩:=h2 g hg;rw [e1,e2,cs'] at DB;rw [e3,e4,cs'] at Gp;obtain⟨k,hk⟩:=vF us enc w base spare held fu _ y1 DB;obtain⟨v,hv⟩:=vF us enc w base spare held fu _ y2 Gp;exact⟨⟨k,v⟩,hk.cons hv⟩
theorem D3 {sz:Nat}(hu:P.underlying T=some (.slice t))(hc:P.cellsOf t=sz)(hs:sz=e.sz)(hr:Reads P t e):B5 P T e:=λenc w base spare held fuel cs y h=>by
 obtain⟨fu,h1⟩:=K.GI hu h;rcases h1 with rfl | ⟨a,len,cap,rfl,g1,g2,g3⟩
 ·exact⟨[], .aB (λ_=>[]) (Nat.le_refl _) (λi x hx=>by simp at hx) (λi x hx=>by simp at hx) .nil⟩
 ·subst hs;rw [hc] at g3;have j4:=EH e;obtain⟨xs,hl,hx⟩:=xh (λi (x:e.T)=>∃ cs,some a=some ⟨K.lb (some a),K.ka (some a),none⟩/\jO (F0 w.heap) (K.lb (some a)) (K.ka (some a)+i*e.sz) cs/\Rd (F0 w.heap) (e.enc x) cs) len (λi hi=>by obtain⟨ys,y,DB,Gp⟩:=g3 i hi;obtain⟨zs,z,XO,XP⟩:=g3 0 (by omega);obtain⟨q1,q2,q3⟩:=K.GG j4 ⟨zs,XO⟩ DB;obtain⟨x,hx⟩:=hr enc w base spare held fu ys y Gp;exact⟨x,ys,q1,zm q3,hx⟩)
  refine⟨xs,?_⟩;rw [<- hl];exact Rd.GZ (by omega) λi x XQ=>hx i x XQ
theorem Jv {fs:Array Field}{ti ts tl:TypeId}(hu:P.underlying t=some (.struct fs))(hc:P.cellsOf t=5)(CP:fs.toList.map (λf=>(f.type,f.offset))=[(ti,0),(ts,1),(ts,2),(tl,3),(ti,4)])(ui:P.underlying ti=some (.int .i64))(us:P.underlying ts=some .string)(ci:P.cellsOf ti=1)(cs':P.cellsOf ts=1)(cl:P.cellsOf tl=1)(hl:B5 P tl .attr):Reads P t .node:=λenc w base spare held fuel cs y h=>by
 obtain⟨fu,h1,h2⟩:=K.DA hu h;rw [hc] at h1
 match cs,h1 with
 | [a,b,c,d,e],_ =>
  obtain⟨f0,hf0,e0,o0⟩:=ma CP (p:=(ti,0)) (by simp);obtain⟨f1,RS,e1,o1⟩:=ma CP (p:=(ts,1)) (by simp);obtain⟨f2,W_,e2,o2⟩:=ma CP (p:=(ts,2)) (by simp);obtain⟨f3,hf3,e3,o3⟩:=ma CP (p:=(tl,3)) (by simp);obtain⟨f4,hf4,e4,o4⟩:=ma CP (p:=(ti,4)) (by simp);obtain⟨y0,Rq⟩:=h2 f0 hf0;obtain⟨y1,DB⟩:=h2 f1 RS;obtain⟨y2,Gp⟩:=h2 f2 W_;obtain⟨y3,XR⟩:=h2 f3 hf3;obtain⟨y4,XS⟩:=h2 f4 hf4;rw [e0,o0,ci] at Rq;rw [e1,o1,cs'] at DB;rw [e2,o2,cs'] at Gp;rw [e3,o3,cl] at XR;rw [e4,o4,ci] at XS;obtain⟨x0,Kx⟩:=D2 ui enc w base spare held fu _ y0 Rq;obtain⟨x1,hx1⟩:=vF us enc w base spare held fu _ y1 DB;obtain⟨x2,XT⟩:=vF us enc w base spare held fu _ y2 Gp;obtain⟨x3,hx3⟩:=hl enc w base spare held fu _ y3 XR;obtain⟨x4,hx4⟩:=D2 ui enc w base spare held fu _ y4 XS;exact⟨⟨x0,x1,x2,x3,x4⟩,Kx.cons (hx1.cons (XT.cons (hx3.cons hx4)))⟩
variable {H:Type}{enc:TypeId×Value->H}{w:World}{base b0:Nat}{spare:Nat->Bool}{held:Bool}{v:Value}{d:DataW H}{ps:List MemPlace}
theorem RU (hu:P.underlying T=some (.slice t))(hr:B5 P T e)(Az:Value.okWide P w .any b0 T v)(hd:DataW.Trod enc P w base spare held T v d ps):∃ xs:List e.T,Rd (F0 w.heap) [.aB e xs] [v]:=by
 obtain⟨q0,XU,XV,rfl⟩:=okWide_slice hu Az;obtain⟨fuel,hf⟩:=hd
 have:=hr enc w base spare held fuel _ _ hf
 simpa [Value.cells] using this
end
def KM:Gh:=λi=>if i=NT then (.tuple #[],[]) else (undef,[])
theorem aaE {F:iH}{cl:Cl}{T A:TypeId}(hF:∀ j,F.fF j=none):kS F KM NT (.nodes cl T A [] none):=by
 refine⟨rfl,[],?_,?_,λj _=>hF j⟩
 ·simp [KM]
 ·have:(KM NT).2=[]:=by simp [KM]
  rw [this];exact .nil
theorem XW {F:iH}{cl:Cl}{T A:TypeId}{v:Value}(hF:∀ j,F.fF j=none):M1 F KM NT (.ns cl T A) [] v:=⟨trivial,λq hq=>by simp [a7] at hq;subst hq;exact aaE hF⟩
theorem lv0 {b:OB}:lv KM [(NT,b)]=[]:=by simp [lv,KM]
theorem Jw {F:iH}{i:Nat}{e:E}{xs:List e.T}{v:Value}{ι:Gh}(h:Rd F [.aB e xs] [v]):M1 F ι i (.aB e) xs v:=⟨.aU h,λq hq=>by simp [a7] at hq⟩
end Go.Proofs.YtngabkipchpmpaaGreat.V
namespace Go.Proofs.YtngabkipchpmpaaGreat.V
open Go K
def z7:(p:Pt)->(q:Nat×Kd)->er p->q.2.T->er (p++[q])
 | [],_,_,y=>y
 | [_],_,x,y=>(x,y)
 | _::b::ps,q,x,y=>(x.1,z7 (b::ps) q x.2 y)
def B6:(p:Pt)->(q:Nat×Kd)->er (p++[q])->er p
 | [],_,_=>()
 | [_],_,x=>x.1
 | _::b::ps,q,x=>(x.1,B6 (b::ps) q x.2)
def E.XX:E->Bool
 | .int=>true | .u8=>true | .str=>true | .bool=>true | .attr=>true | .node=>true | .QE=>true
 | _=>false
def Fl.nn:Fl->Bool
 | .int _=>true | .bool=>true | .str=>true | .ints=>true | .strs=>true | .GS=>true | .nodes=>true
 | _=>false
def E.nn:E->Bool
 | .rc f fs k=>f.nn && fs.all Fl.nn && k == 0
 | e=>e.XX
def Kd.nn:Kd->Bool
 | .int _=>true | .bool=>true | .str=>true | .aB e=>e.nn | .el e=>e.nn
 | _=>false
def Kd.no:Kd->Bool
 | .int _=>true | .bool=>true | .str=>true | .own e _=>e.nn && e.flat | .aB e=>e.nn | .el e=>e.nn
 | _=>false
section
variable {F G:iH}{ι ι':Gh}{v:Value}{h h':Array Obj}{L:List gJ}
theorem RV (hm:∀ b o,F.m b=some o->G.m b=some o){a:Addr}{v:Value}(hc:rE F a=some v):rE G a=some v:=by
 unfold rE at *;cases hb:F.m a.block with
 | none=>rw [hb] at hc;cases hc
 | some o=>rw [hm _ _ hb];rw [hb] at hc;exact hc
theorem HF (hm:∀ b o,F.m b=some o->G.m b=some o){B:Nat}:∀ {cs:List Value} {off:Nat},jO F B off cs->jO G B off cs
 | [],_,_=>trivial
 | _::_,_,⟨h1,h2⟩=>⟨RV hm h1,HF hm h2⟩
theorem qT {e:E}{xs:List e.T}(hm:∀ b o,F.m b=some o->G.m b=some o)(he:∀ (x:e.T) (vs:List Value),Rd F (e.enc x) vs->Rd G (e.enc x) vs)(h:Rd F [.aB e xs] [v]):Rd G [.aB e xs] [v]:=by
 obtain⟨q,cp,rfl,pb,mC⟩:=Rd.at h;exact Rd.GZ pb λi x hx=>by obtain⟨cs,a,b,c⟩:=mC i x hx;exact⟨cs,a,HF hm b,he x cs c⟩
theorem D4 {x:Attr}{vs:List Value}(h:Rd F (E.attr.enc x) vs):Rd G (E.attr.enc x) vs:=by obtain⟨v1,r1,rfl,h1,h⟩:=h.az;obtain⟨v2,r2,rfl,h2,h⟩:=h.az;cases h;rw [Rd.g_ h1,Rd.g_ h2];exact .str (.str .nil)
theorem qU {e:E}(he:e.XX=true)(hm:∀ b o,F.m b=some o->G.m b=some o){x:e.T}{vs:List Value}(h:Rd F (e.enc x) vs):Rd G (e.enc x) vs:=by
 cases e with
 | int=>obtain⟨v1,r1,rfl,h1,h⟩:=h.az;cases h;rw [Rd.c_ h1];exact .int .nil
 | u8=>obtain⟨v1,r1,rfl,h1,h⟩:=h.az;cases h;rw [Rd.c_ h1];exact .int .nil
 | str=>obtain⟨v1,r1,rfl,h1,h⟩:=h.az;cases h;rw [Rd.g_ h1];exact .str .nil
 | bool=>obtain⟨v1,r1,rfl,h1,h⟩:=h.az;cases h;rw [Rd.iD h1];exact .bool .nil
 | attr=>exact D4 h
 | node =>
  obtain⟨v1,r1,rfl,h1,h⟩:=h.az;obtain⟨v2,r2,rfl,h2,h⟩:=h.az;obtain⟨v3,r3,rfl,h3,h⟩:=h.az;obtain⟨v4,r4,rfl,h4,h⟩:=h.az;obtain⟨v5,r5,rfl,h5,h⟩:=h.az;cases h;have Wm:=qT hm (λ_ _ h=>D4 h) h4;rw [Rd.c_ h1,Rd.g_ h2,Rd.g_ h3,Rd.c_ h5];exact .int (.str (.str (Wm.cons (.int .nil))))
 | QE =>
  obtain⟨v1,r1,rfl,h1,h⟩:=h.az;obtain⟨v2,r2,rfl,h2,h⟩:=h.az;obtain⟨v3,r3,rfl,h3,h⟩:=h.az;obtain⟨v4,r4,rfl,h4,h⟩:=h.az;obtain⟨v5,r5,rfl,h5,h⟩:=h.az;obtain⟨v6,r6,rfl,h6,h⟩:=h.az;obtain⟨v7,r7,rfl,h7,h⟩:=h.az;obtain⟨v8,r8,rfl,h8,h⟩:=h.az;cases h;rw [Rd.c_ h1,Rd.c_ h2,Rd.g_ h3,Rd.g_ h4,Rd.c_ h5,Rd.c_ h6,Rd.c_ h7,Rd.c_ h8];exact .int (.int (.str (.str (.int (.int (.int (.int .nil)))))))
 | _=>simp [E.XX] at he
theorem Tz (hm:∀ b o,F.m b=some o->G.m b=some o):∀ {f:Fl} {x:f.T} {v:Value},f.nn=true->Rd F [f.enc x] [v]->Rd G [f.enc x] [v]:=by
 intro f x v hf h;cases f with
 | int k=>rw [Rd.c_ h];exact .int .nil
 | bool=>rw [Rd.iD h];exact .bool .nil
 | str=>rw [Rd.g_ h];exact .str .nil
 | ints=>exact qT hm (λ_ _ h=>qU (e := .int) rfl hm h) h
 | strs=>exact qT hm (λ_ _ h=>qU (e := .str) rfl hm h) h
 | GS=>exact qT hm (λ_ _ h=>qU (e := .bool) rfl hm h) h
 | nodes=>exact qT hm (λ_ _ h=>qU (e := .node) rfl hm h) h
 | _=>simp [Fl.nn] at hf
theorem O7 (hm:∀ b o,F.m b=some o->G.m b=some o):∀ {f:Fl} {fs:List Fl} {x:CT f fs} {vs:List Value},f.nn=true->fs.all Fl.nn=true->Rd F (oC f fs x) vs->Rd G (oC f fs x) vs
 | f,[],x,vs,hf,_,h=>by obtain⟨v,BA,rfl,h1,h2⟩:=h.az;cases h2;exact Tz hm hf h1
 | f,g::fs,x,vs,hf,hs,h=>by rw [List.all_cons,Bool.and_eq_true] at hs;obtain⟨v,BA,rfl,h1,h2⟩:=h.az;exact (Tz hm hf h1).cons (O7 hm hs.1 hs.2 h2)
theorem HG {e:E}(he:e.nn=true)(hm:∀ b o,F.m b=some o->G.m b=some o){x:e.T}{vs:List Value}(h:Rd F (e.enc x) vs):Rd G (e.enc x) vs:=by
 cases e with
 | rc f fs k =>
  simp only [E.nn,Bool.and_eq_true,beq_iff_eq] at he;obtain⟨⟨h1,h2⟩,rfl⟩:=he;simp only [E.enc,List.replicate_zero,List.append_nil] at h ⊢;exact O7 hm h1 h2 h
 | int=>exact qU (e := .int) rfl hm h
 | u8=>exact qU (e := .u8) rfl hm h
 | str=>exact qU (e := .str) rfl hm h
 | bool=>exact qU (e := .bool) rfl hm h
 | attr=>exact qU (e := .attr) rfl hm h
 | node=>exact qU (e := .node) rfl hm h
 | QE=>exact qU (e := .QE) rfl hm h
 | nE=>simp [E.nn,E.XX] at he
 | np=>simp [E.nn,E.XX] at he
theorem M1.nn {i:Nat}{k:Kd}{x:k.T}(hk:k.nn=true)(hm:∀ b o,F.m b=some o->G.m b=some o)(h:M1 F ι i k x v):M1 G ι' i k x v:=by
 cases k with
 | int k=>exact⟨by rw [Rd.c_ h.1];exact Rd.int .nil,λq hq=>by simp [a7] at hq⟩
 | bool=>exact⟨by rw [Rd.iD h.1];exact Rd.bool .nil,λq hq=>by simp [a7] at hq⟩
 | str=>exact⟨by rw [Rd.g_ h.1];exact Rd.str .nil,λq hq=>by simp [a7] at hq⟩
 | aB e=>exact⟨.aU (qT hm (λ_ _ h=>HG hk hm h) (kQ.mn h.1 rfl)),λq hq=>by simp [a7] at hq⟩
 | el e =>
  obtain⟨cs,hv,nq⟩:=Rd.qd h.1;exact⟨by rw [hv];exact Rd.agg (HG hk hm nq) .nil,λq hq=>by simp [a7] at hq⟩
 | _=>simp [Kd.nn] at hk
theorem M1.no {i:Nat}{k:Kd}{x:k.T}(hk:k.no=true)(hm:∀ b o,F.m b=some o->G.m b=some o)(h:M1 F ι i k x v):M1 G ι i k x v:=by
 cases k with
 | int k=>exact⟨by rw [Rd.c_ h.1];exact Rd.int .nil,λq hq=>by simp [a7] at hq⟩
 | bool=>exact⟨by rw [Rd.iD h.1];exact Rd.bool .nil,λq hq=>by simp [a7] at hq⟩
 | str=>exact⟨by rw [Rd.g_ h.1];exact Rd.str .nil,λq hq=>by simp [a7] at hq⟩
 | aB e=>exact⟨.aU (qT hm (λ_ _ h=>HG hk hm h) (kQ.mn h.1 rfl)),λq hq=>by simp [a7] at hq⟩
 | el e =>
  obtain⟨cs,hv,nq⟩:=Rd.qd h.1;exact⟨by rw [hv];exact Rd.agg (HG hk hm nq) .nil,λq hq=>by simp [a7] at hq⟩
 | own e T =>
  simp only [Kd.no,Bool.and_eq_true] at hk;refine⟨h.1,λq hq=>?_⟩
  have:=h.2 q hq
  simp only [a7,List.mem_singleton] at hq;subst hq;obtain⟨q,n,cp,rows,a,b,c⟩:=this;exact⟨q,n,cp,rows,a,b,cT (λ_ _ h=>HG hk.1 hm h) c⟩
 | _=>simp [Kd.no] at hk
theorem MP.nn {σ:Nat->Value}(hm:∀ b o,F.m b=some o->G.m b=some o):∀ {p:Pt} {x:er p},(p.all λq=>q.2.nn)=true->MP F ι σ p x->MP G ι' σ p x
 | [],_,_,_=>trivial
 | [_],_,hk,h=>M1.nn (by simpa using hk) hm h
 | _::b::ps,_,hk,h=>by rw [List.all_cons,Bool.and_eq_true] at hk;exact⟨h.1.nn hk.1 hm,MP.nn hm (p:=b::ps) hk.2 h.2⟩
theorem MP.no {σ:Nat->Value}(hm:∀ b o,F.m b=some o->G.m b=some o):∀ {p:Pt} {x:er p},(p.all λq=>q.2.no)=true->MP F ι σ p x->MP G ι σ p x
 | [],_,_,_=>trivial
 | [_],_,hk,h=>M1.no (by simpa using hk) hm h
 | _::b::ps,_,hk,h=>by rw [List.all_cons,Bool.and_eq_true] at hk;exact⟨h.1.no hk.1 hm,MP.no hm (p:=b::ps) hk.2 h.2⟩
theorem MP.snoc {σ:Nat->Value}{q:Nat×Kd}{y:q.2.T}(hy:M1 F ι q.1 q.2 y (σ q.1)):∀ {p:Pt} {x:er p},MP F ι σ p x->MP F ι σ (p++[q]) (z7 p q x y)
 | [],_,_=>hy
 | [_],_,h=>⟨h,hy⟩
 | _::b::ps,_,h=>⟨h.1,MP.snoc hy (p:=b::ps) h.2⟩
theorem MP.init {σ:Nat->Value}{q:Nat×Kd}:∀ {p:Pt} {x:er (p++[q])},MP F ι σ (p++[q]) x->MP F ι σ p (B6 p q x)
 | [],_,_=>trivial
 | [_],_,h=>h.1
 | _::b::ps,_,h=>⟨h.1,MP.init (p:=b::ps) h.2⟩
theorem O8 {i:Nat}{k:Kd}{x:k.T}(hk:k.nn=true):(a7 i k x).2=[]:=by cases k <;> first | rfl | (simp [Kd.nn] at hk)
theorem Fa:∀ {p:Pt} {x:er p},(p.all λq=>q.2.nn)=true->jb p x=[]
 | [],_,_=>rfl
 | [_],_,hk=>O8 (by simpa using hk)
 | _::b::ps,_,hk=>by rw [List.all_cons,Bool.and_eq_true] at hk;show _++jb (b::ps) _=[];rw [O8 hk.1,Fa hk.2];rfl
theorem D5 {q:Nat×Kd}:∀ {p:Pt} {x:er (p++[q])},∃ y:q.2.T,jb (p++[q]) x=jb p (B6 p q x)++(a7 q.1 q.2 y).2
 | [],x=>⟨x,rfl⟩
 | [_],x=>⟨x.2,rfl⟩
 | a::b::ps,x=>by obtain⟨y,hy⟩:=D5 (q:=q) (p:=b::ps) (x:=x.2);refine⟨y,?_⟩;show (a7 a.1 a.2 x.1).2++jb (b::ps++[q]) x.2=((a7 a.1 a.2 x.1).2++jb (b::ps) (B6 (b::ps) q x.2))++_;rw [hy,List.append_assoc]
theorem B7 {q:Nat×Kd}{y:q.2.T}:∀ {p:Pt} {x:er p},jb (p++[q]) (z7 p q x y)=jb p x++(a7 q.1 q.2 y).2
 | [],_=>rfl
 | [_],_=>rfl
 | a::b::ps,x=>by show (a7 a.1 a.2 x.1).2++jb (b::ps++[q]) (z7 (b::ps) q x.2 y)=((a7 a.1 a.2 x.1).2++jb (b::ps) x.2)++_;rw [B7 (p:=b::ps),List.append_assoc]
end
def Zd (np:Nat)(p q:Pt)(cl:Cl)(T A:TypeId)(m:er (p++[(NT, .ns cl T A)])->Option (er (q++[(NT, .ns cl T A)]))):er p->Option (er q):=λx=>(m (z7 p (NT, .ns cl T A) x [])).map (B6 q (NT, .ns cl T A))
theorem HH {P:Program}{f:FuncId}{np:Nat}{p q:Pt}{cl:Cl}{T A:TypeId}{m:er (p++[(NT, .ns cl T A)])->Option (er (q++[(NT, .ns cl T A)]))}(lI:aE P f ⟨np,p++[(NT, .ns cl T A)],q++[(NT, .ns cl T A)],m⟩)(hp:(p.all λq=>q.2.nn && Nat.blt q.1 1000)=true)(hq:(q.all λq=>q.2.no && Nat.blt q.1 1000)=true):aE P f ⟨np,p,q,Zd np p q cl T A m⟩:=by
 intro (x:er p) (r:er q) hx F ι h L0 h_ hlen OW hH;have OW:MP F ι (λi=>h_.getD i undef) p x:=OW;have hlen:h_.length=(fH p).length:=hlen;have hH:Hp h F (lv ι (jb p x)++L0):=hH;have DQ:(p.all λq=>q.2.nn)=true:=List.all_eq_true.2 λa ha=>by have:=List.all_eq_true.1 hp a ha;rw [Bool.and_eq_true] at this;exact this.1
 have Vg:(q.all λq=>q.2.no)=true:=List.all_eq_true.2 λa ha=>by have:=List.all_eq_true.1 hq a ha;rw [Bool.and_eq_true] at this;exact this.1
 simp only [Zd] at hx;obtain⟨r',yQ,rfl⟩:=Option.map_eq_some_iff.1 hx
 let F1:iH:=⟨F.m,λ_=>none,F.lv,(λ_ _ _ h=>by cases h),(λ_ _ h=>by cases h)⟩
 have hM1:MP F1 KM (λi=>h_.getD i undef) (p++[(NT, .ns cl T A)]) (z7 p (NT, .ns cl T A) x []):=MP.snoc (XW (λ_=>rfl)) (MP.nn (F:=F) (G:=F1) (λ_ _ h=>h) DQ OW);have RW:∀ (l:Pt),(l.all λq=>Nat.blt q.1 1000)=true->fH (l++[(NT, .ns cl T A)])=fH l:=λl hl=>by
  have e:Nat.blt NT 1000=false:=by decide
  simp [fH,List.filter_append,e]
 have Mw:(p.all λq=>Nat.blt q.1 1000)=true:=List.all_eq_true.2 λa ha=>by have:=List.all_eq_true.1 hp a ha;rw [Bool.and_eq_true] at this;exact this.2
 have E6:(q.all λq=>Nat.blt q.1 1000)=true:=List.all_eq_true.2 λa ha=>by have:=List.all_eq_true.1 hq a ha;rw [Bool.and_eq_true] at this;exact this.2
 have Wn:Hp h F L0:=by rw [Fa DQ] at hH;exact hH
 have hH1:Hp h F1 (lv KM (jb (p++[(NT, .ns cl T A)]) (z7 p (NT, .ns cl T A) x []))++L0):=by rw [B7,Fa DQ];have e:lv KM ([]++(a7 NT (.ns cl T A) []).2)=[]:=lv0;rw [e];exact⟨Wn.tH,Wn.own,Wn.sep,Wn.nodup,Wn.live,Wn.gl⟩
 refine (lI (z7 p (NT, .ns cl T A) x []) r' yQ F1 KM h L0 h_ (by rw [hlen];exact congrArg List.length (RW p Mw).symm) hM1 hH1).mono ?_
 rintro v h' ⟨F2,vZ,vs,h1,_,h2,h3,hv,h4,h5⟩
 let F3:iH:=⟨F2.m,F.fF,F2.lv,F.inj,λi b hb=>h1.2.2 b (F.Ol i b hb)⟩
 have KQ:=MP.no (F:=F2) (G:=F3) (λ_ _ h=>h) Vg (MP.init (p:=q) h3);obtain⟨y,hy⟩:=D5 (q:=(NT,Kd.ns cl T A)) (p:=q) (x:=r');have Wm:Hp h' F3 (lv vZ (jb q (B6 q (NT, .ns cl T A) r'))++L0):=by
  have:Hp h' F2 (lv vZ (jb q (B6 q (NT, .ns cl T A) r'))++L0):=h4.sub (by show List.Sublist _ (lv vZ (jb (q++[(NT, .ns cl T A)]) r')++L0);rw [hy,eX,List.append_assoc];exact (List.Sublist.refl _).append (List.sublist_append_right _ _))
  exact⟨this.tH,this.own,this.sep,this.nodup,this.live,this.gl⟩
 have QM:vs.length=(fH q).length:=by rw [h2];exact congrArg List.length (RW q E6)
 refine⟨F3,vZ,vs,⟨λb o hb=>h1.1 b o hb,λ_ _ h=>h,λb hb=>h1.2.2 b hb⟩,λ_=>rfl,QM,?_,hv,Wm,λk hk h6 _=>?_⟩
 ·refine KQ.congr λk hk=>?_
  obtain⟨a,ha,rfl⟩:=List.mem_map.1 hk;have jC:a.1<1000:=by have:=List.all_eq_true.1 E6 a ha;rwa [Nat.blt_eq] at this
  simp only [vX,if_pos jC]
 ·obtain⟨a,ha,rfl⟩:=List.mem_map.1 hk;have jC:a.1<1000:=by have:=List.all_eq_true.1 E6 a ha;rwa [Nat.blt_eq] at this
  omega
end Go.Proofs.YtngabkipchpmpaaGreat.V
namespace Go.Proofs.YtngabkipchpmpaaGreat.V
open Go
theorem je {X B:Type}{body:X->Option (ai X B)}(I:X->Prop)(Q:X->B->Prop)(μ:X->Nat)
  (h:∀ x,I x->(∃ b,body x=some (.out b)/\Q x b)∨(∃ y,body x=some (.nx y)/\I y/\μ y<μ x/\∀ b,Q y b->Q x b)):∀ x,I x->∃ b,ab body x=some b/\Q x b:=by
 have key:∀ n x,μ x<n->I x->∃ b,ab body x=some b/\Q x b:=by
  intro n
  induction n with
  | zero=>intro x hx;omega
  | succ n ih =>
   intro x hx hI;rcases h x hI with⟨b,h1,h2⟩ | ⟨y,h1,h2,h3,h4⟩
   ·exact⟨b,ae h1,h2⟩
   ·obtain⟨b,g1,g2⟩:=ih y (by omega) h2;exact⟨b,by rw [aj h1];exact g1,h4 b g2⟩
 exact λx hx=>key (μ x+1) x (by omega) hx
theorem cD {n:Int}(h1 : -9223372036854775808<=n)(h2:n<=9223372036854775807):IntKind.wrap .i64 n=n:=by simp [IntKind.wrap,IntKind.bits,IntKind.signed];omega
theorem ad {α:Type}(l:List α)(k:Nat):bl l (k:Int)=l[k]?:=by simp [bl]
theorem pj {α:Type}(l:List α):bl l 0=l[0]?:=ad l 0
theorem aa {α:Type}{p:Prop}[Decidable p](a b:α):cond (decide p) a b=if p then a else b:=by by_cases h:p <;> simp [h]
theorem a6 {α:Type}{l m:List α}(h:l.length+m.length<=2147483648):eC l m=some (l++m):=by simp [eC,h]
theorem bind_some {α β:Type}(a:α)(f:α->Option β):Option.bind (some a) f=f a:=rfl
theorem oW {α β γ:Type}(f:α->γ)(h:β->γ)(a:α):bu f h (.inl a)=f a:=rfl
theorem RX {α β γ:Type}(f:α->γ)(h:β->γ)(b:β):bu f h (.inr b)=h b:=rfl
theorem ay {α:Type}{l:List α}{k:Nat}(h:k<l.length):∃ v,l[k]?=some v:=⟨l[k],List.getElem?_eq_getElem h⟩
theorem O9 {X B:Type}{body:X->Option (ai X B)}{st:Nat->X}(n:Nat)(Q:B->Prop)
  (h:∀ k,k<=n->(∃ b,body (st k)=some (.out b)/\Q b)∨(k<n/\body (st k)=some (.nx (st (k+1))))):∀ k,k<=n->∃ b,ab body (st k)=some b/\Q b:=by
 have key:∀ m k,n - k=m->k<=n->∃ b,ab body (st k)=some b/\Q b:=by
  intro m
  induction m with
  | zero =>
   intro k hm hk;rcases h k hk with⟨b,h1,h2⟩ | ⟨h1,_⟩
   ·exact⟨b,ae h1,h2⟩
   ·omega
  | succ m ih =>
   intro k hm hk;rcases h k hk with⟨b,h1,h2⟩ | ⟨h1,h2⟩
   ·exact⟨b,ae h1,h2⟩
   ·obtain⟨b,g1,g2⟩:=ih (k+1) (by omega) (by omega);exact⟨b,by rw [aj h2];exact g1,g2⟩
 exact λk hk=>key _ k rfl hk
theorem B8 {X B α:Type}{body:X->Option (ai X B)}(l:List α)(p:α->Bool)(st:Nat->X)(yes no:B)
  (hs:∀ k v,l[k]?=some v->body (st k)=some (if p v then .nx (st (k+1)) else .out no)) (he:body (st l.length)=some (.out yes)):∀ k,k<=l.length->ab body (st k)=some (if (l.drop k).all p then yes else no):=by
 have key:∀ m k,l.length - k=m->k<=l.length->ab body (st k)=some (if (l.drop k).all p then yes else no):=by
  intro m
  induction m with
  | zero =>
   intro k hm hk
   have:k=l.length:=by omega
   subst this;rw [ae he];simp
  | succ m ih =>
   intro k hm hk;obtain⟨v,hv⟩:=ay (l:=l) (k:=k) (by omega);have hd:l.drop k=v::l.drop (k+1):=by obtain⟨h1,h2⟩:=List.getElem?_eq_some_iff.1 hv;rw [<- h2];exact List.drop_eq_getElem_cons h1
   have h:=hs k v hv;rw [hd,List.all_cons];cases hp:p v with
   | true =>
    rw [hp] at h;rw [aj h,ih (k+1) (by omega) (by omega)];simp
   | false =>
    rw [hp] at h;rw [ae h];simp
 exact λk hk=>key _ k rfl hk
theorem pk {α:Type}(b:Bool)(x y:α):cond (!b) x y=if b then y else x:=by cases b <;> rfl
end Go.Proofs.YtngabkipchpmpaaGreat.V
namespace Go.Proofs.YtngabkipchpmpaaGreat.V
open Go Go.Proofs
def O_ (P:Program):Nat->List (Option TI)->Prop
 | _,[]=>True
 | k,none::l=>O_ P (k+1) l
 | k,some t::l=>L8 P k t/\O_ P (k+1) l
theorem Pa {P:Program}:∀ {l:List (Option TI)} {k:Nat},O_ P k l->∀ (T:Nat) (t:TI),l[T]?=some (some t)->L8 P (k+T) t
 | [],_,_,T,t,h=>by simp at h
 | none::l,k,hl,T,t,h=>by
  match T with
  | 0=>simp at h
  | T+1 =>
   have:=Pa (k:=k+1) hl T t (by simpa using h)
   rwa [Nat.add_assoc,Nat.add_comm 1 T] at this
 | some t0::l,k,hl,T,t,h=>by
  match T with
  | 0=>simp at h;subst h;exact hl.1
  | T+1 =>
   have:=Pa (k:=k+1) hl.2 T t (by simpa using h)
   rwa [Nat.add_assoc,Nat.add_comm 1 T] at this
theorem tk {P:Program}{T:TypeId}{t:TI}{i:TypeInfo}(u:Ow P T t.sh)(s:∀ w,(sizeOf T).run P w = .ok t.size w)(a:∀ w,(isAgg T).run P w = .ok t.agg w)(z:∀ w,(zeroValue T).run P w = .ok t.zv w)(f:∀ w,(typeInfo T).run P w = .ok i w)(c:t.zv.cells.size=t.size:=by rfl)(b:i.bytes=t.bytes:=by rfl):L8 P T t:=⟨u,s,a,z,c,⟨i,f,b⟩⟩
noncomputable def tb:List (Option TI):=[some ⟨.other,1,Bool.false,(Value.tuple #[]),0,none⟩,some ⟨.func,1,Bool.false,Value.nilFunc,8,none⟩,some ⟨.int .i64,1,Bool.false,(Value.int IntKind.i64 0),8,none⟩,some ⟨.int .i64,1,Bool.false,(Value.int IntKind.i64 0),8,some .int⟩,some ⟨.bool,1,Bool.false,(Value.bool Bool.false),1,some .bool⟩,some ⟨.int .u8,1,Bool.false,(Value.int IntKind.u8 0),1,some .u8⟩,some ⟨.int .u8,1,Bool.false,(Value.int IntKind.u8 0),1,none⟩,some ⟨.struct [(2,0),(3,1),(4,2),(6,3)],4,Bool.true,(Value.agg #[Value.int IntKind.i64 0,Value.int IntKind.i64 0,Value.bool Bool.false,Value.int IntKind.u8 0]),24,none⟩,none,some ⟨.str,1,Bool.false,(Value.string { data:=#[] }),16,some .str⟩,none,none,none,none,none,none,none,none,none,none,some ⟨.iface,1,Bool.false,Value.nilIface,16,none⟩,some ⟨.int .i32,1,Bool.false,(Value.int IntKind.i32 0),4,some (.rc (.int .i32) [] 0)⟩,some ⟨.slice 35,1,Bool.false,(Value.slice Option.none 0 0),24,some (.rc .nodes [] 0)⟩,some ⟨.slice 39,1,Bool.false,(Value.slice Option.none 0 0),24,none⟩,none,none,some ⟨.slice 3,1,Bool.false,(Value.slice Option.none 0 0),24,some (.rc .ints [] 0)⟩,some ⟨.other,1,Bool.false,(Value.tuple #[Value.slice Option.none 0 0,Value.slice Option.none 0 0,Value.bool Bool.false]),0,none⟩,none,some ⟨.other,1,Bool.false,(Value.tuple #[Value.slice Option.none 0 0,Value.slice Option.none 0 0,Value.bool Bool.false]),0,none⟩,none,none,none,some ⟨.slice 73,1,Bool.false,(Value.slice Option.none 0 0),24,none⟩,some ⟨.struct [(3,0),(9,1),(9,2),(33,3),(3,4)],5,Bool.true,(Value.agg #[Value.int IntKind.i64 0,Value.string { data:=#[] },Value.string { data:=#[] },Value.slice Option.none 0 0,Value.int IntKind.i64 0]),72,none⟩,some ⟨.struct [(3,0),(9,1),(9,2),(33,3),(3,4)],5,Bool.true,(Value.agg #[Value.int IntKind.i64 0,Value.string { data:=#[] },Value.string { data:=#[] },Value.slice Option.none 0 0,Value.int IntKind.i64 0]),72,some .node⟩,none,some ⟨.slice 9,1,Bool.false,(Value.slice Option.none 0 0),24,some (.rc .strs [] 0)⟩,some ⟨.struct [(3,0),(26,1),(26,2),(9,3),(9,4),(37,5)],6,Bool.true,(Value.agg #[Value.int IntKind.i64 0,Value.slice Option.none 0 0,Value.slice Option.none 0 0,Value.string { data:=#[] },Value.string { data:=#[] },Value.slice Option.none 0 0]),112,none⟩,some ⟨.struct [(3,0),(26,1),(26,2),(9,3),(9,4),(37,5)],6,Bool.true,(Value.agg #[Value.int IntKind.i64 0,Value.slice Option.none 0 0,Value.slice Option.none 0 0,Value.string { data:=#[] },Value.string { data:=#[] },Value.slice Option.none 0 0]),112,some (.rc (.int .i64) [.ints, .ints, .str, .str, .strs] 0)⟩,none,some ⟨.ptr 45,1,Bool.false,(Value.pointer Option.none),8,none⟩,none,some ⟨.slice 46,1,Bool.false,(Value.slice Option.none 0 0),24,some (.rc .eV [] 0)⟩,some ⟨.struct [(43,0),(3,1),(4,2)],3,Bool.true,(Value.agg #[Value.slice Option.none 0 0,Value.int IntKind.i64 0,Value.bool Bool.false]),40,none⟩,some ⟨.struct [(43,0),(3,1),(4,2)],3,Bool.true,(Value.agg #[Value.slice Option.none 0 0,Value.int IntKind.i64 0,Value.bool Bool.false]),40,none⟩,some ⟨.ptr 76,1,Bool.false,(Value.pointer Option.none),8,some .np⟩,none,some ⟨.slice 53,1,Bool.false,(Value.slice Option.none 0 0),24,some (.rc .eV [] 0)⟩,some ⟨.other,1,Bool.false,(Value.tuple #[Value.slice Option.none 0 0,Value.bool Bool.false]),0,none⟩,none,some ⟨.ptr 59,1,Bool.false,(Value.pointer Option.none),8,none⟩,none,some ⟨.ptr 93,1,Bool.false,(Value.pointer Option.none),8,some .np⟩,none,some ⟨.ptr 61,1,Bool.false,(Value.pointer Option.none),8,none⟩,some ⟨.ptr 65,1,Bool.false,(Value.pointer Option.none),8,none⟩,none,some ⟨.struct [(56,0),(53,1)],2,Bool.true,(Value.agg #[Value.pointer Option.none,Value.pointer Option.none]),16,none⟩,some ⟨.struct [(56,0),(53,1)],2,Bool.true,(Value.agg #[Value.pointer Option.none,Value.pointer Option.none]),16,some (.rc .GU [.np] 0)⟩,some ⟨.struct [(48,0),(56,1)],2,Bool.true,(Value.agg #[Value.slice Option.none 0 0,Value.pointer Option.none]),32,none⟩,some ⟨.struct [(48,0),(56,1)],2,Bool.true,(Value.agg #[Value.slice Option.none 0 0,Value.pointer Option.none]),32,some (.rc .eV [.I3] 0)⟩,some ⟨.other,1,Bool.false,(Value.tuple #[Value.slice Option.none 0 0,Value.slice Option.none 0 0]),0,none⟩,none,some ⟨.struct [(48,0),(51,1),(56,2)],3,Bool.true,(Value.agg #[Value.slice Option.none 0 0,Value.pointer Option.none,Value.pointer Option.none]),40,none⟩,some ⟨.struct [(48,0),(51,1),(56,2)],3,Bool.true,(Value.agg #[Value.slice Option.none 0 0,Value.pointer Option.none,Value.pointer Option.none]),40,some (.rc .eV [] 2)⟩,some ⟨.other,1,Bool.false,(Value.tuple #[Value.slice Option.none 0 0,Value.slice Option.none 0 0]),0,none⟩,none,none,none,none,none,some ⟨.struct [(9,0),(9,1)],2,Bool.true,(Value.agg #[Value.string { data:=#[] },Value.string { data:=#[] }]),32,none⟩,some ⟨.struct [(9,0),(9,1)],2,Bool.true,(Value.agg #[Value.string { data:=#[] },Value.string { data:=#[] }]),32,some .attr⟩,none,some ⟨.struct [(3,0),(35,1),(46,6),(43,7)],8,Bool.true,(Value.agg #[Value.int IntKind.i64 0,Value.int IntKind.i64 0,Value.string { data:=#[] },Value.string { data:=#[] },Value.slice Option.none 0 0,Value.int IntKind.i64 0,Value.pointer Option.none,Value.slice Option.none 0 0]),112,none⟩,some ⟨.struct [(3,0),(35,1),(46,6),(43,7)],8,Bool.true,(Value.agg #[Value.int IntKind.i64 0,Value.int IntKind.i64 0,Value.string { data:=#[] },Value.string { data:=#[] },Value.slice Option.none 0 0,Value.int IntKind.i64 0,Value.pointer Option.none,Value.slice Option.none 0 0]),112,none⟩,some ⟨.other,1,Bool.false,(Value.tuple #[Value.slice Option.none 0 0,Value.bool Bool.false]),0,none⟩,none,none,none,none,none,none,some ⟨.func,1,Bool.false,Value.nilFunc,8,none⟩,none,none,none,some ⟨.int .u32,1,Bool.false,(Value.int IntKind.u32 0),4,none⟩,some ⟨.int .u32,1,Bool.false,(Value.int IntKind.u32 0),4,none⟩,some ⟨.int .u32,1,Bool.false,(Value.int IntKind.u32 0),4,none⟩,some ⟨.slice 123,1,Bool.false,(Value.slice Option.none 0 0),24,some (.rc .ED [] 0)⟩,some ⟨.struct [(53,0),(53,1),(53,2),(53,3),(53,4),(89,5),(90,6),(9,7),(9,8),(91,9)],10,Bool.true,(Value.agg #[Value.pointer Option.none,Value.pointer Option.none,Value.pointer Option.none,Value.pointer Option.none,Value.pointer Option.none,Value.int IntKind.u32 0,Value.int IntKind.u32 0,Value.string { data:=#[] },Value.string { data:=#[] },Value.slice Option.none 0 0]),104,none⟩,some ⟨.struct [(53,0),(53,1),(53,2),(53,3),(53,4),(89,5),(90,6),(9,7),(9,8),(91,9)],10,Bool.true,(Value.agg #[Value.pointer Option.none,Value.pointer Option.none,Value.pointer Option.none,Value.pointer Option.none,Value.pointer Option.none,Value.int IntKind.u32 0,Value.int IntKind.u32 0,Value.string { data:=#[] },Value.string { data:=#[] },Value.slice Option.none 0 0]),104,none⟩,none,none,none,none,none,some ⟨.other,1,Bool.false,(Value.tuple #[Value.string { data:=#[] },Value.bool Bool.false]),0,none⟩,none,none,none,none,none,none,none,none,none,none,none,some ⟨.slice 43,1,Bool.false,(Value.slice Option.none 0 0),24,none⟩,none,some ⟨.ptr 35,1,Bool.false,(Value.pointer Option.none),8,none⟩,none,none,none,none,none,none,none,none,some ⟨.struct [(9,0),(9,1),(9,2)],3,Bool.true,(Value.agg #[Value.string { data:=#[] },Value.string { data:=#[] },Value.string { data:=#[] }]),48,none⟩,some ⟨.struct [(9,0),(9,1),(9,2)],3,Bool.true,(Value.agg #[Value.string { data:=#[] },Value.string { data:=#[] },Value.string { data:=#[] }]),48,some .nE⟩,none,none,none,none,none,none,none,none,some ⟨.other,1,Bool.false,(Value.tuple #[Value.int IntKind.i64 0,Value.int IntKind.i64 0]),0,none⟩,none,none,some ⟨.map 53 4,1,Bool.false,(Value.map Option.none),8,none⟩,some ⟨.func,1,Bool.false,Value.nilFunc,8,none⟩,some ⟨.ptr 123,1,Bool.false,(Value.pointer Option.none),8,none⟩,some ⟨.func,1,Bool.false,Value.nilFunc,8,none⟩,none,some ⟨.func,1,Bool.false,Value.nilFunc,8,none⟩,none,some ⟨.other,1,Bool.false,(Value.tuple #[Value.string { data:=#[] },Value.pointer Option.none]),0,none⟩,some ⟨.func,1,Bool.false,Value.nilFunc,8,none⟩,none,none,none,none,some ⟨.func,1,Bool.false,Value.nilFunc,8,none⟩,none,none,some ⟨.func,1,Bool.false,Value.nilFunc,8,none⟩,none,some ⟨.int .u64,1,Bool.false,(Value.int IntKind.u64 0),8,none⟩,none,some ⟨.ptr 158,1,Bool.false,(Value.pointer Option.none),8,none⟩,some ⟨.slice 5,1,Bool.false,(Value.slice Option.none 0 0),24,none⟩,some ⟨.struct [(155,0),(156,1)],2,Bool.true,(Value.agg #[Value.pointer Option.none,Value.slice Option.none 0 0]),32,none⟩,some ⟨.struct [(155,0),(156,1)],2,Bool.true,(Value.agg #[Value.pointer Option.none,Value.slice Option.none 0 0]),32,none⟩,none,some ⟨.iface,1,Bool.false,Value.nilIface,16,none⟩,some ⟨.iface,1,Bool.false,Value.nilIface,16,none⟩,some ⟨.other,1,Bool.false,(Value.tuple #[Value.int IntKind.i64 0,Value.nilIface]),0,none⟩,none,none,none,none,none,some ⟨.int .i64,1,Bool.false,(Value.int IntKind.i64 0),8,none⟩,some ⟨.ptr 5,1,Bool.false,(Value.pointer Option.none),8,none⟩,none,none,some ⟨.func,1,Bool.false,Value.nilFunc,8,none⟩,some ⟨.other,1,Bool.false,(Value.pointer Option.none),8,none⟩,none,none,some ⟨.func,1,Bool.false,Value.nilFunc,8,none⟩]
theorem z8:UO Tryz.prog tb:=λT t h=>by
 have:=Pa (P:=Tryz.prog) (k:=0) (l:=tb) (by exact⟨tk trivial Tryz.sizeOf0 Tryz.isAgg0 Tryz.zeroValue0 Tryz.typeInfo0,tk ⟨_,_,_,Tryz.underlying1⟩ Tryz.sizeOf1 Tryz.isAgg1 Tryz.zeroValue1 Tryz.typeInfo1,tk Tryz.underlying2 Tryz.sizeOf2 Tryz.isAgg2 Tryz.zeroValue2 Tryz.typeInfo2,tk Tryz.underlying3 Tryz.sizeOf3 Tryz.isAgg3 Tryz.zeroValue3 Tryz.typeInfo3,tk Tryz.underlying4 Tryz.sizeOf4 Tryz.isAgg4 Tryz.zeroValue4 Tryz.typeInfo4,tk Tryz.underlying5 Tryz.sizeOf5 Tryz.isAgg5 Tryz.zeroValue5 Tryz.typeInfo5,tk Tryz.underlying6 Tryz.sizeOf6 Tryz.isAgg6 Tryz.zeroValue6 Tryz.typeInfo6,tk ⟨_,Tryz.underlying7,rfl⟩ Tryz.sizeOf7 Tryz.isAgg7 Tryz.zeroValue7 Tryz.typeInfo7,tk Tryz.underlying9 Tryz.sizeOf9 Tryz.isAgg9 Tryz.zeroValue9 Tryz.typeInfo9,tk ⟨_,Tryz.underlying20⟩ Tryz.sizeOf20 Tryz.isAgg20 Tryz.zeroValue20 Tryz.typeInfo20,tk Tryz.underlying21 Tryz.sizeOf21 Tryz.isAgg21 Tryz.zeroValue21 Tryz.typeInfo21,tk Tryz.underlying22 Tryz.sizeOf22 Tryz.isAgg22 Tryz.zeroValue22 Tryz.typeInfo22,tk Tryz.underlying23 Tryz.sizeOf23 Tryz.isAgg23 Tryz.zeroValue23 Tryz.typeInfo23,tk Tryz.underlying26 Tryz.sizeOf26 Tryz.isAgg26 Tryz.zeroValue26 Tryz.typeInfo26,tk trivial Tryz.sizeOf27 Tryz.isAgg27 Tryz.zeroValue27 Tryz.typeInfo27,tk trivial Tryz.sizeOf29 Tryz.isAgg29 Tryz.zeroValue29 Tryz.typeInfo29,tk Tryz.underlying33 Tryz.sizeOf33 Tryz.isAgg33 Tryz.zeroValue33 Tryz.typeInfo33,tk ⟨_,Tryz.underlying34,rfl⟩ Tryz.sizeOf34 Tryz.isAgg34 Tryz.zeroValue34 Tryz.typeInfo34,tk ⟨_,Tryz.underlying35,rfl⟩ Tryz.sizeOf35 Tryz.isAgg35 Tryz.zeroValue35 Tryz.typeInfo35,tk Tryz.underlying37 Tryz.sizeOf37 Tryz.isAgg37 Tryz.zeroValue37 Tryz.typeInfo37,tk ⟨_,Tryz.underlying38,rfl⟩ Tryz.sizeOf38 Tryz.isAgg38 Tryz.zeroValue38 Tryz.typeInfo38,tk ⟨_,Tryz.underlying39,rfl⟩ Tryz.sizeOf39 Tryz.isAgg39 Tryz.zeroValue39 Tryz.typeInfo39,tk Tryz.underlying41 Tryz.sizeOf41 Tryz.isAgg41 Tryz.zeroValue41 Tryz.typeInfo41,tk Tryz.underlying43 Tryz.sizeOf43 Tryz.isAgg43 Tryz.zeroValue43 Tryz.typeInfo43,tk ⟨_,Tryz.underlying44,rfl⟩ Tryz.sizeOf44 Tryz.isAgg44 Tryz.zeroValue44 Tryz.typeInfo44,tk ⟨_,Tryz.underlying45,rfl⟩ Tryz.sizeOf45 Tryz.isAgg45 Tryz.zeroValue45 Tryz.typeInfo45,tk Tryz.underlying46 Tryz.sizeOf46 Tryz.isAgg46 Tryz.zeroValue46 Tryz.typeInfo46,tk Tryz.underlying48 Tryz.sizeOf48 Tryz.isAgg48 Tryz.zeroValue48 Tryz.typeInfo48,tk trivial Tryz.sizeOf49 Tryz.isAgg49 Tryz.zeroValue49 Tryz.typeInfo49,tk Tryz.underlying51 Tryz.sizeOf51 Tryz.isAgg51 Tryz.zeroValue51 Tryz.typeInfo51,tk Tryz.underlying53 Tryz.sizeOf53 Tryz.isAgg53 Tryz.zeroValue53 Tryz.typeInfo53,tk Tryz.underlying55 Tryz.sizeOf55 Tryz.isAgg55 Tryz.zeroValue55 Tryz.typeInfo55,tk Tryz.underlying56 Tryz.sizeOf56 Tryz.isAgg56 Tryz.zeroValue56 Tryz.typeInfo56,tk ⟨_,Tryz.underlying58,rfl⟩ Tryz.sizeOf58 Tryz.isAgg58 Tryz.zeroValue58 Tryz.typeInfo58,tk ⟨_,Tryz.underlying59,rfl⟩ Tryz.sizeOf59 Tryz.isAgg59 Tryz.zeroValue59 Tryz.typeInfo59,tk ⟨_,Tryz.underlying60,rfl⟩ Tryz.sizeOf60 Tryz.isAgg60 Tryz.zeroValue60 Tryz.typeInfo60,tk ⟨_,Tryz.underlying61,rfl⟩ Tryz.sizeOf61 Tryz.isAgg61 Tryz.zeroValue61 Tryz.typeInfo61,tk trivial Tryz.sizeOf62 Tryz.isAgg62 Tryz.zeroValue62 Tryz.typeInfo62,tk ⟨_,Tryz.underlying64,rfl⟩ Tryz.sizeOf64 Tryz.isAgg64 Tryz.zeroValue64 Tryz.typeInfo64,tk ⟨_,Tryz.underlying65,rfl⟩ Tryz.sizeOf65 Tryz.isAgg65 Tryz.zeroValue65 Tryz.typeInfo65,tk trivial Tryz.sizeOf66 Tryz.isAgg66 Tryz.zeroValue66 Tryz.typeInfo66,tk ⟨_,Tryz.underlying72,rfl⟩ Tryz.sizeOf72 Tryz.isAgg72 Tryz.zeroValue72 Tryz.typeInfo72,tk ⟨_,Tryz.underlying73,rfl⟩ Tryz.sizeOf73 Tryz.isAgg73 Tryz.zeroValue73 Tryz.typeInfo73,tk ⟨_,Tryz.underlying75,rfl⟩ Tryz.sizeOf75 Tryz.isAgg75 Tryz.zeroValue75 Tryz.typeInfo75,tk ⟨_,Tryz.underlying76,rfl⟩ Tryz.sizeOf76 Tryz.isAgg76 Tryz.zeroValue76 Tryz.typeInfo76,tk trivial Tryz.sizeOf77 Tryz.isAgg77 Tryz.zeroValue77 Tryz.typeInfo77,tk ⟨_,_,_,Tryz.underlying84⟩ Tryz.sizeOf84 Tryz.isAgg84 Tryz.zeroValue84 Tryz.typeInfo84,tk Tryz.underlying88 Tryz.sizeOf88 Tryz.isAgg88 Tryz.zeroValue88 Tryz.typeInfo88,tk Tryz.underlying89 Tryz.sizeOf89 Tryz.isAgg89 Tryz.zeroValue89 Tryz.typeInfo89,tk Tryz.underlying90 Tryz.sizeOf90 Tryz.isAgg90 Tryz.zeroValue90 Tryz.typeInfo90,tk Tryz.underlying91 Tryz.sizeOf91 Tryz.isAgg91 Tryz.zeroValue91 Tryz.typeInfo91,tk ⟨_,Tryz.underlying92,rfl⟩ Tryz.sizeOf92 Tryz.isAgg92 Tryz.zeroValue92 Tryz.typeInfo92,tk ⟨_,Tryz.underlying93,rfl⟩ Tryz.sizeOf93 Tryz.isAgg93 Tryz.zeroValue93 Tryz.typeInfo93,tk trivial Tryz.sizeOf99 Tryz.isAgg99 Tryz.zeroValue99 Tryz.typeInfo99,tk Tryz.underlying111 Tryz.sizeOf111 Tryz.isAgg111 Tryz.zeroValue111 Tryz.typeInfo111,tk Tryz.underlying113 Tryz.sizeOf113 Tryz.isAgg113 Tryz.zeroValue113 Tryz.typeInfo113,tk ⟨_,Tryz.underlying122,rfl⟩ Tryz.sizeOf122 Tryz.isAgg122 Tryz.zeroValue122 Tryz.typeInfo122,tk ⟨_,Tryz.underlying123,rfl⟩ Tryz.sizeOf123 Tryz.isAgg123 Tryz.zeroValue123 Tryz.typeInfo123,tk trivial Tryz.sizeOf132 Tryz.isAgg132 Tryz.zeroValue132 Tryz.typeInfo132,tk Tryz.underlying135 Tryz.sizeOf135 Tryz.isAgg135 Tryz.zeroValue135 Tryz.typeInfo135,tk ⟨_,_,_,Tryz.underlying136⟩ Tryz.sizeOf136 Tryz.isAgg136 Tryz.zeroValue136 Tryz.typeInfo136,tk Tryz.underlying137 Tryz.sizeOf137 Tryz.isAgg137 Tryz.zeroValue137 Tryz.typeInfo137,tk ⟨_,_,_,Tryz.underlying138⟩ Tryz.sizeOf138 Tryz.isAgg138 Tryz.zeroValue138 Tryz.typeInfo138,tk ⟨_,_,_,Tryz.underlying140⟩ Tryz.sizeOf140 Tryz.isAgg140 Tryz.zeroValue140 Tryz.typeInfo140,tk trivial Tryz.sizeOf142 Tryz.isAgg142 Tryz.zeroValue142 Tryz.typeInfo142,tk ⟨_,_,_,Tryz.underlying143⟩ Tryz.sizeOf143 Tryz.isAgg143 Tryz.zeroValue143 Tryz.typeInfo143,tk ⟨_,_,_,Tryz.underlying148⟩ Tryz.sizeOf148 Tryz.isAgg148 Tryz.zeroValue148 Tryz.typeInfo148,tk ⟨_,_,_,Tryz.underlying151⟩ Tryz.sizeOf151 Tryz.isAgg151 Tryz.zeroValue151 Tryz.typeInfo151,tk Tryz.underlying153 Tryz.sizeOf153 Tryz.isAgg153 Tryz.zeroValue153 Tryz.typeInfo153,tk Tryz.underlying155 Tryz.sizeOf155 Tryz.isAgg155 Tryz.zeroValue155 Tryz.typeInfo155,tk Tryz.underlying156 Tryz.sizeOf156 Tryz.isAgg156 Tryz.zeroValue156 Tryz.typeInfo156,tk ⟨_,Tryz.underlying157,rfl⟩ Tryz.sizeOf157 Tryz.isAgg157 Tryz.zeroValue157 Tryz.typeInfo157,tk ⟨_,Tryz.underlying158,rfl⟩ Tryz.sizeOf158 Tryz.isAgg158 Tryz.zeroValue158 Tryz.typeInfo158,tk ⟨_,Tryz.underlying160⟩ Tryz.sizeOf160 Tryz.isAgg160 Tryz.zeroValue160 Tryz.typeInfo160,tk ⟨_,Tryz.underlying161⟩ Tryz.sizeOf161 Tryz.isAgg161 Tryz.zeroValue161 Tryz.typeInfo161,tk trivial Tryz.sizeOf162 Tryz.isAgg162 Tryz.zeroValue162 Tryz.typeInfo162,tk Tryz.underlying168 Tryz.sizeOf168 Tryz.isAgg168 Tryz.zeroValue168 Tryz.typeInfo168,tk Tryz.underlying169 Tryz.sizeOf169 Tryz.isAgg169 Tryz.zeroValue169 Tryz.typeInfo169,tk ⟨_,_,_,Tryz.underlying172⟩ Tryz.sizeOf172 Tryz.isAgg172 Tryz.zeroValue172 Tryz.typeInfo172,tk trivial Tryz.sizeOf173 Tryz.isAgg173 Tryz.zeroValue173 Tryz.typeInfo173,tk ⟨_,_,_,Tryz.underlying176⟩ Tryz.sizeOf176 Tryz.isAgg176 Tryz.zeroValue176 Tryz.typeInfo176,trivial⟩) T t h
 rwa [Nat.zero_add] at this
def ID:List (TypeId×String×FuncId):=[]
def LZ:List (TypeId×TypeId):=[]
theorem Vo:∀ q∈ID,Jb Tryz.prog q.1 q.2.1 q.2.2:=by intro q hq;simp [ID] at hq
theorem Vp:∀ q∈LZ,Rm Tryz.prog q.1 q.2:=by intro q hq;simp [LZ] at hq
theorem z9:(∀ q∈ID,Jb Tryz.prog q.1 q.2.1 q.2.2)/\∀ q∈LZ,Rm Tryz.prog q.1 q.2:=⟨Vo,Vp⟩
theorem mixed:Tryz.prog.follows .mixedOrders=true:=by kernel_rfl
abbrev aLO:=List (Option Nat)
abbrev aBt:=List UInt8
abbrev aWd:=List (List UInt8)
abbrev aNH:Nat×Kd:=(NT,.ns .h 93 123)
abbrev aNK:Nat×Kd:=(NT,.ns .k 76 46)
abbrev aFS:Kd:=.fp (.rc .eV [] 2)
abbrev aKI:Kd:=.int .i64
abbrev aLN:Kd:=.aB .np
abbrev MF (p q:Pt):=er p->Option (er q)
abbrev ML (p:Pt)(x:List (Xt×Pt)):=er p->Option (ai (er p) (rj (x.map (·.2))))
def eN (np:Nat){p q:Pt}(m:MF p q):vT:=⟨np,p,q,m⟩
noncomputable def lN {p:Pt}{x:List (Xt×Pt)}(m:ML p x):mB:=⟨p,x,ab m⟩
def TA (ls:List (Nat×Nat×mB)):List (Nat×mB):=ls.map λq=>(q.1,q.2.2)
def Ze (c:Code)(ls:List (Nat×Nat×mB)):List (Nat×Code):=ls.map λq=>(q.1,uM c q.2.1)
theorem cx (ss:List (Nat×List (Bool×Nat))){l:List (FuncId×vT)}(h:Jt Tryz.prog l):lD Tryz.prog ⟨tb,uN l,yj ss,ID,LZ⟩:=z6 z8 z9 h
theorem es {f:FuncId}{e:vT}{l:List (FuncId×vT)}(h:aE Tryz.prog f e)(c:∀ args w,(callFunc f args).run Tryz.prog w = .ok (.enter f args) w)(t:Jt Tryz.prog l)(hf:f % 1000000=f:=by rfl):Jt Tryz.prog ((f,e)::l) := .cons (by rw [hf];exact h) (by rw [hf];exact c) t
theorem lk {C:Cx}{p:Pt}{x:List (Xt×Pt)}{m:ML p x}{n np:Nat}{nw:Bool}{c:Code}(ck:lD Tryz.prog C)(ls:List (Nat×Nat×mB))(h:E9 Tryz.prog n np nw (kh (TA ls)) (Ze c ls))(h1:kD c 0=Ze c ls:=by kernel_rfl)(h2:((kg c).all λp=>(kh (TA ls) p.1).isNone)=true:=by kernel_rfl)(he:∀ y,EG C (kh (TA ls)) c n np nw p x y=m y:=by intro x;kernel_rfl):O4 Tryz.prog n np nw (lN m) c :=
 rJ (le:=lN m) (body:=m) (L:=kh (TA ls)) ck mixed (pV h1 h h2) he λx y h=>iS.1 h
theorem fk {C:Cx}{p q:Pt}{np:Nat}{m:MF p q}{f:FuncId}{fn:Func}(ck:lD Tryz.prog C)(hf:Tryz.prog.funcs[f]?=some fn)(ls:List (Nat×Nat×mB))(h:E9 Tryz.prog fn.ntmps np (pU q) (kh (TA ls)) (Ze (fn.body.getD .skip) ls))(hb:fn.body.isSome=true:=by kernel_rfl)(hp:(fH p == List.range (fH p).length && mu (p.map (·.1)) && p.all (λq=>Nat.blt q.1 1000 || !(Nat.blt q.1 NT)))=true:=by kernel_rfl)(hn:(Nat.ble (fH p).length fn.ntmps && Nat.ble fn.ntmps 1000000)=true:=by kernel_rfl)(h1:kD (fn.body.getD .skip) 0=Ze (fn.body.getD .skip) ls:=by kernel_rfl)(h2:((kg (fn.body.getD .skip)).all λp=>(kh (TA ls) p.1).isNone)=true:=by kernel_rfl)(he:∀ x,ZU C (kh (TA ls)) fn (fn.body.getD .skip) (eN np m) x=m x:=by intro x;kernel_rfl):aE Tryz.prog f (eN np m) :=
 zZ (L:=kh (TA ls)) ck mixed hf (by cases h:fn.body with | none=>rw [h] at hb;cases hb | some c=>rfl) hp hn (pV h1 h h2) he
theorem lz {C:Cx}{p:Pt}{x:List (Xt×Pt)}{m:ML p x}{n np:Nat}{nw:Bool}{c:Code}(ck:lD Tryz.prog C)(h1:kD c 0=[]:=by kernel_rfl)(h2:((kg c).all λp=>(kh [] p.1).isNone)=true:=by kernel_rfl)(he:∀ y,EG C (kh []) c n np nw p x y=m y:=by intro x;kernel_rfl):O4 Tryz.prog n np nw (lN m) c:=lk ck [] .nil h1 h2 he
theorem fz {C:Cx}{p q:Pt}{np:Nat}{m:MF p q}{f:FuncId}{fn:Func}(ck:lD Tryz.prog C)(hf:Tryz.prog.funcs[f]?=some fn)(hb:fn.body.isSome=true:=by kernel_rfl)(hp:(fH p == List.range (fH p).length && mu (p.map (·.1)) && p.all (λq=>Nat.blt q.1 1000 || !(Nat.blt q.1 NT)))=true:=by kernel_rfl)(hn:(Nat.ble (fH p).length fn.ntmps && Nat.ble fn.ntmps 1000000)=true:=by kernel_rfl)(h1:kD (fn.body.getD .skip) 0=[]:=by kernel_rfl)(h2:((kg (fn.body.getD .skip)).all λp=>(kh [] p.1).isNone)=true:=by kernel_rfl)(he:∀ x,ZU C (kh []) fn (fn.body.getD .skip) (eN np m) x=m x:=by intro x;kernel_rfl):aE Tryz.prog f (eN np m):=fk ck hf [] .nil hb hp hn h1 h2 he
noncomputable def jQ:ML [(0,.aB .node),(1,aKI),(5,.own .int 3),(6,aKI)] [(.ex 0,[(5,.own .int 3)])]:=λ(x:List Node×Int×List Int×Int)=>(bl x.1 x.2.1).bind λv=>bif decide (x.2.2.2<IntKind.wrap .i64 (x.2.1+Node.size v)) then (eC x.2.2.1 [x.2.2.2]).bind λ(r:List Int)=>(bl x.1 x.2.2.2).bind λv=>some (ai.nx (x.1,x.2.1,r,IntKind.wrap .i64 (x.2.2.2+Node.size v))) else some (ai.out x.2.2.1)
noncomputable def pn:MF [(0,.aB .node),(1,aKI)] [(0,.own .int 3)]:=λ(x:List Node×Int)=>(ab jQ (x.1,x.2,[],IntKind.wrap .i64 (x.2+(1:Int)))).bind λ(y:List Int)=>some y
theorem Fb:aE Tryz.prog 91 (eN 0 pn):=have k:=cx [] .nil;fk k Tryz.func91 [(0,0,lN jQ)] (.cons rfl (lz k) .nil)
noncomputable def im:ML [(0,.aB .node),(1,aKI),(5,aKI)] [(.ex 0,[]),(.rt,[(4,aKI)])]:=λ(x:List Node×Int×Int)=>bif decide ((0:Int)<=x.2.2) then (bl x.1 x.2.2).bind λv=>bif decide (x.2.1<IntKind.wrap .i64 (x.2.2+Node.size v)) then some (ai.out (Sum.inr x.2.2)) else some (ai.nx (x.1,x.2.1,IntKind.wrap .i64 (x.2.2 - (1:Int)))) else some (ai.out (Sum.inl ()))
noncomputable def mF:MF [(0,.aB .node),(1,aKI)] [(0,aKI)]:=λ(x:List Node×Int)=>(ab im (x.1,x.2,IntKind.wrap .i64 (x.2 - (1:Int)))).bind λ(y:PUnit ⊕ Int)=>bu (λ(y:PUnit)=>some (-1:Int)) (λ(y:Int)=>some y) y
theorem B9:aE Tryz.prog 53 (eN 0 mF):=have k:=cx [] .nil;fk k Tryz.func53 [(0,0,lN im)] (.cons rfl (lz k) .nil)
abbrev fh:Pt:=[(0, .aB .node),(1, .int .i64),(2, .int .i64),(3, .int .i64)]
abbrev fi:Pt:=[(0, .bool)]
abbrev qV:Pt:=[(0, .aB .node),(1, .int .i64),(3, .int .i64),(9, .int .i64),(10, .int .i64)]
abbrev uO:List (Xt×Pt):=[(.ex 0,[]),(.rt,[(8, .bool)])]
noncomputable def lM (bY:er fh->Option (er fi)):er qV->Option (ai (er qV) (rj (uO.map (·.2)))):=λ(x:List Node×Int×Int×Int×Int)=>bif decide (x.2.2.2.2<IntKind.wrap .i64 (x.2.1+x.2.2.2.1)) then (bY (x.1,x.2.2.2.2,IntKind.wrap .i64 (x.2.1+x.2.2.2.1),IntKind.wrap .i64 (x.2.2.1 - (1:Int)))).bind λ(r:Bool)=>bif !r then some (ai.out (Sum.inr false)) else (bl x.1 x.2.2.2.2).bind λv=>some (ai.nx (x.1,x.2.1,x.2.2.1,x.2.2.2.1,IntKind.wrap .i64 (x.2.2.2.2+Node.size v))) else some (ai.out (Sum.inl ()))
noncomputable def sZ (bY:er fh->Option (er fi)):er fh->Option (er fi):=λ(x:List Node×Int×Int×Int)=>Option.bind (bl x.1 x.2.1) λ(v:Node)=>bif decide (x.2.2.2=(0:Int)) then some false else bif decide (Node.size v<(1:Int)) then some false else bif decide (IntKind.wrap .i64 (x.2.2.1 - x.2.1)<Node.size v) then some false else Option.bind (ab (lM bY) (x.1,x.2.1,x.2.2.2,Node.size v,IntKind.wrap .i64 (x.2.1+(1:Int)))) λ(y:PUnit ⊕ Bool)=>bu (λ(y:PUnit)=>some true) (λ(y:Bool)=>some y) y
noncomputable def bY:Nat->er fh->Option (er fi)
 | 0=>λ_=>none
 | n+1=>sZ (bY n)
noncomputable def C6 (n:Nat):Cx:=⟨tb,uN [(25,⟨0,fh,fi,bY n⟩)],yj [],ID,LZ⟩
theorem wJ (n:Nat)(qA:aE Tryz.prog 25 ⟨0,fh,fi,bY n⟩):lD Tryz.prog (C6 n):=z6 z8 z9 (.cons qA Tryz.call25 .nil)
noncomputable def uP:Code:=uM (Go.Proofs.Tryz.f25.body.getD .skip) 0
noncomputable def uQ (n:Nat):mB:=⟨qV,uO,ab (lM (bY n))⟩
theorem AA (n:Nat)(qA:aE Tryz.prog 25 ⟨0,fh,fi,bY n⟩):O4 Tryz.prog 52 0 false (uQ n) uP:=rJ (body:=lM (bY n)) (L:=kh []) (wJ n qA) mixed (pV (l:=[]) (by kernel_rfl) .nil) (by intro x;kernel_rfl) (λx y h=>iS.1 h)
theorem C7 (n:Nat)(qA:aE Tryz.prog 25 ⟨0,fh,fi,bY n⟩):aE Tryz.prog 25 ⟨0,fh,fi,bY (n+1)⟩:=zZ (bN:=⟨0,fh,fi,bY (n+1)⟩) (L:=kh [(0,uQ n)]) (wJ n qA) mixed Tryz.func25 rfl (by kernel_rfl) (by kernel_rfl) (pV (l:=[(0,uP)]) (by kernel_rfl) (.cons rfl (AA n qA) .nil)) (by intro x;kernel_rfl)
theorem uR:∀ n,aE Tryz.prog 25 ⟨0,fh,fi,bY n⟩
 | 0=>λx r h=>by cases h
 | n+1=>(λih=>C7 n ih) (uR n)
noncomputable def Fc:vT:=⟨0,fh,fi,bY lY⟩
theorem C8:aE Tryz.prog 25 Fc:=(uR lY)
noncomputable def lO:MF [(0,.el .attr)] [(0,.bool)]:=λ(x:Attr)=>bif decide ((2147483647:Int)<(↑(List.length (Attr.key x)):Int)) then some false else bif decide ((2147483647:Int)<(↑(List.length (Attr.val x)):Int)) then some false else some true
theorem AD:aE Tryz.prog 49 (eN 0 lO):=have k:=cx [] .nil;fz k Tryz.func49
noncomputable def iT:ML [(8,.aB .attr),(9,aKI),(10,aKI)] [(.ex 0,[]),(.rt,[(2,.bool)])]:=λ(x:List Attr×Int×Int)=>bif decide (x.2.2<x.2.1) then (bl x.1 x.2.2).bind λv=>(lO { key:=Attr.key v,val:=Attr.val v }).bind λ(r:Bool)=>bif !r then some (ai.out (Sum.inr false)) else some (ai.nx (x.1,x.2.1,IntKind.wrap .i64 (x.2.2+(1:Int)))) else some (ai.out (Sum.inl ()))
noncomputable def nL:MF [(0,.aB .attr)] [(0,.bool)]:=λ(x:List Attr)=>bif decide ((2147483647:Int)<(↑(List.length x):Int)) then some false else (ab iT (x,(↑(List.length x):Int),(0:Int))).bind λ(y:PUnit ⊕ Bool)=>bu (λ(y:PUnit)=>some true) (λ(y:Bool)=>some y) y
theorem AE:aE Tryz.prog 23 (eN 0 nL):=have k:=cx [] (es AD Tryz.call49 .nil);fk k Tryz.func23 [(0,0,lN iT)] (.cons rfl (lz k) .nil)
noncomputable def lP:MF [(0,.el .node)] [(0,.bool)]:=λ(x:Node)=>bif decide ((2147483647:Int)<(↑(List.length (Node.tag x)):Int)) then some false else bif decide ((2147483647:Int)<(↑(List.length (Node.text x)):Int)) then some false else (nL (Node.attrs x)).bind λ(r:Bool)=>bif !r then some false else some true
theorem AF:aE Tryz.prog 9 (eN 0 lP):=have k:=cx [] (es AE Tryz.call23 .nil);fz k Tryz.func9
noncomputable def iU:ML [(8,.aB .node),(9,aKI),(10,aKI)] [(.ex 0,[]),(.rt,[(2,.bool)])]:=λ(x:List Node×Int×Int)=>bif decide (x.2.2<x.2.1) then (bl x.1 x.2.2).bind λv=>(lP { kind:=Node.kind v,tag:=Node.tag v,text:=Node.text v,attrs:=Node.attrs v,size:=Node.size v }).bind λ(r:Bool)=>bif !r then some (ai.out (Sum.inr false)) else some (ai.nx (x.1,x.2.1,IntKind.wrap .i64 (x.2.2+(1:Int)))) else some (ai.out (Sum.inl ()))
noncomputable def nM:MF [(0,.aB .node)] [(0,.bool)]:=λ(x:List Node)=>bif decide ((2147483647:Int)<(↑(List.length x):Int)) then some false else (ab iU (x,(↑(List.length x):Int),(0:Int))).bind λ(y:PUnit ⊕ Bool)=>bu (λ(y:PUnit)=>some true) (λ(y:Bool)=>some y) y
theorem AG:aE Tryz.prog 4 (eN 0 nM):=have k:=cx [] (es AF Tryz.call9 .nil);fk k Tryz.func4 [(0,0,lN iU)] (.cons rfl (lz k) .nil)
noncomputable def iV:ML [(8,.aB .str),(9,aKI),(10,aKI)] [(.ex 0,[]),(.rt,[(2,.bool)])]:=λ(x:aWd×Int×Int)=>bif decide (x.2.2<x.2.1) then (bl x.1 x.2.2).bind λv=>bif decide ((2147483647:Int)<(↑(List.length v):Int)) then some (ai.out (Sum.inr false)) else some (ai.nx (x.1,x.2.1,IntKind.wrap .i64 (x.2.2+(1:Int)))) else some (ai.out (Sum.inl ()))
noncomputable def nN:MF [(0,.aB .str)] [(0,.bool)]:=λ(x:aWd)=>bif decide ((2147483647:Int)<(↑(List.length x):Int)) then some false else (ab iV (x,(↑(List.length x):Int),(0:Int))).bind λ(y:PUnit ⊕ Bool)=>bu (λ(y:PUnit)=>some true) (λ(y:Bool)=>some y) y
theorem AH:aE Tryz.prog 24 (eN 0 nN):=have k:=cx [] .nil;fk k Tryz.func24 [(0,0,lN iV)] (.cons rfl (lz k) .nil)
noncomputable def mR:MF [(0,.el (.rc (.int .i64) [.ints,.ints,.str,.str,.strs] 0))] [(0,.bool)]:=λ(x:Int×List Int×List Int×aBt×aBt×aWd)=>bif decide ((2147483647:Int)<(↑(List.length x.2.1):Int)) then some false else bif decide ((2147483647:Int)<(↑(List.length x.2.2.1):Int)) then some false else bif decide ((2147483647:Int)<(↑(List.length x.2.2.2.1):Int)) then some false else bif decide ((2147483647:Int)<(↑(List.length x.2.2.2.2.1):Int)) then some false else (nN x.2.2.2.2.2).bind λ(r:Bool)=>bif !r then some false else some true
theorem zp:aE Tryz.prog 10 (eN 0 mR):=have k:=cx [] (es AH Tryz.call24 .nil);fz k Tryz.func10
noncomputable def iW:ML [(8,.aB (.rc (.int .i64) [.ints,.ints,.str,.str,.strs] 0)),(9,aKI),(10,aKI)] [(.ex 0,[]),(.rt,[(2,.bool)])]:=λ(x:List (Int×List Int×List Int×aBt×aBt×aWd)×Int×Int)=>bif decide (x.2.2<x.2.1) then (bl x.1 x.2.2).bind λ(v:Int×List Int×List Int×aBt×aBt×aWd)=>(mR (v.1,v.2.1,v.2.2.1,v.2.2.2.1,v.2.2.2.2.1,v.2.2.2.2.2)).bind λ(r:Bool)=>bif !r then some (ai.out (Sum.inr false)) else some (ai.nx (x.1,x.2.1,IntKind.wrap .i64 (x.2.2+(1:Int)))) else some (ai.out (Sum.inl ()))
noncomputable def lQ:MF [(0,.aB (.rc (.int .i64) [.ints,.ints,.str,.str,.strs] 0))] [(0,.bool)]:=λ(x:List (Int×List Int×List Int×aBt×aBt×aWd))=>bif decide ((2147483647:Int)<(↑(List.length x):Int)) then some false else (ab iW (x,(↑(List.length x):Int),(0:Int))).bind λ(y:PUnit ⊕ Bool)=>bu (λ(y:PUnit)=>some true) (λ(y:Bool)=>some y) y
theorem AI:aE Tryz.prog 5 (eN 0 lQ):=have k:=cx [] (es zp Tryz.call10 .nil);fk k Tryz.func5 [(0,0,lN iW)] (.cons rfl (lz k) .nil)
abbrev C9:Pt:=[(0, .str),(3, .int .i64)]
abbrev C_:List (Xt×Pt):=[(.ex 0,[]),(.rt,[(2, .bool)])]
noncomputable def mG:ML [(0,.str),(3,aKI)] [(.ex 0,[]),(.rt,[(2,.bool)])]:=λ(x:aBt×Int)=>bif decide (x.2<(↑(List.length x.1):Int)) then (bl x.1 x.2).bind λc=>bif decide ((97:Int)<=(↑(UInt8.toNat c):Int)) then (bl x.1 x.2).bind λc=>bif decide ((↑(UInt8.toNat c):Int)<=(122:Int)) then some (ai.nx (x.1,IntKind.wrap .i64 (x.2+(1:Int)))) else (bl x.1 x.2).bind λc=>bif decide ((48:Int)<=(↑(UInt8.toNat c):Int)) then (bl x.1 x.2).bind λc=>bif decide ((↑(UInt8.toNat c):Int)<=(57:Int)) then some (ai.nx (x.1,IntKind.wrap .i64 (x.2+(1:Int)))) else (bl x.1 x.2).bind λc=>bif !decide ((↑(UInt8.toNat c):Int)=(45:Int)) then some (ai.out (Sum.inr false)) else some (ai.nx (x.1,IntKind.wrap .i64 (x.2+(1:Int)))) else (bl x.1 x.2).bind λc=>bif !decide ((↑(UInt8.toNat c):Int)=(45:Int)) then some (ai.out (Sum.inr false)) else some (ai.nx (x.1,IntKind.wrap .i64 (x.2+(1:Int)))) else (bl x.1 x.2).bind λc=>bif decide ((48:Int)<=(↑(UInt8.toNat c):Int)) then (bl x.1 x.2).bind λc=>bif decide ((↑(UInt8.toNat c):Int)<=(57:Int)) then some (ai.nx (x.1,IntKind.wrap .i64 (x.2+(1:Int)))) else (bl x.1 x.2).bind λc=>bif !decide ((↑(UInt8.toNat c):Int)=(45:Int)) then some (ai.out (Sum.inr false)) else some (ai.nx (x.1,IntKind.wrap .i64 (x.2+(1:Int)))) else (bl x.1 x.2).bind λc=>bif !decide ((↑(UInt8.toNat c):Int)=(45:Int)) then some (ai.out (Sum.inr false)) else some (ai.nx (x.1,IntKind.wrap .i64 (x.2+(1:Int)))) else some (ai.out (Sum.inl ()))
noncomputable def fI:MF [(0,.str)] [(0,.bool)]:=λ(x:aBt)=>bif decide ((↑(List.length x):Int)=(0:Int)) then some false else bif decide ((40:Int)<(↑(List.length x):Int)) then some false else (bl x (0:Int)).bind λc=>bif decide ((↑(UInt8.toNat c):Int)<(97:Int)) then some false else (bl x (0:Int)).bind λc=>bif decide ((122:Int)<(↑(UInt8.toNat c):Int)) then some false else (ab mG (x,(1:Int))).bind λ(y:PUnit ⊕ Bool)=>bu (λ(y:PUnit)=>some true) (λ(y:Bool)=>some y) y
theorem s6:aE Tryz.prog 52 (eN 0 fI):=have k:=cx [] .nil;fk k Tryz.func52 [(0,0,lN mG)] (.cons rfl (lz k) .nil)
noncomputable def dZ:ML [(0,.str),(1,aKI),(4,aKI),(7,aKI),(8,aKI),(9,aKI)] [(.ex 1,[(4,aKI),(7,aKI),(8,aKI)]),(.rt,[(4,aKI),(5,aKI)])]:=λ(x:aBt×Int×Int×Int×Int×Int)=>bif decide (x.2.2.2.2.2<=x.2.2.2.2.1) then (bl x.1 (IntKind.wrap .i64 (x.2.1+x.2.2.2.2.2))).bind λc=>bif decide (IntKind.wrap .i64 (↑(UInt8.toNat c):Int)<(128:Int)) then some (ai.out (Sum.inr ((0:Int),(0:Int)))) else bif decide ((192:Int)<=IntKind.wrap .i64 (↑(UInt8.toNat c):Int)) then some (ai.out (Sum.inr ((0:Int),(0:Int)))) else (Oa Go.IntKind.i64 x.2.2.1 (6:Int)).bind λn=>some (ai.nx (x.1,x.2.1,IntKind.wrap .i64 (IntKind.wrap .i64 (n+IntKind.wrap .i64 (↑(UInt8.toNat c):Int)) - (128:Int)),x.2.2.2.1,x.2.2.2.2.1,IntKind.wrap .i64 (x.2.2.2.2.2+(1:Int)))) else some (ai.out (Sum.inl (x.2.2.1,x.2.2.2.1,x.2.2.2.2.1)))
noncomputable def nO:MF [(0,.str),(1,aKI)] [(0,aKI),(1,aKI)]:=λ(x:aBt×Int)=>(bl x.1 x.2).bind λc=>bif decide (IntKind.wrap .i64 (↑(UInt8.toNat c):Int)<(128:Int)) then some (IntKind.wrap .i64 (↑(UInt8.toNat c):Int),(1:Int)) else bif decide ((192:Int)<=IntKind.wrap .i64 (↑(UInt8.toNat c):Int)) then bif decide (IntKind.wrap .i64 (↑(UInt8.toNat c):Int)<(224:Int)) then bif decide (IntKind.wrap .i64 ((↑(List.length x.1):Int) - x.2)<=(1:Int)) then some ((0:Int),(0:Int)) else (ab dZ (x.1,x.2,IntKind.wrap .i64 (IntKind.wrap .i64 (↑(UInt8.toNat c):Int) - (192:Int)),(128:Int),(1:Int),(1:Int))).bind λ(y:Int×Int×Int ⊕ Int×Int)=>bu (λ(y:Int×Int×Int)=>bif decide (y.1<y.2.1) then some ((0:Int),(0:Int)) else bif decide ((1114111:Int)<y.1) then some ((0:Int),(0:Int)) else bif decide ((55296:Int)<=y.1) then bif decide (y.1<(57344:Int)) then some ((0:Int),(0:Int)) else some (y.1,IntKind.wrap .i64 (y.2.2+(1:Int))) else some (y.1,IntKind.wrap .i64 (y.2.2+(1:Int)))) (λ(y:Int×Int)=>some (y.1,y.2)) y else bif decide ((224:Int)<=IntKind.wrap .i64 (↑(UInt8.toNat c):Int)) then bif decide (IntKind.wrap .i64 (↑(UInt8.toNat c):Int)<(240:Int)) then bif decide (IntKind.wrap .i64 ((↑(List.length x.1):Int) - x.2)<=(2:Int)) then some ((0:Int),(0:Int)) else (ab dZ (x.1,x.2,IntKind.wrap .i64 (IntKind.wrap .i64 (↑(UInt8.toNat c):Int) - (224:Int)),(2048:Int),(2:Int),(1:Int))).bind λ(y:Int×Int×Int ⊕ Int×Int)=>bu (λ(y:Int×Int×Int)=>bif decide (y.1<y.2.1) then some ((0:Int),(0:Int)) else bif decide ((1114111:Int)<y.1) then some ((0:Int),(0:Int)) else bif decide ((55296:Int)<=y.1) then bif decide (y.1<(57344:Int)) then some ((0:Int),(0:Int)) else some (y.1,IntKind.wrap .i64 (y.2.2+(1:Int))) else some (y.1,IntKind.wrap .i64 (y.2.2+(1:Int)))) (λ(y:Int×Int)=>some (y.1,y.2)) y else bif decide ((240:Int)<=IntKind.wrap .i64 (↑(UInt8.toNat c):Int)) then bif decide (IntKind.wrap .i64 (↑(UInt8.toNat c):Int)<(248:Int)) then bif decide (IntKind.wrap .i64 ((↑(List.length x.1):Int) - x.2)<=(3:Int)) then some ((0:Int),(0:Int)) else (ab dZ (x.1,x.2,IntKind.wrap .i64 (IntKind.wrap .i64 (↑(UInt8.toNat c):Int) - (240:Int)),(65536:Int),(3:Int),(1:Int))).bind λ(y:Int×Int×Int ⊕ Int×Int)=>bu (λ(y:Int×Int×Int)=>bif decide (y.1<y.2.1) then some ((0:Int),(0:Int)) else bif decide ((1114111:Int)<y.1) then some ((0:Int),(0:Int)) else bif decide ((55296:Int)<=y.1) then bif decide (y.1<(57344:Int)) then some ((0:Int),(0:Int)) else some (y.1,IntKind.wrap .i64 (y.2.2+(1:Int))) else some (y.1,IntKind.wrap .i64 (y.2.2+(1:Int)))) (λ(y:Int×Int)=>some (y.1,y.2)) y else some ((0:Int),(0:Int)) else some ((0:Int),(0:Int)) else bif decide ((240:Int)<=IntKind.wrap .i64 (↑(UInt8.toNat c):Int)) then bif decide (IntKind.wrap .i64 (↑(UInt8.toNat c):Int)<(248:Int)) then bif decide (IntKind.wrap .i64 ((↑(List.length x.1):Int) - x.2)<=(3:Int)) then some ((0:Int),(0:Int)) else (ab dZ (x.1,x.2,IntKind.wrap .i64 (IntKind.wrap .i64 (↑(UInt8.toNat c):Int) - (240:Int)),(65536:Int),(3:Int),(1:Int))).bind λ(y:Int×Int×Int ⊕ Int×Int)=>bu (λ(y:Int×Int×Int)=>bif decide (y.1<y.2.1) then some ((0:Int),(0:Int)) else bif decide ((1114111:Int)<y.1) then some ((0:Int),(0:Int)) else bif decide ((55296:Int)<=y.1) then bif decide (y.1<(57344:Int)) then some ((0:Int),(0:Int)) else some (y.1,IntKind.wrap .i64 (y.2.2+(1:Int))) else some (y.1,IntKind.wrap .i64 (y.2.2+(1:Int)))) (λ(y:Int×Int)=>some (y.1,y.2)) y else some ((0:Int),(0:Int)) else some ((0:Int),(0:Int)) else bif decide ((224:Int)<=IntKind.wrap .i64 (↑(UInt8.toNat c):Int)) then bif decide (IntKind.wrap .i64 (↑(UInt8.toNat c):Int)<(240:Int)) then bif decide (IntKind.wrap .i64 ((↑(List.length x.1):Int) - x.2)<=(2:Int)) then some ((0:Int),(0:Int)) else (ab dZ (x.1,x.2,IntKind.wrap .i64 (IntKind.wrap .i64 (↑(UInt8.toNat c):Int) - (224:Int)),(2048:Int),(2:Int),(1:Int))).bind λ(y:Int×Int×Int ⊕ Int×Int)=>bu (λ(y:Int×Int×Int)=>bif decide (y.1<y.2.1) then some ((0:Int),(0:Int)) else bif decide ((1114111:Int)<y.1) then some ((0:Int),(0:Int)) else bif decide ((55296:Int)<=y.1) then bif decide (y.1<(57344:Int)) then some ((0:Int),(0:Int)) else some (y.1,IntKind.wrap .i64 (y.2.2+(1:Int))) else some (y.1,IntKind.wrap .i64 (y.2.2+(1:Int)))) (λ(y:Int×Int)=>some (y.1,y.2)) y else bif decide ((240:Int)<=IntKind.wrap .i64 (↑(UInt8.toNat c):Int)) then bif decide (IntKind.wrap .i64 (↑(UInt8.toNat c):Int)<(248:Int)) then bif decide (IntKind.wrap .i64 ((↑(List.length x.1):Int) - x.2)<=(3:Int)) then some ((0:Int),(0:Int)) else (ab dZ (x.1,x.2,IntKind.wrap .i64 (IntKind.wrap .i64 (↑(UInt8.toNat c):Int) - (240:Int)),(65536:Int),(3:Int),(1:Int))).bind λ(y:Int×Int×Int ⊕ Int×Int)=>bu (λ(y:Int×Int×Int)=>bif decide (y.1<y.2.1) then some ((0:Int),(0:Int)) else bif decide ((1114111:Int)<y.1) then some ((0:Int),(0:Int)) else bif decide ((55296:Int)<=y.1) then bif decide (y.1<(57344:Int)) then some ((0:Int),(0:Int)) else some (y.1,IntKind.wrap .i64 (y.2.2+(1:Int))) else some (y.1,IntKind.wrap .i64 (y.2.2+(1:Int)))) (λ(y:Int×Int)=>some (y.1,y.2)) y else some ((0:Int),(0:Int)) else some ((0:Int),(0:Int)) else bif decide ((240:Int)<=IntKind.wrap .i64 (↑(UInt8.toNat c):Int)) then bif decide (IntKind.wrap .i64 (↑(UInt8.toNat c):Int)<(248:Int)) then bif decide (IntKind.wrap .i64 ((↑(List.length x.1):Int) - x.2)<=(3:Int)) then some ((0:Int),(0:Int)) else (ab dZ (x.1,x.2,IntKind.wrap .i64 (IntKind.wrap .i64 (↑(UInt8.toNat c):Int) - (240:Int)),(65536:Int),(3:Int),(1:Int))).bind λ(y:Int×Int×Int ⊕ Int×Int)=>bu (λ(y:Int×Int×Int)=>bif decide (y.1<y.2.1) then some ((0:Int),(0:Int)) else bif decide ((1114111:Int)<y.1) then some ((0:Int),(0:Int)) else bif decide ((55296:Int)<=y.1) then bif decide (y.1<(57344:Int)) then some ((0:Int),(0:Int)) else some (y.1,IntKind.wrap .i64 (y.2.2+(1:Int))) else some (y.1,IntKind.wrap .i64 (y.2.2+(1:Int)))) (λ(y:Int×Int)=>some (y.1,y.2)) y else some ((0:Int),(0:Int)) else some ((0:Int),(0:Int))
theorem Da:aE Tryz.prog 90 (eN 0 nO):=have k:=cx [] .nil;fk k Tryz.func90 [(1,0,lN dZ)] (.cons rfl (lz k) .nil)
noncomputable def nP:ML [(0,.str),(3,aKI)] [(.ex 0,[]),(.rt,[(2,.bool)])]:=λ(x:aBt×Int)=>bif decide (x.2<(↑(List.length x.1):Int)) then (nO (x.1,x.2)).bind λ(r:Int×Int)=>bif decide (r.2=(0:Int)) then some (ai.out (Sum.inr false)) else bif decide (r.1=(0:Int)) then some (ai.out (Sum.inr false)) else some (ai.nx (x.1,IntKind.wrap .i64 (x.2+r.2))) else some (ai.out (Sum.inl ()))
noncomputable def gM:MF [(0,.str)] [(0,.bool)]:=λ(x:aBt)=>(ab nP (x,(0:Int))).bind λ(y:PUnit ⊕ Bool)=>bu (λ(y:PUnit)=>some true) (λ(y:Bool)=>some y) y
theorem wK:aE Tryz.prog 50 (eN 0 gM):=have k:=cx [] (es Da Tryz.call90 .nil);fk k Tryz.func50 [(0,0,lN nP)] (.cons rfl (lz k) .nil)
abbrev qW:List (Xt×Pt):=[(.ex 0,[]),(.rt,[(2, .bool)])]
noncomputable def kE:ML [(0,.aB .node),(3,.own .int 3),(4,.bool),(5,aKI)] [(.ex 0,[]),(.rt,[(2,.bool)])]:=λ(x:List Node×List Int×Bool×Int)=>bif decide (x.2.2.2<(↑(List.length x.2.1):Int)) then (bl x.2.1 x.2.2.2).bind λsv=>x.2.1[Int.toNat x.2.2.2]?.bind λv=>(bl x.1 v).bind λv=>bif decide (Node.kind v=(4:Int)) then some (ai.out (Sum.inr false)) else bif decide (Node.kind v=(2:Int)) then bif x.2.2.1 then (bl x.2.1 x.2.2.2).bind λIJ=>x.2.1[Int.toNat x.2.2.2]?.bind λv=>(bl x.1 v).bind λv=>bif decide (Node.kind v=(2:Int)) then some (ai.out (Sum.inr false)) else some (ai.nx (x.1,x.2.1,true,IntKind.wrap .i64 (x.2.2.2+(1:Int)))) else some (ai.nx (x.1,x.2.1,true,IntKind.wrap .i64 (x.2.2.2+(1:Int)))) else bif decide (Node.kind v=(3:Int)) then bif x.2.2.1 then (bl x.2.1 x.2.2.2).bind λIJ=>x.2.1[Int.toNat x.2.2.2]?.bind λv=>(bl x.1 v).bind λv=>bif decide (Node.kind v=(2:Int)) then some (ai.out (Sum.inr false)) else some (ai.nx (x.1,x.2.1,true,IntKind.wrap .i64 (x.2.2.2+(1:Int)))) else some (ai.nx (x.1,x.2.1,true,IntKind.wrap .i64 (x.2.2.2+(1:Int)))) else some (ai.nx (x.1,x.2.1,x.2.2.1,IntKind.wrap .i64 (x.2.2.2+(1:Int)))) else some (ai.out (Sum.inl ()))
noncomputable def ki:MF [(0,.aB .node)] [(0,.bool)]:=λ(x:List Node)=>(pn (x,(0:Int))).bind λ(r:List Int)=>(ab kE (x,r,false,(0:Int))).bind λ(y:PUnit ⊕ Bool)=>bu (λ(y:PUnit)=>some true) (λ(y:Bool)=>some y) y
theorem yk:aE Tryz.prog 51 (eN 0 ki):=have k:=cx [] (es Fb Tryz.call91 .nil);fk k Tryz.func51 [(0,0,lN kE)] (.cons rfl (lz k) .nil)
noncomputable def gC:ML [(0,.aB .attr),(3,aKI),(4,aKI)] [(.ex 2,[(0,.aB .attr),(3,aKI)]),(.rt,[(2,.bool)])]:=λ(x:List Attr×Int×Int)=>bif decide (x.2.2<x.2.1) then (bl x.1 x.2.2).bind λv=>(bl x.1 x.2.1).bind λz_=>bif decide (Attr.key v=Attr.key z_) then some (ai.out (Sum.inr false)) else some (ai.nx (x.1,x.2.1,IntKind.wrap .i64 (x.2.2+(1:Int)))) else some (ai.out (Sum.inl (x.1,x.2.1)))
noncomputable def j8:ML [(0,.aB .attr),(3,aKI)] [(.ex 0,[]),(.rt,[(2,.bool)])]:=λ(x:List Attr×Int)=>bif decide (x.2<(↑(List.length x.1):Int)) then (bl x.1 x.2).bind λv=>(fI (Attr.key v)).bind λ(r:Bool)=>bif !r then some (ai.out (Sum.inr false)) else (bl x.1 x.2).bind λv=>(gM (Attr.val v)).bind λ(r:Bool)=>bif !r then some (ai.out (Sum.inr false)) else (ab gC (x.1,x.2,(0:Int))).bind λ(y:List Attr×Int ⊕ Bool)=>bu (λ(y:List Attr×Int)=>some (ai.nx (y.1,IntKind.wrap .i64 (y.2+(1:Int))))) (λ(y:Bool)=>some (ai.out (Sum.inr y))) y else some (ai.out (Sum.inl ()))
noncomputable def jD:MF [(0,.aB .attr)] [(0,.bool)]:=λ(x:List Attr)=>bif decide ((20:Int)<(↑(List.length x):Int)) then some false else (ab j8 (x,(0:Int))).bind λ(y:PUnit ⊕ Bool)=>bu (λ(y:PUnit)=>some true) (λ(y:Bool)=>some y) y
theorem xw:aE Tryz.prog 54 (eN 0 jD):=have k:=cx [(11,[(true,0),(true,1),(true,2),(true,3),(true,4),(true,5),(true,6),(true,7),(true,8),(true,9),(true,10)])] (es s6 Tryz.call52 (es wK Tryz.call50 .nil));fk k Tryz.func54 [(0,0,lN j8)] (.cons rfl (lk k [(2,0,lN gC)] (.cons rfl (lz k) .nil)) .nil)
noncomputable def mb:MF [(0,.aB .node),(1,aKI)] [(0,.bool)]:=λ(x:List Node×Int)=>(bl x.1 x.2).bind λv=>bif decide (Node.kind v≠(3:Int)) then bif decide (Node.tag v≠Array.toList (ByteArray.data { data:=#[] })) then some false else bif decide ((0:Int)<(↑(List.length (Node.attrs v)):Int)) then some false else (gM (Node.text v)).bind λ(r:Bool)=>bif !r then some false else bif decide (Node.kind v=(1:Int)) then bif decide (x.2=(0:Int)) then bif decide (Node.text v=Array.toList (ByteArray.data { data:=#[] })) then (ki x.1).bind λ(r:Bool)=>some r else some false else some false else bif decide (Node.kind v=(2:Int)) then bif decide (Node.size v=(1:Int)) then (fI (Node.text v)).bind λ(r:Bool)=>bif r then (mF (x.1,x.2)).bind λ(r:Int)=>some (decide (r=(0:Int))) else some false else some false else bif decide (Node.kind v=(4:Int)) then some (decide (Node.size v=(1:Int))) else bif decide (Node.kind v=(5:Int)) then some (decide (Node.size v=(1:Int))) else bif decide (Node.kind v=(3:Int)) then bif decide (Node.text v=Array.toList (ByteArray.data { data:=#[] })) then (fI (Node.tag v)).bind λ(r:Bool)=>bif r then (jD (Node.attrs v)).bind λ(r:Bool)=>some r else some false else some false else some false else (gM (Node.text v)).bind λ(r:Bool)=>bif !r then some false else bif decide (Node.kind v=(1:Int)) then bif decide (x.2=(0:Int)) then bif decide (Node.text v=Array.toList (ByteArray.data { data:=#[] })) then (ki x.1).bind λ(r:Bool)=>some r else some false else some false else bif decide (Node.kind v=(2:Int)) then bif decide (Node.size v=(1:Int)) then (fI (Node.text v)).bind λ(r:Bool)=>bif r then (mF (x.1,x.2)).bind λ(r:Int)=>some (decide (r=(0:Int))) else some false else some false else bif decide (Node.kind v=(4:Int)) then some (decide (Node.size v=(1:Int))) else bif decide (Node.kind v=(5:Int)) then some (decide (Node.size v=(1:Int))) else bif decide (Node.kind v=(3:Int)) then bif decide (Node.text v=Array.toList (ByteArray.data { data:=#[] })) then (fI (Node.tag v)).bind λ(r:Bool)=>bif r then (jD (Node.attrs v)).bind λ(r:Bool)=>some r else some false else some false else some false
theorem yl:aE Tryz.prog 26 (eN 0 mb):=have k:=cx [] (es wK Tryz.call50 (es yk Tryz.call51 (es s6 Tryz.call52 (es B9 Tryz.call53 (es xw Tryz.call54 .nil)))));fz k Tryz.func26
noncomputable def mc:ML [(0,.aB .node),(3,aKI),(4,aKI),(5,aKI)] [(.ex 2,[(0,.aB .node),(3,aKI),(4,aKI)])]:=λ(x:List Node×Int×Int×Int)=>(bl x.1 x.2.2.1).bind λv=>bif decide (x.2.2.2<(↑(List.length (Node.attrs v)):Int)) then bif decide (x.2.1<=(4000:Int)) then (bl x.1 x.2.2.1).bind λv=>(bl (Node.attrs v) x.2.2.2).bind λv=>some (ai.nx (x.1,IntKind.wrap .i64 (x.2.1+if (4001:Int)<(↑(List.length (Attr.val v)):Int) then (4001:Int) else (↑(List.length (Attr.val v)):Int)),x.2.2.1,IntKind.wrap .i64 (x.2.2.2+(1:Int)))) else some (ai.out (x.1,x.2.1,x.2.2.1)) else some (ai.out (x.1,x.2.1,x.2.2.1))
noncomputable def nQ:ML [(0,.aB .node),(3,aKI),(4,aKI)] [(.ex 0,[]),(.rt,[(2,.bool)])]:=λ(x:List Node×Int×Int)=>bif decide (x.2.2<(↑(List.length x.1):Int)) then (bl x.1 x.2.2).bind λv=>(ab mc (x.1,IntKind.wrap .i64 (x.2.1+if (4001:Int)<(↑(List.length (Node.text v)):Int) then (4001:Int) else (↑(List.length (Node.text v)):Int)),x.2.2,(0:Int))).bind λ(y:List Node×Int×Int)=>bif decide ((4000:Int)<y.2.1) then some (ai.out (Sum.inr false)) else (mb (y.1,y.2.2)).bind λ(r:Bool)=>bif !r then some (ai.out (Sum.inr false)) else some (ai.nx (y.1,y.2.1,IntKind.wrap .i64 (y.2.2+(1:Int)))) else some (ai.out (Sum.inl ()))
noncomputable def qj:MF [(0,.aB .node)] [(0,.bool)]:=λ(x:List Node)=>bif decide ((↑(List.length x):Int)=(0:Int)) then some false else bif decide ((200:Int)<(↑(List.length x):Int)) then some false else (bl x (0:Int)).bind λv=>bif decide (Node.size v≠(↑(List.length x):Int)) then some false else (bl x (0:Int)).bind λv=>bif decide (Node.kind v≠(1:Int)) then some false else (bY lY (x,(0:Int),(↑(List.length x):Int),(40:Int))).bind λ(r:Bool)=>bif !r then some false else (ab nQ (x,(0:Int),(0:Int))).bind λ(y:PUnit ⊕ Bool)=>bu (λ(y:PUnit)=>some true) (λ(y:Bool)=>some y) y
theorem Db:aE Tryz.prog 11 (eN 0 qj):=have k:=cx [] (es C8 Tryz.call25 (es yl Tryz.call26 .nil));fk k Tryz.func11 [(0,0,lN nQ)] (.cons rfl (lk k [(2,0,lN mc)] (.cons rfl (lz k) .nil)) .nil)
abbrev gu:Pt:=[(0, .aB .node),(1, .int .i64),(2, .int .i64)]
abbrev gv:Pt:=[(0, .bool)]
abbrev rU:Pt:=[(0, .aB .node),(1, .int .i64),(2, .int .i64)]
abbrev wL:List (Xt×Pt):=[(.ex 0,[]),(.rt,[(6, .bool)])]
noncomputable def jR (bT:er gu->Option (er gv)):er rU->Option (ai (er rU) (rj (wL.map (·.2)))):=λ(x:List Node×Int×Int)=>bif decide (x.2.1<x.2.2) then (bl x.1 x.2.1).bind λv=>bif decide (Node.size v<(1:Int)) then some (ai.out (Sum.inr false)) else bif decide (IntKind.wrap .i64 (x.2.2 - x.2.1)<Node.size v) then some (ai.out (Sum.inr false)) else bif decide (Node.kind v<=(1:Int)) then some (ai.out (Sum.inr false)) else bif decide ((5:Int)<Node.kind v) then some (ai.out (Sum.inr false)) else bif decide (Node.kind v≠(3:Int)) then bif decide ((1:Int)<Node.size v) then some (ai.out (Sum.inr false)) else (bT (x.1,IntKind.wrap .i64 (x.2.1+(1:Int)),IntKind.wrap .i64 (x.2.1+Node.size v))).bind λ(r:Bool)=>bif !r then some (ai.out (Sum.inr false)) else some (ai.nx (x.1,IntKind.wrap .i64 (x.2.1+Node.size v),x.2.2)) else (bT (x.1,IntKind.wrap .i64 (x.2.1+(1:Int)),IntKind.wrap .i64 (x.2.1+Node.size v))).bind λ(r:Bool)=>bif !r then some (ai.out (Sum.inr false)) else some (ai.nx (x.1,IntKind.wrap .i64 (x.2.1+Node.size v),x.2.2)) else some (ai.out (Sum.inl ()))
noncomputable def Aa (bT:er gu->Option (er gv)):er gu->Option (er gv):=λ(x:List Node×Int×Int)=>Option.bind (ab (jR bT) (x.1,x.2.1,x.2.2)) λ(y:PUnit ⊕ Bool)=>bu (λ(y:PUnit)=>some true) (λ(y:Bool)=>some y) y
noncomputable def bT:Nat->er gu->Option (er gv)
 | 0=>λ_=>none
 | n+1=>Aa (bT n)
noncomputable def Fe (n:Nat):Cx:=⟨tb,uN [(68,⟨0,gu,gv,bT n⟩)],yj [],ID,LZ⟩
theorem ym (n:Nat)(qA:aE Tryz.prog 68 ⟨0,gu,gv,bT n⟩):lD Tryz.prog (Fe n):=z6 z8 z9 (.cons qA Tryz.call68 .nil)
noncomputable def wM:Code:=uM (Go.Proofs.Tryz.f68.body.getD .skip) 0
noncomputable def wO (n:Nat):mB:=⟨rU,wL,ab (jR (bT n))⟩
theorem B_ (n:Nat)(qA:aE Tryz.prog 68 ⟨0,gu,gv,bT n⟩):O4 Tryz.prog 61 0 false (wO n) wM:=rJ (body:=jR (bT n)) (L:=kh []) (ym n qA) mixed (pV (l:=[]) (by kernel_rfl) .nil) (by intro x;kernel_rfl) (λx y h=>iS.1 h)
theorem Ff (n:Nat)(qA:aE Tryz.prog 68 ⟨0,gu,gv,bT n⟩):aE Tryz.prog 68 ⟨0,gu,gv,bT (n+1)⟩:=zZ (bN:=⟨0,gu,gv,bT (n+1)⟩) (L:=kh [(0,wO n)]) (ym n qA) mixed Tryz.func68 rfl (by kernel_rfl) (by kernel_rfl) (pV (l:=[(0,wM)]) (by kernel_rfl) (.cons rfl (B_ n qA) .nil)) (by intro x;kernel_rfl)
theorem wP:∀ n,aE Tryz.prog 68 ⟨0,gu,gv,bT n⟩
 | 0=>λx r h=>by cases h
 | n+1=>(λih=>Ff n ih) (wP n)
noncomputable def HI:vT:=⟨0,gu,gv,bT lY⟩
theorem Fg:aE Tryz.prog 68 HI:=(wP lY)
noncomputable def qk:MF [(0,.aB .node)] [(0,.bool)]:=λ(x:List Node)=>bif decide ((↑(List.length x):Int)=(0:Int)) then some false else (bl x (0:Int)).bind λv=>bif decide (Node.size v≠(↑(List.length x):Int)) then some false else (bl x (0:Int)).bind λv=>bif decide (Node.kind v=(1:Int)) then (bT lY (x,(1:Int),(↑(List.length x):Int))).bind λ(r:Bool)=>some r else (bT lY (x,(0:Int),(↑(List.length x):Int))).bind λ(r:Bool)=>some r
theorem Dc:aE Tryz.prog 34 (eN 0 qk):=have k:=cx [] (es Fg Tryz.call68 .nil);fz k Tryz.func34
noncomputable def jf:ML [(3,.np),(35,.aB .attr),(36,aKI),(37,aKI),aNH] [(.ex 1,[(3,.np),aNH])]:=λ(x:Option Nat×List Attr×Int×Int×List HN)=>bif decide (x.2.2.2.1<x.2.2.1) then (bl x.2.1 x.2.2.2.1).bind λv=>x.1.bind λi=>(some i).bind λi=>x.2.2.2.2[i]?.bind λh=>x.2.2.2.2[i]?.bind λh=>(eC (HN.attrs h) [{ ns:=[],key:=Attr.key v,val:=Attr.val v }]).bind λ(r:List cr)=>x.1.bind λrV=>(some rV).bind λiI=>x.2.2.2.2[iI]?.bind λh=>bif decide (i=iI) then some (ai.nx (x.1,x.2.1,x.2.2.1,IntKind.wrap .i64 (x.2.2.2.1+(1:Int)),List.set x.2.2.2.2 iI (HN.wa h r))) else none else some (ai.out (x.1,x.2.2.2.2))
noncomputable def me:MF [(0,.el .node),aNH] [(0,.np),aNH]:=λ(x:Node×List HN)=>bif decide (Node.kind x.1=(1:Int)) then some (some (List.length x.2),x.2++[{ par:=none,fst:=none,aB:=none,aY:=none,aX:=none,ty:=(2:Int),atom:=(0:Int),data:=[],ns:=[],attrs:=[] }]) else bif decide (Node.kind x.1=(2:Int)) then some (some (List.length x.2),x.2++[{ par:=none,fst:=none,aB:=none,aY:=none,aX:=none,ty:=(5:Int),atom:=(0:Int),data:=Node.text x.1,ns:=[],attrs:=[] }]) else bif decide (Node.kind x.1=(4:Int)) then some (some (List.length x.2),x.2++[{ par:=none,fst:=none,aB:=none,aY:=none,aX:=none,ty:=(1:Int),atom:=(0:Int),data:=Node.text x.1,ns:=[],attrs:=[] }]) else bif decide (Node.kind x.1=(5:Int)) then some (some (List.length x.2),x.2++[{ par:=none,fst:=none,aB:=none,aY:=none,aX:=none,ty:=(4:Int),atom:=(0:Int),data:=Node.text x.1,ns:=[],attrs:=[] }]) else (ab jf (some (List.length x.2),Node.attrs x.1,(↑(List.length (Node.attrs x.1)):Int),(0:Int),x.2++[{ par:=none,fst:=none,aB:=none,aY:=none,aX:=none,ty:=(3:Int),atom:=(0:Int),data:=Node.tag x.1,ns:=[],attrs:=[] }])).bind λ(y:Option Nat×List HN)=>some (y.1,y.2)
theorem Dd:aE Tryz.prog 69 (eN 0 me):=have k:=cx [(14,[(true,0),(true,1),(true,2),(true,3),(true,4),(true,5),(true,6),(true,7),(true,8),(true,9),(false,10),(false,11),(true,12),(true,13),(false,14)])] .nil;fk k Tryz.func69 [(1,0,lN jf)] (.cons rfl (lz k) .nil)
noncomputable def aN:MF [(0,.np),(1,.np),aNH] [aNH]:=λ(x:Option Nat×Option Nat×List HN)=>x.2.1.bind λi=>(some i).bind λi=>x.2.2[i]?.bind λh=>bif !Option.isNone (HN.par h) then none else x.2.1.bind λi=>(some i).bind λi=>x.2.2[i]?.bind λh=>bif !Option.isNone (HN.aY h) then none else x.2.1.bind λi=>(some i).bind λi=>x.2.2[i]?.bind λh=>bif !Option.isNone (HN.aX h) then none else x.1.bind λi=>(some i).bind λi=>x.2.2[i]?.bind λh=>bif !Option.isNone (HN.aB h) then (HN.aB h).bind λi=>(some i).bind λi=>x.2.2[i]?.bind λbR=>x.1.bind λrV=>(some rV).bind λiI=>(List.set x.2.2 i { bR with aX:=x.2.1 })[iI]?.bind λkU=>x.2.1.bind λrW=>(some rW).bind λkF=>(List.set (List.set x.2.2 i { bR with aX:=x.2.1 }) iI { kU with aB:=x.2.1 })[kF]?.bind λlE=>x.2.1.bind λtQ=>(some tQ).bind λlJ=>(List.set (List.set (List.set x.2.2 i { bR with aX:=x.2.1 }) iI { kU with aB:=x.2.1 }) kF { lE with par:=x.1 })[lJ]?.bind λgN=>some (List.set (List.set (List.set (List.set x.2.2 i { bR with aX:=x.2.1 }) iI { kU with aB:=x.2.1 }) kF { lE with par:=x.1 }) lJ { gN with aY:=HN.aB h }) else x.1.bind λi=>(some i).bind λi=>x.2.2[i]?.bind λbR=>x.1.bind λrV=>(some rV).bind λiI=>(List.set x.2.2 i { bR with fst:=x.2.1 })[iI]?.bind λkU=>x.2.1.bind λrW=>(some rW).bind λkF=>(List.set (List.set x.2.2 i { bR with fst:=x.2.1 }) iI { kU with aB:=x.2.1 })[kF]?.bind λlE=>x.2.1.bind λtQ=>(some tQ).bind λlJ=>(List.set (List.set (List.set x.2.2 i { bR with fst:=x.2.1 }) iI { kU with aB:=x.2.1 }) kF { lE with par:=x.1 })[lJ]?.bind λgN=>some (List.set (List.set (List.set (List.set x.2.2 i { bR with fst:=x.2.1 }) iI { kU with aB:=x.2.1 }) kF { lE with par:=x.1 }) lJ { gN with aY:=HN.aB h })
theorem jS:aE Tryz.prog 70 (eN 0 aN):=have k:=cx [] .nil;fz k Tryz.func70
abbrev gw:Pt:=[(0, .aB .node),(1, .int .i64),(2, .own .np 53),(NT, .ns .h 93 123)]
abbrev gy:Pt:=[(1002, .own .np 53),(NT, .ns .h 93 123)]
abbrev rX:Pt:=[(0, .aB .node),(1, .int .i64),(2, .own .np 53),(6, .int .i64),(NT, .ns .h 93 123)]
abbrev wQ:List (Xt×Pt):=[(.ex 0,[(2, .own .np 53),(NT, .ns .h 93 123)])]
noncomputable def jT (cL:er gw->Option (er gy)):er rX->Option (ai (er rX) (rj (wQ.map (·.2)))):=λ(x:List Node×Int×aLO×Int×List HN)=>(bl x.1 x.2.1).bind λv=>bif decide (x.2.2.2.1<IntKind.wrap .i64 (x.2.1+Node.size v)) then (cL (x.1,x.2.2.2.1,x.2.2.1,x.2.2.2.2)).bind λ(r:aLO×List HN)=>(bl r.1 x.2.1).bind λsv=>r.1[Int.toNat x.2.1]?.bind λv=>(bl r.1 x.2.2.2.1).bind λIJ=>r.1[Int.toNat x.2.2.2.1]?.bind λz_=>(aN (v,z_,r.2)).bind λ(eQ:List HN)=>(bl x.1 x.2.2.2.1).bind λv=>some (ai.nx (x.1,x.2.1,r.1,IntKind.wrap .i64 (x.2.2.2.1+Node.size v),eQ)) else some (ai.out (x.2.2.1,x.2.2.2.2))
noncomputable def Ab (cL:er gw->Option (er gy)):er gw->Option (er gy):=λ(x:List Node×Int×List (Option Nat)×List HN)=>Option.bind (bl x.1 x.2.1) λ(v:Node)=>Option.bind (me ({ kind:=Node.kind v,tag:=Node.tag v,text:=Node.text v,attrs:=Node.attrs v,size:=Node.size v },x.2.2.2)) λ(r:Option Nat×List HN)=>Option.bind (bl x.2.2.1 x.2.1) λ(sv:Option Nat)=>Option.bind x.2.2.1[Int.toNat x.2.1]? λ(v:Option Nat)=>Option.bind (ab (jT cL) (x.1,x.2.1,List.set x.2.2.1 (Int.toNat x.2.1) r.1,IntKind.wrap .i64 (x.2.1+(1:Int)),r.2)) λ(y:List (Option Nat)×List HN)=>some (y.1,y.2)
noncomputable def cL:Nat->er gw->Option (er gy)
 | 0=>λ_=>none
 | n+1=>Ab (cL n)
noncomputable def Fh (n:Nat):Cx:=⟨tb,uN [(69,(eN 0 me)),(35,⟨2003,gw,gy,cL n⟩),(70,(eN 0 aN))],yj [(5,[(true,0),(true,1),(true,2),(true,3),(true,4),(true,5),(true,6),(true,7),(false,8)])],ID,LZ⟩
theorem yn (n:Nat)(qA:aE Tryz.prog 35 ⟨2003,gw,gy,cL n⟩):lD Tryz.prog (Fh n):=z6 z8 z9 (.cons Dd Tryz.call69 (.cons qA Tryz.call35 (.cons jS Tryz.call70 .nil)))
noncomputable def wR:Code:=uM (Go.Proofs.Tryz.f35.body.getD .skip) 0
noncomputable def wS (n:Nat):mB:=⟨rX,wQ,ab (jT (cL n))⟩
theorem Ca (n:Nat)(qA:aE Tryz.prog 35 ⟨2003,gw,gy,cL n⟩):O4 Tryz.prog 46 2003 true (wS n) wR:=rJ (body:=jT (cL n)) (L:=kh []) (yn n qA) mixed (pV (l:=[]) (by kernel_rfl) .nil) (by intro x;kernel_rfl) (λx y h=>iS.1 h)
theorem Fi (n:Nat)(qA:aE Tryz.prog 35 ⟨2003,gw,gy,cL n⟩):aE Tryz.prog 35 ⟨2003,gw,gy,cL (n+1)⟩:=zZ (bN:=⟨2003,gw,gy,cL (n+1)⟩) (L:=kh [(0,wS n)]) (yn n qA) mixed Tryz.func35 rfl (by kernel_rfl) (by kernel_rfl) (pV (l:=[(0,wR)]) (by kernel_rfl) (.cons rfl (Ca n qA) .nil)) (by intro x;kernel_rfl)
theorem wT:∀ n,aE Tryz.prog 35 ⟨2003,gw,gy,cL n⟩
 | 0=>λx r h=>by cases h
 | n+1=>(λih=>Fi n ih) (wT n)
noncomputable def HJ:vT:=⟨2003,gw,gy,cL lY⟩
theorem Fj:aE Tryz.prog 35 HJ:=(wT lY)
noncomputable def ql:MF [(0,.aB .node),aNH] [(0,.own .np 53),(1,.bool),aNH]:=λ(x:List Node×List HN)=>(qk x.1).bind λ(r:Bool)=>bif !r then some ([],false,x.2) else bif decide ((↑(List.length x.1):Int)<=(↑(List.length x.1):Int)/\(0:Int)<=(↑(List.length x.1):Int)/\(↑(List.length x.1):Int)<=(1048576:Int)) then (cL lY (x.1,(0:Int),List.replicate (Int.toNat (↑(List.length x.1):Int)) none,x.2)).bind λ(r:aLO×List HN)=>some (r.1,true,r.2) else none
theorem De:aE Tryz.prog 15 (eN 0 ql):=have k:=cx [] (es Dc Tryz.call34 (es Fj Tryz.call35 .nil));fz k Tryz.func15
noncomputable def jg:ML [(0,aLN),(6,.own .np 53),(9,.aB .int),(10,aKI),(11,aKI)] [(.ex 0,[(6,.own .np 53)]),(.rt,[(4,.own .np 53),(5,.bool)])]:=λ(x:aLO×aLO×List Int×Int×Int)=>bif decide (x.2.2.2.2<x.2.2.2.1) then (bl x.2.2.1 x.2.2.2.2).bind λv=>bif decide (v<(0:Int)) then some (ai.out (Sum.inr ([],false))) else bif decide ((↑(List.length x.1):Int)<=v) then some (ai.out (Sum.inr ([],false))) else (bl x.1 v).bind λv=>(eC x.2.1 [v]).bind λ(r:aLO)=>some (ai.nx (x.1,r,x.2.2.1,x.2.2.2.1,IntKind.wrap .i64 (x.2.2.2.2+(1:Int)))) else some (ai.out (Sum.inl x.2.1))
noncomputable def nR:MF [(0,aLN),(1,.aB .int)] [(0,.own .np 53),(1,.bool)]:=λ(x:aLO×List Int)=>(ab jg (x.1,[],x.2,(↑(List.length x.2):Int),(0:Int))).bind λ(y:aLO ⊕ aLO×Bool)=>bu (λ(y:aLO)=>some (y,true)) (λ(y:aLO×Bool)=>some (y.1,y.2)) y
theorem Df:aE Tryz.prog 41 (eN 0 nR):=have k:=cx [] .nil;fk k Tryz.func41 [(0,0,lN jg)] (.cons rfl (lz k) .nil)
noncomputable def fJ:ML [(0,aLN),(1,.np),(7,aKI),(8,aKI)] [(.ex 0,[]),(.rt,[(4,aKI)])]:=λ(x:aLO×Option Nat×Int×Int)=>bif decide (x.2.2.2<x.2.2.1) then (bl x.1 x.2.2.2).bind λv=>bif decide (v=x.2.1) then some (ai.out (Sum.inr x.2.2.2)) else some (ai.nx (x.1,x.2.1,x.2.2.1,IntKind.wrap .i64 (x.2.2.2+(1:Int)))) else some (ai.out (Sum.inl ()))
noncomputable def nS:MF [(0,aLN),(1,.np)] [(0,aKI)]:=λ(x:aLO×Option Nat)=>(ab fJ (x.1,x.2,(↑(List.length x.1):Int),(0:Int))).bind λ(y:PUnit ⊕ Int)=>bu (λ(y:PUnit)=>some (-1:Int)) (λ(y:Int)=>some y) y
theorem AJ:aE Tryz.prog 89 (eN 0 nS):=have k:=cx [] .nil;fk k Tryz.func89 [(0,0,lN fJ)] (.cons rfl (lz k) .nil)
noncomputable def fT:ML [(0,aLN),(5,.own .int 3),(8,aLN),(9,aKI),(10,aKI)] [(.ex 0,[(5,.own .int 3)])]:=λ(x:aLO×List Int×aLO×Int×Int)=>bif decide (x.2.2.2.2<x.2.2.2.1) then (bl x.2.2.1 x.2.2.2.2).bind λv=>(nS (x.1,v)).bind λ(r:Int)=>(eC x.2.1 [r]).bind λ(r:List Int)=>some (ai.nx (x.1,r,x.2.2.1,x.2.2.2.1,IntKind.wrap .i64 (x.2.2.2.2+(1:Int)))) else some (ai.out x.2.1)
noncomputable def mS:MF [(0,aLN),(1,aLN)] [(0,.own .int 3)]:=λ(x:aLO×aLO)=>(ab fT (x.1,[],x.2,(↑(List.length x.2):Int),(0:Int))).bind λ(y:List Int)=>some y
theorem zq:aE Tryz.prog 45 (eN 0 mS):=have k:=cx [] (es AJ Tryz.call89 .nil);fk k Tryz.func45 [(0,0,lN fT)] (.cons rfl (lz k) .nil)
end Go.Proofs.YtngabkipchpmpaaGreat.V
